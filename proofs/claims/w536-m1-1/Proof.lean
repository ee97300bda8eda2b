import JvmDerived
import JvmDerived.Pilot.@@N@@Statement
import JvmDerived.Pilot.@@N@@Code
set_option linter.unusedVariables false
set_option linter.unusedSimpArgs false
@@BLOCK:NumsL.lean.txt@@
namespace Jvm.RoadKit
open Sem ClassFile Op Lib Jvm.Stand Jvm.Free Jvm.LawKit
section New
variable {p : Program} {l : Launch} {e : Env} {R : Room} {s : State} {m : MethodId} {args : Array Value} {below : List Frame} {meth : Method} {c : Code} {T : State} {locs : List Loc} {cells slots : Nat}
theorem retI (X : Stand p l e R s m args below meth c T locs cells slots) (hx : p.tables.exec = Jvm.exec) {pc : Nat} {Ls : Array Slot} {z : Int32} {rest : List Value} (hret : meth.sig.returnType = some .int) (hd : decode c.code pc = .ok (.ireturn, 1)) {fs : List Frame}
    (hl : ∀ (f : JFrame) (acts : List Action), f.method = m → f.locked = none → f.entered = [] → (doReturn e (T.setTop f) acts (some (.int z))).1 = T.setFrames fs) : Steps p.tables e below (T.setTop (mkF m pc Ls (.int z :: rest))) (T.setFrames fs) := by
  have hm' : T.vm.method? m = some meth := X.method'
  have hn : narrow .int (.int z) = .int z := rfl
  show Steps p.tables e below (T.setTop { method := m, pc := pc, locals := Ls, stack := _ :: rest, locked := none }) _
  jvm_step X.here [X.here.top, hx, hd, hm', hret, hn]
  first | (intro acts; rw [hl _ acts rfl rfl rfl]) | rw [hl _ _ rfl rfl rfl]
  exact Steps.refl _
end New
end Jvm.RoadKit
namespace Jvm.Pilot.@@N@@
open Jvm Jvm.ClassFile Sem Op Lib Jvm.Free Jvm.Stand Jvm.LawKit Jvm.RoadKit Bundle Jvm.Pilot.@@N@@.Jvm.D
theorem own_lcLt {x y : Int64} : lcmpW x y < 0 ↔ x < y := by rw [lcW]; exact lc_lt x y
theorem own_lcGt {x y : Int64} : 0 < lcmpW x y ↔ y < x := by rw [lcW]; exact lc_gt x y
theorem own_lcEq {x y : Int64} : lcmpW x y = 0 ↔ x = y := by rw [lcW]; exact lc_eq x y
theorem own_pn0 : plainName "java/util/AbstractCollection" = true := by first | (simp [plainName, overriddenIn]; done) | decide +kernel
theorem own_ef_own_ac (m : MethodId) (a_o : Addr) : entryFrame m #[(.ref a_o)] 1 = mkF m 0 #[.val (.ref a_o)] [] := by first | (simp [entryFrame, mkF, argsToLocals, Value.category]; done) | rfl
theorem own_d3_0 : decode jdk_22_method_1_code 0 = .ok (.aload_n 0, 1) := by decide +kernel
theorem own_d3_1 : decode jdk_22_method_1_code 1 = .ok (.invokespecial 1, 3) := by decide +kernel
theorem own_d3_4 : decode jdk_22_method_1_code 4 = .ok (.return_, 1) := by decide +kernel
def Qown_ac (Z : State) (a_o : Addr) (h0 : Heap) (n0 : Nat) (v : Option Value) (h : Heap) (L : List Loc) : Prop := v = none ∧ Fr n0 L ∧ h = h0
set_option maxRecDepth 65536 in
set_option maxHeartbeats 40000000 in
theorem own_ac (l : Launch) (Z : State) (a0 : Array Value) (hw : ∀ d ∈ tables_1, d.before a0 Z = true) (ws : List Jvm.Cond) (a_o : Addr) (h0 : Heap) (n0 : Nat) (Z0 : n0 ≤ h0.size) :
    MetFree l (⟨"java/util/AbstractCollection", "<init>", "()V"⟩ : MethodName) (head1 (Jvm.Cond.code (⟨"java/util/AbstractCollection", "<init>", "()V"⟩ : MethodName) jdk_22_method_1_code 1 none :: ws) ({ frames := 1, cells := 0, slots := 0, locals := 12 } : Room)) (fun a U => a = #[(.ref a_o)] ∧ Z.Warmed39 U.vm ∧ U.heap = h0) (fun _ _ _ _ _ => True) (fun _ U o U' => ∃ v L, o = .returned v ∧ Qown_ac Z a_o h0 n0 v U'.heap L ∧ FrameEnd U o U' L ({ frames := 1, cells := 0, slots := 0, locals := 12 } : Room).cells ({ frames := 1, cells := 0, slots := 0, locals := 12 } : Room).slots) := by
  refine MetFree.of_bodySF (plainFor_of_name own_pn0) hisR ?_
  intro p e s m args below meth c s₁ Bd hml0 hP hK
  obtain ⟨rfl, hZ, hh⟩ := hP
  have hx := Bd.exec
  have hby := Bd.bytes
  have hml : c.maxLocals = 1 := hml0
  have hown : s.vm.findClass "java/util/AbstractCollection" = some m.cls := findClass_of_methodNamed Bd.named
  have hnm := (name_of_methodNamed Bd.named Bd.method).1
  have X0 : Stand p l e ({ frames := 1, cells := 0, slots := 0, locals := 12 } : Room) s m #[(.ref a_o)] below meth c s₁ [] 0 0 := Stand.of_body Bd
  have e0 : s₁.heap = h0 := by rw [← hh, Bd.state]; rfl
  have N0 := Fr.nil n0
  have pre0 : ∀ t, Steps p.tables e below (s₁.setTop (mkF m 0 #[.val (.ref a_o)] [])) t → Steps p.tables e below (s₁.setTop (entryFrame m #[(.ref a_o)] 1)) t := fun t k => castTop (own_ef_own_ac m a_o) k
  obtain ⟨T3, X3, e3, st3⟩ := initO X0 hx hZ hown (hw _ (List.mem_of_getElem? (i := 21) rfl)) (hw _ (List.mem_of_getElem? (i := 22) rfl)) (hw _ (List.mem_of_getElem? (i := 23) rfl)) e0 (g := (mkF m 1 #[.val (.ref a_o)] [(.ref a_o)])) rfl (by rw [hml]; rfl) rfl (hb hby own_d3_1) (by decide) (W := 0) (by show 2 * 0 + _ ≤ _; exact Nat.le_of_eq rfl) (by decide)
  obtain ⟨fs, hr, hrun, hended, hW, hsame⟩ := X3.leave (v := none) (fun _ => rfl) (hlocks := BodyLoose.notSynchronized Bd)
  refine ⟨_, _, pre0 _ ?_, hrun, hended, _, _, rfl, ?_, ⟨_, rfl⟩, hW, hsame.mono (by decide) (by decide)⟩
  · show Steps p.tables e below (s₁.setTop (mkF m 0 #[.val (.ref a_o)] [])) _
    refine XS.aloadN X0.here hx rfl (hb hby own_d3_0) rfl rfl ?_
    show Steps p.tables e below (s₁.setTop (mkF m 1 #[.val (.ref a_o)] [(.ref a_o)])) _
    refine st3 _ ?_
    show Steps p.tables e below (T3.setTop (mkF m 4 #[.val (.ref a_o)] [])) _
    exact X3.returnOut hx Bd.returns (hb hby own_d3_4) hr
  · show Qown_ac Z a_o h0 n0 _ T3.heap _
    rw [e3]
    exact ⟨rfl, N0, rfl⟩
theorem own_pn1 : plainName "java/util/AbstractList" = true := by first | (simp [plainName, overriddenIn]; done) | decide +kernel
theorem own_ef_own_al (m : MethodId) (a_o : Addr) : entryFrame m #[(.ref a_o)] 1 = mkF m 0 #[.val (.ref a_o)] [] := by first | (simp [entryFrame, mkF, argsToLocals, Value.category]; done) | rfl
theorem own_pd0 : parseMethodDescriptor "()V" = some ⟨[], none⟩ := by decide +kernel
theorem own_d2_0 : decode jdk_39_method_1_code 0 = .ok (.aload_n 0, 1) := by decide +kernel
theorem own_d2_1 : decode jdk_39_method_1_code 1 = .ok (.invokespecial 1, 3) := by decide +kernel
theorem own_d2_4 : decode jdk_39_method_1_code 4 = .ok (.aload_n 0, 1) := by decide +kernel
theorem own_d2_5 : decode jdk_39_method_1_code 5 = .ok (.iconst 0, 1) := by decide +kernel
theorem own_d2_6 : decode jdk_39_method_1_code 6 = .ok (.putfield 7, 3) := by decide +kernel
theorem own_d2_9 : decode jdk_39_method_1_code 9 = .ok (.return_, 1) := by decide +kernel
def Qown_al (Z : State) (a_o : Addr) (h0 : Heap) (n0 : Nat) (v : Option Value) (h : Heap) (L : List Loc) : Prop := v = none ∧ Fr n0 L ∧ Keep h0 h [a_o] ∧ Exa Z h a_o "java/util/ArrayList" ∧ Fld Z h a_o "java/util/AbstractList" "modCount" "I" (.int (0 : Int32))
set_option maxRecDepth 65536 in
set_option maxHeartbeats 40000000 in
theorem own_al (l : Launch) (Z : State) (a0 : Array Value) (hw : ∀ d ∈ tables_1, d.before a0 Z = true) (ws : List Jvm.Cond) (a_o : Addr) (h0 : Heap) (n0 : Nat) (Z0 : n0 ≤ h0.size) (Eo : Exa Z h0 a_o "java/util/ArrayList") (F_m : Fld Z h0 a_o "java/util/AbstractList" "modCount" "I" (.int (0 : Int32))) (ga : n0 ≤ a_o) :
    MetFree l (⟨"java/util/AbstractList", "<init>", "()V"⟩ : MethodName) (head1 (Jvm.Cond.code (⟨"java/util/AbstractList", "<init>", "()V"⟩ : MethodName) jdk_39_method_1_code 1 none :: ws) ({ frames := 2, cells := 0, slots := 0, locals := 24 } : Room)) (fun a U => a = #[(.ref a_o)] ∧ Z.Warmed39 U.vm ∧ U.heap = h0) (fun _ _ _ _ _ => True) (fun _ U o U' => ∃ v L, o = .returned v ∧ Qown_al Z a_o h0 n0 v U'.heap L ∧ FrameEnd U o U' L ({ frames := 2, cells := 0, slots := 0, locals := 24 } : Room).cells ({ frames := 2, cells := 0, slots := 0, locals := 24 } : Room).slots) := by
  refine MetFree.of_bodySF (plainFor_of_name own_pn1) hisR ?_
  intro p e s m args below meth c s₁ Bd hml0 hP hK
  obtain ⟨rfl, hZ, hh⟩ := hP
  have hx := Bd.exec
  have hby := Bd.bytes
  have hml : c.maxLocals = 1 := hml0
  have hown : s.vm.findClass "java/util/AbstractList" = some m.cls := findClass_of_methodNamed Bd.named
  have hnm := (name_of_methodNamed Bd.named Bd.method).1
  have X0 : Stand p l e ({ frames := 2, cells := 0, slots := 0, locals := 24 } : Room) s m #[(.ref a_o)] below meth c s₁ [] 0 0 := Stand.of_body Bd
  have e0 : s₁.heap = h0 := by rw [← hh, Bd.state]; rfl
  have N0 := Fr.nil n0
  have pre0 : ∀ t, Steps p.tables e below (s₁.setTop (mkF m 0 #[.val (.ref a_o)] [])) t → Steps p.tables e below (s₁.setTop (entryFrame m #[(.ref a_o)] 1)) t := fun t k => castTop (own_ef_own_al m a_o) k
  obtain ⟨_, _, ⟨T3, L3, k3, n3⟩, -, X3, ⟨Lc3, hQ3, l3, y3, z3⟩, st3⟩ := X0.specialBack hx (y := (⟨"java/util/AbstractCollection", "<init>", "()V"⟩ : MethodName)) rfl hown (mvT hZ (hw _ (List.mem_of_getElem? (i := 15) rfl))) (mvT hZ (hw _ (List.mem_of_getElem? (i := 16) rfl))) (mvT hZ (hw _ (List.mem_of_getElem? (i := 20) rfl))) (by decide) (backOf (W := 0) (own_ac l Z a0 hw [] a_o h0 n0 Z0 ) hZ (hw _ (List.mem_of_getElem? (i := 20) rfl)) (hw _ (List.mem_of_getElem? (i := 19) rfl)) (by decide) (by decide)) (g := (mkF m 1 #[.val (.ref a_o)] [(.ref a_o)])) rfl (by rw [hml]; rfl) (Steps.refl _) (a := a_o) (argsL := []) (rest := []) (lenOf own_pd0 rfl) rfl (by show 2 * 0 + _ ≤ _; exact Nat.le_of_eq rfl) (hb hby own_d2_1) (fun _ _ => ⟨rfl, e0, (by decide : 0 + 0 ≤ _), (by decide : 0 + 0 ≤ _)⟩)
  dsimp only [Pt.U, Pt.locs, Pt.cells, Pt.slots] at X3 l3 y3 z3 st3 hQ3
  subst l3 y3 z3
  obtain ⟨rfl, Nq3, eh3⟩ := hQ3
  have N4 := Fr.app N0 Nq3
  obtain ⟨T8, h8, X8, e8, W8, st8⟩ := putF X3 hx hZ hown (host := "") (Or.inl (hw _ (List.mem_of_getElem? (i := 24) rfl))) Via.refl eh3 F_m Eo (Or.inl (hw _ (List.mem_of_getElem? (i := 25) rfl))) (hw _ (List.mem_of_getElem? (i := 4) rfl)) (ty := .int) (by decide) rfl rfl (g := (mkF m 6 #[.val (.ref a_o)] [(.int (0 : Int32)), (.ref a_o)])) rfl rfl (hb hby own_d2_6)
  have Kc9 : Keep h0 h8 [a_o] := (Keep.refl h0 [a_o]).wr W8 (Or.inl (List.mem_of_getElem? (i := 0) rfl))
  have Zs10 : n0 ≤ h8.size := Nat.le_trans Z0 (Keep.of_wr W8).1
  have N11 := Fr.snoc X8 N4 ga
  have Fw8 : Fld Z h8 a_o "java/util/AbstractList" "modCount" "I" (.int (0 : Int32)) := F_m.same W8
  obtain ⟨fs, hr, hrun, hended, hW, hsame⟩ := X8.leave (v := none) (fun _ => rfl) (hlocks := BodyLoose.notSynchronized Bd)
  refine ⟨_, _, pre0 _ ?_, hrun, hended, _, _, rfl, ?_, ⟨_, rfl⟩, hW, hsame.mono (by decide) (by decide)⟩
  · show Steps p.tables e below (s₁.setTop (mkF m 0 #[.val (.ref a_o)] [])) _
    refine XS.aloadN X0.here hx rfl (hb hby own_d2_0) rfl rfl ?_
    show Steps p.tables e below (s₁.setTop (mkF m 1 #[.val (.ref a_o)] [(.ref a_o)])) _
    refine st3.trans ?_
    show Steps p.tables e below (T3.setTop (mkF m 4 #[.val (.ref a_o)] [])) _
    refine XS.aloadN X3.here hx rfl (hb hby own_d2_4) rfl rfl ?_
    show Steps p.tables e below (T3.setTop (mkF m 5 #[.val (.ref a_o)] [(.ref a_o)])) _
    refine XS.iconst X3.here hx rfl (hb hby own_d2_5) ?_
    show Steps p.tables e below (T3.setTop (mkF m 6 #[.val (.ref a_o)] [(.int (0 : Int32)), (.ref a_o)])) _
    refine st8 _ ?_
    show Steps p.tables e below (T8.setTop (mkF m 9 #[.val (.ref a_o)] [])) _
    exact X8.returnOut hx Bd.returns (hb hby own_d2_9) hr
  · show Qown_al Z a_o h0 n0 _ T8.heap _
    rw [e8]
    have Fq13 : Exa Z h8 a_o "java/util/ArrayList" := (Eo.wr W8)
    exact ⟨rfl, N11, Kc9, Fq13, Fw8⟩
theorem own_ef_own_al2 (m : MethodId) (a_o : Addr) : entryFrame m #[(.ref a_o)] 1 = mkF m 0 #[.val (.ref a_o)] [] := by first | (simp [entryFrame, mkF, argsToLocals, Value.category]; done) | rfl
def Qown_al2 (Z : State) (a_o : Addr) (h0 : Heap) (n0 : Nat) (v : Option Value) (h : Heap) (L : List Loc) : Prop := v = none ∧ Fr n0 L ∧ Keep h0 h [a_o] ∧ Exa Z h a_o "java/util/ArrayList" ∧ Fld Z h a_o "java/util/AbstractList" "modCount" "I" (.int (0 : Int32)) ∧ Fld Z h a_o "java/util/ArrayList" "elementData" "[Ljava/lang/Object;" .null ∧ Fld Z h a_o "java/util/ArrayList" "size" "I" (.int (0 : Int32))
set_option maxRecDepth 65536 in
set_option maxHeartbeats 40000000 in
theorem own_al2 (l : Launch) (Z : State) (a0 : Array Value) (hw : ∀ d ∈ tables_1, d.before a0 Z = true) (ws : List Jvm.Cond) (a_o : Addr) (h0 : Heap) (n0 : Nat) (Z0 : n0 ≤ h0.size) (Eo : Exa Z h0 a_o "java/util/ArrayList") (F_m : Fld Z h0 a_o "java/util/AbstractList" "modCount" "I" (.int (0 : Int32))) (F_e : Fld Z h0 a_o "java/util/ArrayList" "elementData" "[Ljava/lang/Object;" .null) (F_s : Fld Z h0 a_o "java/util/ArrayList" "size" "I" (.int (0 : Int32))) (ga : n0 ≤ a_o) :
    MetFree l (⟨"java/util/AbstractList", "<init>", "()V"⟩ : MethodName) (head1 (Jvm.Cond.code (⟨"java/util/AbstractList", "<init>", "()V"⟩ : MethodName) jdk_39_method_1_code 1 none :: ws) ({ frames := 2, cells := 0, slots := 0, locals := 24 } : Room)) (fun a U => a = #[(.ref a_o)] ∧ Z.Warmed39 U.vm ∧ U.heap = h0) (fun _ _ _ _ _ => True) (fun _ U o U' => ∃ v L, o = .returned v ∧ Qown_al2 Z a_o h0 n0 v U'.heap L ∧ FrameEnd U o U' L ({ frames := 2, cells := 0, slots := 0, locals := 24 } : Room).cells ({ frames := 2, cells := 0, slots := 0, locals := 24 } : Room).slots) := by
  refine MetFree.of_bodySF (plainFor_of_name own_pn1) hisR ?_
  intro p e s m args below meth c s₁ Bd hml0 hP hK
  obtain ⟨rfl, hZ, hh⟩ := hP
  have hx := Bd.exec
  have hby := Bd.bytes
  have hml : c.maxLocals = 1 := hml0
  have hown : s.vm.findClass "java/util/AbstractList" = some m.cls := findClass_of_methodNamed Bd.named
  have hnm := (name_of_methodNamed Bd.named Bd.method).1
  have X0 : Stand p l e ({ frames := 2, cells := 0, slots := 0, locals := 24 } : Room) s m #[(.ref a_o)] below meth c s₁ [] 0 0 := Stand.of_body Bd
  have e0 : s₁.heap = h0 := by rw [← hh, Bd.state]; rfl
  have N0 := Fr.nil n0
  have pre0 : ∀ t, Steps p.tables e below (s₁.setTop (mkF m 0 #[.val (.ref a_o)] [])) t → Steps p.tables e below (s₁.setTop (entryFrame m #[(.ref a_o)] 1)) t := fun t k => castTop (own_ef_own_al2 m a_o) k
  obtain ⟨_, _, ⟨T3, L3, k3, n3⟩, -, X3, ⟨Lc3, hQ3, l3, y3, z3⟩, st3⟩ := X0.specialBack hx (y := (⟨"java/util/AbstractCollection", "<init>", "()V"⟩ : MethodName)) rfl hown (mvT hZ (hw _ (List.mem_of_getElem? (i := 15) rfl))) (mvT hZ (hw _ (List.mem_of_getElem? (i := 16) rfl))) (mvT hZ (hw _ (List.mem_of_getElem? (i := 20) rfl))) (by decide) (backOf (W := 0) (own_ac l Z a0 hw [] a_o h0 n0 Z0 ) hZ (hw _ (List.mem_of_getElem? (i := 20) rfl)) (hw _ (List.mem_of_getElem? (i := 19) rfl)) (by decide) (by decide)) (g := (mkF m 1 #[.val (.ref a_o)] [(.ref a_o)])) rfl (by rw [hml]; rfl) (Steps.refl _) (a := a_o) (argsL := []) (rest := []) (lenOf own_pd0 rfl) rfl (by show 2 * 0 + _ ≤ _; exact Nat.le_of_eq rfl) (hb hby own_d2_1) (fun _ _ => ⟨rfl, e0, (by decide : 0 + 0 ≤ _), (by decide : 0 + 0 ≤ _)⟩)
  dsimp only [Pt.U, Pt.locs, Pt.cells, Pt.slots] at X3 l3 y3 z3 st3 hQ3
  subst l3 y3 z3
  obtain ⟨rfl, Nq3, eh3⟩ := hQ3
  have N4 := Fr.app N0 Nq3
  obtain ⟨T8, h8, X8, e8, W8, st8⟩ := putF X3 hx hZ hown (host := "") (Or.inl (hw _ (List.mem_of_getElem? (i := 24) rfl))) Via.refl eh3 F_m Eo (Or.inl (hw _ (List.mem_of_getElem? (i := 25) rfl))) (hw _ (List.mem_of_getElem? (i := 4) rfl)) (ty := .int) (by decide) rfl rfl (g := (mkF m 6 #[.val (.ref a_o)] [(.int (0 : Int32)), (.ref a_o)])) rfl rfl (hb hby own_d2_6)
  have Kc9 : Keep h0 h8 [a_o] := (Keep.refl h0 [a_o]).wr W8 (Or.inl (List.mem_of_getElem? (i := 0) rfl))
  have Zs10 : n0 ≤ h8.size := Nat.le_trans Z0 (Keep.of_wr W8).1
  have N11 := Fr.snoc X8 N4 ga
  have Fw8 : Fld Z h8 a_o "java/util/AbstractList" "modCount" "I" (.int (0 : Int32)) := F_m.same W8
  obtain ⟨fs, hr, hrun, hended, hW, hsame⟩ := X8.leave (v := none) (fun _ => rfl) (hlocks := BodyLoose.notSynchronized Bd)
  refine ⟨_, _, pre0 _ ?_, hrun, hended, _, _, rfl, ?_, ⟨_, rfl⟩, hW, hsame.mono (by decide) (by decide)⟩
  · show Steps p.tables e below (s₁.setTop (mkF m 0 #[.val (.ref a_o)] [])) _
    refine XS.aloadN X0.here hx rfl (hb hby own_d2_0) rfl rfl ?_
    show Steps p.tables e below (s₁.setTop (mkF m 1 #[.val (.ref a_o)] [(.ref a_o)])) _
    refine st3.trans ?_
    show Steps p.tables e below (T3.setTop (mkF m 4 #[.val (.ref a_o)] [])) _
    refine XS.aloadN X3.here hx rfl (hb hby own_d2_4) rfl rfl ?_
    show Steps p.tables e below (T3.setTop (mkF m 5 #[.val (.ref a_o)] [(.ref a_o)])) _
    refine XS.iconst X3.here hx rfl (hb hby own_d2_5) ?_
    show Steps p.tables e below (T3.setTop (mkF m 6 #[.val (.ref a_o)] [(.int (0 : Int32)), (.ref a_o)])) _
    refine st8 _ ?_
    show Steps p.tables e below (T8.setTop (mkF m 9 #[.val (.ref a_o)] [])) _
    exact X8.returnOut hx Bd.returns (hb hby own_d2_9) hr
  · show Qown_al2 Z a_o h0 n0 _ T8.heap _
    rw [e8]
    have Fq13 : Exa Z h8 a_o "java/util/ArrayList" := (Eo.wr W8)
    have Fq14 : Fld Z h8 a_o "java/util/ArrayList" "elementData" "[Ljava/lang/Object;" .null := (F_e.other W8 (Or.inr (slot_ne (Or.inl (hw _ (List.mem_of_getElem? (i := 28) rfl))) (Or.inl (hw _ (List.mem_of_getElem? (i := 25) rfl))) (by decide) (t := (.array (.object "java/lang/Object"))) (t' := .int) (by decide) (by decide))))
    have Fq15 : Fld Z h8 a_o "java/util/ArrayList" "size" "I" (.int (0 : Int32)) := (F_s.other W8 (Or.inr (slot_ne (Or.inl (hw _ (List.mem_of_getElem? (i := 81) rfl))) (Or.inl (hw _ (List.mem_of_getElem? (i := 25) rfl))) (by decide) (t := .int) (t' := .int) (by decide) (by decide))))
    exact ⟨rfl, N11, Kc9, Fq13, Fw8, Fq14, Fq15⟩
theorem own_pn2 : plainName "java/util/ArrayList" = true := by first | (simp [plainName, overriddenIn]; done) | decide +kernel
theorem own_ef_own_li (m : MethodId) (a_o : Addr) : entryFrame m #[(.ref a_o)] 1 = mkF m 0 #[.val (.ref a_o)] [] := by first | (simp [entryFrame, mkF, argsToLocals, Value.category]; done) | rfl
theorem own_d1_0 : decode jdk_38_method_2_code 0 = .ok (.aload_n 0, 1) := by decide +kernel
theorem own_d1_1 : decode jdk_38_method_2_code 1 = .ok (.invokespecial 1, 3) := by decide +kernel
theorem own_d1_4 : decode jdk_38_method_2_code 4 = .ok (.aload_n 0, 1) := by decide +kernel
theorem own_d1_5 : decode jdk_38_method_2_code 5 = .ok (.getstatic 39, 3) := by decide +kernel
theorem own_d1_8 : decode jdk_38_method_2_code 8 = .ok (.putfield 9, 3) := by decide +kernel
theorem own_d1_11 : decode jdk_38_method_2_code 11 = .ok (.return_, 1) := by decide +kernel
def Qown_li (Z : State) (a_o : Addr) (w_d : Addr) (h0 : Heap) (n0 : Nat) (v : Option Value) (h : Heap) (L : List Loc) : Prop := v = none ∧ Fr n0 L ∧ Keep h0 h [a_o] ∧ Exa Z h a_o "java/util/ArrayList" ∧ Fld Z h a_o "java/util/AbstractList" "modCount" "I" (.int (0 : Int32)) ∧ Fld Z h a_o "java/util/ArrayList" "elementData" "[Ljava/lang/Object;" (.ref w_d) ∧ Fld Z h a_o "java/util/ArrayList" "size" "I" (.int (0 : Int32))
set_option maxRecDepth 65536 in
set_option maxHeartbeats 40000000 in
theorem own_li (l : Launch) (Z : State) (a0 : Array Value) (hw : ∀ d ∈ tables_1, d.before a0 Z = true) (ws : List Jvm.Cond) (a_o : Addr) (w_d : Addr) (h0 : Heap) (n0 : Nat) (Z0 : n0 ≤ h0.size) (O0 : Old Z n0 h0) (S_d : Sta Z Z.heap "java/util/ArrayList" "DEFAULTCAPACITY_EMPTY_ELEMENTDATA" "[Ljava/lang/Object;" (.ref w_d)) (Eo : Exa Z h0 a_o "java/util/ArrayList") (F_m : Fld Z h0 a_o "java/util/AbstractList" "modCount" "I" (.int (0 : Int32))) (F_e : Fld Z h0 a_o "java/util/ArrayList" "elementData" "[Ljava/lang/Object;" .null) (F_s : Fld Z h0 a_o "java/util/ArrayList" "size" "I" (.int (0 : Int32))) (ga : n0 ≤ a_o) :
    MetFree l (⟨"java/util/ArrayList", "<init>", "()V"⟩ : MethodName) (head1 (Jvm.Cond.code (⟨"java/util/ArrayList", "<init>", "()V"⟩ : MethodName) jdk_38_method_2_code 1 none :: ws) ({ frames := 3, cells := 0, slots := 0, locals := 36 } : Room)) (fun a U => a = #[(.ref a_o)] ∧ Z.Warmed39 U.vm ∧ U.heap = h0) (fun _ _ _ _ _ => True) (fun _ U o U' => ∃ v L, o = .returned v ∧ Qown_li Z a_o w_d h0 n0 v U'.heap L ∧ FrameEnd U o U' L ({ frames := 3, cells := 0, slots := 0, locals := 36 } : Room).cells ({ frames := 3, cells := 0, slots := 0, locals := 36 } : Room).slots) := by
  refine MetFree.of_bodySF (plainFor_of_name own_pn2) hisR ?_
  intro p e s m args below meth c s₁ Bd hml0 hP hK
  obtain ⟨rfl, hZ, hh⟩ := hP
  have hx := Bd.exec
  have hby := Bd.bytes
  have hml : c.maxLocals = 1 := hml0
  have hown : s.vm.findClass "java/util/ArrayList" = some m.cls := findClass_of_methodNamed Bd.named
  have hnm := (name_of_methodNamed Bd.named Bd.method).1
  have X0 : Stand p l e ({ frames := 3, cells := 0, slots := 0, locals := 36 } : Room) s m #[(.ref a_o)] below meth c s₁ [] 0 0 := Stand.of_body Bd
  have e0 : s₁.heap = h0 := by rw [← hh, Bd.state]; rfl
  have N0 := Fr.nil n0
  have pre0 : ∀ t, Steps p.tables e below (s₁.setTop (mkF m 0 #[.val (.ref a_o)] [])) t → Steps p.tables e below (s₁.setTop (entryFrame m #[(.ref a_o)] 1)) t := fun t k => castTop (own_ef_own_li m a_o) k
  obtain ⟨_, _, ⟨T3, L3, k3, n3⟩, -, X3, ⟨Lc3, hQ3, l3, y3, z3⟩, st3⟩ := X0.specialBack hx (y := (⟨"java/util/AbstractList", "<init>", "()V"⟩ : MethodName)) rfl hown (mvT hZ (hw _ (List.mem_of_getElem? (i := 9) rfl))) (mvT hZ (hw _ (List.mem_of_getElem? (i := 10) rfl))) (mvT hZ (hw _ (List.mem_of_getElem? (i := 14) rfl))) (by decide) (backOf (W := 0) (own_al2 l Z a0 hw [] a_o h0 n0 Z0 Eo F_m F_e F_s ga) hZ (hw _ (List.mem_of_getElem? (i := 14) rfl)) (hw _ (List.mem_of_getElem? (i := 13) rfl)) (by decide) (by decide)) (g := (mkF m 1 #[.val (.ref a_o)] [(.ref a_o)])) rfl (by rw [hml]; rfl) (Steps.refl _) (a := a_o) (argsL := []) (rest := []) (lenOf own_pd0 rfl) rfl (by show 2 * 0 + _ ≤ _; exact Nat.le_of_eq rfl) (hb hby own_d1_1) (fun _ _ => ⟨rfl, e0, (by decide : 0 + 0 ≤ _), (by decide : 0 + 0 ≤ _)⟩)
  dsimp only [Pt.U, Pt.locs, Pt.cells, Pt.slots] at X3 l3 y3 z3 st3 hQ3
  subst l3 y3 z3
  obtain ⟨rfl, Nq3, K3, Pf3_0, Pf3_1, Pf3_2, Pf3_3⟩ := hQ3
  have N4 := Fr.app N0 Nq3
  have Kc5 : Keep h0 T3.heap [a_o] := (Keep.refl h0 [a_o]).trans K3 (allS (Or.inl (List.mem_of_getElem? (i := 0) rfl)) all0)
  have Zs6 : n0 ≤ T3.heap.size := Nat.le_trans Z0 K3.1
  have Fq9 : Old Z n0 T3.heap := (O0.keep K3 (allS ga all0))
  obtain ⟨T10, X10, e10, st10⟩ := getS2 X3 hx hZ hown (host := "") (Or.inl (hw _ (List.mem_of_getElem? (i := 26) rfl))) Via.refl rfl (S_d.ext Fq9.2) (g := (mkF m 5 #[.val (.ref a_o)] [(.ref a_o)])) rfl (hb hby own_d1_5)
  obtain ⟨T12, h12, X12, e12, W12, st12⟩ := putF X10 hx hZ hown (host := "") (Or.inl (hw _ (List.mem_of_getElem? (i := 27) rfl))) Via.refl e10 Pf3_2 Pf3_0 (Or.inl (hw _ (List.mem_of_getElem? (i := 28) rfl))) (hw _ (List.mem_of_getElem? (i := 4) rfl)) (ty := (.array (.object "java/lang/Object"))) (by decide) rfl rfl (g := (mkF m 8 #[.val (.ref a_o)] [(.ref w_d), (.ref a_o)])) rfl rfl (hb hby own_d1_8)
  have Kc13 : Keep h0 h12 [a_o] := Kc5.wr W12 (Or.inl (List.mem_of_getElem? (i := 0) rfl))
  have Zs14 : n0 ≤ h12.size := Nat.le_trans Zs6 (Keep.of_wr W12).1
  have N15 := Fr.snoc X12 N4 ga
  have Fw12 : Fld Z h12 a_o "java/util/ArrayList" "elementData" "[Ljava/lang/Object;" (.ref w_d) := Pf3_2.same W12
  obtain ⟨fs, hr, hrun, hended, hW, hsame⟩ := X12.leave (v := none) (fun _ => rfl) (hlocks := BodyLoose.notSynchronized Bd)
  refine ⟨_, _, pre0 _ ?_, hrun, hended, _, _, rfl, ?_, ⟨_, rfl⟩, hW, hsame.mono (by decide) (by decide)⟩
  · show Steps p.tables e below (s₁.setTop (mkF m 0 #[.val (.ref a_o)] [])) _
    refine XS.aloadN X0.here hx rfl (hb hby own_d1_0) rfl rfl ?_
    show Steps p.tables e below (s₁.setTop (mkF m 1 #[.val (.ref a_o)] [(.ref a_o)])) _
    refine st3.trans ?_
    show Steps p.tables e below (T3.setTop (mkF m 4 #[.val (.ref a_o)] [])) _
    refine XS.aloadN X3.here hx rfl (hb hby own_d1_4) rfl rfl ?_
    show Steps p.tables e below (T3.setTop (mkF m 5 #[.val (.ref a_o)] [(.ref a_o)])) _
    refine st10 _ ?_
    show Steps p.tables e below (T10.setTop (mkF m 8 #[.val (.ref a_o)] [(.ref w_d), (.ref a_o)])) _
    refine st12 _ ?_
    show Steps p.tables e below (T12.setTop (mkF m 11 #[.val (.ref a_o)] [])) _
    exact X12.returnOut hx Bd.returns (hb hby own_d1_11) hr
  · show Qown_li Z a_o w_d h0 n0 _ T12.heap _
    rw [e12]
    have Fq17 : Exa Z h12 a_o "java/util/ArrayList" := (Pf3_0.wr W12)
    have Fq18 : Fld Z h12 a_o "java/util/AbstractList" "modCount" "I" (.int (0 : Int32)) := (Pf3_1.other W12 (Or.inr (slot_ne (Or.inl (hw _ (List.mem_of_getElem? (i := 25) rfl))) (Or.inl (hw _ (List.mem_of_getElem? (i := 28) rfl))) (by decide) (t := .int) (t' := (.array (.object "java/lang/Object"))) (by decide) (by decide))))
    have Fq19 : Fld Z h12 a_o "java/util/ArrayList" "size" "I" (.int (0 : Int32)) := (Pf3_3.other W12 (Or.inr (slot_ne (Or.inl (hw _ (List.mem_of_getElem? (i := 81) rfl))) (Or.inl (hw _ (List.mem_of_getElem? (i := 28) rfl))) (by decide) (t := .int) (t' := (.array (.object "java/lang/Object"))) (by decide) (by decide))))
    exact ⟨rfl, N15, Kc13, Fq17, Fq18, Fw12, Fq19⟩
theorem own_pn3 : plainName "java/util/ArrayList$Itr" = true := by first | (simp [plainName, overriddenIn]; done) | decide +kernel
theorem own_ef_own_ii (m : MethodId) (i_o : Addr) (l_o : Addr) : entryFrame m #[(.ref i_o), (.ref l_o)] 2 = mkF m 0 #[.val (.ref i_o), .val (.ref l_o)] [] := by first | (simp [entryFrame, mkF, argsToLocals, Value.category]; done) | rfl
theorem own_d8_0 : decode jdk_49_method_1_code 0 = .ok (.aload_n 0, 1) := by decide +kernel
theorem own_d8_1 : decode jdk_49_method_1_code 1 = .ok (.aload_n 1, 1) := by decide +kernel
theorem own_d8_2 : decode jdk_49_method_1_code 2 = .ok (.putfield 1, 3) := by decide +kernel
theorem own_d8_5 : decode jdk_49_method_1_code 5 = .ok (.aload_n 0, 1) := by decide +kernel
theorem own_d8_6 : decode jdk_49_method_1_code 6 = .ok (.invokespecial 7, 3) := by decide +kernel
theorem own_d8_9 : decode jdk_49_method_1_code 9 = .ok (.aload_n 0, 1) := by decide +kernel
theorem own_d8_10 : decode jdk_49_method_1_code 10 = .ok (.iconst (-1), 1) := by decide +kernel
theorem own_d8_11 : decode jdk_49_method_1_code 11 = .ok (.putfield 13, 3) := by decide +kernel
theorem own_d8_14 : decode jdk_49_method_1_code 14 = .ok (.aload_n 0, 1) := by decide +kernel
theorem own_d8_15 : decode jdk_49_method_1_code 15 = .ok (.aload_n 0, 1) := by decide +kernel
theorem own_d8_16 : decode jdk_49_method_1_code 16 = .ok (.getfield 1, 3) := by decide +kernel
theorem own_d8_19 : decode jdk_49_method_1_code 19 = .ok (.getfield 17, 3) := by decide +kernel
theorem own_d8_22 : decode jdk_49_method_1_code 22 = .ok (.putfield 22, 3) := by decide +kernel
theorem own_d8_25 : decode jdk_49_method_1_code 25 = .ok (.return_, 1) := by decide +kernel
def Qown_ii (Z : State) (i_o : Addr) (l_o : Addr) (h0 : Heap) (n0 : Nat) (v : Option Value) (h : Heap) (L : List Loc) : Prop := v = none ∧ Fr n0 L ∧ Keep h0 h [i_o] ∧ Exa Z h i_o "java/util/ArrayList$Itr" ∧ Fld Z h i_o "java/util/ArrayList$Itr" "this$0" "Ljava/util/ArrayList;" (.ref l_o) ∧ Fld Z h i_o "java/util/ArrayList$Itr" "cursor" "I" (.int (0 : Int32))
set_option maxRecDepth 65536 in
set_option maxHeartbeats 40000000 in
theorem own_ii (l : Launch) (Z : State) (a0 : Array Value) (hw : ∀ d ∈ tables_1, d.before a0 Z = true) (ws : List Jvm.Cond) (i_o : Addr) (l_o : Addr) (h0 : Heap) (n0 : Nat) (Z0 : n0 ≤ h0.size) (Ei : Exa Z h0 i_o "java/util/ArrayList$Itr") (F_t : Fld Z h0 i_o "java/util/ArrayList$Itr" "this$0" "Ljava/util/ArrayList;" .null) (F_l : Fld Z h0 i_o "java/util/ArrayList$Itr" "lastRet" "I" (.int (0 : Int32))) (F_x : Fld Z h0 i_o "java/util/ArrayList$Itr" "expectedModCount" "I" (.int (0 : Int32))) (F_c : Fld Z h0 i_o "java/util/ArrayList$Itr" "cursor" "I" (.int (0 : Int32))) (Fl_m : Fld Z h0 l_o "java/util/AbstractList" "modCount" "I" (.int (0 : Int32))) (gi : n0 ≤ i_o) (n1 : l_o ≠ i_o) :
    MetFree l (⟨"java/util/ArrayList$Itr", "<init>", "(Ljava/util/ArrayList;)V"⟩ : MethodName) (head1 (Jvm.Cond.code (⟨"java/util/ArrayList$Itr", "<init>", "(Ljava/util/ArrayList;)V"⟩ : MethodName) jdk_49_method_1_code 2 none :: ws) ({ frames := 1, cells := 0, slots := 0, locals := 12 } : Room)) (fun a U => a = #[(.ref i_o), (.ref l_o)] ∧ Z.Warmed39 U.vm ∧ U.heap = h0) (fun _ _ _ _ _ => True) (fun _ U o U' => ∃ v L, o = .returned v ∧ Qown_ii Z i_o l_o h0 n0 v U'.heap L ∧ FrameEnd U o U' L ({ frames := 1, cells := 0, slots := 0, locals := 12 } : Room).cells ({ frames := 1, cells := 0, slots := 0, locals := 12 } : Room).slots) := by
  refine MetFree.of_bodySF (plainFor_of_name own_pn3) hisR ?_
  intro p e s m args below meth c s₁ Bd hml0 hP hK
  obtain ⟨rfl, hZ, hh⟩ := hP
  have hx := Bd.exec
  have hby := Bd.bytes
  have hml : c.maxLocals = 2 := hml0
  have hown : s.vm.findClass "java/util/ArrayList$Itr" = some m.cls := findClass_of_methodNamed Bd.named
  have hnm := (name_of_methodNamed Bd.named Bd.method).1
  have X0 : Stand p l e ({ frames := 1, cells := 0, slots := 0, locals := 12 } : Room) s m #[(.ref i_o), (.ref l_o)] below meth c s₁ [] 0 0 := Stand.of_body Bd
  have e0 : s₁.heap = h0 := by rw [← hh, Bd.state]; rfl
  have N0 := Fr.nil n0
  have pre0 : ∀ t, Steps p.tables e below (s₁.setTop (mkF m 0 #[.val (.ref i_o), .val (.ref l_o)] [])) t → Steps p.tables e below (s₁.setTop (entryFrame m #[(.ref i_o), (.ref l_o)] 2)) t := fun t k => castTop (own_ef_own_ii m i_o l_o) k
  obtain ⟨T4, h4, X4, e4, W4, st4⟩ := putF X0 hx hZ hown (host := "") (Or.inl (hw _ (List.mem_of_getElem? (i := 60) rfl))) Via.refl e0 F_t Ei (Or.inr ⟨(hw _ (List.mem_of_getElem? (i := 61) rfl)), rfl, hnm⟩) (hw _ (List.mem_of_getElem? (i := 54) rfl)) (ty := (.object "java/util/ArrayList")) (by decide) rfl rfl (g := (mkF m 2 #[.val (.ref i_o), .val (.ref l_o)] [(.ref l_o), (.ref i_o)])) rfl rfl (hb hby own_d8_2)
  have Kc5 : Keep h0 h4 [i_o] := (Keep.refl h0 [i_o]).wr W4 (Or.inl (List.mem_of_getElem? (i := 0) rfl))
  have Zs6 : n0 ≤ h4.size := Nat.le_trans Z0 (Keep.of_wr W4).1
  have N7 := Fr.snoc X4 N0 gi
  have Fw4 : Fld Z h4 i_o "java/util/ArrayList$Itr" "this$0" "Ljava/util/ArrayList;" (.ref l_o) := F_t.same W4
  obtain ⟨T10, X10, e10, st10⟩ := initO X4 hx hZ hown (hw _ (List.mem_of_getElem? (i := 62) rfl)) (hw _ (List.mem_of_getElem? (i := 22) rfl)) (hw _ (List.mem_of_getElem? (i := 23) rfl)) e4 (g := (mkF m 6 #[.val (.ref i_o), .val (.ref l_o)] [(.ref i_o)])) rfl (by rw [hml]; rfl) rfl (hb hby own_d8_6) (by decide) (W := 0) (by show 2 * 0 + _ ≤ _; exact Nat.le_of_eq rfl) (by decide)
  have Fq14 : Exa Z h4 i_o "java/util/ArrayList$Itr" := (Ei.wr W4)
  have Fq15 : Fld Z h4 i_o "java/util/ArrayList$Itr" "lastRet" "I" (.int (0 : Int32)) := (F_l.other W4 (Or.inr (slot_ne (Or.inl (hw _ (List.mem_of_getElem? (i := 64) rfl))) (Or.inr (hw _ (List.mem_of_getElem? (i := 61) rfl))) (by decide) (t := .int) (t' := (.object "java/util/ArrayList")) (by decide) (by decide))))
  obtain ⟨T16, h16, X16, e16, W16, st16⟩ := putF X10 hx hZ hown (host := "") (Or.inl (hw _ (List.mem_of_getElem? (i := 63) rfl))) Via.refl e10 Fq15 Fq14 (Or.inl (hw _ (List.mem_of_getElem? (i := 64) rfl))) (hw _ (List.mem_of_getElem? (i := 54) rfl)) (ty := .int) (by decide) rfl rfl (g := (mkF m 11 #[.val (.ref i_o), .val (.ref l_o)] [(.int (-1 : Int32)), (.ref i_o)])) rfl rfl (hb hby own_d8_11)
  have Kc17 : Keep h0 h16 [i_o] := Kc5.wr W16 (Or.inl (List.mem_of_getElem? (i := 0) rfl))
  have Zs18 : n0 ≤ h16.size := Nat.le_trans Zs6 (Keep.of_wr W16).1
  have N19 := Fr.snoc X16 N7 gi
  have Fw16 : Fld Z h16 i_o "java/util/ArrayList$Itr" "lastRet" "I" (.int (-1 : Int32)) := Fq15.same W16
  have Fq23 : Fld Z h16 i_o "java/util/ArrayList$Itr" "this$0" "Ljava/util/ArrayList;" (.ref l_o) := (Fw4.other W16 (Or.inr (slot_ne (Or.inr (hw _ (List.mem_of_getElem? (i := 61) rfl))) (Or.inl (hw _ (List.mem_of_getElem? (i := 64) rfl))) (by decide) (t := (.object "java/util/ArrayList")) (t' := .int) (by decide) (by decide))))
  obtain ⟨T24, X24, e24, st24⟩ := getF X16 hx hZ hown (host := "") (Or.inl (hw _ (List.mem_of_getElem? (i := 60) rfl))) Via.refl e16 Fq23 (g := (mkF m 16 #[.val (.ref i_o), .val (.ref l_o)] [(.ref i_o), (.ref i_o)])) rfl rfl (hb hby own_d8_16)
  have Fq26 : Fld Z h16 l_o "java/util/AbstractList" "modCount" "I" (.int (0 : Int32)) := ((Fl_m.other W4 (Or.inl n1)).other W16 (Or.inl n1))
  obtain ⟨T27, X27, e27, st27⟩ := getF X24 hx hZ hown (host := "") (Or.inl (hw _ (List.mem_of_getElem? (i := 65) rfl))) (Via.of (hw _ (List.mem_of_getElem? (i := 66) rfl))) e24 Fq26 (g := (mkF m 19 #[.val (.ref i_o), .val (.ref l_o)] [(.ref l_o), (.ref i_o)])) rfl rfl (hb hby own_d8_19)
  have Fq29 : Exa Z h16 i_o "java/util/ArrayList$Itr" := (Fq14.wr W16)
  have Fq30 : Fld Z h16 i_o "java/util/ArrayList$Itr" "expectedModCount" "I" (.int (0 : Int32)) := ((F_x.other W4 (Or.inr (slot_ne (Or.inl (hw _ (List.mem_of_getElem? (i := 68) rfl))) (Or.inr (hw _ (List.mem_of_getElem? (i := 61) rfl))) (by decide) (t := .int) (t' := (.object "java/util/ArrayList")) (by decide) (by decide)))).other W16 (Or.inr (slot_ne (Or.inl (hw _ (List.mem_of_getElem? (i := 68) rfl))) (Or.inl (hw _ (List.mem_of_getElem? (i := 64) rfl))) (by decide) (t := .int) (t' := .int) (by decide) (by decide))))
  obtain ⟨T31, h31, X31, e31, W31, st31⟩ := putF X27 hx hZ hown (host := "") (Or.inl (hw _ (List.mem_of_getElem? (i := 67) rfl))) Via.refl e27 Fq30 Fq29 (Or.inl (hw _ (List.mem_of_getElem? (i := 68) rfl))) (hw _ (List.mem_of_getElem? (i := 54) rfl)) (ty := .int) (by decide) rfl rfl (g := (mkF m 22 #[.val (.ref i_o), .val (.ref l_o)] [(.int (0 : Int32)), (.ref i_o)])) rfl rfl (hb hby own_d8_22)
  have Kc32 : Keep h0 h31 [i_o] := Kc17.wr W31 (Or.inl (List.mem_of_getElem? (i := 0) rfl))
  have Zs33 : n0 ≤ h31.size := Nat.le_trans Zs18 (Keep.of_wr W31).1
  have N34 := Fr.snoc X31 N19 gi
  have Fw31 : Fld Z h31 i_o "java/util/ArrayList$Itr" "expectedModCount" "I" (.int (0 : Int32)) := Fq30.same W31
  obtain ⟨fs, hr, hrun, hended, hW, hsame⟩ := X31.leave (v := none) (fun _ => rfl) (hlocks := BodyLoose.notSynchronized Bd)
  refine ⟨_, _, pre0 _ ?_, hrun, hended, _, _, rfl, ?_, ⟨_, rfl⟩, hW, hsame.mono (by decide) (by decide)⟩
  · show Steps p.tables e below (s₁.setTop (mkF m 0 #[.val (.ref i_o), .val (.ref l_o)] [])) _
    refine XS.aloadN X0.here hx rfl (hb hby own_d8_0) rfl rfl ?_
    show Steps p.tables e below (s₁.setTop (mkF m 1 #[.val (.ref i_o), .val (.ref l_o)] [(.ref i_o)])) _
    refine XS.aloadN X0.here hx rfl (hb hby own_d8_1) rfl rfl ?_
    show Steps p.tables e below (s₁.setTop (mkF m 2 #[.val (.ref i_o), .val (.ref l_o)] [(.ref l_o), (.ref i_o)])) _
    refine st4 _ ?_
    show Steps p.tables e below (T4.setTop (mkF m 5 #[.val (.ref i_o), .val (.ref l_o)] [])) _
    refine XS.aloadN X4.here hx rfl (hb hby own_d8_5) rfl rfl ?_
    show Steps p.tables e below (T4.setTop (mkF m 6 #[.val (.ref i_o), .val (.ref l_o)] [(.ref i_o)])) _
    refine st10 _ ?_
    show Steps p.tables e below (T10.setTop (mkF m 9 #[.val (.ref i_o), .val (.ref l_o)] [])) _
    refine XS.aloadN X10.here hx rfl (hb hby own_d8_9) rfl rfl ?_
    show Steps p.tables e below (T10.setTop (mkF m 10 #[.val (.ref i_o), .val (.ref l_o)] [(.ref i_o)])) _
    refine XS.iconst X10.here hx rfl (hb hby own_d8_10) ?_
    show Steps p.tables e below (T10.setTop (mkF m 11 #[.val (.ref i_o), .val (.ref l_o)] [(.int (-1 : Int32)), (.ref i_o)])) _
    refine st16 _ ?_
    show Steps p.tables e below (T16.setTop (mkF m 14 #[.val (.ref i_o), .val (.ref l_o)] [])) _
    refine XS.aloadN X16.here hx rfl (hb hby own_d8_14) rfl rfl ?_
    show Steps p.tables e below (T16.setTop (mkF m 15 #[.val (.ref i_o), .val (.ref l_o)] [(.ref i_o)])) _
    refine XS.aloadN X16.here hx rfl (hb hby own_d8_15) rfl rfl ?_
    show Steps p.tables e below (T16.setTop (mkF m 16 #[.val (.ref i_o), .val (.ref l_o)] [(.ref i_o), (.ref i_o)])) _
    refine st24 _ ?_
    show Steps p.tables e below (T24.setTop (mkF m 19 #[.val (.ref i_o), .val (.ref l_o)] [(.ref l_o), (.ref i_o)])) _
    refine st27 _ ?_
    show Steps p.tables e below (T27.setTop (mkF m 22 #[.val (.ref i_o), .val (.ref l_o)] [(.int (0 : Int32)), (.ref i_o)])) _
    refine st31 _ ?_
    show Steps p.tables e below (T31.setTop (mkF m 25 #[.val (.ref i_o), .val (.ref l_o)] [])) _
    exact X31.returnOut hx Bd.returns (hb hby own_d8_25) hr
  · show Qown_ii Z i_o l_o h0 n0 _ T31.heap _
    rw [e31]
    have Fq36 : Exa Z h31 i_o "java/util/ArrayList$Itr" := (Fq29.wr W31)
    have Fq37 : Fld Z h31 i_o "java/util/ArrayList$Itr" "this$0" "Ljava/util/ArrayList;" (.ref l_o) := (Fq23.other W31 (Or.inr (slot_ne (Or.inr (hw _ (List.mem_of_getElem? (i := 61) rfl))) (Or.inl (hw _ (List.mem_of_getElem? (i := 68) rfl))) (by decide) (t := (.object "java/util/ArrayList")) (t' := .int) (by decide) (by decide))))
    have Fq38 : Fld Z h31 i_o "java/util/ArrayList$Itr" "cursor" "I" (.int (0 : Int32)) := (((F_c.other W4 (Or.inr (slot_ne (Or.inl (hw _ (List.mem_of_getElem? (i := 79) rfl))) (Or.inr (hw _ (List.mem_of_getElem? (i := 61) rfl))) (by decide) (t := .int) (t' := (.object "java/util/ArrayList")) (by decide) (by decide)))).other W16 (Or.inr (slot_ne (Or.inl (hw _ (List.mem_of_getElem? (i := 79) rfl))) (Or.inl (hw _ (List.mem_of_getElem? (i := 64) rfl))) (by decide) (t := .int) (t' := .int) (by decide) (by decide)))).other W31 (Or.inr (slot_ne (Or.inl (hw _ (List.mem_of_getElem? (i := 79) rfl))) (Or.inl (hw _ (List.mem_of_getElem? (i := 68) rfl))) (by decide) (t := .int) (t' := .int) (by decide) (by decide))))
    exact ⟨rfl, N34, Kc32, Fq36, Fq37, Fq38⟩
theorem own_ef_own_it (m : MethodId) (l_o : Addr) : entryFrame m #[(.ref l_o)] 1 = mkF m 0 #[.val (.ref l_o)] [] := by first | (simp [entryFrame, mkF, argsToLocals, Value.category]; done) | rfl
theorem own_pd1 : parseMethodDescriptor "(Ljava/util/ArrayList;)V" = some ⟨[(.object "java/util/ArrayList")], none⟩ := by decide +kernel
theorem own_d7_0 : decode jdk_38_method_55_code 0 = .ok (.new 267, 3) := by decide +kernel
theorem own_d7_3 : decode jdk_38_method_55_code 3 = .ok (.dup, 1) := by decide +kernel
theorem own_d7_4 : decode jdk_38_method_55_code 4 = .ok (.aload_n 0, 1) := by decide +kernel
theorem own_d7_5 : decode jdk_38_method_55_code 5 = .ok (.invokespecial 269, 3) := by decide +kernel
theorem own_d7_8 : decode jdk_38_method_55_code 8 = .ok (.areturn, 1) := by decide +kernel
def Qown_it (Z : State) (l_o : Addr) (h0 : Heap) (n0 : Nat) (v : Option Value) (h : Heap) (L : List Loc) : Prop := ∃ r_o : Addr, v = some (.ref r_o) ∧ Fr n0 L ∧ h0.size ≤ r_o ∧ Keep h0 h [] ∧ Exa Z h r_o "java/util/ArrayList$Itr" ∧ Fld Z h r_o "java/util/ArrayList$Itr" "this$0" "Ljava/util/ArrayList;" (.ref l_o) ∧ Fld Z h r_o "java/util/ArrayList$Itr" "cursor" "I" (.int (0 : Int32))
set_option maxRecDepth 65536 in
set_option maxHeartbeats 40000000 in
theorem own_it (l : Launch) (Z : State) (a0 : Array Value) (hw : ∀ d ∈ tables_1, d.before a0 Z = true) (ws : List Jvm.Cond) (l_o : Addr) (h0 : Heap) (n0 : Nat) (Z0 : n0 ≤ h0.size) (Fl_m : Fld Z h0 l_o "java/util/AbstractList" "modCount" "I" (.int (0 : Int32))) :
    MetFree l (⟨"java/util/ArrayList", "iterator", "()Ljava/util/Iterator;"⟩ : MethodName) (head1 (Jvm.Cond.code (⟨"java/util/ArrayList", "iterator", "()Ljava/util/Iterator;"⟩ : MethodName) jdk_38_method_55_code 1 (some (.object "java/util/Iterator")) :: ws) ({ frames := 2, cells := 1, slots := 4, locals := 26 } : Room)) (fun a U => a = #[(.ref l_o)] ∧ Z.Warmed39 U.vm ∧ U.heap = h0) (fun _ _ _ _ _ => True) (fun _ U o U' => ∃ v L, o = .returned v ∧ Qown_it Z l_o h0 n0 v U'.heap L ∧ FrameEnd U o U' L ({ frames := 2, cells := 1, slots := 4, locals := 26 } : Room).cells ({ frames := 2, cells := 1, slots := 4, locals := 26 } : Room).slots) := by
  refine MetFree.of_bodySF (plainFor_of_name own_pn2) hisR ?_
  intro p e s m args below meth c s₁ Bd hml0 hP hK
  obtain ⟨rfl, hZ, hh⟩ := hP
  have hx := Bd.exec
  have hby := Bd.bytes
  have hml : c.maxLocals = 1 := hml0
  have hown : s.vm.findClass "java/util/ArrayList" = some m.cls := findClass_of_methodNamed Bd.named
  have hnm := (name_of_methodNamed Bd.named Bd.method).1
  have X0 : Stand p l e ({ frames := 2, cells := 1, slots := 4, locals := 26 } : Room) s m #[(.ref l_o)] below meth c s₁ [] 0 0 := Stand.of_body Bd
  have e0 : s₁.heap = h0 := by rw [← hh, Bd.state]; rfl
  have N0 := Fr.nil n0
  have pre0 : ∀ t, Steps p.tables e below (s₁.setTop (mkF m 0 #[.val (.ref l_o)] [])) t → Steps p.tables e below (s₁.setTop (entryFrame m #[(.ref l_o)] 1)) t := fun t k => castTop (own_ef_own_it m l_o) k
  obtain ⟨T2, h2, X2, e2, E2, A2, D2, -, st2⟩ := newO X0 hx hZ hown (hw _ (List.mem_of_getElem? (i := 53) rfl)) (hw _ (List.mem_of_getElem? (i := 54) rfl)) (hw _ (List.mem_of_getElem? (i := 55) rfl)) e0 (g := (mkF m 0 #[.val (.ref l_o)] [])) rfl (hb hby own_d7_0) (by decide) (by decide)
  obtain ⟨b2, g2⟩ : ∃ z, z = h0.size := ⟨_, rfl⟩
  rw [← g2] at A2 D2 st2
  have Ne3 : l_o ≠ b2 := Nat.ne_of_lt (Nat.lt_of_lt_of_le Fl_m.lt (Nat.le_of_eq g2.symm))
  have Ge4 : n0 ≤ b2 := Nat.le_trans Z0 (Nat.le_of_eq g2.symm)
  have Sz5 : h0.size ≤ b2 := Nat.le_trans (Keep.refl h0 []).1 (Nat.le_of_eq g2.symm)
  have Kc6 : Keep h0 h2 [] := (Keep.refl h0 []).ext E2
  have Zs7 : n0 ≤ h2.size := (Nat.le_trans Z0 E2.1)
  have F2_this_0 : Fld Z h2 b2 "java/util/ArrayList$Itr" "this$0" "Ljava/util/ArrayList;" .null := D2 (Or.inr (hw _ (List.mem_of_getElem? (i := 61) rfl))) (ty := (.object "java/util/ArrayList")) (by decide)
  have F2_lastRet : Fld Z h2 b2 "java/util/ArrayList$Itr" "lastRet" "I" (.int (0 : Int32)) := D2 (Or.inl (hw _ (List.mem_of_getElem? (i := 64) rfl))) (ty := .int) (by decide)
  have F2_expectedModCount : Fld Z h2 b2 "java/util/ArrayList$Itr" "expectedModCount" "I" (.int (0 : Int32)) := D2 (Or.inl (hw _ (List.mem_of_getElem? (i := 68) rfl))) (ty := .int) (by decide)
  have F2_cursor : Fld Z h2 b2 "java/util/ArrayList$Itr" "cursor" "I" (.int (0 : Int32)) := D2 (Or.inl (hw _ (List.mem_of_getElem? (i := 79) rfl))) (ty := .int) (by decide)
  have Fq12 : Fld Z h2 l_o "java/util/AbstractList" "modCount" "I" (.int (0 : Int32)) := (Fl_m.ext E2)
  obtain ⟨_, _, ⟨T11, L11, k11, n11⟩, -, X11, ⟨Lc11, hQ11, l11, y11, z11⟩, st11⟩ := X2.specialBack hx (y := (⟨"java/util/ArrayList$Itr", "<init>", "(Ljava/util/ArrayList;)V"⟩ : MethodName)) rfl hown (mvT hZ (hw _ (List.mem_of_getElem? (i := 56) rfl))) (mvT hZ (hw _ (List.mem_of_getElem? (i := 57) rfl))) (mvT hZ (hw _ (List.mem_of_getElem? (i := 59) rfl))) (by decide) (backOf (W := 1) (own_ii l Z a0 hw [] b2 l_o h2 n0 Zs7 A2 F2_this_0 F2_lastRet F2_expectedModCount F2_cursor Fq12 Ge4 Ne3) hZ (hw _ (List.mem_of_getElem? (i := 59) rfl)) (hw _ (List.mem_of_getElem? (i := 55) rfl)) (by decide) (by decide)) (g := (mkF m 5 #[.val (.ref l_o)] [(.ref l_o), (.ref b2), (.ref b2)])) rfl (by rw [hml]; rfl) (Steps.refl _) (a := b2) (argsL := [(.ref l_o)]) (rest := [(.ref b2)]) (lenOf own_pd1 rfl) rfl (by show 2 * 0 + _ ≤ _; exact Nat.le_of_eq rfl) (hb hby own_d7_5) (fun _ _ => ⟨rfl, e2, (by decide : 1 + 0 ≤ _), (by decide : 4 + 0 ≤ _)⟩)
  dsimp only [Pt.U, Pt.locs, Pt.cells, Pt.slots] at X11 l11 y11 z11 st11 hQ11
  subst l11 y11 z11
  obtain ⟨rfl, Nq11, K11, Pf11_0, Pf11_1, Pf11_2⟩ := hQ11
  have N13 := Fr.app N0 Nq11
  have Kc14 : Keep h0 T11.heap [] := Kc6.trans K11 (allS (Or.inr Sz5) all0)
  have Zs15 : n0 ≤ T11.heap.size := Nat.le_trans Zs7 K11.1
  obtain ⟨fs, hr, hrun, hended, hW, hsame⟩ := X11.leave (v := some (.ref b2)) (fun h => by rw [Bd.returns] at h; cases h) (hlocks := BodyLoose.notSynchronized Bd)
  refine ⟨_, _, pre0 _ ?_, hrun, hended, _, _, rfl, ?_, ⟨_, rfl⟩, hW, hsame.mono (by decide) (by decide)⟩
  · show Steps p.tables e below (s₁.setTop (mkF m 0 #[.val (.ref l_o)] [])) _
    refine st2 _ ?_
    show Steps p.tables e below (T2.setTop (mkF m 3 #[.val (.ref l_o)] [(.ref b2)])) _
    refine XS.dup X2.here hx rfl (hb hby own_d7_3) rfl rfl ?_
    show Steps p.tables e below (T2.setTop (mkF m 4 #[.val (.ref l_o)] [(.ref b2), (.ref b2)])) _
    refine XS.aloadN X2.here hx rfl (hb hby own_d7_4) rfl rfl ?_
    show Steps p.tables e below (T2.setTop (mkF m 5 #[.val (.ref l_o)] [(.ref l_o), (.ref b2), (.ref b2)])) _
    refine st11.trans ?_
    show Steps p.tables e below (T11.setTop (mkF m 8 #[.val (.ref l_o)] [(.ref b2)])) _
    jvm_step X11.here [X11.here.top, hx, (hb hby own_d7_8), X11.method', Bd.returns, Value.isRef, FieldType.isReference]
    first | (intro acts; rw [hr _ acts rfl rfl rfl]) | rw [hr _ _ rfl rfl rfl]
    exact Steps.refl _
  · show Qown_it Z l_o h0 n0 _ T11.heap _
    exact ⟨b2, rfl, N13, Sz5, Kc14, Pf11_0, Pf11_1, Pf11_2⟩
theorem own_ef_own_hn (m : MethodId) (i_o : Addr) : entryFrame m #[(.ref i_o)] 1 = mkF m 0 #[.val (.ref i_o)] [] := by first | (simp [entryFrame, mkF, argsToLocals, Value.category]; done) | rfl
theorem own_d9_0 : decode jdk_49_method_2_code 0 = .ok (.aload_n 0, 1) := by decide +kernel
theorem own_d9_1 : decode jdk_49_method_2_code 1 = .ok (.getfield 25, 3) := by decide +kernel
theorem own_d9_4 : decode jdk_49_method_2_code 4 = .ok (.aload_n 0, 1) := by decide +kernel
theorem own_d9_5 : decode jdk_49_method_2_code 5 = .ok (.getfield 1, 3) := by decide +kernel
theorem own_d9_8 : decode jdk_49_method_2_code 8 = .ok (.getfield 28, 3) := by decide +kernel
theorem own_d9_11 : decode jdk_49_method_2_code 11 = .ok (.if_icmp .eq 7, 3) := by decide +kernel
theorem own_d9_18 : decode jdk_49_method_2_code 18 = .ok (.iconst 0, 1) := by decide +kernel
theorem own_d9_19 : decode jdk_49_method_2_code 19 = .ok (.ireturn, 1) := by decide +kernel
def Qown_hn (Z : State) (i_o : Addr) (l_o : Addr) (h0 : Heap) (n0 : Nat) (v : Option Value) (h : Heap) (L : List Loc) : Prop := v = some (.int (0 : Int32)) ∧ Fr n0 L ∧ h = h0
set_option maxRecDepth 65536 in
set_option maxHeartbeats 40000000 in
theorem own_hn (l : Launch) (Z : State) (a0 : Array Value) (hw : ∀ d ∈ tables_1, d.before a0 Z = true) (ws : List Jvm.Cond) (i_o : Addr) (l_o : Addr) (h0 : Heap) (n0 : Nat) (Z0 : n0 ≤ h0.size) (F_t : Fld Z h0 i_o "java/util/ArrayList$Itr" "this$0" "Ljava/util/ArrayList;" (.ref l_o)) (F_c : Fld Z h0 i_o "java/util/ArrayList$Itr" "cursor" "I" (.int (0 : Int32))) (F_s : Fld Z h0 l_o "java/util/ArrayList" "size" "I" (.int (0 : Int32))) :
    MetFree l (⟨"java/util/ArrayList$Itr", "hasNext", "()Z"⟩ : MethodName) (head1 (Jvm.Cond.code (⟨"java/util/ArrayList$Itr", "hasNext", "()Z"⟩ : MethodName) jdk_49_method_2_code 1 (some .boolean) :: ws) ({ frames := 0, cells := 0, slots := 0, locals := 0 } : Room)) (fun a U => a = #[(.ref i_o)] ∧ Z.Warmed39 U.vm ∧ U.heap = h0) (fun _ _ _ _ _ => True) (fun _ U o U' => ∃ v L, o = .returned v ∧ Qown_hn Z i_o l_o h0 n0 v U'.heap L ∧ FrameEnd U o U' L ({ frames := 0, cells := 0, slots := 0, locals := 0 } : Room).cells ({ frames := 0, cells := 0, slots := 0, locals := 0 } : Room).slots) := by
  refine MetFree.of_bodySF (plainFor_of_name own_pn3) hisR ?_
  intro p e s m args below meth c s₁ Bd hml0 hP hK
  obtain ⟨rfl, hZ, hh⟩ := hP
  have hx := Bd.exec
  have hby := Bd.bytes
  have hml : c.maxLocals = 1 := hml0
  have hown : s.vm.findClass "java/util/ArrayList$Itr" = some m.cls := findClass_of_methodNamed Bd.named
  have hnm := (name_of_methodNamed Bd.named Bd.method).1
  have X0 : Stand p l e ({ frames := 0, cells := 0, slots := 0, locals := 0 } : Room) s m #[(.ref i_o)] below meth c s₁ [] 0 0 := Stand.of_body Bd
  have e0 : s₁.heap = h0 := by rw [← hh, Bd.state]; rfl
  have N0 := Fr.nil n0
  have pre0 : ∀ t, Steps p.tables e below (s₁.setTop (mkF m 0 #[.val (.ref i_o)] [])) t → Steps p.tables e below (s₁.setTop (entryFrame m #[(.ref i_o)] 1)) t := fun t k => castTop (own_ef_own_hn m i_o) k
  obtain ⟨T3, X3, e3, st3⟩ := getF X0 hx hZ hown (host := "") (Or.inl (hw _ (List.mem_of_getElem? (i := 78) rfl))) Via.refl e0 F_c (g := (mkF m 1 #[.val (.ref i_o)] [(.ref i_o)])) rfl rfl (hb hby own_d9_1)
  obtain ⟨T6, X6, e6, st6⟩ := getF X3 hx hZ hown (host := "") (Or.inl (hw _ (List.mem_of_getElem? (i := 60) rfl))) Via.refl e3 F_t (g := (mkF m 5 #[.val (.ref i_o)] [(.ref i_o), (.int (0 : Int32))])) rfl rfl (hb hby own_d9_5)
  obtain ⟨T8, X8, e8, st8⟩ := getF X6 hx hZ hown (Or.inr (hw _ (List.mem_of_getElem? (i := 80) rfl))) Via.refl e6 F_s (g := (mkF m 8 #[.val (.ref i_o)] [(.ref l_o), (.int (0 : Int32))])) rfl rfl (hb hby own_d9_8)
  obtain ⟨fs, hr, hrun, hended, hW, hsame⟩ := X8.leave (v := some (.int (0 : Int32))) (fun h => by rw [Bd.returns] at h; cases h) (hlocks := BodyLoose.notSynchronized Bd)
  refine ⟨_, _, pre0 _ ?_, hrun, hended, _, _, rfl, ?_, ⟨_, rfl⟩, hW, hsame.mono (by decide) (by decide)⟩
  · show Steps p.tables e below (s₁.setTop (mkF m 0 #[.val (.ref i_o)] [])) _
    refine XS.aloadN X0.here hx rfl (hb hby own_d9_0) rfl rfl ?_
    show Steps p.tables e below (s₁.setTop (mkF m 1 #[.val (.ref i_o)] [(.ref i_o)])) _
    refine st3 _ ?_
    show Steps p.tables e below (T3.setTop (mkF m 4 #[.val (.ref i_o)] [(.int (0 : Int32))])) _
    refine XS.aloadN X3.here hx rfl (hb hby own_d9_4) rfl rfl ?_
    show Steps p.tables e below (T3.setTop (mkF m 5 #[.val (.ref i_o)] [(.ref i_o), (.int (0 : Int32))])) _
    refine st6 _ ?_
    show Steps p.tables e below (T6.setTop (mkF m 8 #[.val (.ref i_o)] [(.ref l_o), (.int (0 : Int32))])) _
    refine st8 _ ?_
    show Steps p.tables e below (T8.setTop (mkF m 11 #[.val (.ref i_o)] [(.int (0 : Int32)), (.int (0 : Int32))])) _
    refine XS.icmpYes X8.here hx rfl (pc0 := 11) (pc' := 18) rfl (hb hby own_d9_11) rfl (teq ((by decide) : (0 : Int32) = (0 : Int32))).1 (by decide) (by decide) ?_
    show Steps p.tables e below (T8.setTop (mkF m 18 #[.val (.ref i_o)] [])) _
    refine XS.iconst X8.here hx rfl (hb hby own_d9_18) ?_
    show Steps p.tables e below (T8.setTop (mkF m 19 #[.val (.ref i_o)] [(.int (0 : Int32))])) _
    exact retN X8 hx (t := .boolean) Bd.returns (by simp) (hb hby own_d9_19) hr
  · show Qown_hn Z i_o l_o h0 n0 _ T8.heap _
    rw [e8]
    exact ⟨rfl, N0, rfl⟩
theorem own_ef_own_ta (m : MethodId) (l_o : Addr) (t_o : Addr) : entryFrame m #[(.ref l_o), (.ref t_o)] 2 = mkF m 0 #[.val (.ref l_o), .val (.ref t_o)] [] := by first | (simp [entryFrame, mkF, argsToLocals, Value.category]; done) | rfl
theorem own_d10_0 : decode jdk_38_method_17_code 0 = .ok (.aload_n 1, 1) := by decide +kernel
theorem own_d10_1 : decode jdk_38_method_17_code 1 = .ok (.arraylength, 1) := by decide +kernel
theorem own_d10_2 : decode jdk_38_method_17_code 2 = .ok (.aload_n 0, 1) := by decide +kernel
theorem own_d10_3 : decode jdk_38_method_17_code 3 = .ok (.getfield 48, 3) := by decide +kernel
theorem own_d10_6 : decode jdk_38_method_17_code 6 = .ok (.if_icmp .ge 19, 3) := by decide +kernel
theorem own_d10_25 : decode jdk_38_method_17_code 25 = .ok (.aload_n 0, 1) := by decide +kernel
theorem own_d10_26 : decode jdk_38_method_17_code 26 = .ok (.getfield 9, 3) := by decide +kernel
theorem own_d10_29 : decode jdk_38_method_17_code 29 = .ok (.iconst 0, 1) := by decide +kernel
theorem own_d10_30 : decode jdk_38_method_17_code 30 = .ok (.aload_n 1, 1) := by decide +kernel
theorem own_d10_31 : decode jdk_38_method_17_code 31 = .ok (.iconst 0, 1) := by decide +kernel
theorem own_d10_32 : decode jdk_38_method_17_code 32 = .ok (.aload_n 0, 1) := by decide +kernel
theorem own_d10_33 : decode jdk_38_method_17_code 33 = .ok (.getfield 48, 3) := by decide +kernel
theorem own_d10_36 : decode jdk_38_method_17_code 36 = .ok (.invokestatic 112, 3) := by decide +kernel
theorem own_d10_39 : decode jdk_38_method_17_code 39 = .ok (.aload_n 1, 1) := by decide +kernel
theorem own_d10_40 : decode jdk_38_method_17_code 40 = .ok (.arraylength, 1) := by decide +kernel
theorem own_d10_41 : decode jdk_38_method_17_code 41 = .ok (.aload_n 0, 1) := by decide +kernel
theorem own_d10_42 : decode jdk_38_method_17_code 42 = .ok (.getfield 48, 3) := by decide +kernel
theorem own_d10_45 : decode jdk_38_method_17_code 45 = .ok (.if_icmp .le 10, 3) := by decide +kernel
theorem own_d10_55 : decode jdk_38_method_17_code 55 = .ok (.aload_n 1, 1) := by decide +kernel
theorem own_d10_56 : decode jdk_38_method_17_code 56 = .ok (.areturn, 1) := by decide +kernel
def Qown_ta (Z : State) (l_o : Addr) (t_o : Addr) (w_d : Addr) (k_d : ClassId) (k_t : ClassId) (t_y : FieldType) (h0 : Heap) (n0 : Nat) (v : Option Value) (h : Heap) (L : List Loc) : Prop := v = some (.ref t_o) ∧ Fr n0 L ∧ Keep h0 h [t_o] ∧ Arv Z h t_o k_t t_y (0 : Int32) [] .null
set_option maxRecDepth 65536 in
set_option maxHeartbeats 40000000 in
theorem own_ta (l : Launch) (Z : State) (a0 : Array Value) (hw : ∀ d ∈ tables_1, d.before a0 Z = true) (ws : List Jvm.Cond) (l_o : Addr) (t_o : Addr) (w_d : Addr) (k_d : ClassId) (k_t : ClassId) (t_y : FieldType) (h0 : Heap) (n0 : Nat) (Z0 : n0 ≤ h0.size) (F_s : Fld Z h0 l_o "java/util/ArrayList" "size" "I" (.int (0 : Int32))) (F_e : Fld Z h0 l_o "java/util/ArrayList" "elementData" "[Ljava/lang/Object;" (.ref w_d)) (V_d : Arv Z h0 w_d k_d (.object "java/lang/Object") (0 : Int32) [] .null) (V_t : Arv Z h0 t_o k_t t_y (0 : Int32) [] .null) (gt : n0 ≤ t_o) (n1 : l_o ≠ t_o) (hk : refKind t_y = true) :
    MetFree l (⟨"java/util/ArrayList", "toArray", "([Ljava/lang/Object;)[Ljava/lang/Object;"⟩ : MethodName) (head1 (Jvm.Cond.code (⟨"java/util/ArrayList", "toArray", "([Ljava/lang/Object;)[Ljava/lang/Object;"⟩ : MethodName) jdk_38_method_17_code 2 (some (.array (.object "java/lang/Object"))) :: ws) ({ frames := 1, cells := 0, slots := 0, locals := 18 } : Room)) (fun a U => a = #[(.ref l_o), (.ref t_o)] ∧ Z.Warmed39 U.vm ∧ U.heap = h0) (fun _ _ _ _ _ => True) (fun _ U o U' => ∃ v L, o = .returned v ∧ Qown_ta Z l_o t_o w_d k_d k_t t_y h0 n0 v U'.heap L ∧ FrameEnd U o U' L ({ frames := 1, cells := 0, slots := 0, locals := 18 } : Room).cells ({ frames := 1, cells := 0, slots := 0, locals := 18 } : Room).slots) := by
  refine MetFree.of_bodySF (plainFor_of_name own_pn2) hisR ?_
  intro p e s m args below meth c s₁ Bd hml0 hP hK
  obtain ⟨rfl, hZ, hh⟩ := hP
  have hx := Bd.exec
  have hby := Bd.bytes
  have hml : c.maxLocals = 2 := hml0
  have hown : s.vm.findClass "java/util/ArrayList" = some m.cls := findClass_of_methodNamed Bd.named
  have hnm := (name_of_methodNamed Bd.named Bd.method).1
  have X0 : Stand p l e ({ frames := 1, cells := 0, slots := 0, locals := 18 } : Room) s m #[(.ref l_o), (.ref t_o)] below meth c s₁ [] 0 0 := Stand.of_body Bd
  have e0 : s₁.heap = h0 := by rw [← hh, Bd.state]; rfl
  have N0 := Fr.nil n0
  have pre0 : ∀ t, Steps p.tables e below (s₁.setTop (mkF m 0 #[.val (.ref l_o), .val (.ref t_o)] [])) t → Steps p.tables e below (s₁.setTop (entryFrame m #[(.ref l_o), (.ref t_o)] 2)) t := fun t k => castTop (own_ef_own_ta m l_o t_o) k
  obtain ⟨cl3, Ar3, -, S3, M3, -, -⟩ := id V_t
  obtain ⟨T6, X6, e6, st6⟩ := getF X0 hx hZ hown (host := "") (Or.inl (hw _ (List.mem_of_getElem? (i := 92) rfl))) Via.refl e0 F_s (g := (mkF m 3 #[.val (.ref l_o), .val (.ref t_o)] [(.ref l_o), (.int (0 : Int32))])) rfl rfl (hb hby own_d10_3)
  obtain ⟨T10, X10, e10, st10⟩ := getF X6 hx hZ hown (host := "") (Or.inl (hw _ (List.mem_of_getElem? (i := 27) rfl))) Via.refl e6 F_e (g := (mkF m 26 #[.val (.ref l_o), .val (.ref t_o)] [(.ref l_o)])) rfl rfl (hb hby own_d10_26)
  obtain ⟨T16, X16, e16, st16⟩ := getF X10 hx hZ hown (host := "") (Or.inl (hw _ (List.mem_of_getElem? (i := 92) rfl))) Via.refl e10 F_s (g := (mkF m 33 #[.val (.ref l_o), .val (.ref t_o)] [(.ref l_o), (.int (0 : Int32)), (.ref t_o), (.int (0 : Int32)), (.ref w_d)])) rfl rfl (hb hby own_d10_33)
  obtain ⟨T18, h18, L18, X18, e18, Nn18, K18, Va18, st18⟩ := cpA X16 hx hZ hown (hw _ (List.mem_of_getElem? (i := 93) rfl)) (hw _ (List.mem_of_getElem? (i := 96) rfl)) (hw _ (List.mem_of_getElem? (i := 94) rfl)) (hw _ (List.mem_of_getElem? (i := 95) rfl)) e16 (sp := (0 : Int32)) (dp := (0 : Int32)) (nn := (0 : Int32)) (us := []) V_d V_t (Or.inr ⟨rfl, hk, trivial⟩) (by decide) (by decide) (by decide) (by decide) (by decide) rfl (by decide) N0 gt (g := (mkF m 36 #[.val (.ref l_o), .val (.ref t_o)] [(.int (0 : Int32)), (.int (0 : Int32)), (.ref t_o), (.int (0 : Int32)), (.ref w_d)])) rfl (by rw [hml]; rfl) rfl (hb hby own_d10_36) (by decide) (W := 0) (by show 2 * 0 + _ ≤ _; exact Nat.le_of_eq rfl) (by decide)
  have Kc19 : Keep h0 h18 [t_o] := (Keep.refl h0 [t_o]).trans K18 (allS (Or.inl (List.mem_of_getElem? (i := 0) rfl)) all0)
  have Zs20 : n0 ≤ h18.size := Nat.le_trans Z0 K18.1
  have Vn21 : Arv Z h18 t_o k_t t_y (0 : Int32) [] .null := Va18
  obtain ⟨cl24, Ar24, -, S24, M24, -, -⟩ := id Vn21
  have Fq27 : Fld Z h18 l_o "java/util/ArrayList" "size" "I" (.int (0 : Int32)) := (F_s.keep K18 (ninS n1 nin0))
  obtain ⟨T28, X28, e28, st28⟩ := getF X18 hx hZ hown (host := "") (Or.inl (hw _ (List.mem_of_getElem? (i := 92) rfl))) Via.refl e18 Fq27 (g := (mkF m 42 #[.val (.ref l_o), .val (.ref t_o)] [(.ref l_o), (.int (0 : Int32))])) rfl rfl (hb hby own_d10_42)
  obtain ⟨fs, hr, hrun, hended, hW, hsame⟩ := X28.leave (v := some (.ref t_o)) (fun h => by rw [Bd.returns] at h; cases h) (hlocks := BodyLoose.notSynchronized Bd)
  refine ⟨_, _, pre0 _ ?_, hrun, hended, _, _, rfl, ?_, ⟨_, rfl⟩, hW, hsame.mono (by decide) (by decide)⟩
  · show Steps p.tables e below (s₁.setTop (mkF m 0 #[.val (.ref l_o), .val (.ref t_o)] [])) _
    refine XS.aloadN X0.here hx rfl (hb hby own_d10_0) rfl rfl ?_
    show Steps p.tables e below (s₁.setTop (mkF m 1 #[.val (.ref l_o), .val (.ref t_o)] [(.ref t_o)])) _
    refine X0.arraylength hx (by rw [e0]; exact Ar3.1) (State.isArrayOf_alike hZ.alike Ar3.2.1) (g := (mkF m 1 #[.val (.ref l_o), .val (.ref t_o)] [(.ref t_o)])) rfl rfl (hb hby own_d10_1) _ ?_
    rw [len_of S3 M3]
    show Steps p.tables e below (s₁.setTop (mkF m 2 #[.val (.ref l_o), .val (.ref t_o)] [(.int (0 : Int32))])) _
    refine XS.aloadN X0.here hx rfl (hb hby own_d10_2) rfl rfl ?_
    show Steps p.tables e below (s₁.setTop (mkF m 3 #[.val (.ref l_o), .val (.ref t_o)] [(.ref l_o), (.int (0 : Int32))])) _
    refine st6 _ ?_
    show Steps p.tables e below (T6.setTop (mkF m 6 #[.val (.ref l_o), .val (.ref t_o)] [(.int (0 : Int32)), (.int (0 : Int32))])) _
    refine XS.icmpYes X6.here hx rfl (pc0 := 6) (pc' := 25) rfl (hb hby own_d10_6) rfl (flt ((by decide) : ¬ ((0 : Int32) < (0 : Int32)))).2.1 (by decide) (by decide) ?_
    show Steps p.tables e below (T6.setTop (mkF m 25 #[.val (.ref l_o), .val (.ref t_o)] [])) _
    refine XS.aloadN X6.here hx rfl (hb hby own_d10_25) rfl rfl ?_
    show Steps p.tables e below (T6.setTop (mkF m 26 #[.val (.ref l_o), .val (.ref t_o)] [(.ref l_o)])) _
    refine st10 _ ?_
    show Steps p.tables e below (T10.setTop (mkF m 29 #[.val (.ref l_o), .val (.ref t_o)] [(.ref w_d)])) _
    refine XS.iconst X10.here hx rfl (hb hby own_d10_29) ?_
    show Steps p.tables e below (T10.setTop (mkF m 30 #[.val (.ref l_o), .val (.ref t_o)] [(.int (0 : Int32)), (.ref w_d)])) _
    refine XS.aloadN X10.here hx rfl (hb hby own_d10_30) rfl rfl ?_
    show Steps p.tables e below (T10.setTop (mkF m 31 #[.val (.ref l_o), .val (.ref t_o)] [(.ref t_o), (.int (0 : Int32)), (.ref w_d)])) _
    refine XS.iconst X10.here hx rfl (hb hby own_d10_31) ?_
    show Steps p.tables e below (T10.setTop (mkF m 32 #[.val (.ref l_o), .val (.ref t_o)] [(.int (0 : Int32)), (.ref t_o), (.int (0 : Int32)), (.ref w_d)])) _
    refine XS.aloadN X10.here hx rfl (hb hby own_d10_32) rfl rfl ?_
    show Steps p.tables e below (T10.setTop (mkF m 33 #[.val (.ref l_o), .val (.ref t_o)] [(.ref l_o), (.int (0 : Int32)), (.ref t_o), (.int (0 : Int32)), (.ref w_d)])) _
    refine st16 _ ?_
    show Steps p.tables e below (T16.setTop (mkF m 36 #[.val (.ref l_o), .val (.ref t_o)] [(.int (0 : Int32)), (.int (0 : Int32)), (.ref t_o), (.int (0 : Int32)), (.ref w_d)])) _
    refine st18 _ ?_
    show Steps p.tables e below (T18.setTop (mkF m 39 #[.val (.ref l_o), .val (.ref t_o)] [])) _
    refine XS.aloadN X18.here hx rfl (hb hby own_d10_39) rfl rfl ?_
    show Steps p.tables e below (T18.setTop (mkF m 40 #[.val (.ref l_o), .val (.ref t_o)] [(.ref t_o)])) _
    refine X18.arraylength hx (by rw [e18]; exact Ar24.1) (State.isArrayOf_alike hZ.alike Ar24.2.1) (g := (mkF m 40 #[.val (.ref l_o), .val (.ref t_o)] [(.ref t_o)])) rfl rfl (hb hby own_d10_40) _ ?_
    rw [len_of S24 M24]
    show Steps p.tables e below (T18.setTop (mkF m 41 #[.val (.ref l_o), .val (.ref t_o)] [(.int (0 : Int32))])) _
    refine XS.aloadN X18.here hx rfl (hb hby own_d10_41) rfl rfl ?_
    show Steps p.tables e below (T18.setTop (mkF m 42 #[.val (.ref l_o), .val (.ref t_o)] [(.ref l_o), (.int (0 : Int32))])) _
    refine st28 _ ?_
    show Steps p.tables e below (T28.setTop (mkF m 45 #[.val (.ref l_o), .val (.ref t_o)] [(.int (0 : Int32)), (.int (0 : Int32))])) _
    refine XS.icmpYes X28.here hx rfl (pc0 := 45) (pc' := 55) rfl (hb hby own_d10_45) rfl (flt ((by decide) : ¬ ((0 : Int32) < (0 : Int32)))).2.2.2 (by decide) (by decide) ?_
    show Steps p.tables e below (T28.setTop (mkF m 55 #[.val (.ref l_o), .val (.ref t_o)] [])) _
    refine XS.aloadN X28.here hx rfl (hb hby own_d10_55) rfl rfl ?_
    show Steps p.tables e below (T28.setTop (mkF m 56 #[.val (.ref l_o), .val (.ref t_o)] [(.ref t_o)])) _
    jvm_step X28.here [X28.here.top, hx, (hb hby own_d10_56), X28.method', Bd.returns, Value.isRef, FieldType.isReference]
    first | (intro acts; rw [hr _ acts rfl rfl rfl]) | rw [hr _ _ rfl rfl rfl]
    exact Steps.refl _
  · show Qown_ta Z l_o t_o w_d k_d k_t t_y h0 n0 _ T28.heap _
    rw [e28]
    exact ⟨rfl, Nn18, Kc19, Vn21⟩
theorem own_pn4 : plainName "com/example/tymely/tymely/model/Step" = true := by first | (simp [plainName, overriddenIn]; done) | decide +kernel
theorem own_ef_own_s3 (m : MethodId) (a_o : Addr) (l_o : Addr) : entryFrame m #[(.ref a_o), (.int (2 : Int32)), (.ref l_o), .null] 9 = mkF m 0 #[.val (.ref a_o), .val (.int (2 : Int32)), .val (.ref l_o), .val .null, .unset, .unset, .unset, .unset, .unset] [] := by first | (simp [entryFrame, mkF, argsToLocals, Value.category]; done) | rfl
theorem own_pd2 : parseMethodDescriptor "()Ljava/util/Iterator;" = some ⟨[], some (.object "java/util/Iterator")⟩ := by decide +kernel
theorem own_pd3 : parseMethodDescriptor "()Z" = some ⟨[], some .boolean⟩ := by decide +kernel
theorem own_pd4 : parseMethodDescriptor "([Ljava/lang/Object;)[Ljava/lang/Object;" = some ⟨[(.array (.object "java/lang/Object"))], some (.array (.object "java/lang/Object"))⟩ := by decide +kernel
theorem own_d6_0 : decode prog_56_method_2_code 0 = .ok (.aload_n 0, 1) := by decide +kernel
theorem own_d6_1 : decode prog_56_method_2_code 1 = .ok (.invokespecial 7, 3) := by decide +kernel
theorem own_d6_4 : decode prog_56_method_2_code 4 = .ok (.aload_n 0, 1) := by decide +kernel
theorem own_d6_5 : decode prog_56_method_2_code 5 = .ok (.iload_n 1, 1) := by decide +kernel
theorem own_d6_6 : decode prog_56_method_2_code 6 = .ok (.newarray .long, 2) := by decide +kernel
theorem own_d6_8 : decode prog_56_method_2_code 8 = .ok (.putfield 12, 3) := by decide +kernel
theorem own_d6_11 : decode prog_56_method_2_code 11 = .ok (.aload_n 0, 1) := by decide +kernel
theorem own_d6_12 : decode prog_56_method_2_code 12 = .ok (.iload_n 1, 1) := by decide +kernel
theorem own_d6_13 : decode prog_56_method_2_code 13 = .ok (.newarray .boolean, 2) := by decide +kernel
theorem own_d6_15 : decode prog_56_method_2_code 15 = .ok (.putfield 16, 3) := by decide +kernel
theorem own_d6_18 : decode prog_56_method_2_code 18 = .ok (.new 20, 3) := by decide +kernel
theorem own_d6_21 : decode prog_56_method_2_code 21 = .ok (.dup, 1) := by decide +kernel
theorem own_d6_22 : decode prog_56_method_2_code 22 = .ok (.invokespecial 22, 3) := by decide +kernel
theorem own_d6_25 : decode prog_56_method_2_code 25 = .ok (.astore 4, 2) := by decide +kernel
theorem own_d6_27 : decode prog_56_method_2_code 27 = .ok (.new 20, 3) := by decide +kernel
theorem own_d6_30 : decode prog_56_method_2_code 30 = .ok (.dup, 1) := by decide +kernel
theorem own_d6_31 : decode prog_56_method_2_code 31 = .ok (.invokespecial 22, 3) := by decide +kernel
theorem own_d6_34 : decode prog_56_method_2_code 34 = .ok (.astore 5, 2) := by decide +kernel
theorem own_d6_36 : decode prog_56_method_2_code 36 = .ok (.aload_n 2, 1) := by decide +kernel
theorem own_d6_37 : decode prog_56_method_2_code 37 = .ok (.invokeinterface 23 1, 5) := by decide +kernel
theorem own_d6_42 : decode prog_56_method_2_code 42 = .ok (.astore 6, 2) := by decide +kernel
theorem own_d6_44 : decode prog_56_method_2_code 44 = .ok (.aload 6, 2) := by decide +kernel
theorem own_d6_46 : decode prog_56_method_2_code 46 = .ok (.invokeinterface 29 1, 5) := by decide +kernel
theorem own_d6_51 : decode prog_56_method_2_code 51 = .ok (.ifCond .eq 85, 3) := by decide +kernel
theorem own_d6_136 : decode prog_56_method_2_code 136 = .ok (.aload_n 0, 1) := by decide +kernel
theorem own_d6_137 : decode prog_56_method_2_code 137 = .ok (.aload 4, 2) := by decide +kernel
theorem own_d6_139 : decode prog_56_method_2_code 139 = .ok (.iconst 0, 1) := by decide +kernel
theorem own_d6_140 : decode prog_56_method_2_code 140 = .ok (.anewarray 39, 3) := by decide +kernel
theorem own_d6_143 : decode prog_56_method_2_code 143 = .ok (.invokeinterface 67 2, 5) := by decide +kernel
theorem own_d6_148 : decode prog_56_method_2_code 148 = .ok (.checkcast 71, 3) := by decide +kernel
theorem own_d6_151 : decode prog_56_method_2_code 151 = .ok (.putfield 73, 3) := by decide +kernel
theorem own_d6_154 : decode prog_56_method_2_code 154 = .ok (.aload_n 0, 1) := by decide +kernel
theorem own_d6_155 : decode prog_56_method_2_code 155 = .ok (.aload 5, 2) := by decide +kernel
theorem own_d6_157 : decode prog_56_method_2_code 157 = .ok (.iconst 0, 1) := by decide +kernel
theorem own_d6_158 : decode prog_56_method_2_code 158 = .ok (.anewarray 76, 3) := by decide +kernel
theorem own_d6_161 : decode prog_56_method_2_code 161 = .ok (.invokeinterface 67 2, 5) := by decide +kernel
theorem own_d6_166 : decode prog_56_method_2_code 166 = .ok (.checkcast 78, 3) := by decide +kernel
theorem own_d6_169 : decode prog_56_method_2_code 169 = .ok (.putfield 80, 3) := by decide +kernel
theorem own_d6_172 : decode prog_56_method_2_code 172 = .ok (.return_, 1) := by decide +kernel
def Qown_s3 (Z : State) (a_o : Addr) (l_o : Addr) (w_d : Addr) (k_d : ClassId) (h0 : Heap) (n0 : Nat) (v : Option Value) (h : Heap) (L : List Loc) : Prop := ∃ c_o : Addr, ∃ k_c : ClassId, ∃ t_o : Addr, ∃ k_t : ClassId, ∃ m_o : Addr, ∃ k_m : ClassId, v = none ∧ Fr n0 L ∧ h0.size ≤ c_o ∧ h0.size ≤ t_o ∧ h0.size ≤ m_o ∧ Keep h0 h [a_o] ∧ Exa Z h a_o "com/example/tymely/tymely/model/Step" ∧ Fld Z h a_o "com/example/tymely/tymely/model/Step" "countsBefore" "[J" (.ref c_o) ∧ Fld Z h a_o "com/example/tymely/tymely/model/Step" "ticking" "[Z" (.ref t_o) ∧ Fld Z h a_o "com/example/tymely/tymely/model/Step" "memories" "[Lcom/example/tymely/tymely/model/Memory;" (.ref m_o) ∧ Arv Z h c_o k_c .long (2 : Int32) [(.long (0 : Int64)), (.long (0 : Int64))] (.long (0 : Int64)) ∧ Arv Z h t_o k_t .boolean (2 : Int32) [(.int (0 : Int32)), (.int (0 : Int32))] (.int (0 : Int32)) ∧ Arv Z h m_o k_m (.object "com/example/tymely/tymely/model/Memory") (0 : Int32) [] .null ∧ c_o ≠ t_o ∧ c_o ≠ m_o ∧ t_o ≠ m_o
set_option maxRecDepth 65536 in
set_option maxHeartbeats 40000000 in
theorem own_s3 (l : Launch) (Z : State) (a0 : Array Value) (hw : ∀ d ∈ tables_1, d.before a0 Z = true) (ws : List Jvm.Cond) (a_o : Addr) (l_o : Addr) (w_d : Addr) (k_d : ClassId) (h0 : Heap) (n0 : Nat) (Z0 : n0 ≤ h0.size) (O0 : Old Z n0 h0) (S_d : Sta Z Z.heap "java/util/ArrayList" "DEFAULTCAPACITY_EMPTY_ELEMENTDATA" "[Ljava/lang/Object;" (.ref w_d)) (V_d : Arv Z h0 w_d k_d (.object "java/lang/Object") (0 : Int32) [] .null) (Eo : Exa Z h0 a_o "com/example/tymely/tymely/model/Step") (F_countsBefore : Fld Z h0 a_o "com/example/tymely/tymely/model/Step" "countsBefore" "[J" .null) (F_ticking : Fld Z h0 a_o "com/example/tymely/tymely/model/Step" "ticking" "[Z" .null) (F_remembering : Fld Z h0 a_o "com/example/tymely/tymely/model/Step" "remembering" "[Lcom/example/tymely/tymely/model/Constraint;" .null) (F_memories : Fld Z h0 a_o "com/example/tymely/tymely/model/Step" "memories" "[Lcom/example/tymely/tymely/model/Memory;" .null) (El : Exa Z h0 l_o "java/util/ArrayList") (Fl_m : Fld Z h0 l_o "java/util/AbstractList" "modCount" "I" (.int (0 : Int32))) (Fl_s : Fld Z h0 l_o "java/util/ArrayList" "size" "I" (.int (0 : Int32))) (ga : n0 ≤ a_o) (n1 : l_o ≠ a_o) (n2 : w_d ≠ a_o) :
    MetFree l (⟨"com/example/tymely/tymely/model/Step", "<init>", "(ILjava/util/List;Ljava/util/Random;)V"⟩ : MethodName) (head1 (Jvm.Cond.code (⟨"com/example/tymely/tymely/model/Step", "<init>", "(ILjava/util/List;Ljava/util/Random;)V"⟩ : MethodName) prog_56_method_2_code 9 none :: ws) ({ frames := 4, cells := 7, slots := 14, locals := 49 } : Room)) (fun a U => a = #[(.ref a_o), (.int (2 : Int32)), (.ref l_o), .null] ∧ Z.Warmed39 U.vm ∧ U.heap = h0) (fun _ _ _ _ _ => True) (fun _ U o U' => ∃ v L, o = .returned v ∧ Qown_s3 Z a_o l_o w_d k_d h0 n0 v U'.heap L ∧ FrameEnd U o U' L ({ frames := 4, cells := 7, slots := 14, locals := 49 } : Room).cells ({ frames := 4, cells := 7, slots := 14, locals := 49 } : Room).slots) := by
  refine MetFree.of_bodySF (plainFor_of_name own_pn4) hisR ?_
  intro p e s m args below meth c s₁ Bd hml0 hP hK
  obtain ⟨rfl, hZ, hh⟩ := hP
  have hx := Bd.exec
  have hby := Bd.bytes
  have hml : c.maxLocals = 9 := hml0
  have hown : s.vm.findClass "com/example/tymely/tymely/model/Step" = some m.cls := findClass_of_methodNamed Bd.named
  have hnm := (name_of_methodNamed Bd.named Bd.method).1
  have X0 : Stand p l e ({ frames := 4, cells := 7, slots := 14, locals := 49 } : Room) s m #[(.ref a_o), (.int (2 : Int32)), (.ref l_o), .null] below meth c s₁ [] 0 0 := Stand.of_body Bd
  have e0 : s₁.heap = h0 := by rw [← hh, Bd.state]; rfl
  have N0 := Fr.nil n0
  have pre0 : ∀ t, Steps p.tables e below (s₁.setTop (mkF m 0 #[.val (.ref a_o), .val (.int (2 : Int32)), .val (.ref l_o), .val .null, .unset, .unset, .unset, .unset, .unset] [])) t → Steps p.tables e below (s₁.setTop (entryFrame m #[(.ref a_o), (.int (2 : Int32)), (.ref l_o), .null] 9)) t := fun t k => castTop (own_ef_own_s3 m a_o l_o) k
  obtain ⟨T3, X3, e3, st3⟩ := initO X0 hx hZ hown (hw _ (List.mem_of_getElem? (i := 35) rfl)) (hw _ (List.mem_of_getElem? (i := 22) rfl)) (hw _ (List.mem_of_getElem? (i := 23) rfl)) e0 (g := (mkF m 1 #[.val (.ref a_o), .val (.int (2 : Int32)), .val (.ref l_o), .val .null, .unset, .unset, .unset, .unset, .unset] [(.ref a_o)])) rfl (by rw [hml]; rfl) rfl (hb hby own_d6_1) (by decide) (W := 0) (by show 2 * 0 + _ ≤ _; exact Nat.le_of_eq rfl) (by decide)
  obtain ⟨T7, h7, k7, X7, e7, E7, A7, Y7, st7⟩ := newPE X3 hx hZ (hw _ (List.mem_of_getElem? (i := 36) rfl)) e3 (g := (mkF m 6 #[.val (.ref a_o), .val (.int (2 : Int32)), .val (.ref l_o), .val .null, .unset, .unset, .unset, .unset, .unset] [(.int (2 : Int32)), (.ref a_o)])) rfl (hb hby own_d6_6) rfl (by decide) (cap := 2) (by decide) (by decide) (by decide) (by decide) (ad := "[J") (by first | rfl | decide)
  obtain ⟨b7, g7⟩ : ∃ z, z = h0.size := ⟨_, rfl⟩
  rw [← g7] at A7 Y7 st7
  have Ne8 : w_d ≠ b7 := Nat.ne_of_lt (Nat.lt_of_lt_of_le V_d.lt (Nat.le_of_eq g7.symm))
  have Ne9 : a_o ≠ b7 := Nat.ne_of_lt (Nat.lt_of_lt_of_le Eo.lt (Nat.le_of_eq g7.symm))
  have Ne10 : l_o ≠ b7 := Nat.ne_of_lt (Nat.lt_of_lt_of_le El.lt (Nat.le_of_eq g7.symm))
  have Ge11 : n0 ≤ b7 := Nat.le_trans Z0 (Nat.le_of_eq g7.symm)
  have Sz12 : h0.size ≤ b7 := Nat.le_trans (Keep.refl h0 [a_o]).1 (Nat.le_of_eq g7.symm)
  have Kc13 : Keep h0 h7 [a_o] := (Keep.refl h0 [a_o]).ext E7
  have Zs14 : n0 ≤ h7.size := (Nat.le_trans Z0 E7.1)
  have V7 : Arv Z h7 b7 k7 .long (2 : Int32) [(.long (0 : Int64)), (.long (0 : Int64))] (.long (0 : Int64)) := (Arv.new A7 (by decide)).pad (pad_rep [] (.long (0 : Int64)) 2)
  have Fq16 : Exa Z h7 a_o "com/example/tymely/tymely/model/Step" := (Eo.ext E7)
  have Fq17 : Fld Z h7 a_o "com/example/tymely/tymely/model/Step" "countsBefore" "[J" .null := (F_countsBefore.ext E7)
  obtain ⟨T18, h18, X18, e18, W18, st18⟩ := putF X7 hx hZ hown (host := "") (Or.inl (hw _ (List.mem_of_getElem? (i := 37) rfl))) Via.refl e7 Fq17 Fq16 (Or.inr ⟨(hw _ (List.mem_of_getElem? (i := 38) rfl)), rfl, hnm⟩) (hw _ (List.mem_of_getElem? (i := 1) rfl)) (ty := (.array .long)) (by decide) rfl rfl (g := (mkF m 8 #[.val (.ref a_o), .val (.int (2 : Int32)), .val (.ref l_o), .val .null, .unset, .unset, .unset, .unset, .unset] [(.ref b7), (.ref a_o)])) rfl rfl (hb hby own_d6_8)
  have Kc19 : Keep h0 h18 [a_o] := Kc13.wr W18 (Or.inl (List.mem_of_getElem? (i := 0) rfl))
  have Zs20 : n0 ≤ h18.size := Nat.le_trans Zs14 (Keep.of_wr W18).1
  have N21 := Fr.snoc X18 N0 ga
  have Fw18 : Fld Z h18 a_o "com/example/tymely/tymely/model/Step" "countsBefore" "[J" (.ref b7) := Fq17.same W18
  obtain ⟨T25, h25, k25, X25, e25, E25, A25, Y25, st25⟩ := newPE X18 hx hZ (hw _ (List.mem_of_getElem? (i := 39) rfl)) e18 (g := (mkF m 13 #[.val (.ref a_o), .val (.int (2 : Int32)), .val (.ref l_o), .val .null, .unset, .unset, .unset, .unset, .unset] [(.int (2 : Int32)), (.ref a_o)])) rfl (hb hby own_d6_13) rfl (by decide) (cap := 2) (by decide) (by decide) (by decide) (by decide) (ad := "[Z") (by first | rfl | decide)
  obtain ⟨b25, g25⟩ : ∃ z, z = h18.size := ⟨_, rfl⟩
  rw [← g25] at A25 Y25 st25
  have Fq27 : Arv Z h18 w_d k_d (.object "java/lang/Object") (0 : Int32) [] .null := ((V_d.ext E7).other W18 n2)
  have Ne26 : w_d ≠ b25 := Nat.ne_of_lt (Nat.lt_of_lt_of_le Fq27.lt (Nat.le_of_eq g25.symm))
  have Fq29 : Exa Z h18 a_o "com/example/tymely/tymely/model/Step" := (Fq16.wr W18)
  have Ne28 : a_o ≠ b25 := Nat.ne_of_lt (Nat.lt_of_lt_of_le Fq29.lt (Nat.le_of_eq g25.symm))
  have Fq31 : Exa Z h18 l_o "java/util/ArrayList" := ((El.ext E7).wr W18)
  have Ne30 : l_o ≠ b25 := Nat.ne_of_lt (Nat.lt_of_lt_of_le Fq31.lt (Nat.le_of_eq g25.symm))
  have Fq33 : Exa Z h18 b7 "[J" := (Y7.wr W18)
  have Ne32 : b7 ≠ b25 := Nat.ne_of_lt (Nat.lt_of_lt_of_le Fq33.lt (Nat.le_of_eq g25.symm))
  have Ge34 : n0 ≤ b25 := Nat.le_trans Zs20 (Nat.le_of_eq g25.symm)
  have Sz35 : h0.size ≤ b25 := Nat.le_trans Kc19.1 (Nat.le_of_eq g25.symm)
  have Kc36 : Keep h0 h25 [a_o] := Kc19.ext E25
  have Zs37 : n0 ≤ h25.size := (Nat.le_trans Zs20 E25.1)
  have V25 : Arv Z h25 b25 k25 .boolean (2 : Int32) [(.int (0 : Int32)), (.int (0 : Int32))] (.int (0 : Int32)) := (Arv.new A25 (by decide)).pad (pad_rep [] (.int (0 : Int32)) 2)
  have Fq39 : Exa Z h25 a_o "com/example/tymely/tymely/model/Step" := (Fq29.ext E25)
  have Fq40 : Fld Z h25 a_o "com/example/tymely/tymely/model/Step" "ticking" "[Z" .null := (((F_ticking.ext E7).other W18 (Or.inr (slot_ne (Or.inr (hw _ (List.mem_of_getElem? (i := 41) rfl))) (Or.inr (hw _ (List.mem_of_getElem? (i := 38) rfl))) (by decide) (t := (.array .boolean)) (t' := (.array .long)) (by decide) (by decide)))).ext E25)
  obtain ⟨T41, h41, X41, e41, W41, st41⟩ := putF X25 hx hZ hown (host := "") (Or.inl (hw _ (List.mem_of_getElem? (i := 40) rfl))) Via.refl e25 Fq40 Fq39 (Or.inr ⟨(hw _ (List.mem_of_getElem? (i := 41) rfl)), rfl, hnm⟩) (hw _ (List.mem_of_getElem? (i := 1) rfl)) (ty := (.array .boolean)) (by decide) rfl rfl (g := (mkF m 15 #[.val (.ref a_o), .val (.int (2 : Int32)), .val (.ref l_o), .val .null, .unset, .unset, .unset, .unset, .unset] [(.ref b25), (.ref a_o)])) rfl rfl (hb hby own_d6_15)
  have Kc42 : Keep h0 h41 [a_o] := Kc36.wr W41 (Or.inl (List.mem_of_getElem? (i := 0) rfl))
  have Zs43 : n0 ≤ h41.size := Nat.le_trans Zs37 (Keep.of_wr W41).1
  have N44 := Fr.snoc X41 N21 ga
  have Fw41 : Fld Z h41 a_o "com/example/tymely/tymely/model/Step" "ticking" "[Z" (.ref b25) := Fq40.same W41
  obtain ⟨T46, h46, X46, e46, E46, A46, D46, -, st46⟩ := newO X41 hx hZ hown (hw _ (List.mem_of_getElem? (i := 42) rfl)) (hw _ (List.mem_of_getElem? (i := 4) rfl)) (hw _ (List.mem_of_getElem? (i := 5) rfl)) e41 (g := (mkF m 18 #[.val (.ref a_o), .val (.int (2 : Int32)), .val (.ref l_o), .val .null, .unset, .unset, .unset, .unset, .unset] [])) rfl (hb hby own_d6_18) (by decide) (by decide)
  obtain ⟨b46, g46⟩ : ∃ z, z = h41.size := ⟨_, rfl⟩
  rw [← g46] at A46 D46 st46
  have Fq48 : Arv Z h41 w_d k_d (.object "java/lang/Object") (0 : Int32) [] .null := ((Fq27.ext E25).other W41 n2)
  have Ne47 : w_d ≠ b46 := Nat.ne_of_lt (Nat.lt_of_lt_of_le Fq48.lt (Nat.le_of_eq g46.symm))
  have Fq50 : Exa Z h41 a_o "com/example/tymely/tymely/model/Step" := (Fq39.wr W41)
  have Ne49 : a_o ≠ b46 := Nat.ne_of_lt (Nat.lt_of_lt_of_le Fq50.lt (Nat.le_of_eq g46.symm))
  have Fq52 : Exa Z h41 l_o "java/util/ArrayList" := ((Fq31.ext E25).wr W41)
  have Ne51 : l_o ≠ b46 := Nat.ne_of_lt (Nat.lt_of_lt_of_le Fq52.lt (Nat.le_of_eq g46.symm))
  have Fq54 : Exa Z h41 b7 "[J" := ((Fq33.ext E25).wr W41)
  have Ne53 : b7 ≠ b46 := Nat.ne_of_lt (Nat.lt_of_lt_of_le Fq54.lt (Nat.le_of_eq g46.symm))
  have Fq56 : Exa Z h41 b25 "[Z" := (Y25.wr W41)
  have Ne55 : b25 ≠ b46 := Nat.ne_of_lt (Nat.lt_of_lt_of_le Fq56.lt (Nat.le_of_eq g46.symm))
  have Ge57 : n0 ≤ b46 := Nat.le_trans Zs43 (Nat.le_of_eq g46.symm)
  have Sz58 : h0.size ≤ b46 := Nat.le_trans Kc42.1 (Nat.le_of_eq g46.symm)
  have Kc59 : Keep h0 h46 [a_o] := Kc42.ext E46
  have Zs60 : n0 ≤ h46.size := (Nat.le_trans Zs43 E46.1)
  have F46_modCount : Fld Z h46 b46 "java/util/AbstractList" "modCount" "I" (.int (0 : Int32)) := D46 (Or.inl (hw _ (List.mem_of_getElem? (i := 25) rfl))) (ty := .int) (by decide)
  have F46_elementData : Fld Z h46 b46 "java/util/ArrayList" "elementData" "[Ljava/lang/Object;" .null := D46 (Or.inl (hw _ (List.mem_of_getElem? (i := 28) rfl))) (ty := (.array (.object "java/lang/Object"))) (by decide)
  have F46_size : Fld Z h46 b46 "java/util/ArrayList" "size" "I" (.int (0 : Int32)) := D46 (Or.inl (hw _ (List.mem_of_getElem? (i := 81) rfl))) (ty := .int) (by decide)
  have Fq64 : Old Z n0 h46 := (((((O0.ext E7).wr W18 ga).ext E25).wr W41 ga).ext E46)
  obtain ⟨_, _, ⟨T63, L63, k63, n63⟩, -, X63, ⟨Lc63, hQ63, l63, y63, z63⟩, st63⟩ := X46.specialBack hx (y := (⟨"java/util/ArrayList", "<init>", "()V"⟩ : MethodName)) rfl hown (mvT hZ (hw _ (List.mem_of_getElem? (i := 43) rfl))) (mvT hZ (hw _ (List.mem_of_getElem? (i := 7) rfl))) (mvT hZ (hw _ (List.mem_of_getElem? (i := 8) rfl))) (by decide) (backOf (W := 1) (own_li l Z a0 hw [] b46 w_d h46 n0 Zs60 Fq64 S_d A46 F46_modCount F46_elementData F46_size Ge57) hZ (hw _ (List.mem_of_getElem? (i := 8) rfl)) (hw _ (List.mem_of_getElem? (i := 5) rfl)) (by decide) (by decide)) (g := (mkF m 22 #[.val (.ref a_o), .val (.int (2 : Int32)), .val (.ref l_o), .val .null, .unset, .unset, .unset, .unset, .unset] [(.ref b46), (.ref b46)])) rfl (by rw [hml]; rfl) (Steps.refl _) (a := b46) (argsL := []) (rest := [(.ref b46)]) (lenOf own_pd0 rfl) rfl (by show 2 * 0 + _ ≤ _; exact Nat.le_of_eq rfl) (hb hby own_d6_22) (fun _ _ => ⟨rfl, e46, (by decide : 3 + 0 ≤ _), (by decide : 7 + 0 ≤ _)⟩)
  dsimp only [Pt.U, Pt.locs, Pt.cells, Pt.slots] at X63 l63 y63 z63 st63 hQ63
  subst l63 y63 z63
  obtain ⟨rfl, Nq63, K63, Pf63_0, Pf63_1, Pf63_2, Pf63_3⟩ := hQ63
  have N65 := Fr.app N44 Nq63
  have Kc66 : Keep h0 T63.heap [a_o] := Kc59.trans K63 (allS (Or.inr Sz58) all0)
  have Zs67 : n0 ≤ T63.heap.size := Nat.le_trans Zs60 K63.1
  obtain ⟨T70, h70, X70, e70, E70, A70, D70, -, st70⟩ := newO X63 hx hZ hown (hw _ (List.mem_of_getElem? (i := 42) rfl)) (hw _ (List.mem_of_getElem? (i := 4) rfl)) (hw _ (List.mem_of_getElem? (i := 5) rfl)) rfl (g := (mkF m 27 #[.val (.ref a_o), .val (.int (2 : Int32)), .val (.ref l_o), .val .null, .val (.ref b46), .unset, .unset, .unset, .unset] [])) rfl (hb hby own_d6_27) (by decide) (by decide)
  obtain ⟨b70, g70⟩ : ∃ z, z = T63.heap.size := ⟨_, rfl⟩
  rw [← g70] at A70 D70 st70
  have Fq72 : Arv Z T63.heap w_d k_d (.object "java/lang/Object") (0 : Int32) [] .null := ((Fq48.ext E46).keep K63 (ninS Ne47 nin0))
  have Ne71 : w_d ≠ b70 := Nat.ne_of_lt (Nat.lt_of_lt_of_le Fq72.lt (Nat.le_of_eq g70.symm))
  have Fq74 : Exa Z T63.heap a_o "com/example/tymely/tymely/model/Step" := ((Fq50.ext E46).keep K63)
  have Ne73 : a_o ≠ b70 := Nat.ne_of_lt (Nat.lt_of_lt_of_le Fq74.lt (Nat.le_of_eq g70.symm))
  have Fq76 : Exa Z T63.heap l_o "java/util/ArrayList" := ((Fq52.ext E46).keep K63)
  have Ne75 : l_o ≠ b70 := Nat.ne_of_lt (Nat.lt_of_lt_of_le Fq76.lt (Nat.le_of_eq g70.symm))
  have Fq78 : Exa Z T63.heap b7 "[J" := ((Fq54.ext E46).keep K63)
  have Ne77 : b7 ≠ b70 := Nat.ne_of_lt (Nat.lt_of_lt_of_le Fq78.lt (Nat.le_of_eq g70.symm))
  have Fq80 : Exa Z T63.heap b25 "[Z" := ((Fq56.ext E46).keep K63)
  have Ne79 : b25 ≠ b70 := Nat.ne_of_lt (Nat.lt_of_lt_of_le Fq80.lt (Nat.le_of_eq g70.symm))
  have Ne81 : b46 ≠ b70 := Nat.ne_of_lt (Nat.lt_of_lt_of_le Pf63_0.lt (Nat.le_of_eq g70.symm))
  have Ge82 : n0 ≤ b70 := Nat.le_trans Zs67 (Nat.le_of_eq g70.symm)
  have Sz83 : h0.size ≤ b70 := Nat.le_trans Kc66.1 (Nat.le_of_eq g70.symm)
  have Kc84 : Keep h0 h70 [a_o] := Kc66.ext E70
  have Zs85 : n0 ≤ h70.size := (Nat.le_trans Zs67 E70.1)
  have F70_modCount : Fld Z h70 b70 "java/util/AbstractList" "modCount" "I" (.int (0 : Int32)) := D70 (Or.inl (hw _ (List.mem_of_getElem? (i := 25) rfl))) (ty := .int) (by decide)
  have F70_elementData : Fld Z h70 b70 "java/util/ArrayList" "elementData" "[Ljava/lang/Object;" .null := D70 (Or.inl (hw _ (List.mem_of_getElem? (i := 28) rfl))) (ty := (.array (.object "java/lang/Object"))) (by decide)
  have F70_size : Fld Z h70 b70 "java/util/ArrayList" "size" "I" (.int (0 : Int32)) := D70 (Or.inl (hw _ (List.mem_of_getElem? (i := 81) rfl))) (ty := .int) (by decide)
  have Fq89 : Old Z n0 h70 := ((Fq64.keep K63 (allS Ge57 all0)).ext E70)
  obtain ⟨_, _, ⟨T88, L88, k88, n88⟩, -, X88, ⟨Lc88, hQ88, l88, y88, z88⟩, st88⟩ := X70.specialBack hx (y := (⟨"java/util/ArrayList", "<init>", "()V"⟩ : MethodName)) rfl hown (mvT hZ (hw _ (List.mem_of_getElem? (i := 43) rfl))) (mvT hZ (hw _ (List.mem_of_getElem? (i := 7) rfl))) (mvT hZ (hw _ (List.mem_of_getElem? (i := 8) rfl))) (by decide) (backOf (W := 1) (own_li l Z a0 hw [] b70 w_d h70 n0 Zs85 Fq89 S_d A70 F70_modCount F70_elementData F70_size Ge82) hZ (hw _ (List.mem_of_getElem? (i := 8) rfl)) (hw _ (List.mem_of_getElem? (i := 5) rfl)) (by decide) (by decide)) (g := (mkF m 31 #[.val (.ref a_o), .val (.int (2 : Int32)), .val (.ref l_o), .val .null, .val (.ref b46), .unset, .unset, .unset, .unset] [(.ref b70), (.ref b70)])) rfl (by rw [hml]; rfl) (Steps.refl _) (a := b70) (argsL := []) (rest := [(.ref b70)]) (lenOf own_pd0 rfl) rfl (by show 2 * 0 + _ ≤ _; exact Nat.le_of_eq rfl) (hb hby own_d6_31) (fun _ _ => ⟨rfl, e70, (by decide : 4 + 0 ≤ _), (by decide : 10 + 0 ≤ _)⟩)
  dsimp only [Pt.U, Pt.locs, Pt.cells, Pt.slots] at X88 l88 y88 z88 st88 hQ88
  subst l88 y88 z88
  obtain ⟨rfl, Nq88, K88, Pf88_0, Pf88_1, Pf88_2, Pf88_3⟩ := hQ88
  have N90 := Fr.app N65 Nq88
  have Kc91 : Keep h0 T88.heap [a_o] := Kc84.trans K88 (allS (Or.inr Sz83) all0)
  have Zs92 : n0 ≤ T88.heap.size := Nat.le_trans Zs85 K88.1
  have Fq97 : Fld Z T88.heap l_o "java/util/AbstractList" "modCount" "I" (.int (0 : Int32)) := ((((((((Fl_m.ext E7).other W18 (Or.inl n1)).ext E25).other W41 (Or.inl n1)).ext E46).keep K63 (ninS Ne51 nin0)).ext E70).keep K88 (ninS Ne75 nin0))
  have Fq98 : Exa Z T88.heap l_o "java/util/ArrayList" := ((Fq76.ext E70).keep K88)
  obtain ⟨cq96, kq96, q96a, q96b, q96c⟩ := isOf hZ rfl Fq98
  obtain ⟨_, _, ⟨T96, L96, k96, n96⟩, -, X96, ⟨Lc96, hQ96, l96, y96, z96⟩, st96⟩ := X88.interfaceBack hx (xi := (⟨"java/util/List", "iterator", "()Ljava/util/Iterator;"⟩ : MethodName)) (y := (⟨"java/util/ArrayList", "iterator", "()Ljava/util/Iterator;"⟩ : MethodName)) hown (mvT hZ (hw _ (List.mem_of_getElem? (i := 44) rfl))) (mvT hZ (hw _ (List.mem_of_getElem? (i := 45) rfl))) (mvT hZ (hw _ (List.mem_of_getElem? (i := 46) rfl))) (mvT hZ (hw _ (List.mem_of_getElem? (i := 47) rfl))) (mvT hZ (hw _ (List.mem_of_getElem? (i := 48) rfl))) (mvT hZ (hw _ (List.mem_of_getElem? (i := 49) rfl))) (mvT hZ (hw _ (List.mem_of_getElem? (i := 50) rfl))) (mvT hZ (hw _ (List.mem_of_getElem? (i := 51) rfl))) (by decide) (backOf (W := 0) (own_it l Z a0 hw [] l_o T88.heap n0 Zs92 Fq97) hZ (hw _ (List.mem_of_getElem? (i := 52) rfl)) (hw _ (List.mem_of_getElem? (i := 5) rfl)) (by decide) (by decide)) q96a q96b q96c (g := (mkF m 37 #[.val (.ref a_o), .val (.int (2 : Int32)), .val (.ref l_o), .val .null, .val (.ref b46), .val (.ref b70), .unset, .unset, .unset] [(.ref l_o)])) rfl (by rw [hml]; rfl) (Steps.refl _) (argsL := []) (rest := []) (lenOf own_pd2 rfl) rfl (by show 2 * 0 + _ ≤ _; exact Nat.le_of_eq rfl) (hb hby own_d6_37) (fun _ _ => ⟨rfl, rfl, (by decide : 4 + 1 ≤ _), (by decide : 10 + 4 ≤ _)⟩)
  dsimp only [Pt.U, Pt.locs, Pt.cells, Pt.slots] at X96 l96 y96 z96 st96 hQ96
  subst l96 y96 z96
  obtain ⟨r_o_96, rfl, Nq96, sz96_r_o, K96, Pf96_0, Pf96_1, Pf96_2⟩ := hQ96
  have N99 := Fr.app N90 Nq96
  have Fq101 : Arv Z T88.heap w_d k_d (.object "java/lang/Object") (0 : Int32) [] .null := ((Fq72.ext E70).keep K88 (ninS Ne71 nin0))
  have Ne100 : w_d ≠ r_o_96 := Nat.ne_of_lt (Nat.lt_of_lt_of_le Fq101.lt sz96_r_o)
  have Fq103 : Exa Z T88.heap a_o "com/example/tymely/tymely/model/Step" := ((Fq74.ext E70).keep K88)
  have Ne102 : a_o ≠ r_o_96 := Nat.ne_of_lt (Nat.lt_of_lt_of_le Fq103.lt sz96_r_o)
  have Ne104 : l_o ≠ r_o_96 := Nat.ne_of_lt (Nat.lt_of_lt_of_le Fq98.lt sz96_r_o)
  have Fq106 : Exa Z T88.heap b7 "[J" := ((Fq78.ext E70).keep K88)
  have Ne105 : b7 ≠ r_o_96 := Nat.ne_of_lt (Nat.lt_of_lt_of_le Fq106.lt sz96_r_o)
  have Fq108 : Exa Z T88.heap b25 "[Z" := ((Fq80.ext E70).keep K88)
  have Ne107 : b25 ≠ r_o_96 := Nat.ne_of_lt (Nat.lt_of_lt_of_le Fq108.lt sz96_r_o)
  have Fq110 : Exa Z T88.heap b46 "java/util/ArrayList" := ((Pf63_0.ext E70).keep K88)
  have Ne109 : b46 ≠ r_o_96 := Nat.ne_of_lt (Nat.lt_of_lt_of_le Fq110.lt sz96_r_o)
  have Ne111 : b70 ≠ r_o_96 := Nat.ne_of_lt (Nat.lt_of_lt_of_le Pf88_0.lt sz96_r_o)
  have Ge112 : n0 ≤ r_o_96 := Nat.le_trans Zs92 sz96_r_o
  have Sz113 : h0.size ≤ r_o_96 := Nat.le_trans Kc91.1 sz96_r_o
  have Kc114 : Keep h0 T96.heap [a_o] := Kc91.trans K96 all0
  have Zs115 : n0 ≤ T96.heap.size := Nat.le_trans Zs92 K96.1
  have Fq120 : Fld Z T96.heap l_o "java/util/ArrayList" "size" "I" (.int (0 : Int32)) := (((((((((Fl_s.ext E7).other W18 (Or.inl n1)).ext E25).other W41 (Or.inl n1)).ext E46).keep K63 (ninS Ne51 nin0)).ext E70).keep K88 (ninS Ne75 nin0)).keep K96 nin0)
  obtain ⟨cq119, kq119, q119a, q119b, q119c⟩ := isOf hZ rfl Pf96_0
  obtain ⟨_, _, ⟨T119, L119, k119, n119⟩, -, X119, ⟨Lc119, hQ119, l119, y119, z119⟩, st119⟩ := X96.interfaceBack hx (xi := (⟨"java/util/Iterator", "hasNext", "()Z"⟩ : MethodName)) (y := (⟨"java/util/ArrayList$Itr", "hasNext", "()Z"⟩ : MethodName)) hown (mvT hZ (hw _ (List.mem_of_getElem? (i := 69) rfl))) (mvT hZ (hw _ (List.mem_of_getElem? (i := 70) rfl))) (mvT hZ (hw _ (List.mem_of_getElem? (i := 71) rfl))) (mvT hZ (hw _ (List.mem_of_getElem? (i := 72) rfl))) (mvT hZ (hw _ (List.mem_of_getElem? (i := 73) rfl))) (mvT hZ (hw _ (List.mem_of_getElem? (i := 74) rfl))) (mvT hZ (hw _ (List.mem_of_getElem? (i := 75) rfl))) (mvT hZ (hw _ (List.mem_of_getElem? (i := 76) rfl))) (by decide) (backOf (W := 0) (own_hn l Z a0 hw [] r_o_96 l_o T96.heap n0 Zs115 Pf96_1 Pf96_2 Fq120) hZ (hw _ (List.mem_of_getElem? (i := 77) rfl)) (hw _ (List.mem_of_getElem? (i := 55) rfl)) (by decide) (by decide)) q119a q119b q119c (g := (mkF m 46 #[.val (.ref a_o), .val (.int (2 : Int32)), .val (.ref l_o), .val .null, .val (.ref b46), .val (.ref b70), .val (.ref r_o_96), .unset, .unset] [(.ref r_o_96)])) rfl (by rw [hml]; rfl) (Steps.refl _) (argsL := []) (rest := []) (lenOf own_pd3 rfl) rfl (by show 2 * 0 + _ ≤ _; exact Nat.le_of_eq rfl) (hb hby own_d6_46) (fun _ _ => ⟨rfl, rfl, (by decide : 5 + 0 ≤ _), (by decide : 14 + 0 ≤ _)⟩)
  dsimp only [Pt.U, Pt.locs, Pt.cells, Pt.slots] at X119 l119 y119 z119 st119 hQ119
  subst l119 y119 z119
  obtain ⟨rfl, Nq119, eh119⟩ := hQ119
  have N121 := Fr.app N99 Nq119
  obtain ⟨T127, h127, k127, X127, e127, E127, A127, Y127, O127, st127⟩ := newRE X119 hx hZ hown (hw _ (List.mem_of_getElem? (i := 82) rfl)) (hw _ (List.mem_of_getElem? (i := 83) rfl)) eh119 (g := (mkF m 140 #[.val (.ref a_o), .val (.int (2 : Int32)), .val (.ref l_o), .val .null, .val (.ref b46), .val (.ref b70), .val (.ref r_o_96), .unset, .unset] [(.int (0 : Int32)), (.ref b46), (.ref a_o)])) rfl (hb hby own_d6_140) rfl (by decide) (cap := 0) (by decide) (by decide) (by decide) (by decide) (ad := "[Lcom/example/tymely/tymely/model/Constraint;") (by first | rfl | decide)
  obtain ⟨b127, g127⟩ : ∃ z, z = T96.heap.size := ⟨_, rfl⟩
  rw [← g127] at A127 Y127 st127
  have Fq129 : Arv Z T96.heap w_d k_d (.object "java/lang/Object") (0 : Int32) [] .null := (Fq101.keep K96 nin0)
  have Ne128 : w_d ≠ b127 := Nat.ne_of_lt (Nat.lt_of_lt_of_le Fq129.lt (Nat.le_of_eq g127.symm))
  have Fq131 : Exa Z T96.heap a_o "com/example/tymely/tymely/model/Step" := (Fq103.keep K96)
  have Ne130 : a_o ≠ b127 := Nat.ne_of_lt (Nat.lt_of_lt_of_le Fq131.lt (Nat.le_of_eq g127.symm))
  have Fq133 : Exa Z T96.heap l_o "java/util/ArrayList" := (Fq98.keep K96)
  have Ne132 : l_o ≠ b127 := Nat.ne_of_lt (Nat.lt_of_lt_of_le Fq133.lt (Nat.le_of_eq g127.symm))
  have Fq135 : Exa Z T96.heap b7 "[J" := (Fq106.keep K96)
  have Ne134 : b7 ≠ b127 := Nat.ne_of_lt (Nat.lt_of_lt_of_le Fq135.lt (Nat.le_of_eq g127.symm))
  have Fq137 : Exa Z T96.heap b25 "[Z" := (Fq108.keep K96)
  have Ne136 : b25 ≠ b127 := Nat.ne_of_lt (Nat.lt_of_lt_of_le Fq137.lt (Nat.le_of_eq g127.symm))
  have Fq139 : Exa Z T96.heap b46 "java/util/ArrayList" := (Fq110.keep K96)
  have Ne138 : b46 ≠ b127 := Nat.ne_of_lt (Nat.lt_of_lt_of_le Fq139.lt (Nat.le_of_eq g127.symm))
  have Fq141 : Exa Z T96.heap b70 "java/util/ArrayList" := (Pf88_0.keep K96)
  have Ne140 : b70 ≠ b127 := Nat.ne_of_lt (Nat.lt_of_lt_of_le Fq141.lt (Nat.le_of_eq g127.symm))
  have Ne142 : r_o_96 ≠ b127 := Nat.ne_of_lt (Nat.lt_of_lt_of_le Pf96_0.lt (Nat.le_of_eq g127.symm))
  have Ge143 : n0 ≤ b127 := Nat.le_trans Zs115 (Nat.le_of_eq g127.symm)
  have Sz144 : h0.size ≤ b127 := Nat.le_trans Kc114.1 (Nat.le_of_eq g127.symm)
  have Kc145 : Keep h0 h127 [a_o] := Kc114.ext E127
  have Zs146 : n0 ≤ h127.size := (Nat.le_trans Zs115 E127.1)
  have V127 : Arv Z h127 b127 k127 (.object "com/example/tymely/tymely/model/Constraint") (0 : Int32) [] .null := (Arv.new A127 (by decide)).pad (pad_rep [] .null 0)
  have Fq149 : Fld Z h127 b46 "java/util/ArrayList" "size" "I" (.int (0 : Int32)) := ((((Pf63_3.ext E70).keep K88 (ninS Ne81 nin0)).keep K96 nin0).ext E127)
  have Fq150 : Fld Z h127 b46 "java/util/ArrayList" "elementData" "[Ljava/lang/Object;" (.ref w_d) := ((((Pf63_2.ext E70).keep K88 (ninS Ne81 nin0)).keep K96 nin0).ext E127)
  have Fq151 : Arv Z h127 w_d k_d (.object "java/lang/Object") (0 : Int32) [] .null := (Fq129.ext E127)
  have Fq152 : Exa Z h127 b46 "java/util/ArrayList" := (Fq139.ext E127)
  obtain ⟨cq148, kq148, q148a, q148b, q148c⟩ := isOf hZ e127 Fq152
  obtain ⟨_, _, ⟨T148, L148, k148, n148⟩, -, X148, ⟨Lc148, hQ148, l148, y148, z148⟩, st148⟩ := X127.interfaceBack hx (xi := (⟨"java/util/List", "toArray", "([Ljava/lang/Object;)[Ljava/lang/Object;"⟩ : MethodName)) (y := (⟨"java/util/ArrayList", "toArray", "([Ljava/lang/Object;)[Ljava/lang/Object;"⟩ : MethodName)) hown (mvT hZ (hw _ (List.mem_of_getElem? (i := 84) rfl))) (mvT hZ (hw _ (List.mem_of_getElem? (i := 85) rfl))) (mvT hZ (hw _ (List.mem_of_getElem? (i := 86) rfl))) (mvT hZ (hw _ (List.mem_of_getElem? (i := 87) rfl))) (mvT hZ (hw _ (List.mem_of_getElem? (i := 88) rfl))) (mvT hZ (hw _ (List.mem_of_getElem? (i := 89) rfl))) (mvT hZ (hw _ (List.mem_of_getElem? (i := 90) rfl))) (mvT hZ (hw _ (List.mem_of_getElem? (i := 51) rfl))) (by decide) (backOf (W := 1) (own_ta l Z a0 hw [] b46 b127 w_d k_d k127 (.object "com/example/tymely/tymely/model/Constraint") h127 n0 Zs146 Fq149 Fq150 Fq151 V127 Ge143 Ne138 rfl) hZ (hw _ (List.mem_of_getElem? (i := 91) rfl)) (hw _ (List.mem_of_getElem? (i := 5) rfl)) (by decide) (by decide)) q148a q148b q148c (g := (mkF m 143 #[.val (.ref a_o), .val (.int (2 : Int32)), .val (.ref l_o), .val .null, .val (.ref b46), .val (.ref b70), .val (.ref r_o_96), .unset, .unset] [(.ref b127), (.ref b46), (.ref a_o)])) rfl (by rw [hml]; rfl) (Steps.refl _) (argsL := [(.ref b127)]) (rest := [(.ref a_o)]) (lenOf own_pd4 rfl) rfl (by show 2 * 0 + _ ≤ _; exact Nat.le_of_eq rfl) (hb hby own_d6_143) (fun _ _ => ⟨rfl, e127, (by decide : 6 + 0 ≤ _), (by decide : 14 + 0 ≤ _)⟩)
  dsimp only [Pt.U, Pt.locs, Pt.cells, Pt.slots] at X148 l148 y148 z148 st148 hQ148
  subst l148 y148 z148
  obtain ⟨rfl, Nq148, K148, Pf148_0⟩ := hQ148
  have N153 := Fr.app N121 Nq148
  have Kc154 : Keep h0 T148.heap [a_o] := Kc145.trans K148 (allS (Or.inr Sz144) all0)
  have Zs155 : n0 ≤ T148.heap.size := Nat.le_trans Zs146 K148.1
  have Fq157 : Exa Z T148.heap b127 "[Lcom/example/tymely/tymely/model/Constraint;" := (Y127.keep K148)
  obtain ⟨T158, X158, e158, st158⟩ := castY X148 hx hZ hown (hw _ (List.mem_of_getElem? (i := 97) rfl)) rfl (Ins.self Fq157) (g := (mkF m 148 #[.val (.ref a_o), .val (.int (2 : Int32)), .val (.ref l_o), .val .null, .val (.ref b46), .val (.ref b70), .val (.ref r_o_96), .unset, .unset] [(.ref b127), (.ref a_o)])) rfl rfl (hb hby own_d6_148)
  have Fq160 : Exa Z T148.heap a_o "com/example/tymely/tymely/model/Step" := ((Fq131.ext E127).keep K148)
  have Fq161 : Fld Z T148.heap a_o "com/example/tymely/tymely/model/Step" "remembering" "[Lcom/example/tymely/tymely/model/Constraint;" .null := (((((((((((F_remembering.ext E7).other W18 (Or.inr (slot_ne (Or.inr (hw _ (List.mem_of_getElem? (i := 100) rfl))) (Or.inr (hw _ (List.mem_of_getElem? (i := 38) rfl))) (by decide) (t := (.array (.object "com/example/tymely/tymely/model/Constraint"))) (t' := (.array .long)) (by decide) (by decide)))).ext E25).other W41 (Or.inr (slot_ne (Or.inr (hw _ (List.mem_of_getElem? (i := 100) rfl))) (Or.inr (hw _ (List.mem_of_getElem? (i := 41) rfl))) (by decide) (t := (.array (.object "com/example/tymely/tymely/model/Constraint"))) (t' := (.array .boolean)) (by decide) (by decide)))).ext E46).keep K63 (ninS Ne49 nin0)).ext E70).keep K88 (ninS Ne73 nin0)).keep K96 nin0).ext E127).keep K148 (ninS Ne130 nin0))
  obtain ⟨T162, h162, X162, e162, W162, st162⟩ := putF X158 hx hZ hown (host := "") (Or.inl (hw _ (List.mem_of_getElem? (i := 99) rfl))) Via.refl e158 Fq161 Fq160 (Or.inr ⟨(hw _ (List.mem_of_getElem? (i := 100) rfl)), rfl, hnm⟩) (hw _ (List.mem_of_getElem? (i := 1) rfl)) (ty := (.array (.object "com/example/tymely/tymely/model/Constraint"))) (by decide) rfl rfl (g := (mkF m 151 #[.val (.ref a_o), .val (.int (2 : Int32)), .val (.ref l_o), .val .null, .val (.ref b46), .val (.ref b70), .val (.ref r_o_96), .unset, .unset] [(.ref b127), (.ref a_o)])) rfl rfl (hb hby own_d6_151)
  have Kc163 : Keep h0 h162 [a_o] := Kc154.wr W162 (Or.inl (List.mem_of_getElem? (i := 0) rfl))
  have Zs164 : n0 ≤ h162.size := Nat.le_trans Zs155 (Keep.of_wr W162).1
  have N165 := Fr.snoc X162 N153 ga
  have Fw162 : Fld Z h162 a_o "com/example/tymely/tymely/model/Step" "remembering" "[Lcom/example/tymely/tymely/model/Constraint;" (.ref b127) := Fq161.same W162
  obtain ⟨T170, h170, k170, X170, e170, E170, A170, Y170, O170, st170⟩ := newRE X162 hx hZ hown (hw _ (List.mem_of_getElem? (i := 101) rfl)) (hw _ (List.mem_of_getElem? (i := 102) rfl)) e162 (g := (mkF m 158 #[.val (.ref a_o), .val (.int (2 : Int32)), .val (.ref l_o), .val .null, .val (.ref b46), .val (.ref b70), .val (.ref r_o_96), .unset, .unset] [(.int (0 : Int32)), (.ref b70), (.ref a_o)])) rfl (hb hby own_d6_158) rfl (by decide) (cap := 0) (by decide) (by decide) (by decide) (by decide) (ad := "[Lcom/example/tymely/tymely/model/Memory;") (by first | rfl | decide)
  obtain ⟨b170, g170⟩ : ∃ z, z = h162.size := ⟨_, rfl⟩
  rw [← g170] at A170 Y170 st170
  have Fq172 : Arv Z h162 w_d k_d (.object "java/lang/Object") (0 : Int32) [] .null := ((Fq151.keep K148 (ninS Ne128 nin0)).other W162 n2)
  have Ne171 : w_d ≠ b170 := Nat.ne_of_lt (Nat.lt_of_lt_of_le Fq172.lt (Nat.le_of_eq g170.symm))
  have Fq174 : Exa Z h162 a_o "com/example/tymely/tymely/model/Step" := (Fq160.wr W162)
  have Ne173 : a_o ≠ b170 := Nat.ne_of_lt (Nat.lt_of_lt_of_le Fq174.lt (Nat.le_of_eq g170.symm))
  have Fq176 : Exa Z h162 l_o "java/util/ArrayList" := (((Fq133.ext E127).keep K148).wr W162)
  have Ne175 : l_o ≠ b170 := Nat.ne_of_lt (Nat.lt_of_lt_of_le Fq176.lt (Nat.le_of_eq g170.symm))
  have Fq178 : Exa Z h162 b7 "[J" := (((Fq135.ext E127).keep K148).wr W162)
  have Ne177 : b7 ≠ b170 := Nat.ne_of_lt (Nat.lt_of_lt_of_le Fq178.lt (Nat.le_of_eq g170.symm))
  have Fq180 : Exa Z h162 b25 "[Z" := (((Fq137.ext E127).keep K148).wr W162)
  have Ne179 : b25 ≠ b170 := Nat.ne_of_lt (Nat.lt_of_lt_of_le Fq180.lt (Nat.le_of_eq g170.symm))
  have Fq182 : Exa Z h162 b46 "java/util/ArrayList" := ((Fq152.keep K148).wr W162)
  have Ne181 : b46 ≠ b170 := Nat.ne_of_lt (Nat.lt_of_lt_of_le Fq182.lt (Nat.le_of_eq g170.symm))
  have Fq184 : Exa Z h162 b70 "java/util/ArrayList" := (((Fq141.ext E127).keep K148).wr W162)
  have Ne183 : b70 ≠ b170 := Nat.ne_of_lt (Nat.lt_of_lt_of_le Fq184.lt (Nat.le_of_eq g170.symm))
  have Fq186 : Exa Z h162 r_o_96 "java/util/ArrayList$Itr" := (((Pf96_0.ext E127).keep K148).wr W162)
  have Ne185 : r_o_96 ≠ b170 := Nat.ne_of_lt (Nat.lt_of_lt_of_le Fq186.lt (Nat.le_of_eq g170.symm))
  have Fq188 : Exa Z h162 b127 "[Lcom/example/tymely/tymely/model/Constraint;" := (Fq157.wr W162)
  have Ne187 : b127 ≠ b170 := Nat.ne_of_lt (Nat.lt_of_lt_of_le Fq188.lt (Nat.le_of_eq g170.symm))
  have Ge189 : n0 ≤ b170 := Nat.le_trans Zs164 (Nat.le_of_eq g170.symm)
  have Sz190 : h0.size ≤ b170 := Nat.le_trans Kc163.1 (Nat.le_of_eq g170.symm)
  have Kc191 : Keep h0 h170 [a_o] := Kc163.ext E170
  have Zs192 : n0 ≤ h170.size := (Nat.le_trans Zs164 E170.1)
  have V170 : Arv Z h170 b170 k170 (.object "com/example/tymely/tymely/model/Memory") (0 : Int32) [] .null := (Arv.new A170 (by decide)).pad (pad_rep [] .null 0)
  have Fq195 : Fld Z h170 b70 "java/util/ArrayList" "size" "I" (.int (0 : Int32)) := (((((Pf88_3.keep K96 nin0).ext E127).keep K148 (ninS Ne140 nin0)).other W162 (Or.inl (Ne.symm Ne73))).ext E170)
  have Fq196 : Fld Z h170 b70 "java/util/ArrayList" "elementData" "[Ljava/lang/Object;" (.ref w_d) := (((((Pf88_2.keep K96 nin0).ext E127).keep K148 (ninS Ne140 nin0)).other W162 (Or.inl (Ne.symm Ne73))).ext E170)
  have Fq197 : Arv Z h170 w_d k_d (.object "java/lang/Object") (0 : Int32) [] .null := (Fq172.ext E170)
  have Fq198 : Exa Z h170 b70 "java/util/ArrayList" := (Fq184.ext E170)
  obtain ⟨cq194, kq194, q194a, q194b, q194c⟩ := isOf hZ e170 Fq198
  obtain ⟨_, _, ⟨T194, L194, k194, n194⟩, -, X194, ⟨Lc194, hQ194, l194, y194, z194⟩, st194⟩ := X170.interfaceBack hx (xi := (⟨"java/util/List", "toArray", "([Ljava/lang/Object;)[Ljava/lang/Object;"⟩ : MethodName)) (y := (⟨"java/util/ArrayList", "toArray", "([Ljava/lang/Object;)[Ljava/lang/Object;"⟩ : MethodName)) hown (mvT hZ (hw _ (List.mem_of_getElem? (i := 84) rfl))) (mvT hZ (hw _ (List.mem_of_getElem? (i := 85) rfl))) (mvT hZ (hw _ (List.mem_of_getElem? (i := 86) rfl))) (mvT hZ (hw _ (List.mem_of_getElem? (i := 87) rfl))) (mvT hZ (hw _ (List.mem_of_getElem? (i := 88) rfl))) (mvT hZ (hw _ (List.mem_of_getElem? (i := 89) rfl))) (mvT hZ (hw _ (List.mem_of_getElem? (i := 90) rfl))) (mvT hZ (hw _ (List.mem_of_getElem? (i := 51) rfl))) (by decide) (backOf (W := 1) (own_ta l Z a0 hw [] b70 b170 w_d k_d k170 (.object "com/example/tymely/tymely/model/Memory") h170 n0 Zs192 Fq195 Fq196 Fq197 V170 Ge189 Ne183 rfl) hZ (hw _ (List.mem_of_getElem? (i := 91) rfl)) (hw _ (List.mem_of_getElem? (i := 5) rfl)) (by decide) (by decide)) q194a q194b q194c (g := (mkF m 161 #[.val (.ref a_o), .val (.int (2 : Int32)), .val (.ref l_o), .val .null, .val (.ref b46), .val (.ref b70), .val (.ref r_o_96), .unset, .unset] [(.ref b170), (.ref b70), (.ref a_o)])) rfl (by rw [hml]; rfl) (Steps.refl _) (argsL := [(.ref b170)]) (rest := [(.ref a_o)]) (lenOf own_pd4 rfl) rfl (by show 2 * 0 + _ ≤ _; exact Nat.le_of_eq rfl) (hb hby own_d6_161) (fun _ _ => ⟨rfl, e170, (by decide : 7 + 0 ≤ _), (by decide : 14 + 0 ≤ _)⟩)
  dsimp only [Pt.U, Pt.locs, Pt.cells, Pt.slots] at X194 l194 y194 z194 st194 hQ194
  subst l194 y194 z194
  obtain ⟨rfl, Nq194, K194, Pf194_0⟩ := hQ194
  have N199 := Fr.app N165 Nq194
  have Kc200 : Keep h0 T194.heap [a_o] := Kc191.trans K194 (allS (Or.inr Sz190) all0)
  have Zs201 : n0 ≤ T194.heap.size := Nat.le_trans Zs192 K194.1
  have Fq203 : Exa Z T194.heap b170 "[Lcom/example/tymely/tymely/model/Memory;" := (Y170.keep K194)
  obtain ⟨T204, X204, e204, st204⟩ := castY X194 hx hZ hown (hw _ (List.mem_of_getElem? (i := 103) rfl)) rfl (Ins.self Fq203) (g := (mkF m 166 #[.val (.ref a_o), .val (.int (2 : Int32)), .val (.ref l_o), .val .null, .val (.ref b46), .val (.ref b70), .val (.ref r_o_96), .unset, .unset] [(.ref b170), (.ref a_o)])) rfl rfl (hb hby own_d6_166)
  have Fq206 : Exa Z T194.heap a_o "com/example/tymely/tymely/model/Step" := ((Fq174.ext E170).keep K194)
  have Fq207 : Fld Z T194.heap a_o "com/example/tymely/tymely/model/Step" "memories" "[Lcom/example/tymely/tymely/model/Memory;" .null := ((((((((((((((F_memories.ext E7).other W18 (Or.inr (slot_ne (Or.inr (hw _ (List.mem_of_getElem? (i := 106) rfl))) (Or.inr (hw _ (List.mem_of_getElem? (i := 38) rfl))) (by decide) (t := (.array (.object "com/example/tymely/tymely/model/Memory"))) (t' := (.array .long)) (by decide) (by decide)))).ext E25).other W41 (Or.inr (slot_ne (Or.inr (hw _ (List.mem_of_getElem? (i := 106) rfl))) (Or.inr (hw _ (List.mem_of_getElem? (i := 41) rfl))) (by decide) (t := (.array (.object "com/example/tymely/tymely/model/Memory"))) (t' := (.array .boolean)) (by decide) (by decide)))).ext E46).keep K63 (ninS Ne49 nin0)).ext E70).keep K88 (ninS Ne73 nin0)).keep K96 nin0).ext E127).keep K148 (ninS Ne130 nin0)).other W162 (Or.inr (slot_ne (Or.inr (hw _ (List.mem_of_getElem? (i := 106) rfl))) (Or.inr (hw _ (List.mem_of_getElem? (i := 100) rfl))) (by decide) (t := (.array (.object "com/example/tymely/tymely/model/Memory"))) (t' := (.array (.object "com/example/tymely/tymely/model/Constraint"))) (by decide) (by decide)))).ext E170).keep K194 (ninS Ne173 nin0))
  obtain ⟨T208, h208, X208, e208, W208, st208⟩ := putF X204 hx hZ hown (host := "") (Or.inl (hw _ (List.mem_of_getElem? (i := 105) rfl))) Via.refl e204 Fq207 Fq206 (Or.inr ⟨(hw _ (List.mem_of_getElem? (i := 106) rfl)), rfl, hnm⟩) (hw _ (List.mem_of_getElem? (i := 1) rfl)) (ty := (.array (.object "com/example/tymely/tymely/model/Memory"))) (by decide) rfl rfl (g := (mkF m 169 #[.val (.ref a_o), .val (.int (2 : Int32)), .val (.ref l_o), .val .null, .val (.ref b46), .val (.ref b70), .val (.ref r_o_96), .unset, .unset] [(.ref b170), (.ref a_o)])) rfl rfl (hb hby own_d6_169)
  have Kc209 : Keep h0 h208 [a_o] := Kc200.wr W208 (Or.inl (List.mem_of_getElem? (i := 0) rfl))
  have Zs210 : n0 ≤ h208.size := Nat.le_trans Zs201 (Keep.of_wr W208).1
  have N211 := Fr.snoc X208 N199 ga
  have Fw208 : Fld Z h208 a_o "com/example/tymely/tymely/model/Step" "memories" "[Lcom/example/tymely/tymely/model/Memory;" (.ref b170) := Fq207.same W208
  obtain ⟨fs, hr, hrun, hended, hW, hsame⟩ := X208.leave (v := none) (fun _ => rfl) (hlocks := BodyLoose.notSynchronized Bd)
  refine ⟨_, _, pre0 _ ?_, hrun, hended, _, _, rfl, ?_, ⟨_, rfl⟩, hW, hsame.mono (by decide) (by decide)⟩
  · show Steps p.tables e below (s₁.setTop (mkF m 0 #[.val (.ref a_o), .val (.int (2 : Int32)), .val (.ref l_o), .val .null, .unset, .unset, .unset, .unset, .unset] [])) _
    refine XS.aloadN X0.here hx rfl (hb hby own_d6_0) rfl rfl ?_
    show Steps p.tables e below (s₁.setTop (mkF m 1 #[.val (.ref a_o), .val (.int (2 : Int32)), .val (.ref l_o), .val .null, .unset, .unset, .unset, .unset, .unset] [(.ref a_o)])) _
    refine st3 _ ?_
    show Steps p.tables e below (T3.setTop (mkF m 4 #[.val (.ref a_o), .val (.int (2 : Int32)), .val (.ref l_o), .val .null, .unset, .unset, .unset, .unset, .unset] [])) _
    refine XS.aloadN X3.here hx rfl (hb hby own_d6_4) rfl rfl ?_
    show Steps p.tables e below (T3.setTop (mkF m 5 #[.val (.ref a_o), .val (.int (2 : Int32)), .val (.ref l_o), .val .null, .unset, .unset, .unset, .unset, .unset] [(.ref a_o)])) _
    refine XS.iloadN X3.here hx rfl (hb hby own_d6_5) rfl ?_
    show Steps p.tables e below (T3.setTop (mkF m 6 #[.val (.ref a_o), .val (.int (2 : Int32)), .val (.ref l_o), .val .null, .unset, .unset, .unset, .unset, .unset] [(.int (2 : Int32)), (.ref a_o)])) _
    refine st7 _ ?_
    show Steps p.tables e below (T7.setTop (mkF m 8 #[.val (.ref a_o), .val (.int (2 : Int32)), .val (.ref l_o), .val .null, .unset, .unset, .unset, .unset, .unset] [(.ref b7), (.ref a_o)])) _
    refine st18 _ ?_
    show Steps p.tables e below (T18.setTop (mkF m 11 #[.val (.ref a_o), .val (.int (2 : Int32)), .val (.ref l_o), .val .null, .unset, .unset, .unset, .unset, .unset] [])) _
    refine XS.aloadN X18.here hx rfl (hb hby own_d6_11) rfl rfl ?_
    show Steps p.tables e below (T18.setTop (mkF m 12 #[.val (.ref a_o), .val (.int (2 : Int32)), .val (.ref l_o), .val .null, .unset, .unset, .unset, .unset, .unset] [(.ref a_o)])) _
    refine XS.iloadN X18.here hx rfl (hb hby own_d6_12) rfl ?_
    show Steps p.tables e below (T18.setTop (mkF m 13 #[.val (.ref a_o), .val (.int (2 : Int32)), .val (.ref l_o), .val .null, .unset, .unset, .unset, .unset, .unset] [(.int (2 : Int32)), (.ref a_o)])) _
    refine st25 _ ?_
    show Steps p.tables e below (T25.setTop (mkF m 15 #[.val (.ref a_o), .val (.int (2 : Int32)), .val (.ref l_o), .val .null, .unset, .unset, .unset, .unset, .unset] [(.ref b25), (.ref a_o)])) _
    refine st41 _ ?_
    show Steps p.tables e below (T41.setTop (mkF m 18 #[.val (.ref a_o), .val (.int (2 : Int32)), .val (.ref l_o), .val .null, .unset, .unset, .unset, .unset, .unset] [])) _
    refine st46 _ ?_
    show Steps p.tables e below (T46.setTop (mkF m 21 #[.val (.ref a_o), .val (.int (2 : Int32)), .val (.ref l_o), .val .null, .unset, .unset, .unset, .unset, .unset] [(.ref b46)])) _
    refine XS.dup X46.here hx rfl (hb hby own_d6_21) rfl rfl ?_
    show Steps p.tables e below (T46.setTop (mkF m 22 #[.val (.ref a_o), .val (.int (2 : Int32)), .val (.ref l_o), .val .null, .unset, .unset, .unset, .unset, .unset] [(.ref b46), (.ref b46)])) _
    refine st63.trans ?_
    show Steps p.tables e below (T63.setTop (mkF m 25 #[.val (.ref a_o), .val (.int (2 : Int32)), .val (.ref l_o), .val .null, .unset, .unset, .unset, .unset, .unset] [(.ref b46)])) _
    refine XS.astore X63.here hx rfl (hb hby own_d6_25) rfl rfl (l' := #[.val (.ref a_o), .val (.int (2 : Int32)), .val (.ref l_o), .val .null, .val (.ref b46), .unset, .unset, .unset, .unset]) rfl ?_
    show Steps p.tables e below (T63.setTop (mkF m 27 #[.val (.ref a_o), .val (.int (2 : Int32)), .val (.ref l_o), .val .null, .val (.ref b46), .unset, .unset, .unset, .unset] [])) _
    refine st70 _ ?_
    show Steps p.tables e below (T70.setTop (mkF m 30 #[.val (.ref a_o), .val (.int (2 : Int32)), .val (.ref l_o), .val .null, .val (.ref b46), .unset, .unset, .unset, .unset] [(.ref b70)])) _
    refine XS.dup X70.here hx rfl (hb hby own_d6_30) rfl rfl ?_
    show Steps p.tables e below (T70.setTop (mkF m 31 #[.val (.ref a_o), .val (.int (2 : Int32)), .val (.ref l_o), .val .null, .val (.ref b46), .unset, .unset, .unset, .unset] [(.ref b70), (.ref b70)])) _
    refine st88.trans ?_
    show Steps p.tables e below (T88.setTop (mkF m 34 #[.val (.ref a_o), .val (.int (2 : Int32)), .val (.ref l_o), .val .null, .val (.ref b46), .unset, .unset, .unset, .unset] [(.ref b70)])) _
    refine XS.astore X88.here hx rfl (hb hby own_d6_34) rfl rfl (l' := #[.val (.ref a_o), .val (.int (2 : Int32)), .val (.ref l_o), .val .null, .val (.ref b46), .val (.ref b70), .unset, .unset, .unset]) rfl ?_
    show Steps p.tables e below (T88.setTop (mkF m 36 #[.val (.ref a_o), .val (.int (2 : Int32)), .val (.ref l_o), .val .null, .val (.ref b46), .val (.ref b70), .unset, .unset, .unset] [])) _
    refine XS.aloadN X88.here hx rfl (hb hby own_d6_36) rfl rfl ?_
    show Steps p.tables e below (T88.setTop (mkF m 37 #[.val (.ref a_o), .val (.int (2 : Int32)), .val (.ref l_o), .val .null, .val (.ref b46), .val (.ref b70), .unset, .unset, .unset] [(.ref l_o)])) _
    refine st96.trans ?_
    show Steps p.tables e below (T96.setTop (mkF m 42 #[.val (.ref a_o), .val (.int (2 : Int32)), .val (.ref l_o), .val .null, .val (.ref b46), .val (.ref b70), .unset, .unset, .unset] [(.ref r_o_96)])) _
    refine XS.astore X96.here hx rfl (hb hby own_d6_42) rfl rfl (l' := #[.val (.ref a_o), .val (.int (2 : Int32)), .val (.ref l_o), .val .null, .val (.ref b46), .val (.ref b70), .val (.ref r_o_96), .unset, .unset]) rfl ?_
    show Steps p.tables e below (T96.setTop (mkF m 44 #[.val (.ref a_o), .val (.int (2 : Int32)), .val (.ref l_o), .val .null, .val (.ref b46), .val (.ref b70), .val (.ref r_o_96), .unset, .unset] [])) _
    refine XS.aload X96.here hx rfl (hb hby own_d6_44) rfl rfl ?_
    show Steps p.tables e below (T96.setTop (mkF m 46 #[.val (.ref a_o), .val (.int (2 : Int32)), .val (.ref l_o), .val .null, .val (.ref b46), .val (.ref b70), .val (.ref r_o_96), .unset, .unset] [(.ref r_o_96)])) _
    refine st119.trans ?_
    show Steps p.tables e below (T119.setTop (mkF m 51 #[.val (.ref a_o), .val (.int (2 : Int32)), .val (.ref l_o), .val .null, .val (.ref b46), .val (.ref b70), .val (.ref r_o_96), .unset, .unset] [(.int (0 : Int32))])) _
    refine XS.ifYes X119.here hx rfl (pc0 := 51) (pc' := 136) rfl (hb hby own_d6_51) rfl ((if0 _ _).trans (teq ((by decide) : (0 : Int32) = (0 : Int32))).1) (by decide) (by decide) ?_
    show Steps p.tables e below (T119.setTop (mkF m 136 #[.val (.ref a_o), .val (.int (2 : Int32)), .val (.ref l_o), .val .null, .val (.ref b46), .val (.ref b70), .val (.ref r_o_96), .unset, .unset] [])) _
    refine XS.aloadN X119.here hx rfl (hb hby own_d6_136) rfl rfl ?_
    show Steps p.tables e below (T119.setTop (mkF m 137 #[.val (.ref a_o), .val (.int (2 : Int32)), .val (.ref l_o), .val .null, .val (.ref b46), .val (.ref b70), .val (.ref r_o_96), .unset, .unset] [(.ref a_o)])) _
    refine XS.aload X119.here hx rfl (hb hby own_d6_137) rfl rfl ?_
    show Steps p.tables e below (T119.setTop (mkF m 139 #[.val (.ref a_o), .val (.int (2 : Int32)), .val (.ref l_o), .val .null, .val (.ref b46), .val (.ref b70), .val (.ref r_o_96), .unset, .unset] [(.ref b46), (.ref a_o)])) _
    refine XS.iconst X119.here hx rfl (hb hby own_d6_139) ?_
    show Steps p.tables e below (T119.setTop (mkF m 140 #[.val (.ref a_o), .val (.int (2 : Int32)), .val (.ref l_o), .val .null, .val (.ref b46), .val (.ref b70), .val (.ref r_o_96), .unset, .unset] [(.int (0 : Int32)), (.ref b46), (.ref a_o)])) _
    refine st127 _ ?_
    show Steps p.tables e below (T127.setTop (mkF m 143 #[.val (.ref a_o), .val (.int (2 : Int32)), .val (.ref l_o), .val .null, .val (.ref b46), .val (.ref b70), .val (.ref r_o_96), .unset, .unset] [(.ref b127), (.ref b46), (.ref a_o)])) _
    refine st148.trans ?_
    show Steps p.tables e below (T148.setTop (mkF m 148 #[.val (.ref a_o), .val (.int (2 : Int32)), .val (.ref l_o), .val .null, .val (.ref b46), .val (.ref b70), .val (.ref r_o_96), .unset, .unset] [(.ref b127), (.ref a_o)])) _
    refine st158 _ ?_
    show Steps p.tables e below (T158.setTop (mkF m 151 #[.val (.ref a_o), .val (.int (2 : Int32)), .val (.ref l_o), .val .null, .val (.ref b46), .val (.ref b70), .val (.ref r_o_96), .unset, .unset] [(.ref b127), (.ref a_o)])) _
    refine st162 _ ?_
    show Steps p.tables e below (T162.setTop (mkF m 154 #[.val (.ref a_o), .val (.int (2 : Int32)), .val (.ref l_o), .val .null, .val (.ref b46), .val (.ref b70), .val (.ref r_o_96), .unset, .unset] [])) _
    refine XS.aloadN X162.here hx rfl (hb hby own_d6_154) rfl rfl ?_
    show Steps p.tables e below (T162.setTop (mkF m 155 #[.val (.ref a_o), .val (.int (2 : Int32)), .val (.ref l_o), .val .null, .val (.ref b46), .val (.ref b70), .val (.ref r_o_96), .unset, .unset] [(.ref a_o)])) _
    refine XS.aload X162.here hx rfl (hb hby own_d6_155) rfl rfl ?_
    show Steps p.tables e below (T162.setTop (mkF m 157 #[.val (.ref a_o), .val (.int (2 : Int32)), .val (.ref l_o), .val .null, .val (.ref b46), .val (.ref b70), .val (.ref r_o_96), .unset, .unset] [(.ref b70), (.ref a_o)])) _
    refine XS.iconst X162.here hx rfl (hb hby own_d6_157) ?_
    show Steps p.tables e below (T162.setTop (mkF m 158 #[.val (.ref a_o), .val (.int (2 : Int32)), .val (.ref l_o), .val .null, .val (.ref b46), .val (.ref b70), .val (.ref r_o_96), .unset, .unset] [(.int (0 : Int32)), (.ref b70), (.ref a_o)])) _
    refine st170 _ ?_
    show Steps p.tables e below (T170.setTop (mkF m 161 #[.val (.ref a_o), .val (.int (2 : Int32)), .val (.ref l_o), .val .null, .val (.ref b46), .val (.ref b70), .val (.ref r_o_96), .unset, .unset] [(.ref b170), (.ref b70), (.ref a_o)])) _
    refine st194.trans ?_
    show Steps p.tables e below (T194.setTop (mkF m 166 #[.val (.ref a_o), .val (.int (2 : Int32)), .val (.ref l_o), .val .null, .val (.ref b46), .val (.ref b70), .val (.ref r_o_96), .unset, .unset] [(.ref b170), (.ref a_o)])) _
    refine st204 _ ?_
    show Steps p.tables e below (T204.setTop (mkF m 169 #[.val (.ref a_o), .val (.int (2 : Int32)), .val (.ref l_o), .val .null, .val (.ref b46), .val (.ref b70), .val (.ref r_o_96), .unset, .unset] [(.ref b170), (.ref a_o)])) _
    refine st208 _ ?_
    show Steps p.tables e below (T208.setTop (mkF m 172 #[.val (.ref a_o), .val (.int (2 : Int32)), .val (.ref l_o), .val .null, .val (.ref b46), .val (.ref b70), .val (.ref r_o_96), .unset, .unset] [])) _
    exact X208.returnOut hx Bd.returns (hb hby own_d6_172) hr
  · show Qown_s3 Z a_o l_o w_d k_d h0 n0 _ T208.heap _
    rw [e208]
    have Fq213 : Exa Z h208 a_o "com/example/tymely/tymely/model/Step" := (Fq206.wr W208)
    have Fq214 : Fld Z h208 a_o "com/example/tymely/tymely/model/Step" "countsBefore" "[J" (.ref b7) := (((((((((((((Fw18.ext E25).other W41 (Or.inr (slot_ne (Or.inr (hw _ (List.mem_of_getElem? (i := 38) rfl))) (Or.inr (hw _ (List.mem_of_getElem? (i := 41) rfl))) (by decide) (t := (.array .long)) (t' := (.array .boolean)) (by decide) (by decide)))).ext E46).keep K63 (ninS Ne49 nin0)).ext E70).keep K88 (ninS Ne73 nin0)).keep K96 nin0).ext E127).keep K148 (ninS Ne130 nin0)).other W162 (Or.inr (slot_ne (Or.inr (hw _ (List.mem_of_getElem? (i := 38) rfl))) (Or.inr (hw _ (List.mem_of_getElem? (i := 100) rfl))) (by decide) (t := (.array .long)) (t' := (.array (.object "com/example/tymely/tymely/model/Constraint"))) (by decide) (by decide)))).ext E170).keep K194 (ninS Ne173 nin0)).other W208 (Or.inr (slot_ne (Or.inr (hw _ (List.mem_of_getElem? (i := 38) rfl))) (Or.inr (hw _ (List.mem_of_getElem? (i := 106) rfl))) (by decide) (t := (.array .long)) (t' := (.array (.object "com/example/tymely/tymely/model/Memory"))) (by decide) (by decide))))
    have Fq215 : Fld Z h208 a_o "com/example/tymely/tymely/model/Step" "ticking" "[Z" (.ref b25) := (((((((((((Fw41.ext E46).keep K63 (ninS Ne49 nin0)).ext E70).keep K88 (ninS Ne73 nin0)).keep K96 nin0).ext E127).keep K148 (ninS Ne130 nin0)).other W162 (Or.inr (slot_ne (Or.inr (hw _ (List.mem_of_getElem? (i := 41) rfl))) (Or.inr (hw _ (List.mem_of_getElem? (i := 100) rfl))) (by decide) (t := (.array .boolean)) (t' := (.array (.object "com/example/tymely/tymely/model/Constraint"))) (by decide) (by decide)))).ext E170).keep K194 (ninS Ne173 nin0)).other W208 (Or.inr (slot_ne (Or.inr (hw _ (List.mem_of_getElem? (i := 41) rfl))) (Or.inr (hw _ (List.mem_of_getElem? (i := 106) rfl))) (by decide) (t := (.array .boolean)) (t' := (.array (.object "com/example/tymely/tymely/model/Memory"))) (by decide) (by decide))))
    have Fq216 : Arv Z h208 b7 k7 .long (2 : Int32) [(.long (0 : Int64)), (.long (0 : Int64))] (.long (0 : Int64)) := ((((((((((((((V7.other W18 (Ne.symm Ne9)).ext E25).other W41 (Ne.symm Ne9)).ext E46).keep K63 (ninS Ne53 nin0)).ext E70).keep K88 (ninS Ne77 nin0)).keep K96 nin0).ext E127).keep K148 (ninS Ne134 nin0)).other W162 (Ne.symm Ne9)).ext E170).keep K194 (ninS Ne177 nin0)).other W208 (Ne.symm Ne9))
    have Fq217 : Arv Z h208 b25 k25 .boolean (2 : Int32) [(.int (0 : Int32)), (.int (0 : Int32))] (.int (0 : Int32)) := ((((((((((((V25.other W41 (Ne.symm Ne28)).ext E46).keep K63 (ninS Ne55 nin0)).ext E70).keep K88 (ninS Ne79 nin0)).keep K96 nin0).ext E127).keep K148 (ninS Ne136 nin0)).other W162 (Ne.symm Ne28)).ext E170).keep K194 (ninS Ne179 nin0)).other W208 (Ne.symm Ne28))
    have Fq218 : Arv Z h208 b170 k170 (.object "com/example/tymely/tymely/model/Memory") (0 : Int32) [] .null := (Pf194_0.other W208 (Ne.symm Ne173))
    exact ⟨b7, k7, b25, k25, b170, k170, rfl, N211, Sz12, Sz35, Sz190, Kc209, Fq213, Fq214, Fq215, Fw208, Fq216, Fq217, Fq218, Ne32, Ne177, Ne179⟩
theorem own_ef_own_s2 (m : MethodId) (a_o : Addr) (l_o : Addr) : entryFrame m #[(.ref a_o), (.int (2 : Int32)), (.ref l_o)] 3 = mkF m 0 #[.val (.ref a_o), .val (.int (2 : Int32)), .val (.ref l_o)] [] := by first | (simp [entryFrame, mkF, argsToLocals, Value.category]; done) | rfl
theorem own_pd5 : parseMethodDescriptor "(ILjava/util/List;Ljava/util/Random;)V" = some ⟨[.int, (.object "java/util/List"), (.object "java/util/Random")], none⟩ := by decide +kernel
theorem own_d5_0 : decode prog_56_method_1_code 0 = .ok (.aload_n 0, 1) := by decide +kernel
theorem own_d5_1 : decode prog_56_method_1_code 1 = .ok (.iload_n 1, 1) := by decide +kernel
theorem own_d5_2 : decode prog_56_method_1_code 2 = .ok (.aload_n 2, 1) := by decide +kernel
theorem own_d5_3 : decode prog_56_method_1_code 3 = .ok (.aconst_null, 1) := by decide +kernel
theorem own_d5_4 : decode prog_56_method_1_code 4 = .ok (.invokespecial 1, 3) := by decide +kernel
theorem own_d5_7 : decode prog_56_method_1_code 7 = .ok (.return_, 1) := by decide +kernel
def Qown_s2 (Z : State) (a_o : Addr) (l_o : Addr) (w_d : Addr) (k_d : ClassId) (h0 : Heap) (n0 : Nat) (v : Option Value) (h : Heap) (L : List Loc) : Prop := ∃ c_o : Addr, ∃ k_c : ClassId, ∃ t_o : Addr, ∃ k_t : ClassId, ∃ m_o : Addr, ∃ k_m : ClassId, v = none ∧ Fr n0 L ∧ h0.size ≤ c_o ∧ h0.size ≤ t_o ∧ h0.size ≤ m_o ∧ Keep h0 h [a_o] ∧ Exa Z h a_o "com/example/tymely/tymely/model/Step" ∧ Fld Z h a_o "com/example/tymely/tymely/model/Step" "countsBefore" "[J" (.ref c_o) ∧ Fld Z h a_o "com/example/tymely/tymely/model/Step" "ticking" "[Z" (.ref t_o) ∧ Fld Z h a_o "com/example/tymely/tymely/model/Step" "memories" "[Lcom/example/tymely/tymely/model/Memory;" (.ref m_o) ∧ Arv Z h c_o k_c .long (2 : Int32) [(.long (0 : Int64)), (.long (0 : Int64))] (.long (0 : Int64)) ∧ Arv Z h t_o k_t .boolean (2 : Int32) [(.int (0 : Int32)), (.int (0 : Int32))] (.int (0 : Int32)) ∧ Arv Z h m_o k_m (.object "com/example/tymely/tymely/model/Memory") (0 : Int32) [] .null ∧ c_o ≠ t_o ∧ c_o ≠ m_o ∧ t_o ≠ m_o
set_option maxRecDepth 65536 in
set_option maxHeartbeats 40000000 in
theorem own_s2 (l : Launch) (Z : State) (a0 : Array Value) (hw : ∀ d ∈ tables_1, d.before a0 Z = true) (ws : List Jvm.Cond) (a_o : Addr) (l_o : Addr) (w_d : Addr) (k_d : ClassId) (h0 : Heap) (n0 : Nat) (Z0 : n0 ≤ h0.size) (O0 : Old Z n0 h0) (S_d : Sta Z Z.heap "java/util/ArrayList" "DEFAULTCAPACITY_EMPTY_ELEMENTDATA" "[Ljava/lang/Object;" (.ref w_d)) (V_d : Arv Z h0 w_d k_d (.object "java/lang/Object") (0 : Int32) [] .null) (Eo : Exa Z h0 a_o "com/example/tymely/tymely/model/Step") (F_countsBefore : Fld Z h0 a_o "com/example/tymely/tymely/model/Step" "countsBefore" "[J" .null) (F_ticking : Fld Z h0 a_o "com/example/tymely/tymely/model/Step" "ticking" "[Z" .null) (F_remembering : Fld Z h0 a_o "com/example/tymely/tymely/model/Step" "remembering" "[Lcom/example/tymely/tymely/model/Constraint;" .null) (F_memories : Fld Z h0 a_o "com/example/tymely/tymely/model/Step" "memories" "[Lcom/example/tymely/tymely/model/Memory;" .null) (El : Exa Z h0 l_o "java/util/ArrayList") (Fl_m : Fld Z h0 l_o "java/util/AbstractList" "modCount" "I" (.int (0 : Int32))) (Fl_s : Fld Z h0 l_o "java/util/ArrayList" "size" "I" (.int (0 : Int32))) (ga : n0 ≤ a_o) (n1 : l_o ≠ a_o) (n2 : w_d ≠ a_o) :
    MetFree l (⟨"com/example/tymely/tymely/model/Step", "<init>", "(ILjava/util/List;)V"⟩ : MethodName) (head1 (Jvm.Cond.code (⟨"com/example/tymely/tymely/model/Step", "<init>", "(ILjava/util/List;)V"⟩ : MethodName) prog_56_method_1_code 3 none :: ws) ({ frames := 5, cells := 7, slots := 14, locals := 69 } : Room)) (fun a U => a = #[(.ref a_o), (.int (2 : Int32)), (.ref l_o)] ∧ Z.Warmed39 U.vm ∧ U.heap = h0) (fun _ _ _ _ _ => True) (fun _ U o U' => ∃ v L, o = .returned v ∧ Qown_s2 Z a_o l_o w_d k_d h0 n0 v U'.heap L ∧ FrameEnd U o U' L ({ frames := 5, cells := 7, slots := 14, locals := 69 } : Room).cells ({ frames := 5, cells := 7, slots := 14, locals := 69 } : Room).slots) := by
  refine MetFree.of_bodySF (plainFor_of_name own_pn4) hisR ?_
  intro p e s m args below meth c s₁ Bd hml0 hP hK
  obtain ⟨rfl, hZ, hh⟩ := hP
  have hx := Bd.exec
  have hby := Bd.bytes
  have hml : c.maxLocals = 3 := hml0
  have hown : s.vm.findClass "com/example/tymely/tymely/model/Step" = some m.cls := findClass_of_methodNamed Bd.named
  have hnm := (name_of_methodNamed Bd.named Bd.method).1
  have X0 : Stand p l e ({ frames := 5, cells := 7, slots := 14, locals := 69 } : Room) s m #[(.ref a_o), (.int (2 : Int32)), (.ref l_o)] below meth c s₁ [] 0 0 := Stand.of_body Bd
  have e0 : s₁.heap = h0 := by rw [← hh, Bd.state]; rfl
  have N0 := Fr.nil n0
  have pre0 : ∀ t, Steps p.tables e below (s₁.setTop (mkF m 0 #[.val (.ref a_o), .val (.int (2 : Int32)), .val (.ref l_o)] [])) t → Steps p.tables e below (s₁.setTop (entryFrame m #[(.ref a_o), (.int (2 : Int32)), (.ref l_o)] 3)) t := fun t k => castTop (own_ef_own_s2 m a_o l_o) k
  obtain ⟨_, _, ⟨T6, L6, k6, n6⟩, -, X6, ⟨Lc6, hQ6, l6, y6, z6⟩, st6⟩ := X0.specialBack hx (y := (⟨"com/example/tymely/tymely/model/Step", "<init>", "(ILjava/util/List;Ljava/util/Random;)V"⟩ : MethodName)) rfl hown (mvT hZ (hw _ (List.mem_of_getElem? (i := 32) rfl))) (mvT hZ (hw _ (List.mem_of_getElem? (i := 33) rfl))) (mvT hZ (hw _ (List.mem_of_getElem? (i := 34) rfl))) (by decide) (backOf (W := 0) (own_s3 l Z a0 hw [] a_o l_o w_d k_d h0 n0 Z0 O0 S_d V_d Eo F_countsBefore F_ticking F_remembering F_memories El Fl_m Fl_s ga n1 n2) hZ (hw _ (List.mem_of_getElem? (i := 34) rfl)) (hw _ (List.mem_of_getElem? (i := 2) rfl)) (by decide) (by decide)) (g := (mkF m 4 #[.val (.ref a_o), .val (.int (2 : Int32)), .val (.ref l_o)] [.null, (.ref l_o), (.int (2 : Int32)), (.ref a_o)])) rfl (by rw [hml]; rfl) (Steps.refl _) (a := a_o) (argsL := [(.int (2 : Int32)), (.ref l_o), .null]) (rest := []) (lenOf own_pd5 rfl) rfl (by show 2 * 0 + _ ≤ _; exact Nat.le_of_eq rfl) (hb hby own_d5_4) (fun _ _ => ⟨rfl, e0, (by decide : 0 + 7 ≤ _), (by decide : 0 + 14 ≤ _)⟩)
  dsimp only [Pt.U, Pt.locs, Pt.cells, Pt.slots] at X6 l6 y6 z6 st6 hQ6
  subst l6 y6 z6
  obtain ⟨c_o_6, k_c_6, t_o_6, k_t_6, m_o_6, k_m_6, rfl, Nq6, sz6_c_o, sz6_t_o, sz6_m_o, K6, Pf6_0, Pf6_1, Pf6_2, Pf6_3, Pf6_4, Pf6_5, Pf6_6, Pf6_7, Pf6_8, Pf6_9⟩ := hQ6
  have N7 := Fr.app N0 Nq6
  have Ne8 : w_d ≠ c_o_6 := Nat.ne_of_lt (Nat.lt_of_lt_of_le V_d.lt sz6_c_o)
  have Ne9 : a_o ≠ c_o_6 := Nat.ne_of_lt (Nat.lt_of_lt_of_le Eo.lt sz6_c_o)
  have Ne10 : l_o ≠ c_o_6 := Nat.ne_of_lt (Nat.lt_of_lt_of_le El.lt sz6_c_o)
  have Ge11 : n0 ≤ c_o_6 := Nat.le_trans Z0 sz6_c_o
  have Sz12 : h0.size ≤ c_o_6 := Nat.le_trans (Keep.refl h0 [a_o]).1 sz6_c_o
  have Ne13 : w_d ≠ t_o_6 := Nat.ne_of_lt (Nat.lt_of_lt_of_le V_d.lt sz6_t_o)
  have Ne14 : a_o ≠ t_o_6 := Nat.ne_of_lt (Nat.lt_of_lt_of_le Eo.lt sz6_t_o)
  have Ne15 : l_o ≠ t_o_6 := Nat.ne_of_lt (Nat.lt_of_lt_of_le El.lt sz6_t_o)
  have Ge16 : n0 ≤ t_o_6 := Nat.le_trans Z0 sz6_t_o
  have Sz17 : h0.size ≤ t_o_6 := Nat.le_trans (Keep.refl h0 [a_o]).1 sz6_t_o
  have Ne18 : w_d ≠ m_o_6 := Nat.ne_of_lt (Nat.lt_of_lt_of_le V_d.lt sz6_m_o)
  have Ne19 : a_o ≠ m_o_6 := Nat.ne_of_lt (Nat.lt_of_lt_of_le Eo.lt sz6_m_o)
  have Ne20 : l_o ≠ m_o_6 := Nat.ne_of_lt (Nat.lt_of_lt_of_le El.lt sz6_m_o)
  have Ge21 : n0 ≤ m_o_6 := Nat.le_trans Z0 sz6_m_o
  have Sz22 : h0.size ≤ m_o_6 := Nat.le_trans (Keep.refl h0 [a_o]).1 sz6_m_o
  have Kc23 : Keep h0 T6.heap [a_o] := (Keep.refl h0 [a_o]).trans K6 (allS (Or.inl (List.mem_of_getElem? (i := 0) rfl)) all0)
  have Zs24 : n0 ≤ T6.heap.size := Nat.le_trans Z0 K6.1
  obtain ⟨fs, hr, hrun, hended, hW, hsame⟩ := X6.leave (v := none) (fun _ => rfl) (hlocks := BodyLoose.notSynchronized Bd)
  refine ⟨_, _, pre0 _ ?_, hrun, hended, _, _, rfl, ?_, ⟨_, rfl⟩, hW, hsame.mono (by decide) (by decide)⟩
  · show Steps p.tables e below (s₁.setTop (mkF m 0 #[.val (.ref a_o), .val (.int (2 : Int32)), .val (.ref l_o)] [])) _
    refine XS.aloadN X0.here hx rfl (hb hby own_d5_0) rfl rfl ?_
    show Steps p.tables e below (s₁.setTop (mkF m 1 #[.val (.ref a_o), .val (.int (2 : Int32)), .val (.ref l_o)] [(.ref a_o)])) _
    refine XS.iloadN X0.here hx rfl (hb hby own_d5_1) rfl ?_
    show Steps p.tables e below (s₁.setTop (mkF m 2 #[.val (.ref a_o), .val (.int (2 : Int32)), .val (.ref l_o)] [(.int (2 : Int32)), (.ref a_o)])) _
    refine XS.aloadN X0.here hx rfl (hb hby own_d5_2) rfl rfl ?_
    show Steps p.tables e below (s₁.setTop (mkF m 3 #[.val (.ref a_o), .val (.int (2 : Int32)), .val (.ref l_o)] [(.ref l_o), (.int (2 : Int32)), (.ref a_o)])) _
    refine XS.aconstNull X0.here hx rfl (hb hby own_d5_3) ?_
    show Steps p.tables e below (s₁.setTop (mkF m 4 #[.val (.ref a_o), .val (.int (2 : Int32)), .val (.ref l_o)] [.null, (.ref l_o), (.int (2 : Int32)), (.ref a_o)])) _
    refine st6.trans ?_
    show Steps p.tables e below (T6.setTop (mkF m 7 #[.val (.ref a_o), .val (.int (2 : Int32)), .val (.ref l_o)] [])) _
    exact X6.returnOut hx Bd.returns (hb hby own_d5_7) hr
  · show Qown_s2 Z a_o l_o w_d k_d h0 n0 _ T6.heap _
    exact ⟨c_o_6, k_c_6, t_o_6, k_t_6, m_o_6, k_m_6, rfl, N7, Sz12, Sz17, Sz22, Kc23, Pf6_0, Pf6_1, Pf6_2, Pf6_3, Pf6_4, Pf6_5, Pf6_6, Pf6_7, Pf6_8, Pf6_9⟩
theorem own_ef_own_st0 (m : MethodId) (a_o : Addr) (x_1 : Int32) : entryFrame m #[(.ref a_o), (.int (0 : Int32)), (.int x_1)] 3 = mkF m 0 #[.val (.ref a_o), .val (.int (0 : Int32)), .val (.int x_1)] [] := by first | (simp [entryFrame, mkF, argsToLocals, Value.category]; done) | rfl
theorem own_d11_0 : decode prog_56_method_7_code 0 = .ok (.aload_n 0, 1) := by decide +kernel
theorem own_d11_1 : decode prog_56_method_7_code 1 = .ok (.getfield 16, 3) := by decide +kernel
theorem own_d11_4 : decode prog_56_method_7_code 4 = .ok (.iload_n 1, 1) := by decide +kernel
theorem own_d11_5 : decode prog_56_method_7_code 5 = .ok (.iload_n 2, 1) := by decide +kernel
theorem own_d11_6 : decode prog_56_method_7_code 6 = .ok (.bastore, 1) := by decide +kernel
theorem own_d11_7 : decode prog_56_method_7_code 7 = .ok (.return_, 1) := by decide +kernel
def Qown_st0 (Z : State) (a_o : Addr) (x_1 : Int32) (t_o : Addr) (k_t : ClassId) (v_0 : Value) (v_1 : Value) (h0 : Heap) (n0 : Nat) (v : Option Value) (h : Heap) (L : List Loc) : Prop := v = none ∧ Fr n0 L ∧ Keep h0 h [t_o] ∧ Arv Z h t_o k_t .boolean (2 : Int32) [(.int (nar .boolean x_1)), v_1] (.int (0 : Int32))
set_option maxRecDepth 65536 in
set_option maxHeartbeats 40000000 in
theorem own_st0 (l : Launch) (Z : State) (a0 : Array Value) (hw : ∀ d ∈ tables_1, d.before a0 Z = true) (ws : List Jvm.Cond) (a_o : Addr) (x_1 : Int32) (t_o : Addr) (k_t : ClassId) (v_0 : Value) (v_1 : Value) (h0 : Heap) (n0 : Nat) (Z0 : n0 ≤ h0.size) (F_t : Fld Z h0 a_o "com/example/tymely/tymely/model/Step" "ticking" "[Z" (.ref t_o)) (V_t : Arv Z h0 t_o k_t .boolean (2 : Int32) [v_0, v_1] (.int (0 : Int32))) (gt : n0 ≤ t_o) :
    MetFree l (⟨"com/example/tymely/tymely/model/Step", "setTicks", "(IZ)V"⟩ : MethodName) (head1 (Jvm.Cond.code (⟨"com/example/tymely/tymely/model/Step", "setTicks", "(IZ)V"⟩ : MethodName) prog_56_method_7_code 3 none :: ws) ({ frames := 0, cells := 0, slots := 0, locals := 0 } : Room)) (fun a U => a = #[(.ref a_o), (.int (0 : Int32)), (.int x_1)] ∧ Z.Warmed39 U.vm ∧ U.heap = h0) (fun _ _ _ _ _ => True) (fun _ U o U' => ∃ v L, o = .returned v ∧ Qown_st0 Z a_o x_1 t_o k_t v_0 v_1 h0 n0 v U'.heap L ∧ FrameEnd U o U' L ({ frames := 0, cells := 0, slots := 0, locals := 0 } : Room).cells ({ frames := 0, cells := 0, slots := 0, locals := 0 } : Room).slots) := by
  refine MetFree.of_bodySF (plainFor_of_name own_pn4) hisR ?_
  intro p e s m args below meth c s₁ Bd hml0 hP hK
  obtain ⟨rfl, hZ, hh⟩ := hP
  have hx := Bd.exec
  have hby := Bd.bytes
  have hml : c.maxLocals = 3 := hml0
  have hown : s.vm.findClass "com/example/tymely/tymely/model/Step" = some m.cls := findClass_of_methodNamed Bd.named
  have hnm := (name_of_methodNamed Bd.named Bd.method).1
  have X0 : Stand p l e ({ frames := 0, cells := 0, slots := 0, locals := 0 } : Room) s m #[(.ref a_o), (.int (0 : Int32)), (.int x_1)] below meth c s₁ [] 0 0 := Stand.of_body Bd
  have e0 : s₁.heap = h0 := by rw [← hh, Bd.state]; rfl
  have N0 := Fr.nil n0
  have pre0 : ∀ t, Steps p.tables e below (s₁.setTop (mkF m 0 #[.val (.ref a_o), .val (.int (0 : Int32)), .val (.int x_1)] [])) t → Steps p.tables e below (s₁.setTop (entryFrame m #[(.ref a_o), (.int (0 : Int32)), (.int x_1)] 3)) t := fun t k => castTop (own_ef_own_st0 m a_o x_1) k
  obtain ⟨T3, X3, e3, st3⟩ := getF X0 hx hZ hown (host := "") (Or.inl (hw _ (List.mem_of_getElem? (i := 40) rfl))) Via.refl e0 F_t (g := (mkF m 1 #[.val (.ref a_o), .val (.int (0 : Int32)), .val (.int x_1)] [(.ref a_o)])) rfl rfl (hb hby own_d11_1)
  obtain ⟨cl7, Ar7, q7, S7, M7, H7, G7⟩ := id V_t
  have hin7 : ¬ ((0 : Int32) < 0 ∨ cl7.slots.size ≤ ((0 : Int32)).toNatClampNeg) := inb_of S7 ⟨by decide, by decide⟩
  obtain ⟨T8, h8, X8, e8, W8, st8⟩ := stZ X3 hx hZ e3 Ar7 (j := (0 : Int32)) hin7 (g := (mkF m 6 #[.val (.ref a_o), .val (.int (0 : Int32)), .val (.int x_1)] [(.int x_1), (.int (0 : Int32)), (.ref t_o)])) rfl rfl (hb hby own_d11_6)
  have Kc10 : Keep h0 h8 [t_o] := (Keep.refl h0 [t_o]).wr W8 (Or.inl (List.mem_of_getElem? (i := 0) rfl))
  have Zs11 : n0 ≤ h8.size := Nat.le_trans Z0 (Keep.of_wr W8).1
  have N12 := Fr.snoc X8 N0 gt
  have Vm9 : Arv Z h8 t_o k_t .boolean (2 : Int32) [(.int (nar .boolean x_1)), v_1] (.int (0 : Int32)) := Arv.set Ar7 q7 S7 M7 H7 G7 (fits_nar_bool _) W8 0 rfl (Nat.le_of_ble_eq_true rfl)
  obtain ⟨fs, hr, hrun, hended, hW, hsame⟩ := X8.leave (v := none) (fun _ => rfl) (hlocks := BodyLoose.notSynchronized Bd)
  refine ⟨_, _, pre0 _ ?_, hrun, hended, _, _, rfl, ?_, ⟨_, rfl⟩, hW, hsame.mono (by decide) (by decide)⟩
  · show Steps p.tables e below (s₁.setTop (mkF m 0 #[.val (.ref a_o), .val (.int (0 : Int32)), .val (.int x_1)] [])) _
    refine XS.aloadN X0.here hx rfl (hb hby own_d11_0) rfl rfl ?_
    show Steps p.tables e below (s₁.setTop (mkF m 1 #[.val (.ref a_o), .val (.int (0 : Int32)), .val (.int x_1)] [(.ref a_o)])) _
    refine st3 _ ?_
    show Steps p.tables e below (T3.setTop (mkF m 4 #[.val (.ref a_o), .val (.int (0 : Int32)), .val (.int x_1)] [(.ref t_o)])) _
    refine XS.iloadN X3.here hx rfl (hb hby own_d11_4) rfl ?_
    show Steps p.tables e below (T3.setTop (mkF m 5 #[.val (.ref a_o), .val (.int (0 : Int32)), .val (.int x_1)] [(.int (0 : Int32)), (.ref t_o)])) _
    refine XS.iloadN X3.here hx rfl (hb hby own_d11_5) rfl ?_
    show Steps p.tables e below (T3.setTop (mkF m 6 #[.val (.ref a_o), .val (.int (0 : Int32)), .val (.int x_1)] [(.int x_1), (.int (0 : Int32)), (.ref t_o)])) _
    refine st8 _ ?_
    show Steps p.tables e below (T8.setTop (mkF m 7 #[.val (.ref a_o), .val (.int (0 : Int32)), .val (.int x_1)] [])) _
    exact X8.returnOut hx Bd.returns (hb hby own_d11_7) hr
  · show Qown_st0 Z a_o x_1 t_o k_t v_0 v_1 h0 n0 _ T8.heap _
    rw [e8]
    exact ⟨rfl, N12, Kc10, Vm9⟩
theorem own_ef_own_st1 (m : MethodId) (a_o : Addr) (x_1 : Int32) : entryFrame m #[(.ref a_o), (.int (1 : Int32)), (.int x_1)] 3 = mkF m 0 #[.val (.ref a_o), .val (.int (1 : Int32)), .val (.int x_1)] [] := by first | (simp [entryFrame, mkF, argsToLocals, Value.category]; done) | rfl
def Qown_st1 (Z : State) (a_o : Addr) (x_1 : Int32) (t_o : Addr) (k_t : ClassId) (v_0 : Value) (v_1 : Value) (h0 : Heap) (n0 : Nat) (v : Option Value) (h : Heap) (L : List Loc) : Prop := v = none ∧ Fr n0 L ∧ Keep h0 h [t_o] ∧ Arv Z h t_o k_t .boolean (2 : Int32) [v_0, (.int (nar .boolean x_1))] (.int (0 : Int32))
set_option maxRecDepth 65536 in
set_option maxHeartbeats 40000000 in
theorem own_st1 (l : Launch) (Z : State) (a0 : Array Value) (hw : ∀ d ∈ tables_1, d.before a0 Z = true) (ws : List Jvm.Cond) (a_o : Addr) (x_1 : Int32) (t_o : Addr) (k_t : ClassId) (v_0 : Value) (v_1 : Value) (h0 : Heap) (n0 : Nat) (Z0 : n0 ≤ h0.size) (F_t : Fld Z h0 a_o "com/example/tymely/tymely/model/Step" "ticking" "[Z" (.ref t_o)) (V_t : Arv Z h0 t_o k_t .boolean (2 : Int32) [v_0, v_1] (.int (0 : Int32))) (gt : n0 ≤ t_o) :
    MetFree l (⟨"com/example/tymely/tymely/model/Step", "setTicks", "(IZ)V"⟩ : MethodName) (head1 (Jvm.Cond.code (⟨"com/example/tymely/tymely/model/Step", "setTicks", "(IZ)V"⟩ : MethodName) prog_56_method_7_code 3 none :: ws) ({ frames := 0, cells := 0, slots := 0, locals := 0 } : Room)) (fun a U => a = #[(.ref a_o), (.int (1 : Int32)), (.int x_1)] ∧ Z.Warmed39 U.vm ∧ U.heap = h0) (fun _ _ _ _ _ => True) (fun _ U o U' => ∃ v L, o = .returned v ∧ Qown_st1 Z a_o x_1 t_o k_t v_0 v_1 h0 n0 v U'.heap L ∧ FrameEnd U o U' L ({ frames := 0, cells := 0, slots := 0, locals := 0 } : Room).cells ({ frames := 0, cells := 0, slots := 0, locals := 0 } : Room).slots) := by
  refine MetFree.of_bodySF (plainFor_of_name own_pn4) hisR ?_
  intro p e s m args below meth c s₁ Bd hml0 hP hK
  obtain ⟨rfl, hZ, hh⟩ := hP
  have hx := Bd.exec
  have hby := Bd.bytes
  have hml : c.maxLocals = 3 := hml0
  have hown : s.vm.findClass "com/example/tymely/tymely/model/Step" = some m.cls := findClass_of_methodNamed Bd.named
  have hnm := (name_of_methodNamed Bd.named Bd.method).1
  have X0 : Stand p l e ({ frames := 0, cells := 0, slots := 0, locals := 0 } : Room) s m #[(.ref a_o), (.int (1 : Int32)), (.int x_1)] below meth c s₁ [] 0 0 := Stand.of_body Bd
  have e0 : s₁.heap = h0 := by rw [← hh, Bd.state]; rfl
  have N0 := Fr.nil n0
  have pre0 : ∀ t, Steps p.tables e below (s₁.setTop (mkF m 0 #[.val (.ref a_o), .val (.int (1 : Int32)), .val (.int x_1)] [])) t → Steps p.tables e below (s₁.setTop (entryFrame m #[(.ref a_o), (.int (1 : Int32)), (.int x_1)] 3)) t := fun t k => castTop (own_ef_own_st1 m a_o x_1) k
  obtain ⟨T3, X3, e3, st3⟩ := getF X0 hx hZ hown (host := "") (Or.inl (hw _ (List.mem_of_getElem? (i := 40) rfl))) Via.refl e0 F_t (g := (mkF m 1 #[.val (.ref a_o), .val (.int (1 : Int32)), .val (.int x_1)] [(.ref a_o)])) rfl rfl (hb hby own_d11_1)
  obtain ⟨cl7, Ar7, q7, S7, M7, H7, G7⟩ := id V_t
  have hin7 : ¬ ((1 : Int32) < 0 ∨ cl7.slots.size ≤ ((1 : Int32)).toNatClampNeg) := inb_of S7 ⟨by decide, by decide⟩
  obtain ⟨T8, h8, X8, e8, W8, st8⟩ := stZ X3 hx hZ e3 Ar7 (j := (1 : Int32)) hin7 (g := (mkF m 6 #[.val (.ref a_o), .val (.int (1 : Int32)), .val (.int x_1)] [(.int x_1), (.int (1 : Int32)), (.ref t_o)])) rfl rfl (hb hby own_d11_6)
  have Kc10 : Keep h0 h8 [t_o] := (Keep.refl h0 [t_o]).wr W8 (Or.inl (List.mem_of_getElem? (i := 0) rfl))
  have Zs11 : n0 ≤ h8.size := Nat.le_trans Z0 (Keep.of_wr W8).1
  have N12 := Fr.snoc X8 N0 gt
  have Vm9 : Arv Z h8 t_o k_t .boolean (2 : Int32) [v_0, (.int (nar .boolean x_1))] (.int (0 : Int32)) := Arv.set Ar7 q7 S7 M7 H7 G7 (fits_nar_bool _) W8 1 rfl (Nat.le_of_ble_eq_true rfl)
  obtain ⟨fs, hr, hrun, hended, hW, hsame⟩ := X8.leave (v := none) (fun _ => rfl) (hlocks := BodyLoose.notSynchronized Bd)
  refine ⟨_, _, pre0 _ ?_, hrun, hended, _, _, rfl, ?_, ⟨_, rfl⟩, hW, hsame.mono (by decide) (by decide)⟩
  · show Steps p.tables e below (s₁.setTop (mkF m 0 #[.val (.ref a_o), .val (.int (1 : Int32)), .val (.int x_1)] [])) _
    refine XS.aloadN X0.here hx rfl (hb hby own_d11_0) rfl rfl ?_
    show Steps p.tables e below (s₁.setTop (mkF m 1 #[.val (.ref a_o), .val (.int (1 : Int32)), .val (.int x_1)] [(.ref a_o)])) _
    refine st3 _ ?_
    show Steps p.tables e below (T3.setTop (mkF m 4 #[.val (.ref a_o), .val (.int (1 : Int32)), .val (.int x_1)] [(.ref t_o)])) _
    refine XS.iloadN X3.here hx rfl (hb hby own_d11_4) rfl ?_
    show Steps p.tables e below (T3.setTop (mkF m 5 #[.val (.ref a_o), .val (.int (1 : Int32)), .val (.int x_1)] [(.int (1 : Int32)), (.ref t_o)])) _
    refine XS.iloadN X3.here hx rfl (hb hby own_d11_5) rfl ?_
    show Steps p.tables e below (T3.setTop (mkF m 6 #[.val (.ref a_o), .val (.int (1 : Int32)), .val (.int x_1)] [(.int x_1), (.int (1 : Int32)), (.ref t_o)])) _
    refine st8 _ ?_
    show Steps p.tables e below (T8.setTop (mkF m 7 #[.val (.ref a_o), .val (.int (1 : Int32)), .val (.int x_1)] [])) _
    exact X8.returnOut hx Bd.returns (hb hby own_d11_7) hr
  · show Qown_st1 Z a_o x_1 t_o k_t v_0 v_1 h0 n0 _ T8.heap _
    rw [e8]
    exact ⟨rfl, N12, Kc10, Vm9⟩
theorem own_ef_own_ad (m : MethodId) (a_o : Addr) : entryFrame m #[(.ref a_o)] 5 = mkF m 0 #[.val (.ref a_o), .unset, .unset, .unset, .unset] [] := by first | (simp [entryFrame, mkF, argsToLocals, Value.category]; done) | rfl
theorem own_d12_0 : decode prog_56_method_11_code 0 = .ok (.aload_n 0, 1) := by decide +kernel
theorem own_d12_1 : decode prog_56_method_11_code 1 = .ok (.getfield 80, 3) := by decide +kernel
theorem own_d12_4 : decode prog_56_method_11_code 4 = .ok (.astore_n 1, 1) := by decide +kernel
theorem own_d12_5 : decode prog_56_method_11_code 5 = .ok (.aload_n 1, 1) := by decide +kernel
theorem own_d12_6 : decode prog_56_method_11_code 6 = .ok (.arraylength, 1) := by decide +kernel
theorem own_d12_7 : decode prog_56_method_11_code 7 = .ok (.istore_n 2, 1) := by decide +kernel
theorem own_d12_8 : decode prog_56_method_11_code 8 = .ok (.iconst 0, 1) := by decide +kernel
theorem own_d12_9 : decode prog_56_method_11_code 9 = .ok (.istore_n 3, 1) := by decide +kernel
theorem own_d12_10 : decode prog_56_method_11_code 10 = .ok (.iload_n 3, 1) := by decide +kernel
theorem own_d12_11 : decode prog_56_method_11_code 11 = .ok (.iload_n 2, 1) := by decide +kernel
theorem own_d12_12 : decode prog_56_method_11_code 12 = .ok (.if_icmp .ge 22, 3) := by decide +kernel
theorem own_d12_34 : decode prog_56_method_11_code 34 = .ok (.iconst 0, 1) := by decide +kernel
theorem own_d12_35 : decode prog_56_method_11_code 35 = .ok (.istore_n 1, 1) := by decide +kernel
theorem own_d12_36 : decode prog_56_method_11_code 36 = .ok (.iload_n 1, 1) := by decide +kernel
theorem own_d12_37 : decode prog_56_method_11_code 37 = .ok (.aload_n 0, 1) := by decide +kernel
theorem own_d12_38 : decode prog_56_method_11_code 38 = .ok (.getfield 16, 3) := by decide +kernel
theorem own_d12_41 : decode prog_56_method_11_code 41 = .ok (.arraylength, 1) := by decide +kernel
theorem own_d12_42 : decode prog_56_method_11_code 42 = .ok (.if_icmp .ge 35, 3) := by decide +kernel
theorem own_d12_45 : decode prog_56_method_11_code 45 = .ok (.aload_n 0, 1) := by decide +kernel
theorem own_d12_46 : decode prog_56_method_11_code 46 = .ok (.getfield 16, 3) := by decide +kernel
theorem own_d12_49 : decode prog_56_method_11_code 49 = .ok (.iload_n 1, 1) := by decide +kernel
theorem own_d12_50 : decode prog_56_method_11_code 50 = .ok (.baload, 1) := by decide +kernel
theorem own_d12_51 : decode prog_56_method_11_code 51 = .ok (.ifCond .eq 20, 3) := by decide +kernel
theorem own_d12_54 : decode prog_56_method_11_code 54 = .ok (.aload_n 0, 1) := by decide +kernel
theorem own_d12_55 : decode prog_56_method_11_code 55 = .ok (.getfield 12, 3) := by decide +kernel
theorem own_d12_58 : decode prog_56_method_11_code 58 = .ok (.iload_n 1, 1) := by decide +kernel
theorem own_d12_59 : decode prog_56_method_11_code 59 = .ok (.dup2, 1) := by decide +kernel
theorem own_d12_60 : decode prog_56_method_11_code 60 = .ok (.laload, 1) := by decide +kernel
theorem own_d12_61 : decode prog_56_method_11_code 61 = .ok (.lconst 1, 1) := by decide +kernel
theorem own_d12_62 : decode prog_56_method_11_code 62 = .ok (.ladd, 1) := by decide +kernel
theorem own_d12_63 : decode prog_56_method_11_code 63 = .ok (.lastore, 1) := by decide +kernel
theorem own_d12_64 : decode prog_56_method_11_code 64 = .ok (.aload_n 0, 1) := by decide +kernel
theorem own_d12_65 : decode prog_56_method_11_code 65 = .ok (.getfield 16, 3) := by decide +kernel
theorem own_d12_68 : decode prog_56_method_11_code 68 = .ok (.iload_n 1, 1) := by decide +kernel
theorem own_d12_69 : decode prog_56_method_11_code 69 = .ok (.iconst 0, 1) := by decide +kernel
theorem own_d12_70 : decode prog_56_method_11_code 70 = .ok (.bastore, 1) := by decide +kernel
theorem own_d12_71 : decode prog_56_method_11_code 71 = .ok (.iinc 1 1, 3) := by decide +kernel
theorem own_d12_74 : decode prog_56_method_11_code 74 = .ok (.goto (-38), 3) := by decide +kernel
theorem own_d12_77 : decode prog_56_method_11_code 77 = .ok (.return_, 1) := by decide +kernel
def Qown_ad (Z : State) (a_o : Addr) (t_o : Addr) (c_o : Addr) (k_t : ClassId) (k_c : ClassId) (b_0 : Int32) (b_1 : Int32) (c_0 : Int64) (c_1 : Int64) (m_o : Addr) (k_m : ClassId) (h0 : Heap) (n0 : Nat) (v : Option Value) (h : Heap) (L : List Loc) : Prop := v = none ∧ Fr n0 L ∧ Keep h0 h [t_o, c_o] ∧ Arv Z h t_o k_t .boolean (2 : Int32) [(.int (if b_0 = (0 : Int32) then b_0 else (0 : Int32))), (.int (if b_1 = (0 : Int32) then b_1 else (0 : Int32)))] (.int (0 : Int32)) ∧ Arv Z h c_o k_c .long (2 : Int32) [(.long (if b_0 = (0 : Int32) then c_0 else (c_0 + (1 : Int64)))), (.long (if b_1 = (0 : Int32) then c_1 else (c_1 + (1 : Int64))))] (.long (0 : Int64))
set_option maxRecDepth 65536 in
set_option maxHeartbeats 40000000 in
theorem own_ad (l : Launch) (Z : State) (a0 : Array Value) (hw : ∀ d ∈ tables_1, d.before a0 Z = true) (ws : List Jvm.Cond) (a_o : Addr) (t_o : Addr) (c_o : Addr) (k_t : ClassId) (k_c : ClassId) (b_0 : Int32) (b_1 : Int32) (c_0 : Int64) (c_1 : Int64) (m_o : Addr) (k_m : ClassId) (h0 : Heap) (n0 : Nat) (Z0 : n0 ≤ h0.size) (F_t : Fld Z h0 a_o "com/example/tymely/tymely/model/Step" "ticking" "[Z" (.ref t_o)) (F_c : Fld Z h0 a_o "com/example/tymely/tymely/model/Step" "countsBefore" "[J" (.ref c_o)) (V_t : Arv Z h0 t_o k_t .boolean (2 : Int32) [(.int b_0), (.int b_1)] (.int (0 : Int32))) (V_c : Arv Z h0 c_o k_c .long (2 : Int32) [(.long c_0), (.long c_1)] (.long (0 : Int64))) (F_m : Fld Z h0 a_o "com/example/tymely/tymely/model/Step" "memories" "[Lcom/example/tymely/tymely/model/Memory;" (.ref m_o)) (V_m : Arv Z h0 m_o k_m (.object "com/example/tymely/tymely/model/Memory") (0 : Int32) [] .null) (gt : n0 ≤ t_o) (gc : n0 ≤ c_o) (n1 : a_o ≠ t_o) (n2 : a_o ≠ c_o) (n3 : c_o ≠ t_o) :
    MetFree l (⟨"com/example/tymely/tymely/model/Step", "advance", "()V"⟩ : MethodName) (head1 (Jvm.Cond.code (⟨"com/example/tymely/tymely/model/Step", "advance", "()V"⟩ : MethodName) prog_56_method_11_code 5 none :: ws) ({ frames := 0, cells := 0, slots := 0, locals := 0 } : Room)) (fun a U => a = #[(.ref a_o)] ∧ Z.Warmed39 U.vm ∧ U.heap = h0) (fun _ _ _ _ _ => True) (fun _ U o U' => ∃ v L, o = .returned v ∧ Qown_ad Z a_o t_o c_o k_t k_c b_0 b_1 c_0 c_1 m_o k_m h0 n0 v U'.heap L ∧ FrameEnd U o U' L ({ frames := 0, cells := 0, slots := 0, locals := 0 } : Room).cells ({ frames := 0, cells := 0, slots := 0, locals := 0 } : Room).slots) := by
  refine MetFree.of_bodySF (plainFor_of_name own_pn4) hisR ?_
  intro p e s m args below meth c s₁ Bd hml0 hP hK
  obtain ⟨rfl, hZ, hh⟩ := hP
  have hx := Bd.exec
  have hby := Bd.bytes
  have hml : c.maxLocals = 5 := hml0
  have hown : s.vm.findClass "com/example/tymely/tymely/model/Step" = some m.cls := findClass_of_methodNamed Bd.named
  have hnm := (name_of_methodNamed Bd.named Bd.method).1
  have X0 : Stand p l e ({ frames := 0, cells := 0, slots := 0, locals := 0 } : Room) s m #[(.ref a_o)] below meth c s₁ [] 0 0 := Stand.of_body Bd
  have e0 : s₁.heap = h0 := by rw [← hh, Bd.state]; rfl
  have N0 := Fr.nil n0
  have pre0 : ∀ t, Steps p.tables e below (s₁.setTop (mkF m 0 #[.val (.ref a_o), .unset, .unset, .unset, .unset] [])) t → Steps p.tables e below (s₁.setTop (entryFrame m #[(.ref a_o)] 5)) t := fun t k => castTop (own_ef_own_ad m a_o) k
  obtain ⟨T3, X3, e3, st3⟩ := getF X0 hx hZ hown (host := "") (Or.inl (hw _ (List.mem_of_getElem? (i := 105) rfl))) Via.refl e0 F_m (g := (mkF m 1 #[.val (.ref a_o), .unset, .unset, .unset, .unset] [(.ref a_o)])) rfl rfl (hb hby own_d12_1)
  obtain ⟨cl7, Ar7, -, S7, M7, -, -⟩ := id V_m
  obtain ⟨T19, X19, e19, st19⟩ := getF X3 hx hZ hown (host := "") (Or.inl (hw _ (List.mem_of_getElem? (i := 40) rfl))) Via.refl e3 F_t (g := (mkF m 38 #[.val (.ref a_o), .val (.int (0 : Int32)), .val (.int (0 : Int32)), .val (.int (0 : Int32)), .unset] [(.ref a_o), (.int (0 : Int32))])) rfl rfl (hb hby own_d12_38)
  obtain ⟨cl21, Ar21, -, S21, M21, -, -⟩ := id V_t
  obtain ⟨T25, X25, e25, st25⟩ := getF X19 hx hZ hown (host := "") (Or.inl (hw _ (List.mem_of_getElem? (i := 40) rfl))) Via.refl e19 F_t (g := (mkF m 46 #[.val (.ref a_o), .val (.int (0 : Int32)), .val (.int (0 : Int32)), .val (.int (0 : Int32)), .unset] [(.ref a_o)])) rfl rfl (hb hby own_d12_46)
  obtain ⟨cl28, Ar28, q28, S28, M28, H28, G28⟩ := id V_t
  have hin28 : ¬ ((0 : Int32) < 0 ∨ cl28.slots.size ≤ ((0 : Int32)).toNatClampNeg) := inb_of S28 ⟨by decide, by decide⟩
  have hat28 : cl28.slots[((0 : Int32)).toNatClampNeg]? = some (.int b_0) := H28.at hin28 rfl
  have pre30 : ∀ t, Steps p.tables e below (T25.setTop (mkF m 51 #[.val (.ref a_o), .val (.int (0 : Int32)), .val (.int (0 : Int32)), .val (.int (0 : Int32)), .unset] [(.int b_0)])) t → Steps p.tables e below (s₁.setTop (entryFrame m #[(.ref a_o)] 5)) t := by
    intro t kt
    refine pre0 _ ?_
    show Steps p.tables e below (s₁.setTop (mkF m 0 #[.val (.ref a_o), .unset, .unset, .unset, .unset] [])) _
    refine XS.aloadN X0.here hx rfl (hb hby own_d12_0) rfl rfl ?_
    show Steps p.tables e below (s₁.setTop (mkF m 1 #[.val (.ref a_o), .unset, .unset, .unset, .unset] [(.ref a_o)])) _
    refine st3 _ ?_
    show Steps p.tables e below (T3.setTop (mkF m 4 #[.val (.ref a_o), .unset, .unset, .unset, .unset] [(.ref m_o)])) _
    refine XS.astoreN X3.here hx rfl (hb hby own_d12_4) rfl rfl (l' := #[.val (.ref a_o), .val (.ref m_o), .unset, .unset, .unset]) rfl ?_
    show Steps p.tables e below (T3.setTop (mkF m 5 #[.val (.ref a_o), .val (.ref m_o), .unset, .unset, .unset] [])) _
    refine XS.aloadN X3.here hx rfl (hb hby own_d12_5) rfl rfl ?_
    show Steps p.tables e below (T3.setTop (mkF m 6 #[.val (.ref a_o), .val (.ref m_o), .unset, .unset, .unset] [(.ref m_o)])) _
    refine X3.arraylength hx (by rw [e3]; exact Ar7.1) (State.isArrayOf_alike hZ.alike Ar7.2.1) (g := (mkF m 6 #[.val (.ref a_o), .val (.ref m_o), .unset, .unset, .unset] [(.ref m_o)])) rfl rfl (hb hby own_d12_6) _ ?_
    rw [len_of S7 M7]
    show Steps p.tables e below (T3.setTop (mkF m 7 #[.val (.ref a_o), .val (.ref m_o), .unset, .unset, .unset] [(.int (0 : Int32))])) _
    refine XS.istoreN X3.here hx rfl (hb hby own_d12_7) rfl (l' := #[.val (.ref a_o), .val (.ref m_o), .val (.int (0 : Int32)), .unset, .unset]) rfl ?_
    show Steps p.tables e below (T3.setTop (mkF m 8 #[.val (.ref a_o), .val (.ref m_o), .val (.int (0 : Int32)), .unset, .unset] [])) _
    refine XS.iconst X3.here hx rfl (hb hby own_d12_8) ?_
    show Steps p.tables e below (T3.setTop (mkF m 9 #[.val (.ref a_o), .val (.ref m_o), .val (.int (0 : Int32)), .unset, .unset] [(.int (0 : Int32))])) _
    refine XS.istoreN X3.here hx rfl (hb hby own_d12_9) rfl (l' := #[.val (.ref a_o), .val (.ref m_o), .val (.int (0 : Int32)), .val (.int (0 : Int32)), .unset]) rfl ?_
    show Steps p.tables e below (T3.setTop (mkF m 10 #[.val (.ref a_o), .val (.ref m_o), .val (.int (0 : Int32)), .val (.int (0 : Int32)), .unset] [])) _
    refine XS.iloadN X3.here hx rfl (hb hby own_d12_10) rfl ?_
    show Steps p.tables e below (T3.setTop (mkF m 11 #[.val (.ref a_o), .val (.ref m_o), .val (.int (0 : Int32)), .val (.int (0 : Int32)), .unset] [(.int (0 : Int32))])) _
    refine XS.iloadN X3.here hx rfl (hb hby own_d12_11) rfl ?_
    show Steps p.tables e below (T3.setTop (mkF m 12 #[.val (.ref a_o), .val (.ref m_o), .val (.int (0 : Int32)), .val (.int (0 : Int32)), .unset] [(.int (0 : Int32)), (.int (0 : Int32))])) _
    refine XS.icmpYes X3.here hx rfl (pc0 := 12) (pc' := 34) rfl (hb hby own_d12_12) rfl (flt ((by decide) : ¬ ((0 : Int32) < (0 : Int32)))).2.1 (by decide) (by decide) ?_
    show Steps p.tables e below (T3.setTop (mkF m 34 #[.val (.ref a_o), .val (.ref m_o), .val (.int (0 : Int32)), .val (.int (0 : Int32)), .unset] [])) _
    refine XS.iconst X3.here hx rfl (hb hby own_d12_34) ?_
    show Steps p.tables e below (T3.setTop (mkF m 35 #[.val (.ref a_o), .val (.ref m_o), .val (.int (0 : Int32)), .val (.int (0 : Int32)), .unset] [(.int (0 : Int32))])) _
    refine XS.istoreN X3.here hx rfl (hb hby own_d12_35) rfl (l' := #[.val (.ref a_o), .val (.int (0 : Int32)), .val (.int (0 : Int32)), .val (.int (0 : Int32)), .unset]) rfl ?_
    show Steps p.tables e below (T3.setTop (mkF m 36 #[.val (.ref a_o), .val (.int (0 : Int32)), .val (.int (0 : Int32)), .val (.int (0 : Int32)), .unset] [])) _
    refine XS.iloadN X3.here hx rfl (hb hby own_d12_36) rfl ?_
    show Steps p.tables e below (T3.setTop (mkF m 37 #[.val (.ref a_o), .val (.int (0 : Int32)), .val (.int (0 : Int32)), .val (.int (0 : Int32)), .unset] [(.int (0 : Int32))])) _
    refine XS.aloadN X3.here hx rfl (hb hby own_d12_37) rfl rfl ?_
    show Steps p.tables e below (T3.setTop (mkF m 38 #[.val (.ref a_o), .val (.int (0 : Int32)), .val (.int (0 : Int32)), .val (.int (0 : Int32)), .unset] [(.ref a_o), (.int (0 : Int32))])) _
    refine st19 _ ?_
    show Steps p.tables e below (T19.setTop (mkF m 41 #[.val (.ref a_o), .val (.int (0 : Int32)), .val (.int (0 : Int32)), .val (.int (0 : Int32)), .unset] [(.ref t_o), (.int (0 : Int32))])) _
    refine X19.arraylength hx (by rw [e19]; exact Ar21.1) (State.isArrayOf_alike hZ.alike Ar21.2.1) (g := (mkF m 41 #[.val (.ref a_o), .val (.int (0 : Int32)), .val (.int (0 : Int32)), .val (.int (0 : Int32)), .unset] [(.ref t_o), (.int (0 : Int32))])) rfl rfl (hb hby own_d12_41) _ ?_
    rw [len_of S21 M21]
    show Steps p.tables e below (T19.setTop (mkF m 42 #[.val (.ref a_o), .val (.int (0 : Int32)), .val (.int (0 : Int32)), .val (.int (0 : Int32)), .unset] [(.int (2 : Int32)), (.int (0 : Int32))])) _
    refine XS.icmpNo X19.here hx rfl (hb hby own_d12_42) rfl (tlt ((by decide) : (0 : Int32) < (2 : Int32))).2.1 ?_
    show Steps p.tables e below (T19.setTop (mkF m 45 #[.val (.ref a_o), .val (.int (0 : Int32)), .val (.int (0 : Int32)), .val (.int (0 : Int32)), .unset] [])) _
    refine XS.aloadN X19.here hx rfl (hb hby own_d12_45) rfl rfl ?_
    show Steps p.tables e below (T19.setTop (mkF m 46 #[.val (.ref a_o), .val (.int (0 : Int32)), .val (.int (0 : Int32)), .val (.int (0 : Int32)), .unset] [(.ref a_o)])) _
    refine st25 _ ?_
    show Steps p.tables e below (T25.setTop (mkF m 49 #[.val (.ref a_o), .val (.int (0 : Int32)), .val (.int (0 : Int32)), .val (.int (0 : Int32)), .unset] [(.ref t_o)])) _
    refine XS.iloadN X25.here hx rfl (hb hby own_d12_49) rfl ?_
    show Steps p.tables e below (T25.setTop (mkF m 50 #[.val (.ref a_o), .val (.int (0 : Int32)), .val (.int (0 : Int32)), .val (.int (0 : Int32)), .unset] [(.int (0 : Int32)), (.ref t_o)])) _
    refine X25.baloadBooleans hx (j := (0 : Int32)) (v := (.int b_0)) (by rw [e25]; exact Ar28.1) (State.isArrayOf_alike hZ.alike Ar28.2.1) Ar28.2.2 hin28 hat28 (g := (mkF m 50 #[.val (.ref a_o), .val (.int (0 : Int32)), .val (.int (0 : Int32)), .val (.int (0 : Int32)), .unset] [(.int (0 : Int32)), (.ref t_o)])) rfl rfl (hb hby own_d12_50) _ ?_
    exact kt
  by_cases hc51_31 : b_0 = (0 : Int32)
  · obtain ⟨T37, X37, e37, st37⟩ := getF X25 hx hZ hown (host := "") (Or.inl (hw _ (List.mem_of_getElem? (i := 40) rfl))) Via.refl e25 F_t (g := (mkF m 38 #[.val (.ref a_o), .val (.int (1 : Int32)), .val (.int (0 : Int32)), .val (.int (0 : Int32)), .unset] [(.ref a_o), (.int (1 : Int32))])) rfl rfl (hb hby own_d12_38)
    obtain ⟨cl39, Ar39, -, S39, M39, -, -⟩ := id V_t
    obtain ⟨T43, X43, e43, st43⟩ := getF X37 hx hZ hown (host := "") (Or.inl (hw _ (List.mem_of_getElem? (i := 40) rfl))) Via.refl e37 F_t (g := (mkF m 46 #[.val (.ref a_o), .val (.int (1 : Int32)), .val (.int (0 : Int32)), .val (.int (0 : Int32)), .unset] [(.ref a_o)])) rfl rfl (hb hby own_d12_46)
    obtain ⟨cl46, Ar46, q46, S46, M46, H46, G46⟩ := id V_t
    have hin46 : ¬ ((1 : Int32) < 0 ∨ cl46.slots.size ≤ ((1 : Int32)).toNatClampNeg) := inb_of S46 ⟨by decide, by decide⟩
    have hat46 : cl46.slots[((1 : Int32)).toNatClampNeg]? = some (.int b_1) := H46.at hin46 rfl
    have pre48 : ∀ t, Steps p.tables e below (T43.setTop (mkF m 51 #[.val (.ref a_o), .val (.int (1 : Int32)), .val (.int (0 : Int32)), .val (.int (0 : Int32)), .unset] [(.int b_1)])) t → Steps p.tables e below (s₁.setTop (entryFrame m #[(.ref a_o)] 5)) t := by
      intro t kt
      refine pre30 _ ?_
      show Steps p.tables e below (T25.setTop (mkF m 51 #[.val (.ref a_o), .val (.int (0 : Int32)), .val (.int (0 : Int32)), .val (.int (0 : Int32)), .unset] [(.int b_0)])) _
      refine XS.ifYes X25.here hx rfl (pc0 := 51) (pc' := 71) rfl (hb hby own_d12_51) rfl ((if0 _ _).trans (teq hc51_31).1) (by decide) (by decide) ?_
      show Steps p.tables e below (T25.setTop (mkF m 71 #[.val (.ref a_o), .val (.int (0 : Int32)), .val (.int (0 : Int32)), .val (.int (0 : Int32)), .unset] [])) _
      refine XS.iinc X25.here hx rfl (hb hby own_d12_71) rfl (l' := #[.val (.ref a_o), .val (.int (1 : Int32)), .val (.int (0 : Int32)), .val (.int (0 : Int32)), .unset]) rfl ?_
      show Steps p.tables e below (T25.setTop (mkF m 74 #[.val (.ref a_o), .val (.int (1 : Int32)), .val (.int (0 : Int32)), .val (.int (0 : Int32)), .unset] [])) _
      refine XS.goto X25.here hx rfl (pc0 := 74) (pc' := 36) rfl (hb hby own_d12_74) (by decide) (by decide) ?_
      show Steps p.tables e below (T25.setTop (mkF m 36 #[.val (.ref a_o), .val (.int (1 : Int32)), .val (.int (0 : Int32)), .val (.int (0 : Int32)), .unset] [])) _
      refine XS.iloadN X25.here hx rfl (hb hby own_d12_36) rfl ?_
      show Steps p.tables e below (T25.setTop (mkF m 37 #[.val (.ref a_o), .val (.int (1 : Int32)), .val (.int (0 : Int32)), .val (.int (0 : Int32)), .unset] [(.int (1 : Int32))])) _
      refine XS.aloadN X25.here hx rfl (hb hby own_d12_37) rfl rfl ?_
      show Steps p.tables e below (T25.setTop (mkF m 38 #[.val (.ref a_o), .val (.int (1 : Int32)), .val (.int (0 : Int32)), .val (.int (0 : Int32)), .unset] [(.ref a_o), (.int (1 : Int32))])) _
      refine st37 _ ?_
      show Steps p.tables e below (T37.setTop (mkF m 41 #[.val (.ref a_o), .val (.int (1 : Int32)), .val (.int (0 : Int32)), .val (.int (0 : Int32)), .unset] [(.ref t_o), (.int (1 : Int32))])) _
      refine X37.arraylength hx (by rw [e37]; exact Ar39.1) (State.isArrayOf_alike hZ.alike Ar39.2.1) (g := (mkF m 41 #[.val (.ref a_o), .val (.int (1 : Int32)), .val (.int (0 : Int32)), .val (.int (0 : Int32)), .unset] [(.ref t_o), (.int (1 : Int32))])) rfl rfl (hb hby own_d12_41) _ ?_
      rw [len_of S39 M39]
      show Steps p.tables e below (T37.setTop (mkF m 42 #[.val (.ref a_o), .val (.int (1 : Int32)), .val (.int (0 : Int32)), .val (.int (0 : Int32)), .unset] [(.int (2 : Int32)), (.int (1 : Int32))])) _
      refine XS.icmpNo X37.here hx rfl (hb hby own_d12_42) rfl (tlt ((by decide) : (1 : Int32) < (2 : Int32))).2.1 ?_
      show Steps p.tables e below (T37.setTop (mkF m 45 #[.val (.ref a_o), .val (.int (1 : Int32)), .val (.int (0 : Int32)), .val (.int (0 : Int32)), .unset] [])) _
      refine XS.aloadN X37.here hx rfl (hb hby own_d12_45) rfl rfl ?_
      show Steps p.tables e below (T37.setTop (mkF m 46 #[.val (.ref a_o), .val (.int (1 : Int32)), .val (.int (0 : Int32)), .val (.int (0 : Int32)), .unset] [(.ref a_o)])) _
      refine st43 _ ?_
      show Steps p.tables e below (T43.setTop (mkF m 49 #[.val (.ref a_o), .val (.int (1 : Int32)), .val (.int (0 : Int32)), .val (.int (0 : Int32)), .unset] [(.ref t_o)])) _
      refine XS.iloadN X43.here hx rfl (hb hby own_d12_49) rfl ?_
      show Steps p.tables e below (T43.setTop (mkF m 50 #[.val (.ref a_o), .val (.int (1 : Int32)), .val (.int (0 : Int32)), .val (.int (0 : Int32)), .unset] [(.int (1 : Int32)), (.ref t_o)])) _
      refine X43.baloadBooleans hx (j := (1 : Int32)) (v := (.int b_1)) (by rw [e43]; exact Ar46.1) (State.isArrayOf_alike hZ.alike Ar46.2.1) Ar46.2.2 hin46 hat46 (g := (mkF m 50 #[.val (.ref a_o), .val (.int (1 : Int32)), .val (.int (0 : Int32)), .val (.int (0 : Int32)), .unset] [(.int (1 : Int32)), (.ref t_o)])) rfl rfl (hb hby own_d12_50) _ ?_
      exact kt
    by_cases hc51_49 : b_1 = (0 : Int32)
    · obtain ⟨T55, X55, e55, st55⟩ := getF X43 hx hZ hown (host := "") (Or.inl (hw _ (List.mem_of_getElem? (i := 40) rfl))) Via.refl e43 F_t (g := (mkF m 38 #[.val (.ref a_o), .val (.int (2 : Int32)), .val (.int (0 : Int32)), .val (.int (0 : Int32)), .unset] [(.ref a_o), (.int (2 : Int32))])) rfl rfl (hb hby own_d12_38)
      obtain ⟨cl57, Ar57, -, S57, M57, -, -⟩ := id V_t
      obtain ⟨fs, hr, hrun, hended, hW, hsame⟩ := X55.leave (v := none) (fun _ => rfl) (hlocks := BodyLoose.notSynchronized Bd)
      refine ⟨_, _, pre48 _ ?_, hrun, hended, _, _, rfl, ?_, ⟨_, rfl⟩, hW, hsame.mono (by decide) (by decide)⟩
      · show Steps p.tables e below (T43.setTop (mkF m 51 #[.val (.ref a_o), .val (.int (1 : Int32)), .val (.int (0 : Int32)), .val (.int (0 : Int32)), .unset] [(.int b_1)])) _
        refine XS.ifYes X43.here hx rfl (pc0 := 51) (pc' := 71) rfl (hb hby own_d12_51) rfl ((if0 _ _).trans (teq hc51_49).1) (by decide) (by decide) ?_
        show Steps p.tables e below (T43.setTop (mkF m 71 #[.val (.ref a_o), .val (.int (1 : Int32)), .val (.int (0 : Int32)), .val (.int (0 : Int32)), .unset] [])) _
        refine XS.iinc X43.here hx rfl (hb hby own_d12_71) rfl (l' := #[.val (.ref a_o), .val (.int (2 : Int32)), .val (.int (0 : Int32)), .val (.int (0 : Int32)), .unset]) rfl ?_
        show Steps p.tables e below (T43.setTop (mkF m 74 #[.val (.ref a_o), .val (.int (2 : Int32)), .val (.int (0 : Int32)), .val (.int (0 : Int32)), .unset] [])) _
        refine XS.goto X43.here hx rfl (pc0 := 74) (pc' := 36) rfl (hb hby own_d12_74) (by decide) (by decide) ?_
        show Steps p.tables e below (T43.setTop (mkF m 36 #[.val (.ref a_o), .val (.int (2 : Int32)), .val (.int (0 : Int32)), .val (.int (0 : Int32)), .unset] [])) _
        refine XS.iloadN X43.here hx rfl (hb hby own_d12_36) rfl ?_
        show Steps p.tables e below (T43.setTop (mkF m 37 #[.val (.ref a_o), .val (.int (2 : Int32)), .val (.int (0 : Int32)), .val (.int (0 : Int32)), .unset] [(.int (2 : Int32))])) _
        refine XS.aloadN X43.here hx rfl (hb hby own_d12_37) rfl rfl ?_
        show Steps p.tables e below (T43.setTop (mkF m 38 #[.val (.ref a_o), .val (.int (2 : Int32)), .val (.int (0 : Int32)), .val (.int (0 : Int32)), .unset] [(.ref a_o), (.int (2 : Int32))])) _
        refine st55 _ ?_
        show Steps p.tables e below (T55.setTop (mkF m 41 #[.val (.ref a_o), .val (.int (2 : Int32)), .val (.int (0 : Int32)), .val (.int (0 : Int32)), .unset] [(.ref t_o), (.int (2 : Int32))])) _
        refine X55.arraylength hx (by rw [e55]; exact Ar57.1) (State.isArrayOf_alike hZ.alike Ar57.2.1) (g := (mkF m 41 #[.val (.ref a_o), .val (.int (2 : Int32)), .val (.int (0 : Int32)), .val (.int (0 : Int32)), .unset] [(.ref t_o), (.int (2 : Int32))])) rfl rfl (hb hby own_d12_41) _ ?_
        rw [len_of S57 M57]
        show Steps p.tables e below (T55.setTop (mkF m 42 #[.val (.ref a_o), .val (.int (2 : Int32)), .val (.int (0 : Int32)), .val (.int (0 : Int32)), .unset] [(.int (2 : Int32)), (.int (2 : Int32))])) _
        refine XS.icmpYes X55.here hx rfl (pc0 := 42) (pc' := 77) rfl (hb hby own_d12_42) rfl (flt ((by decide) : ¬ ((2 : Int32) < (2 : Int32)))).2.1 (by decide) (by decide) ?_
        show Steps p.tables e below (T55.setTop (mkF m 77 #[.val (.ref a_o), .val (.int (2 : Int32)), .val (.int (0 : Int32)), .val (.int (0 : Int32)), .unset] [])) _
        exact X55.returnOut hx Bd.returns (hb hby own_d12_77) hr
      · show Qown_ad Z a_o t_o c_o k_t k_c b_0 b_1 c_0 c_1 m_o k_m h0 n0 _ T55.heap _
        rw [e55]
        exact ⟨rfl, N0, (Keep.refl h0 [t_o, c_o]), (by simp only [if_pos hc51_31, if_pos hc51_49]; exact V_t), (by simp only [if_pos hc51_31, if_pos hc51_49]; exact V_c)⟩
    · obtain ⟨T62, X62, e62, st62⟩ := getF X43 hx hZ hown (host := "") (Or.inl (hw _ (List.mem_of_getElem? (i := 37) rfl))) Via.refl e43 F_c (g := (mkF m 55 #[.val (.ref a_o), .val (.int (1 : Int32)), .val (.int (0 : Int32)), .val (.int (0 : Int32)), .unset] [(.ref a_o)])) rfl rfl (hb hby own_d12_55)
      obtain ⟨cl66, Ar66, q66, S66, M66, H66, G66⟩ := id V_c
      have hin66 : ¬ ((1 : Int32) < 0 ∨ cl66.slots.size ≤ ((1 : Int32)).toNatClampNeg) := inb_of S66 ⟨by decide, by decide⟩
      have hat66 : cl66.slots[((1 : Int32)).toNatClampNeg]? = some (.long c_1) := H66.at hin66 rfl
      obtain ⟨cl70, Ar70, q70, S70, M70, H70, G70⟩ := id V_c
      have hin70 : ¬ ((1 : Int32) < 0 ∨ cl70.slots.size ≤ ((1 : Int32)).toNatClampNeg) := inb_of S70 ⟨by decide, by decide⟩
      obtain ⟨T71, h71, X71, e71, W71, st71⟩ := stJ X62 hx hZ e62 Ar70 (j := (1 : Int32)) hin70 (g := (mkF m 63 #[.val (.ref a_o), .val (.int (1 : Int32)), .val (.int (0 : Int32)), .val (.int (0 : Int32)), .unset] [(.long (c_1 + (1 : Int64))), (.int (1 : Int32)), (.ref c_o)])) rfl rfl (hb hby own_d12_63)
      have Kc73 : Keep h0 h71 [t_o, c_o] := (Keep.refl h0 [t_o, c_o]).wr W71 (Or.inl (List.mem_of_getElem? (i := 1) rfl))
      have Zs74 : n0 ≤ h71.size := Nat.le_trans Z0 (Keep.of_wr W71).1
      have N75 := Fr.snoc X71 N0 gc
      have Vm72 : Arv Z h71 c_o k_c .long (2 : Int32) [(.long c_0), (.long (c_1 + (1 : Int64)))] (.long (0 : Int64)) := Arv.set Ar70 q70 S70 M70 H70 G70 rfl W71 1 rfl (Nat.le_of_ble_eq_true rfl)
      have Fq78 : Fld Z h71 a_o "com/example/tymely/tymely/model/Step" "ticking" "[Z" (.ref t_o) := (F_t.other W71 (Or.inl n2))
      obtain ⟨T79, X79, e79, st79⟩ := getF X71 hx hZ hown (host := "") (Or.inl (hw _ (List.mem_of_getElem? (i := 40) rfl))) Via.refl e71 Fq78 (g := (mkF m 65 #[.val (.ref a_o), .val (.int (1 : Int32)), .val (.int (0 : Int32)), .val (.int (0 : Int32)), .unset] [(.ref a_o)])) rfl rfl (hb hby own_d12_65)
      have Fq83 : Arv Z h71 t_o k_t .boolean (2 : Int32) [(.int b_0), (.int b_1)] (.int (0 : Int32)) := (V_t.other W71 (Ne.symm n3))
      obtain ⟨cl84, Ar84, q84, S84, M84, H84, G84⟩ := id Fq83
      have hin84 : ¬ ((1 : Int32) < 0 ∨ cl84.slots.size ≤ ((1 : Int32)).toNatClampNeg) := inb_of S84 ⟨by decide, by decide⟩
      obtain ⟨T85, h85, X85, e85, W85, st85⟩ := stZ X79 hx hZ e79 Ar84 (j := (1 : Int32)) hin84 (g := (mkF m 70 #[.val (.ref a_o), .val (.int (1 : Int32)), .val (.int (0 : Int32)), .val (.int (0 : Int32)), .unset] [(.int (0 : Int32)), (.int (1 : Int32)), (.ref t_o)])) rfl rfl (hb hby own_d12_70)
      have Kc87 : Keep h0 h85 [t_o, c_o] := Kc73.wr W85 (Or.inl (List.mem_of_getElem? (i := 0) rfl))
      have Zs88 : n0 ≤ h85.size := Nat.le_trans Zs74 (Keep.of_wr W85).1
      have N89 := Fr.snoc X85 N75 gt
      have Vm86 : Arv Z h85 t_o k_t .boolean (2 : Int32) [(.int b_0), (.int (0 : Int32))] (.int (0 : Int32)) := Arv.set Ar84 q84 S84 M84 H84 G84 (fits_nar_bool _) W85 1 rfl (Nat.le_of_ble_eq_true rfl)
      have Fq95 : Fld Z h85 a_o "com/example/tymely/tymely/model/Step" "ticking" "[Z" (.ref t_o) := (Fq78.other W85 (Or.inl n1))
      obtain ⟨T96, X96, e96, st96⟩ := getF X85 hx hZ hown (host := "") (Or.inl (hw _ (List.mem_of_getElem? (i := 40) rfl))) Via.refl e85 Fq95 (g := (mkF m 38 #[.val (.ref a_o), .val (.int (2 : Int32)), .val (.int (0 : Int32)), .val (.int (0 : Int32)), .unset] [(.ref a_o), (.int (2 : Int32))])) rfl rfl (hb hby own_d12_38)
      obtain ⟨cl98, Ar98, -, S98, M98, -, -⟩ := id Vm86
      obtain ⟨fs, hr, hrun, hended, hW, hsame⟩ := X96.leave (v := none) (fun _ => rfl) (hlocks := BodyLoose.notSynchronized Bd)
      refine ⟨_, _, pre48 _ ?_, hrun, hended, _, _, rfl, ?_, ⟨_, rfl⟩, hW, hsame.mono (by decide) (by decide)⟩
      · show Steps p.tables e below (T43.setTop (mkF m 51 #[.val (.ref a_o), .val (.int (1 : Int32)), .val (.int (0 : Int32)), .val (.int (0 : Int32)), .unset] [(.int b_1)])) _
        refine XS.ifNo X43.here hx rfl (hb hby own_d12_51) rfl ((if0 _ _).trans (feq hc51_49).1) ?_
        show Steps p.tables e below (T43.setTop (mkF m 54 #[.val (.ref a_o), .val (.int (1 : Int32)), .val (.int (0 : Int32)), .val (.int (0 : Int32)), .unset] [])) _
        refine XS.aloadN X43.here hx rfl (hb hby own_d12_54) rfl rfl ?_
        show Steps p.tables e below (T43.setTop (mkF m 55 #[.val (.ref a_o), .val (.int (1 : Int32)), .val (.int (0 : Int32)), .val (.int (0 : Int32)), .unset] [(.ref a_o)])) _
        refine st62 _ ?_
        show Steps p.tables e below (T62.setTop (mkF m 58 #[.val (.ref a_o), .val (.int (1 : Int32)), .val (.int (0 : Int32)), .val (.int (0 : Int32)), .unset] [(.ref c_o)])) _
        refine XS.iloadN X62.here hx rfl (hb hby own_d12_58) rfl ?_
        show Steps p.tables e below (T62.setTop (mkF m 59 #[.val (.ref a_o), .val (.int (1 : Int32)), .val (.int (0 : Int32)), .val (.int (0 : Int32)), .unset] [(.int (1 : Int32)), (.ref c_o)])) _
        refine Jvm.Free.XT.dup2 X62.here hx rfl (hb hby own_d12_59) rfl rfl rfl ?_
        show Steps p.tables e below (T62.setTop (mkF m 60 #[.val (.ref a_o), .val (.int (1 : Int32)), .val (.int (0 : Int32)), .val (.int (0 : Int32)), .unset] [(.int (1 : Int32)), (.ref c_o), (.int (1 : Int32)), (.ref c_o)])) _
        refine X62.laload hx (j := (1 : Int32)) (v := (.long c_1)) (by rw [e62]; exact Ar66.1) (State.isArrayOf_alike hZ.alike Ar66.2.1) Ar66.2.2 hin66 hat66 (g := (mkF m 60 #[.val (.ref a_o), .val (.int (1 : Int32)), .val (.int (0 : Int32)), .val (.int (0 : Int32)), .unset] [(.int (1 : Int32)), (.ref c_o), (.int (1 : Int32)), (.ref c_o)])) rfl rfl (hb hby own_d12_60) _ ?_
        show Steps p.tables e below (T62.setTop (mkF m 61 #[.val (.ref a_o), .val (.int (1 : Int32)), .val (.int (0 : Int32)), .val (.int (0 : Int32)), .unset] [(.long c_1), (.int (1 : Int32)), (.ref c_o)])) _
        refine XS.lconst X62.here hx rfl (hb hby own_d12_61) ?_
        show Steps p.tables e below (T62.setTop (mkF m 62 #[.val (.ref a_o), .val (.int (1 : Int32)), .val (.int (0 : Int32)), .val (.int (0 : Int32)), .unset] [(.long (1 : Int64)), (.long c_1), (.int (1 : Int32)), (.ref c_o)])) _
        refine XS.ladd X62.here hx rfl (hb hby own_d12_62) rfl ?_
        show Steps p.tables e below (T62.setTop (mkF m 63 #[.val (.ref a_o), .val (.int (1 : Int32)), .val (.int (0 : Int32)), .val (.int (0 : Int32)), .unset] [(.long (c_1 + (1 : Int64))), (.int (1 : Int32)), (.ref c_o)])) _
        refine st71 _ ?_
        show Steps p.tables e below (T71.setTop (mkF m 64 #[.val (.ref a_o), .val (.int (1 : Int32)), .val (.int (0 : Int32)), .val (.int (0 : Int32)), .unset] [])) _
        refine XS.aloadN X71.here hx rfl (hb hby own_d12_64) rfl rfl ?_
        show Steps p.tables e below (T71.setTop (mkF m 65 #[.val (.ref a_o), .val (.int (1 : Int32)), .val (.int (0 : Int32)), .val (.int (0 : Int32)), .unset] [(.ref a_o)])) _
        refine st79 _ ?_
        show Steps p.tables e below (T79.setTop (mkF m 68 #[.val (.ref a_o), .val (.int (1 : Int32)), .val (.int (0 : Int32)), .val (.int (0 : Int32)), .unset] [(.ref t_o)])) _
        refine XS.iloadN X79.here hx rfl (hb hby own_d12_68) rfl ?_
        show Steps p.tables e below (T79.setTop (mkF m 69 #[.val (.ref a_o), .val (.int (1 : Int32)), .val (.int (0 : Int32)), .val (.int (0 : Int32)), .unset] [(.int (1 : Int32)), (.ref t_o)])) _
        refine XS.iconst X79.here hx rfl (hb hby own_d12_69) ?_
        show Steps p.tables e below (T79.setTop (mkF m 70 #[.val (.ref a_o), .val (.int (1 : Int32)), .val (.int (0 : Int32)), .val (.int (0 : Int32)), .unset] [(.int (0 : Int32)), (.int (1 : Int32)), (.ref t_o)])) _
        refine st85 _ ?_
        show Steps p.tables e below (T85.setTop (mkF m 71 #[.val (.ref a_o), .val (.int (1 : Int32)), .val (.int (0 : Int32)), .val (.int (0 : Int32)), .unset] [])) _
        refine XS.iinc X85.here hx rfl (hb hby own_d12_71) rfl (l' := #[.val (.ref a_o), .val (.int (2 : Int32)), .val (.int (0 : Int32)), .val (.int (0 : Int32)), .unset]) rfl ?_
        show Steps p.tables e below (T85.setTop (mkF m 74 #[.val (.ref a_o), .val (.int (2 : Int32)), .val (.int (0 : Int32)), .val (.int (0 : Int32)), .unset] [])) _
        refine XS.goto X85.here hx rfl (pc0 := 74) (pc' := 36) rfl (hb hby own_d12_74) (by decide) (by decide) ?_
        show Steps p.tables e below (T85.setTop (mkF m 36 #[.val (.ref a_o), .val (.int (2 : Int32)), .val (.int (0 : Int32)), .val (.int (0 : Int32)), .unset] [])) _
        refine XS.iloadN X85.here hx rfl (hb hby own_d12_36) rfl ?_
        show Steps p.tables e below (T85.setTop (mkF m 37 #[.val (.ref a_o), .val (.int (2 : Int32)), .val (.int (0 : Int32)), .val (.int (0 : Int32)), .unset] [(.int (2 : Int32))])) _
        refine XS.aloadN X85.here hx rfl (hb hby own_d12_37) rfl rfl ?_
        show Steps p.tables e below (T85.setTop (mkF m 38 #[.val (.ref a_o), .val (.int (2 : Int32)), .val (.int (0 : Int32)), .val (.int (0 : Int32)), .unset] [(.ref a_o), (.int (2 : Int32))])) _
        refine st96 _ ?_
        show Steps p.tables e below (T96.setTop (mkF m 41 #[.val (.ref a_o), .val (.int (2 : Int32)), .val (.int (0 : Int32)), .val (.int (0 : Int32)), .unset] [(.ref t_o), (.int (2 : Int32))])) _
        refine X96.arraylength hx (by rw [e96]; exact Ar98.1) (State.isArrayOf_alike hZ.alike Ar98.2.1) (g := (mkF m 41 #[.val (.ref a_o), .val (.int (2 : Int32)), .val (.int (0 : Int32)), .val (.int (0 : Int32)), .unset] [(.ref t_o), (.int (2 : Int32))])) rfl rfl (hb hby own_d12_41) _ ?_
        rw [len_of S98 M98]
        show Steps p.tables e below (T96.setTop (mkF m 42 #[.val (.ref a_o), .val (.int (2 : Int32)), .val (.int (0 : Int32)), .val (.int (0 : Int32)), .unset] [(.int (2 : Int32)), (.int (2 : Int32))])) _
        refine XS.icmpYes X96.here hx rfl (pc0 := 42) (pc' := 77) rfl (hb hby own_d12_42) rfl (flt ((by decide) : ¬ ((2 : Int32) < (2 : Int32)))).2.1 (by decide) (by decide) ?_
        show Steps p.tables e below (T96.setTop (mkF m 77 #[.val (.ref a_o), .val (.int (2 : Int32)), .val (.int (0 : Int32)), .val (.int (0 : Int32)), .unset] [])) _
        exact X96.returnOut hx Bd.returns (hb hby own_d12_77) hr
      · show Qown_ad Z a_o t_o c_o k_t k_c b_0 b_1 c_0 c_1 m_o k_m h0 n0 _ T96.heap _
        rw [e96]
        have Fq101 : Arv Z h85 c_o k_c .long (2 : Int32) [(.long c_0), (.long (c_1 + (1 : Int64)))] (.long (0 : Int64)) := (Vm72.other W85 n3)
        exact ⟨rfl, N89, Kc87, (by simp only [if_pos hc51_31, if_neg hc51_49]; exact Vm86), (by simp only [if_pos hc51_31, if_neg hc51_49]; exact Fq101)⟩
  · obtain ⟨T104, X104, e104, st104⟩ := getF X25 hx hZ hown (host := "") (Or.inl (hw _ (List.mem_of_getElem? (i := 37) rfl))) Via.refl e25 F_c (g := (mkF m 55 #[.val (.ref a_o), .val (.int (0 : Int32)), .val (.int (0 : Int32)), .val (.int (0 : Int32)), .unset] [(.ref a_o)])) rfl rfl (hb hby own_d12_55)
    obtain ⟨cl108, Ar108, q108, S108, M108, H108, G108⟩ := id V_c
    have hin108 : ¬ ((0 : Int32) < 0 ∨ cl108.slots.size ≤ ((0 : Int32)).toNatClampNeg) := inb_of S108 ⟨by decide, by decide⟩
    have hat108 : cl108.slots[((0 : Int32)).toNatClampNeg]? = some (.long c_0) := H108.at hin108 rfl
    obtain ⟨cl112, Ar112, q112, S112, M112, H112, G112⟩ := id V_c
    have hin112 : ¬ ((0 : Int32) < 0 ∨ cl112.slots.size ≤ ((0 : Int32)).toNatClampNeg) := inb_of S112 ⟨by decide, by decide⟩
    obtain ⟨T113, h113, X113, e113, W113, st113⟩ := stJ X104 hx hZ e104 Ar112 (j := (0 : Int32)) hin112 (g := (mkF m 63 #[.val (.ref a_o), .val (.int (0 : Int32)), .val (.int (0 : Int32)), .val (.int (0 : Int32)), .unset] [(.long (c_0 + (1 : Int64))), (.int (0 : Int32)), (.ref c_o)])) rfl rfl (hb hby own_d12_63)
    have Kc115 : Keep h0 h113 [t_o, c_o] := (Keep.refl h0 [t_o, c_o]).wr W113 (Or.inl (List.mem_of_getElem? (i := 1) rfl))
    have Zs116 : n0 ≤ h113.size := Nat.le_trans Z0 (Keep.of_wr W113).1
    have N117 := Fr.snoc X113 N0 gc
    have Vm114 : Arv Z h113 c_o k_c .long (2 : Int32) [(.long (c_0 + (1 : Int64))), (.long c_1)] (.long (0 : Int64)) := Arv.set Ar112 q112 S112 M112 H112 G112 rfl W113 0 rfl (Nat.le_of_ble_eq_true rfl)
    have Fq120 : Fld Z h113 a_o "com/example/tymely/tymely/model/Step" "ticking" "[Z" (.ref t_o) := (F_t.other W113 (Or.inl n2))
    obtain ⟨T121, X121, e121, st121⟩ := getF X113 hx hZ hown (host := "") (Or.inl (hw _ (List.mem_of_getElem? (i := 40) rfl))) Via.refl e113 Fq120 (g := (mkF m 65 #[.val (.ref a_o), .val (.int (0 : Int32)), .val (.int (0 : Int32)), .val (.int (0 : Int32)), .unset] [(.ref a_o)])) rfl rfl (hb hby own_d12_65)
    have Fq125 : Arv Z h113 t_o k_t .boolean (2 : Int32) [(.int b_0), (.int b_1)] (.int (0 : Int32)) := (V_t.other W113 (Ne.symm n3))
    obtain ⟨cl126, Ar126, q126, S126, M126, H126, G126⟩ := id Fq125
    have hin126 : ¬ ((0 : Int32) < 0 ∨ cl126.slots.size ≤ ((0 : Int32)).toNatClampNeg) := inb_of S126 ⟨by decide, by decide⟩
    obtain ⟨T127, h127, X127, e127, W127, st127⟩ := stZ X121 hx hZ e121 Ar126 (j := (0 : Int32)) hin126 (g := (mkF m 70 #[.val (.ref a_o), .val (.int (0 : Int32)), .val (.int (0 : Int32)), .val (.int (0 : Int32)), .unset] [(.int (0 : Int32)), (.int (0 : Int32)), (.ref t_o)])) rfl rfl (hb hby own_d12_70)
    have Kc129 : Keep h0 h127 [t_o, c_o] := Kc115.wr W127 (Or.inl (List.mem_of_getElem? (i := 0) rfl))
    have Zs130 : n0 ≤ h127.size := Nat.le_trans Zs116 (Keep.of_wr W127).1
    have N131 := Fr.snoc X127 N117 gt
    have Vm128 : Arv Z h127 t_o k_t .boolean (2 : Int32) [(.int (0 : Int32)), (.int b_1)] (.int (0 : Int32)) := Arv.set Ar126 q126 S126 M126 H126 G126 (fits_nar_bool _) W127 0 rfl (Nat.le_of_ble_eq_true rfl)
    have Fq137 : Fld Z h127 a_o "com/example/tymely/tymely/model/Step" "ticking" "[Z" (.ref t_o) := (Fq120.other W127 (Or.inl n1))
    obtain ⟨T138, X138, e138, st138⟩ := getF X127 hx hZ hown (host := "") (Or.inl (hw _ (List.mem_of_getElem? (i := 40) rfl))) Via.refl e127 Fq137 (g := (mkF m 38 #[.val (.ref a_o), .val (.int (1 : Int32)), .val (.int (0 : Int32)), .val (.int (0 : Int32)), .unset] [(.ref a_o), (.int (1 : Int32))])) rfl rfl (hb hby own_d12_38)
    obtain ⟨cl140, Ar140, -, S140, M140, -, -⟩ := id Vm128
    obtain ⟨T144, X144, e144, st144⟩ := getF X138 hx hZ hown (host := "") (Or.inl (hw _ (List.mem_of_getElem? (i := 40) rfl))) Via.refl e138 Fq137 (g := (mkF m 46 #[.val (.ref a_o), .val (.int (1 : Int32)), .val (.int (0 : Int32)), .val (.int (0 : Int32)), .unset] [(.ref a_o)])) rfl rfl (hb hby own_d12_46)
    obtain ⟨cl147, Ar147, q147, S147, M147, H147, G147⟩ := id Vm128
    have hin147 : ¬ ((1 : Int32) < 0 ∨ cl147.slots.size ≤ ((1 : Int32)).toNatClampNeg) := inb_of S147 ⟨by decide, by decide⟩
    have hat147 : cl147.slots[((1 : Int32)).toNatClampNeg]? = some (.int b_1) := H147.at hin147 rfl
    have pre149 : ∀ t, Steps p.tables e below (T144.setTop (mkF m 51 #[.val (.ref a_o), .val (.int (1 : Int32)), .val (.int (0 : Int32)), .val (.int (0 : Int32)), .unset] [(.int b_1)])) t → Steps p.tables e below (s₁.setTop (entryFrame m #[(.ref a_o)] 5)) t := by
      intro t kt
      refine pre30 _ ?_
      show Steps p.tables e below (T25.setTop (mkF m 51 #[.val (.ref a_o), .val (.int (0 : Int32)), .val (.int (0 : Int32)), .val (.int (0 : Int32)), .unset] [(.int b_0)])) _
      refine XS.ifNo X25.here hx rfl (hb hby own_d12_51) rfl ((if0 _ _).trans (feq hc51_31).1) ?_
      show Steps p.tables e below (T25.setTop (mkF m 54 #[.val (.ref a_o), .val (.int (0 : Int32)), .val (.int (0 : Int32)), .val (.int (0 : Int32)), .unset] [])) _
      refine XS.aloadN X25.here hx rfl (hb hby own_d12_54) rfl rfl ?_
      show Steps p.tables e below (T25.setTop (mkF m 55 #[.val (.ref a_o), .val (.int (0 : Int32)), .val (.int (0 : Int32)), .val (.int (0 : Int32)), .unset] [(.ref a_o)])) _
      refine st104 _ ?_
      show Steps p.tables e below (T104.setTop (mkF m 58 #[.val (.ref a_o), .val (.int (0 : Int32)), .val (.int (0 : Int32)), .val (.int (0 : Int32)), .unset] [(.ref c_o)])) _
      refine XS.iloadN X104.here hx rfl (hb hby own_d12_58) rfl ?_
      show Steps p.tables e below (T104.setTop (mkF m 59 #[.val (.ref a_o), .val (.int (0 : Int32)), .val (.int (0 : Int32)), .val (.int (0 : Int32)), .unset] [(.int (0 : Int32)), (.ref c_o)])) _
      refine Jvm.Free.XT.dup2 X104.here hx rfl (hb hby own_d12_59) rfl rfl rfl ?_
      show Steps p.tables e below (T104.setTop (mkF m 60 #[.val (.ref a_o), .val (.int (0 : Int32)), .val (.int (0 : Int32)), .val (.int (0 : Int32)), .unset] [(.int (0 : Int32)), (.ref c_o), (.int (0 : Int32)), (.ref c_o)])) _
      refine X104.laload hx (j := (0 : Int32)) (v := (.long c_0)) (by rw [e104]; exact Ar108.1) (State.isArrayOf_alike hZ.alike Ar108.2.1) Ar108.2.2 hin108 hat108 (g := (mkF m 60 #[.val (.ref a_o), .val (.int (0 : Int32)), .val (.int (0 : Int32)), .val (.int (0 : Int32)), .unset] [(.int (0 : Int32)), (.ref c_o), (.int (0 : Int32)), (.ref c_o)])) rfl rfl (hb hby own_d12_60) _ ?_
      show Steps p.tables e below (T104.setTop (mkF m 61 #[.val (.ref a_o), .val (.int (0 : Int32)), .val (.int (0 : Int32)), .val (.int (0 : Int32)), .unset] [(.long c_0), (.int (0 : Int32)), (.ref c_o)])) _
      refine XS.lconst X104.here hx rfl (hb hby own_d12_61) ?_
      show Steps p.tables e below (T104.setTop (mkF m 62 #[.val (.ref a_o), .val (.int (0 : Int32)), .val (.int (0 : Int32)), .val (.int (0 : Int32)), .unset] [(.long (1 : Int64)), (.long c_0), (.int (0 : Int32)), (.ref c_o)])) _
      refine XS.ladd X104.here hx rfl (hb hby own_d12_62) rfl ?_
      show Steps p.tables e below (T104.setTop (mkF m 63 #[.val (.ref a_o), .val (.int (0 : Int32)), .val (.int (0 : Int32)), .val (.int (0 : Int32)), .unset] [(.long (c_0 + (1 : Int64))), (.int (0 : Int32)), (.ref c_o)])) _
      refine st113 _ ?_
      show Steps p.tables e below (T113.setTop (mkF m 64 #[.val (.ref a_o), .val (.int (0 : Int32)), .val (.int (0 : Int32)), .val (.int (0 : Int32)), .unset] [])) _
      refine XS.aloadN X113.here hx rfl (hb hby own_d12_64) rfl rfl ?_
      show Steps p.tables e below (T113.setTop (mkF m 65 #[.val (.ref a_o), .val (.int (0 : Int32)), .val (.int (0 : Int32)), .val (.int (0 : Int32)), .unset] [(.ref a_o)])) _
      refine st121 _ ?_
      show Steps p.tables e below (T121.setTop (mkF m 68 #[.val (.ref a_o), .val (.int (0 : Int32)), .val (.int (0 : Int32)), .val (.int (0 : Int32)), .unset] [(.ref t_o)])) _
      refine XS.iloadN X121.here hx rfl (hb hby own_d12_68) rfl ?_
      show Steps p.tables e below (T121.setTop (mkF m 69 #[.val (.ref a_o), .val (.int (0 : Int32)), .val (.int (0 : Int32)), .val (.int (0 : Int32)), .unset] [(.int (0 : Int32)), (.ref t_o)])) _
      refine XS.iconst X121.here hx rfl (hb hby own_d12_69) ?_
      show Steps p.tables e below (T121.setTop (mkF m 70 #[.val (.ref a_o), .val (.int (0 : Int32)), .val (.int (0 : Int32)), .val (.int (0 : Int32)), .unset] [(.int (0 : Int32)), (.int (0 : Int32)), (.ref t_o)])) _
      refine st127 _ ?_
      show Steps p.tables e below (T127.setTop (mkF m 71 #[.val (.ref a_o), .val (.int (0 : Int32)), .val (.int (0 : Int32)), .val (.int (0 : Int32)), .unset] [])) _
      refine XS.iinc X127.here hx rfl (hb hby own_d12_71) rfl (l' := #[.val (.ref a_o), .val (.int (1 : Int32)), .val (.int (0 : Int32)), .val (.int (0 : Int32)), .unset]) rfl ?_
      show Steps p.tables e below (T127.setTop (mkF m 74 #[.val (.ref a_o), .val (.int (1 : Int32)), .val (.int (0 : Int32)), .val (.int (0 : Int32)), .unset] [])) _
      refine XS.goto X127.here hx rfl (pc0 := 74) (pc' := 36) rfl (hb hby own_d12_74) (by decide) (by decide) ?_
      show Steps p.tables e below (T127.setTop (mkF m 36 #[.val (.ref a_o), .val (.int (1 : Int32)), .val (.int (0 : Int32)), .val (.int (0 : Int32)), .unset] [])) _
      refine XS.iloadN X127.here hx rfl (hb hby own_d12_36) rfl ?_
      show Steps p.tables e below (T127.setTop (mkF m 37 #[.val (.ref a_o), .val (.int (1 : Int32)), .val (.int (0 : Int32)), .val (.int (0 : Int32)), .unset] [(.int (1 : Int32))])) _
      refine XS.aloadN X127.here hx rfl (hb hby own_d12_37) rfl rfl ?_
      show Steps p.tables e below (T127.setTop (mkF m 38 #[.val (.ref a_o), .val (.int (1 : Int32)), .val (.int (0 : Int32)), .val (.int (0 : Int32)), .unset] [(.ref a_o), (.int (1 : Int32))])) _
      refine st138 _ ?_
      show Steps p.tables e below (T138.setTop (mkF m 41 #[.val (.ref a_o), .val (.int (1 : Int32)), .val (.int (0 : Int32)), .val (.int (0 : Int32)), .unset] [(.ref t_o), (.int (1 : Int32))])) _
      refine X138.arraylength hx (by rw [e138]; exact Ar140.1) (State.isArrayOf_alike hZ.alike Ar140.2.1) (g := (mkF m 41 #[.val (.ref a_o), .val (.int (1 : Int32)), .val (.int (0 : Int32)), .val (.int (0 : Int32)), .unset] [(.ref t_o), (.int (1 : Int32))])) rfl rfl (hb hby own_d12_41) _ ?_
      rw [len_of S140 M140]
      show Steps p.tables e below (T138.setTop (mkF m 42 #[.val (.ref a_o), .val (.int (1 : Int32)), .val (.int (0 : Int32)), .val (.int (0 : Int32)), .unset] [(.int (2 : Int32)), (.int (1 : Int32))])) _
      refine XS.icmpNo X138.here hx rfl (hb hby own_d12_42) rfl (tlt ((by decide) : (1 : Int32) < (2 : Int32))).2.1 ?_
      show Steps p.tables e below (T138.setTop (mkF m 45 #[.val (.ref a_o), .val (.int (1 : Int32)), .val (.int (0 : Int32)), .val (.int (0 : Int32)), .unset] [])) _
      refine XS.aloadN X138.here hx rfl (hb hby own_d12_45) rfl rfl ?_
      show Steps p.tables e below (T138.setTop (mkF m 46 #[.val (.ref a_o), .val (.int (1 : Int32)), .val (.int (0 : Int32)), .val (.int (0 : Int32)), .unset] [(.ref a_o)])) _
      refine st144 _ ?_
      show Steps p.tables e below (T144.setTop (mkF m 49 #[.val (.ref a_o), .val (.int (1 : Int32)), .val (.int (0 : Int32)), .val (.int (0 : Int32)), .unset] [(.ref t_o)])) _
      refine XS.iloadN X144.here hx rfl (hb hby own_d12_49) rfl ?_
      show Steps p.tables e below (T144.setTop (mkF m 50 #[.val (.ref a_o), .val (.int (1 : Int32)), .val (.int (0 : Int32)), .val (.int (0 : Int32)), .unset] [(.int (1 : Int32)), (.ref t_o)])) _
      refine X144.baloadBooleans hx (j := (1 : Int32)) (v := (.int b_1)) (by rw [e144]; exact Ar147.1) (State.isArrayOf_alike hZ.alike Ar147.2.1) Ar147.2.2 hin147 hat147 (g := (mkF m 50 #[.val (.ref a_o), .val (.int (1 : Int32)), .val (.int (0 : Int32)), .val (.int (0 : Int32)), .unset] [(.int (1 : Int32)), (.ref t_o)])) rfl rfl (hb hby own_d12_50) _ ?_
      exact kt
    by_cases hc51_150 : b_1 = (0 : Int32)
    · obtain ⟨T156, X156, e156, st156⟩ := getF X144 hx hZ hown (host := "") (Or.inl (hw _ (List.mem_of_getElem? (i := 40) rfl))) Via.refl e144 Fq137 (g := (mkF m 38 #[.val (.ref a_o), .val (.int (2 : Int32)), .val (.int (0 : Int32)), .val (.int (0 : Int32)), .unset] [(.ref a_o), (.int (2 : Int32))])) rfl rfl (hb hby own_d12_38)
      obtain ⟨cl158, Ar158, -, S158, M158, -, -⟩ := id Vm128
      obtain ⟨fs, hr, hrun, hended, hW, hsame⟩ := X156.leave (v := none) (fun _ => rfl) (hlocks := BodyLoose.notSynchronized Bd)
      refine ⟨_, _, pre149 _ ?_, hrun, hended, _, _, rfl, ?_, ⟨_, rfl⟩, hW, hsame.mono (by decide) (by decide)⟩
      · show Steps p.tables e below (T144.setTop (mkF m 51 #[.val (.ref a_o), .val (.int (1 : Int32)), .val (.int (0 : Int32)), .val (.int (0 : Int32)), .unset] [(.int b_1)])) _
        refine XS.ifYes X144.here hx rfl (pc0 := 51) (pc' := 71) rfl (hb hby own_d12_51) rfl ((if0 _ _).trans (teq hc51_150).1) (by decide) (by decide) ?_
        show Steps p.tables e below (T144.setTop (mkF m 71 #[.val (.ref a_o), .val (.int (1 : Int32)), .val (.int (0 : Int32)), .val (.int (0 : Int32)), .unset] [])) _
        refine XS.iinc X144.here hx rfl (hb hby own_d12_71) rfl (l' := #[.val (.ref a_o), .val (.int (2 : Int32)), .val (.int (0 : Int32)), .val (.int (0 : Int32)), .unset]) rfl ?_
        show Steps p.tables e below (T144.setTop (mkF m 74 #[.val (.ref a_o), .val (.int (2 : Int32)), .val (.int (0 : Int32)), .val (.int (0 : Int32)), .unset] [])) _
        refine XS.goto X144.here hx rfl (pc0 := 74) (pc' := 36) rfl (hb hby own_d12_74) (by decide) (by decide) ?_
        show Steps p.tables e below (T144.setTop (mkF m 36 #[.val (.ref a_o), .val (.int (2 : Int32)), .val (.int (0 : Int32)), .val (.int (0 : Int32)), .unset] [])) _
        refine XS.iloadN X144.here hx rfl (hb hby own_d12_36) rfl ?_
        show Steps p.tables e below (T144.setTop (mkF m 37 #[.val (.ref a_o), .val (.int (2 : Int32)), .val (.int (0 : Int32)), .val (.int (0 : Int32)), .unset] [(.int (2 : Int32))])) _
        refine XS.aloadN X144.here hx rfl (hb hby own_d12_37) rfl rfl ?_
        show Steps p.tables e below (T144.setTop (mkF m 38 #[.val (.ref a_o), .val (.int (2 : Int32)), .val (.int (0 : Int32)), .val (.int (0 : Int32)), .unset] [(.ref a_o), (.int (2 : Int32))])) _
        refine st156 _ ?_
        show Steps p.tables e below (T156.setTop (mkF m 41 #[.val (.ref a_o), .val (.int (2 : Int32)), .val (.int (0 : Int32)), .val (.int (0 : Int32)), .unset] [(.ref t_o), (.int (2 : Int32))])) _
        refine X156.arraylength hx (by rw [e156]; exact Ar158.1) (State.isArrayOf_alike hZ.alike Ar158.2.1) (g := (mkF m 41 #[.val (.ref a_o), .val (.int (2 : Int32)), .val (.int (0 : Int32)), .val (.int (0 : Int32)), .unset] [(.ref t_o), (.int (2 : Int32))])) rfl rfl (hb hby own_d12_41) _ ?_
        rw [len_of S158 M158]
        show Steps p.tables e below (T156.setTop (mkF m 42 #[.val (.ref a_o), .val (.int (2 : Int32)), .val (.int (0 : Int32)), .val (.int (0 : Int32)), .unset] [(.int (2 : Int32)), (.int (2 : Int32))])) _
        refine XS.icmpYes X156.here hx rfl (pc0 := 42) (pc' := 77) rfl (hb hby own_d12_42) rfl (flt ((by decide) : ¬ ((2 : Int32) < (2 : Int32)))).2.1 (by decide) (by decide) ?_
        show Steps p.tables e below (T156.setTop (mkF m 77 #[.val (.ref a_o), .val (.int (2 : Int32)), .val (.int (0 : Int32)), .val (.int (0 : Int32)), .unset] [])) _
        exact X156.returnOut hx Bd.returns (hb hby own_d12_77) hr
      · show Qown_ad Z a_o t_o c_o k_t k_c b_0 b_1 c_0 c_1 m_o k_m h0 n0 _ T156.heap _
        rw [e156]
        have Fq161 : Arv Z h127 c_o k_c .long (2 : Int32) [(.long (c_0 + (1 : Int64))), (.long c_1)] (.long (0 : Int64)) := (Vm114.other W127 n3)
        exact ⟨rfl, N131, Kc129, (by simp only [if_neg hc51_31, if_pos hc51_150]; exact Vm128), (by simp only [if_neg hc51_31, if_pos hc51_150]; exact Fq161)⟩
    · have Fq164 : Fld Z h127 a_o "com/example/tymely/tymely/model/Step" "countsBefore" "[J" (.ref c_o) := ((F_c.other W113 (Or.inl n2)).other W127 (Or.inl n1))
      obtain ⟨T165, X165, e165, st165⟩ := getF X144 hx hZ hown (host := "") (Or.inl (hw _ (List.mem_of_getElem? (i := 37) rfl))) Via.refl e144 Fq164 (g := (mkF m 55 #[.val (.ref a_o), .val (.int (1 : Int32)), .val (.int (0 : Int32)), .val (.int (0 : Int32)), .unset] [(.ref a_o)])) rfl rfl (hb hby own_d12_55)
      have Fq169 : Arv Z h127 c_o k_c .long (2 : Int32) [(.long (c_0 + (1 : Int64))), (.long c_1)] (.long (0 : Int64)) := (Vm114.other W127 n3)
      obtain ⟨cl170, Ar170, q170, S170, M170, H170, G170⟩ := id Fq169
      have hin170 : ¬ ((1 : Int32) < 0 ∨ cl170.slots.size ≤ ((1 : Int32)).toNatClampNeg) := inb_of S170 ⟨by decide, by decide⟩
      have hat170 : cl170.slots[((1 : Int32)).toNatClampNeg]? = some (.long c_1) := H170.at hin170 rfl
      obtain ⟨cl174, Ar174, q174, S174, M174, H174, G174⟩ := id Fq169
      have hin174 : ¬ ((1 : Int32) < 0 ∨ cl174.slots.size ≤ ((1 : Int32)).toNatClampNeg) := inb_of S174 ⟨by decide, by decide⟩
      obtain ⟨T175, h175, X175, e175, W175, st175⟩ := stJ X165 hx hZ e165 Ar174 (j := (1 : Int32)) hin174 (g := (mkF m 63 #[.val (.ref a_o), .val (.int (1 : Int32)), .val (.int (0 : Int32)), .val (.int (0 : Int32)), .unset] [(.long (c_1 + (1 : Int64))), (.int (1 : Int32)), (.ref c_o)])) rfl rfl (hb hby own_d12_63)
      have Kc177 : Keep h0 h175 [t_o, c_o] := Kc129.wr W175 (Or.inl (List.mem_of_getElem? (i := 1) rfl))
      have Zs178 : n0 ≤ h175.size := Nat.le_trans Zs130 (Keep.of_wr W175).1
      have N179 := Fr.snoc X175 N131 gc
      have Vm176 : Arv Z h175 c_o k_c .long (2 : Int32) [(.long (c_0 + (1 : Int64))), (.long (c_1 + (1 : Int64)))] (.long (0 : Int64)) := Arv.set Ar174 q174 S174 M174 H174 G174 rfl W175 1 rfl (Nat.le_of_ble_eq_true rfl)
      have Fq182 : Fld Z h175 a_o "com/example/tymely/tymely/model/Step" "ticking" "[Z" (.ref t_o) := (Fq137.other W175 (Or.inl n2))
      obtain ⟨T183, X183, e183, st183⟩ := getF X175 hx hZ hown (host := "") (Or.inl (hw _ (List.mem_of_getElem? (i := 40) rfl))) Via.refl e175 Fq182 (g := (mkF m 65 #[.val (.ref a_o), .val (.int (1 : Int32)), .val (.int (0 : Int32)), .val (.int (0 : Int32)), .unset] [(.ref a_o)])) rfl rfl (hb hby own_d12_65)
      have Fq187 : Arv Z h175 t_o k_t .boolean (2 : Int32) [(.int (0 : Int32)), (.int b_1)] (.int (0 : Int32)) := (Vm128.other W175 (Ne.symm n3))
      obtain ⟨cl188, Ar188, q188, S188, M188, H188, G188⟩ := id Fq187
      have hin188 : ¬ ((1 : Int32) < 0 ∨ cl188.slots.size ≤ ((1 : Int32)).toNatClampNeg) := inb_of S188 ⟨by decide, by decide⟩
      obtain ⟨T189, h189, X189, e189, W189, st189⟩ := stZ X183 hx hZ e183 Ar188 (j := (1 : Int32)) hin188 (g := (mkF m 70 #[.val (.ref a_o), .val (.int (1 : Int32)), .val (.int (0 : Int32)), .val (.int (0 : Int32)), .unset] [(.int (0 : Int32)), (.int (1 : Int32)), (.ref t_o)])) rfl rfl (hb hby own_d12_70)
      have Kc191 : Keep h0 h189 [t_o, c_o] := Kc177.wr W189 (Or.inl (List.mem_of_getElem? (i := 0) rfl))
      have Zs192 : n0 ≤ h189.size := Nat.le_trans Zs178 (Keep.of_wr W189).1
      have N193 := Fr.snoc X189 N179 gt
      have Vm190 : Arv Z h189 t_o k_t .boolean (2 : Int32) [(.int (0 : Int32)), (.int (0 : Int32))] (.int (0 : Int32)) := Arv.set Ar188 q188 S188 M188 H188 G188 (fits_nar_bool _) W189 1 rfl (Nat.le_of_ble_eq_true rfl)
      have Fq199 : Fld Z h189 a_o "com/example/tymely/tymely/model/Step" "ticking" "[Z" (.ref t_o) := (Fq182.other W189 (Or.inl n1))
      obtain ⟨T200, X200, e200, st200⟩ := getF X189 hx hZ hown (host := "") (Or.inl (hw _ (List.mem_of_getElem? (i := 40) rfl))) Via.refl e189 Fq199 (g := (mkF m 38 #[.val (.ref a_o), .val (.int (2 : Int32)), .val (.int (0 : Int32)), .val (.int (0 : Int32)), .unset] [(.ref a_o), (.int (2 : Int32))])) rfl rfl (hb hby own_d12_38)
      obtain ⟨cl202, Ar202, -, S202, M202, -, -⟩ := id Vm190
      obtain ⟨fs, hr, hrun, hended, hW, hsame⟩ := X200.leave (v := none) (fun _ => rfl) (hlocks := BodyLoose.notSynchronized Bd)
      refine ⟨_, _, pre149 _ ?_, hrun, hended, _, _, rfl, ?_, ⟨_, rfl⟩, hW, hsame.mono (by decide) (by decide)⟩
      · show Steps p.tables e below (T144.setTop (mkF m 51 #[.val (.ref a_o), .val (.int (1 : Int32)), .val (.int (0 : Int32)), .val (.int (0 : Int32)), .unset] [(.int b_1)])) _
        refine XS.ifNo X144.here hx rfl (hb hby own_d12_51) rfl ((if0 _ _).trans (feq hc51_150).1) ?_
        show Steps p.tables e below (T144.setTop (mkF m 54 #[.val (.ref a_o), .val (.int (1 : Int32)), .val (.int (0 : Int32)), .val (.int (0 : Int32)), .unset] [])) _
        refine XS.aloadN X144.here hx rfl (hb hby own_d12_54) rfl rfl ?_
        show Steps p.tables e below (T144.setTop (mkF m 55 #[.val (.ref a_o), .val (.int (1 : Int32)), .val (.int (0 : Int32)), .val (.int (0 : Int32)), .unset] [(.ref a_o)])) _
        refine st165 _ ?_
        show Steps p.tables e below (T165.setTop (mkF m 58 #[.val (.ref a_o), .val (.int (1 : Int32)), .val (.int (0 : Int32)), .val (.int (0 : Int32)), .unset] [(.ref c_o)])) _
        refine XS.iloadN X165.here hx rfl (hb hby own_d12_58) rfl ?_
        show Steps p.tables e below (T165.setTop (mkF m 59 #[.val (.ref a_o), .val (.int (1 : Int32)), .val (.int (0 : Int32)), .val (.int (0 : Int32)), .unset] [(.int (1 : Int32)), (.ref c_o)])) _
        refine Jvm.Free.XT.dup2 X165.here hx rfl (hb hby own_d12_59) rfl rfl rfl ?_
        show Steps p.tables e below (T165.setTop (mkF m 60 #[.val (.ref a_o), .val (.int (1 : Int32)), .val (.int (0 : Int32)), .val (.int (0 : Int32)), .unset] [(.int (1 : Int32)), (.ref c_o), (.int (1 : Int32)), (.ref c_o)])) _
        refine X165.laload hx (j := (1 : Int32)) (v := (.long c_1)) (by rw [e165]; exact Ar170.1) (State.isArrayOf_alike hZ.alike Ar170.2.1) Ar170.2.2 hin170 hat170 (g := (mkF m 60 #[.val (.ref a_o), .val (.int (1 : Int32)), .val (.int (0 : Int32)), .val (.int (0 : Int32)), .unset] [(.int (1 : Int32)), (.ref c_o), (.int (1 : Int32)), (.ref c_o)])) rfl rfl (hb hby own_d12_60) _ ?_
        show Steps p.tables e below (T165.setTop (mkF m 61 #[.val (.ref a_o), .val (.int (1 : Int32)), .val (.int (0 : Int32)), .val (.int (0 : Int32)), .unset] [(.long c_1), (.int (1 : Int32)), (.ref c_o)])) _
        refine XS.lconst X165.here hx rfl (hb hby own_d12_61) ?_
        show Steps p.tables e below (T165.setTop (mkF m 62 #[.val (.ref a_o), .val (.int (1 : Int32)), .val (.int (0 : Int32)), .val (.int (0 : Int32)), .unset] [(.long (1 : Int64)), (.long c_1), (.int (1 : Int32)), (.ref c_o)])) _
        refine XS.ladd X165.here hx rfl (hb hby own_d12_62) rfl ?_
        show Steps p.tables e below (T165.setTop (mkF m 63 #[.val (.ref a_o), .val (.int (1 : Int32)), .val (.int (0 : Int32)), .val (.int (0 : Int32)), .unset] [(.long (c_1 + (1 : Int64))), (.int (1 : Int32)), (.ref c_o)])) _
        refine st175 _ ?_
        show Steps p.tables e below (T175.setTop (mkF m 64 #[.val (.ref a_o), .val (.int (1 : Int32)), .val (.int (0 : Int32)), .val (.int (0 : Int32)), .unset] [])) _
        refine XS.aloadN X175.here hx rfl (hb hby own_d12_64) rfl rfl ?_
        show Steps p.tables e below (T175.setTop (mkF m 65 #[.val (.ref a_o), .val (.int (1 : Int32)), .val (.int (0 : Int32)), .val (.int (0 : Int32)), .unset] [(.ref a_o)])) _
        refine st183 _ ?_
        show Steps p.tables e below (T183.setTop (mkF m 68 #[.val (.ref a_o), .val (.int (1 : Int32)), .val (.int (0 : Int32)), .val (.int (0 : Int32)), .unset] [(.ref t_o)])) _
        refine XS.iloadN X183.here hx rfl (hb hby own_d12_68) rfl ?_
        show Steps p.tables e below (T183.setTop (mkF m 69 #[.val (.ref a_o), .val (.int (1 : Int32)), .val (.int (0 : Int32)), .val (.int (0 : Int32)), .unset] [(.int (1 : Int32)), (.ref t_o)])) _
        refine XS.iconst X183.here hx rfl (hb hby own_d12_69) ?_
        show Steps p.tables e below (T183.setTop (mkF m 70 #[.val (.ref a_o), .val (.int (1 : Int32)), .val (.int (0 : Int32)), .val (.int (0 : Int32)), .unset] [(.int (0 : Int32)), (.int (1 : Int32)), (.ref t_o)])) _
        refine st189 _ ?_
        show Steps p.tables e below (T189.setTop (mkF m 71 #[.val (.ref a_o), .val (.int (1 : Int32)), .val (.int (0 : Int32)), .val (.int (0 : Int32)), .unset] [])) _
        refine XS.iinc X189.here hx rfl (hb hby own_d12_71) rfl (l' := #[.val (.ref a_o), .val (.int (2 : Int32)), .val (.int (0 : Int32)), .val (.int (0 : Int32)), .unset]) rfl ?_
        show Steps p.tables e below (T189.setTop (mkF m 74 #[.val (.ref a_o), .val (.int (2 : Int32)), .val (.int (0 : Int32)), .val (.int (0 : Int32)), .unset] [])) _
        refine XS.goto X189.here hx rfl (pc0 := 74) (pc' := 36) rfl (hb hby own_d12_74) (by decide) (by decide) ?_
        show Steps p.tables e below (T189.setTop (mkF m 36 #[.val (.ref a_o), .val (.int (2 : Int32)), .val (.int (0 : Int32)), .val (.int (0 : Int32)), .unset] [])) _
        refine XS.iloadN X189.here hx rfl (hb hby own_d12_36) rfl ?_
        show Steps p.tables e below (T189.setTop (mkF m 37 #[.val (.ref a_o), .val (.int (2 : Int32)), .val (.int (0 : Int32)), .val (.int (0 : Int32)), .unset] [(.int (2 : Int32))])) _
        refine XS.aloadN X189.here hx rfl (hb hby own_d12_37) rfl rfl ?_
        show Steps p.tables e below (T189.setTop (mkF m 38 #[.val (.ref a_o), .val (.int (2 : Int32)), .val (.int (0 : Int32)), .val (.int (0 : Int32)), .unset] [(.ref a_o), (.int (2 : Int32))])) _
        refine st200 _ ?_
        show Steps p.tables e below (T200.setTop (mkF m 41 #[.val (.ref a_o), .val (.int (2 : Int32)), .val (.int (0 : Int32)), .val (.int (0 : Int32)), .unset] [(.ref t_o), (.int (2 : Int32))])) _
        refine X200.arraylength hx (by rw [e200]; exact Ar202.1) (State.isArrayOf_alike hZ.alike Ar202.2.1) (g := (mkF m 41 #[.val (.ref a_o), .val (.int (2 : Int32)), .val (.int (0 : Int32)), .val (.int (0 : Int32)), .unset] [(.ref t_o), (.int (2 : Int32))])) rfl rfl (hb hby own_d12_41) _ ?_
        rw [len_of S202 M202]
        show Steps p.tables e below (T200.setTop (mkF m 42 #[.val (.ref a_o), .val (.int (2 : Int32)), .val (.int (0 : Int32)), .val (.int (0 : Int32)), .unset] [(.int (2 : Int32)), (.int (2 : Int32))])) _
        refine XS.icmpYes X200.here hx rfl (pc0 := 42) (pc' := 77) rfl (hb hby own_d12_42) rfl (flt ((by decide) : ¬ ((2 : Int32) < (2 : Int32)))).2.1 (by decide) (by decide) ?_
        show Steps p.tables e below (T200.setTop (mkF m 77 #[.val (.ref a_o), .val (.int (2 : Int32)), .val (.int (0 : Int32)), .val (.int (0 : Int32)), .unset] [])) _
        exact X200.returnOut hx Bd.returns (hb hby own_d12_77) hr
      · show Qown_ad Z a_o t_o c_o k_t k_c b_0 b_1 c_0 c_1 m_o k_m h0 n0 _ T200.heap _
        rw [e200]
        have Fq205 : Arv Z h189 c_o k_c .long (2 : Int32) [(.long (c_0 + (1 : Int64))), (.long (c_1 + (1 : Int64)))] (.long (0 : Int64)) := (Vm176.other W189 n3)
        exact ⟨rfl, N193, Kc191, (by simp only [if_neg hc51_31, if_neg hc51_150]; exact Vm190), (by simp only [if_neg hc51_31, if_neg hc51_150]; exact Fq205)⟩
theorem own_ef_own_ca0 (m : MethodId) (a_o : Addr) : entryFrame m #[(.ref a_o), (.int (0 : Int32))] 2 = mkF m 0 #[.val (.ref a_o), .val (.int (0 : Int32))] [] := by first | (simp [entryFrame, mkF, argsToLocals, Value.category]; done) | rfl
theorem own_d14_0 : decode prog_56_method_9_code 0 = .ok (.aload_n 0, 1) := by decide +kernel
theorem own_d14_1 : decode prog_56_method_9_code 1 = .ok (.getfield 16, 3) := by decide +kernel
theorem own_d14_4 : decode prog_56_method_9_code 4 = .ok (.iload_n 1, 1) := by decide +kernel
theorem own_d14_5 : decode prog_56_method_9_code 5 = .ok (.baload, 1) := by decide +kernel
theorem own_d14_6 : decode prog_56_method_9_code 6 = .ok (.ifCond .eq 14, 3) := by decide +kernel
theorem own_d14_9 : decode prog_56_method_9_code 9 = .ok (.aload_n 0, 1) := by decide +kernel
theorem own_d14_10 : decode prog_56_method_9_code 10 = .ok (.getfield 12, 3) := by decide +kernel
theorem own_d14_13 : decode prog_56_method_9_code 13 = .ok (.iload_n 1, 1) := by decide +kernel
theorem own_d14_14 : decode prog_56_method_9_code 14 = .ok (.laload, 1) := by decide +kernel
theorem own_d14_15 : decode prog_56_method_9_code 15 = .ok (.lconst 1, 1) := by decide +kernel
theorem own_d14_16 : decode prog_56_method_9_code 16 = .ok (.ladd, 1) := by decide +kernel
theorem own_d14_17 : decode prog_56_method_9_code 17 = .ok (.goto 9, 3) := by decide +kernel
theorem own_d14_20 : decode prog_56_method_9_code 20 = .ok (.aload_n 0, 1) := by decide +kernel
theorem own_d14_21 : decode prog_56_method_9_code 21 = .ok (.getfield 12, 3) := by decide +kernel
theorem own_d14_24 : decode prog_56_method_9_code 24 = .ok (.iload_n 1, 1) := by decide +kernel
theorem own_d14_25 : decode prog_56_method_9_code 25 = .ok (.laload, 1) := by decide +kernel
theorem own_d14_26 : decode prog_56_method_9_code 26 = .ok (.lreturn, 1) := by decide +kernel
def own_ca_f (b_0 : Int32) (c_0 : Int64) : Int64 := (if b_0 = (0 : Int32) then c_0 else (c_0 + (1 : Int64)))
def Qown_ca0 (Z : State) (a_o : Addr) (t_o : Addr) (c_o : Addr) (k_t : ClassId) (k_c : ClassId) (b_0 : Int32) (b_1 : Int32) (c_0 : Int64) (c_1 : Int64) (h0 : Heap) (n0 : Nat) (v : Option Value) (h : Heap) (L : List Loc) : Prop := v = some (.long (own_ca_f b_0 c_0)) ∧ Fr n0 L ∧ h = h0
set_option maxRecDepth 65536 in
set_option maxHeartbeats 40000000 in
theorem own_ca0 (l : Launch) (Z : State) (a0 : Array Value) (hw : ∀ d ∈ tables_1, d.before a0 Z = true) (ws : List Jvm.Cond) (a_o : Addr) (t_o : Addr) (c_o : Addr) (k_t : ClassId) (k_c : ClassId) (b_0 : Int32) (b_1 : Int32) (c_0 : Int64) (c_1 : Int64) (h0 : Heap) (n0 : Nat) (Z0 : n0 ≤ h0.size) (F_t : Fld Z h0 a_o "com/example/tymely/tymely/model/Step" "ticking" "[Z" (.ref t_o)) (F_c : Fld Z h0 a_o "com/example/tymely/tymely/model/Step" "countsBefore" "[J" (.ref c_o)) (V_t : Arv Z h0 t_o k_t .boolean (2 : Int32) [(.int b_0), (.int b_1)] (.int (0 : Int32))) (V_c : Arv Z h0 c_o k_c .long (2 : Int32) [(.long c_0), (.long c_1)] (.long (0 : Int64))) :
    MetFree l (⟨"com/example/tymely/tymely/model/Step", "countAfter", "(I)J"⟩ : MethodName) (head1 (Jvm.Cond.code (⟨"com/example/tymely/tymely/model/Step", "countAfter", "(I)J"⟩ : MethodName) prog_56_method_9_code 2 (some .long) :: ws) ({ frames := 0, cells := 0, slots := 0, locals := 0 } : Room)) (fun a U => a = #[(.ref a_o), (.int (0 : Int32))] ∧ Z.Warmed39 U.vm ∧ U.heap = h0) (fun _ _ _ _ _ => True) (fun _ U o U' => ∃ v L, o = .returned v ∧ Qown_ca0 Z a_o t_o c_o k_t k_c b_0 b_1 c_0 c_1 h0 n0 v U'.heap L ∧ FrameEnd U o U' L ({ frames := 0, cells := 0, slots := 0, locals := 0 } : Room).cells ({ frames := 0, cells := 0, slots := 0, locals := 0 } : Room).slots) := by
  refine MetFree.of_bodySF (plainFor_of_name own_pn4) hisR ?_
  intro p e s m args below meth c s₁ Bd hml0 hP hK
  obtain ⟨rfl, hZ, hh⟩ := hP
  have hx := Bd.exec
  have hby := Bd.bytes
  have hml : c.maxLocals = 2 := hml0
  have hown : s.vm.findClass "com/example/tymely/tymely/model/Step" = some m.cls := findClass_of_methodNamed Bd.named
  have hnm := (name_of_methodNamed Bd.named Bd.method).1
  have X0 : Stand p l e ({ frames := 0, cells := 0, slots := 0, locals := 0 } : Room) s m #[(.ref a_o), (.int (0 : Int32))] below meth c s₁ [] 0 0 := Stand.of_body Bd
  have e0 : s₁.heap = h0 := by rw [← hh, Bd.state]; rfl
  have N0 := Fr.nil n0
  have pre0 : ∀ t, Steps p.tables e below (s₁.setTop (mkF m 0 #[.val (.ref a_o), .val (.int (0 : Int32))] [])) t → Steps p.tables e below (s₁.setTop (entryFrame m #[(.ref a_o), (.int (0 : Int32))] 2)) t := fun t k => castTop (own_ef_own_ca0 m a_o) k
  obtain ⟨T3, X3, e3, st3⟩ := getF X0 hx hZ hown (host := "") (Or.inl (hw _ (List.mem_of_getElem? (i := 40) rfl))) Via.refl e0 F_t (g := (mkF m 1 #[.val (.ref a_o), .val (.int (0 : Int32))] [(.ref a_o)])) rfl rfl (hb hby own_d14_1)
  obtain ⟨cl6, Ar6, q6, S6, M6, H6, G6⟩ := id V_t
  have hin6 : ¬ ((0 : Int32) < 0 ∨ cl6.slots.size ≤ ((0 : Int32)).toNatClampNeg) := inb_of S6 ⟨by decide, by decide⟩
  have hat6 : cl6.slots[((0 : Int32)).toNatClampNeg]? = some (.int b_0) := H6.at hin6 rfl
  have pre8 : ∀ t, Steps p.tables e below (T3.setTop (mkF m 6 #[.val (.ref a_o), .val (.int (0 : Int32))] [(.int b_0)])) t → Steps p.tables e below (s₁.setTop (entryFrame m #[(.ref a_o), (.int (0 : Int32))] 2)) t := by
    intro t kt
    refine pre0 _ ?_
    show Steps p.tables e below (s₁.setTop (mkF m 0 #[.val (.ref a_o), .val (.int (0 : Int32))] [])) _
    refine XS.aloadN X0.here hx rfl (hb hby own_d14_0) rfl rfl ?_
    show Steps p.tables e below (s₁.setTop (mkF m 1 #[.val (.ref a_o), .val (.int (0 : Int32))] [(.ref a_o)])) _
    refine st3 _ ?_
    show Steps p.tables e below (T3.setTop (mkF m 4 #[.val (.ref a_o), .val (.int (0 : Int32))] [(.ref t_o)])) _
    refine XS.iloadN X3.here hx rfl (hb hby own_d14_4) rfl ?_
    show Steps p.tables e below (T3.setTop (mkF m 5 #[.val (.ref a_o), .val (.int (0 : Int32))] [(.int (0 : Int32)), (.ref t_o)])) _
    refine X3.baloadBooleans hx (j := (0 : Int32)) (v := (.int b_0)) (by rw [e3]; exact Ar6.1) (State.isArrayOf_alike hZ.alike Ar6.2.1) Ar6.2.2 hin6 hat6 (g := (mkF m 5 #[.val (.ref a_o), .val (.int (0 : Int32))] [(.int (0 : Int32)), (.ref t_o)])) rfl rfl (hb hby own_d14_5) _ ?_
    exact kt
  by_cases hc6_9 : b_0 = (0 : Int32)
  · obtain ⟨T12, X12, e12, st12⟩ := getF X3 hx hZ hown (host := "") (Or.inl (hw _ (List.mem_of_getElem? (i := 37) rfl))) Via.refl e3 F_c (g := (mkF m 21 #[.val (.ref a_o), .val (.int (0 : Int32))] [(.ref a_o)])) rfl rfl (hb hby own_d14_21)
    obtain ⟨cl15, Ar15, q15, S15, M15, H15, G15⟩ := id V_c
    have hin15 : ¬ ((0 : Int32) < 0 ∨ cl15.slots.size ≤ ((0 : Int32)).toNatClampNeg) := inb_of S15 ⟨by decide, by decide⟩
    have hat15 : cl15.slots[((0 : Int32)).toNatClampNeg]? = some (.long c_0) := H15.at hin15 rfl
    obtain ⟨fs, hr, hrun, hended, hW, hsame⟩ := X12.leave (v := some (.long c_0)) (fun h => by rw [Bd.returns] at h; cases h) (hlocks := BodyLoose.notSynchronized Bd)
    refine ⟨_, _, pre8 _ ?_, hrun, hended, _, _, rfl, ?_, ⟨_, rfl⟩, hW, hsame.mono (by decide) (by decide)⟩
    · show Steps p.tables e below (T3.setTop (mkF m 6 #[.val (.ref a_o), .val (.int (0 : Int32))] [(.int b_0)])) _
      refine XS.ifYes X3.here hx rfl (pc0 := 6) (pc' := 20) rfl (hb hby own_d14_6) rfl ((if0 _ _).trans (teq hc6_9).1) (by decide) (by decide) ?_
      show Steps p.tables e below (T3.setTop (mkF m 20 #[.val (.ref a_o), .val (.int (0 : Int32))] [])) _
      refine XS.aloadN X3.here hx rfl (hb hby own_d14_20) rfl rfl ?_
      show Steps p.tables e below (T3.setTop (mkF m 21 #[.val (.ref a_o), .val (.int (0 : Int32))] [(.ref a_o)])) _
      refine st12 _ ?_
      show Steps p.tables e below (T12.setTop (mkF m 24 #[.val (.ref a_o), .val (.int (0 : Int32))] [(.ref c_o)])) _
      refine XS.iloadN X12.here hx rfl (hb hby own_d14_24) rfl ?_
      show Steps p.tables e below (T12.setTop (mkF m 25 #[.val (.ref a_o), .val (.int (0 : Int32))] [(.int (0 : Int32)), (.ref c_o)])) _
      refine X12.laload hx (j := (0 : Int32)) (v := (.long c_0)) (by rw [e12]; exact Ar15.1) (State.isArrayOf_alike hZ.alike Ar15.2.1) Ar15.2.2 hin15 hat15 (g := (mkF m 25 #[.val (.ref a_o), .val (.int (0 : Int32))] [(.int (0 : Int32)), (.ref c_o)])) rfl rfl (hb hby own_d14_25) _ ?_
      show Steps p.tables e below (T12.setTop (mkF m 26 #[.val (.ref a_o), .val (.int (0 : Int32))] [(.long c_0)])) _
      exact X12.lreturnOut hx Bd.returns (hb hby own_d14_26) hr
    · show Qown_ca0 Z a_o t_o c_o k_t k_c b_0 b_1 c_0 c_1 h0 n0 _ T12.heap _
      rw [e12]
      have hv : (own_ca_f b_0 c_0) = c_0 := by unfold own_ca_f; rw [if_pos hc6_9]
      exact ⟨(by rw [hv]), N0, rfl⟩
  · obtain ⟨T19, X19, e19, st19⟩ := getF X3 hx hZ hown (host := "") (Or.inl (hw _ (List.mem_of_getElem? (i := 37) rfl))) Via.refl e3 F_c (g := (mkF m 10 #[.val (.ref a_o), .val (.int (0 : Int32))] [(.ref a_o)])) rfl rfl (hb hby own_d14_10)
    obtain ⟨cl22, Ar22, q22, S22, M22, H22, G22⟩ := id V_c
    have hin22 : ¬ ((0 : Int32) < 0 ∨ cl22.slots.size ≤ ((0 : Int32)).toNatClampNeg) := inb_of S22 ⟨by decide, by decide⟩
    have hat22 : cl22.slots[((0 : Int32)).toNatClampNeg]? = some (.long c_0) := H22.at hin22 rfl
    obtain ⟨fs, hr, hrun, hended, hW, hsame⟩ := X19.leave (v := some (.long (c_0 + (1 : Int64)))) (fun h => by rw [Bd.returns] at h; cases h) (hlocks := BodyLoose.notSynchronized Bd)
    refine ⟨_, _, pre8 _ ?_, hrun, hended, _, _, rfl, ?_, ⟨_, rfl⟩, hW, hsame.mono (by decide) (by decide)⟩
    · show Steps p.tables e below (T3.setTop (mkF m 6 #[.val (.ref a_o), .val (.int (0 : Int32))] [(.int b_0)])) _
      refine XS.ifNo X3.here hx rfl (hb hby own_d14_6) rfl ((if0 _ _).trans (feq hc6_9).1) ?_
      show Steps p.tables e below (T3.setTop (mkF m 9 #[.val (.ref a_o), .val (.int (0 : Int32))] [])) _
      refine XS.aloadN X3.here hx rfl (hb hby own_d14_9) rfl rfl ?_
      show Steps p.tables e below (T3.setTop (mkF m 10 #[.val (.ref a_o), .val (.int (0 : Int32))] [(.ref a_o)])) _
      refine st19 _ ?_
      show Steps p.tables e below (T19.setTop (mkF m 13 #[.val (.ref a_o), .val (.int (0 : Int32))] [(.ref c_o)])) _
      refine XS.iloadN X19.here hx rfl (hb hby own_d14_13) rfl ?_
      show Steps p.tables e below (T19.setTop (mkF m 14 #[.val (.ref a_o), .val (.int (0 : Int32))] [(.int (0 : Int32)), (.ref c_o)])) _
      refine X19.laload hx (j := (0 : Int32)) (v := (.long c_0)) (by rw [e19]; exact Ar22.1) (State.isArrayOf_alike hZ.alike Ar22.2.1) Ar22.2.2 hin22 hat22 (g := (mkF m 14 #[.val (.ref a_o), .val (.int (0 : Int32))] [(.int (0 : Int32)), (.ref c_o)])) rfl rfl (hb hby own_d14_14) _ ?_
      show Steps p.tables e below (T19.setTop (mkF m 15 #[.val (.ref a_o), .val (.int (0 : Int32))] [(.long c_0)])) _
      refine XS.lconst X19.here hx rfl (hb hby own_d14_15) ?_
      show Steps p.tables e below (T19.setTop (mkF m 16 #[.val (.ref a_o), .val (.int (0 : Int32))] [(.long (1 : Int64)), (.long c_0)])) _
      refine XS.ladd X19.here hx rfl (hb hby own_d14_16) rfl ?_
      show Steps p.tables e below (T19.setTop (mkF m 17 #[.val (.ref a_o), .val (.int (0 : Int32))] [(.long (c_0 + (1 : Int64)))])) _
      refine XS.goto X19.here hx rfl (pc0 := 17) (pc' := 26) rfl (hb hby own_d14_17) (by decide) (by decide) ?_
      show Steps p.tables e below (T19.setTop (mkF m 26 #[.val (.ref a_o), .val (.int (0 : Int32))] [(.long (c_0 + (1 : Int64)))])) _
      exact X19.lreturnOut hx Bd.returns (hb hby own_d14_26) hr
    · show Qown_ca0 Z a_o t_o c_o k_t k_c b_0 b_1 c_0 c_1 h0 n0 _ T19.heap _
      rw [e19]
      have hv : (own_ca_f b_0 c_0) = (c_0 + (1 : Int64)) := by unfold own_ca_f; rw [if_neg hc6_9]
      exact ⟨(by rw [hv]), N0, rfl⟩
theorem own_ef_own_ca1 (m : MethodId) (a_o : Addr) : entryFrame m #[(.ref a_o), (.int (1 : Int32))] 2 = mkF m 0 #[.val (.ref a_o), .val (.int (1 : Int32))] [] := by first | (simp [entryFrame, mkF, argsToLocals, Value.category]; done) | rfl
def Qown_ca1 (Z : State) (a_o : Addr) (t_o : Addr) (c_o : Addr) (k_t : ClassId) (k_c : ClassId) (b_0 : Int32) (b_1 : Int32) (c_0 : Int64) (c_1 : Int64) (h0 : Heap) (n0 : Nat) (v : Option Value) (h : Heap) (L : List Loc) : Prop := v = some (.long (own_ca_f b_1 c_1)) ∧ Fr n0 L ∧ h = h0
set_option maxRecDepth 65536 in
set_option maxHeartbeats 40000000 in
theorem own_ca1 (l : Launch) (Z : State) (a0 : Array Value) (hw : ∀ d ∈ tables_1, d.before a0 Z = true) (ws : List Jvm.Cond) (a_o : Addr) (t_o : Addr) (c_o : Addr) (k_t : ClassId) (k_c : ClassId) (b_0 : Int32) (b_1 : Int32) (c_0 : Int64) (c_1 : Int64) (h0 : Heap) (n0 : Nat) (Z0 : n0 ≤ h0.size) (F_t : Fld Z h0 a_o "com/example/tymely/tymely/model/Step" "ticking" "[Z" (.ref t_o)) (F_c : Fld Z h0 a_o "com/example/tymely/tymely/model/Step" "countsBefore" "[J" (.ref c_o)) (V_t : Arv Z h0 t_o k_t .boolean (2 : Int32) [(.int b_0), (.int b_1)] (.int (0 : Int32))) (V_c : Arv Z h0 c_o k_c .long (2 : Int32) [(.long c_0), (.long c_1)] (.long (0 : Int64))) :
    MetFree l (⟨"com/example/tymely/tymely/model/Step", "countAfter", "(I)J"⟩ : MethodName) (head1 (Jvm.Cond.code (⟨"com/example/tymely/tymely/model/Step", "countAfter", "(I)J"⟩ : MethodName) prog_56_method_9_code 2 (some .long) :: ws) ({ frames := 0, cells := 0, slots := 0, locals := 0 } : Room)) (fun a U => a = #[(.ref a_o), (.int (1 : Int32))] ∧ Z.Warmed39 U.vm ∧ U.heap = h0) (fun _ _ _ _ _ => True) (fun _ U o U' => ∃ v L, o = .returned v ∧ Qown_ca1 Z a_o t_o c_o k_t k_c b_0 b_1 c_0 c_1 h0 n0 v U'.heap L ∧ FrameEnd U o U' L ({ frames := 0, cells := 0, slots := 0, locals := 0 } : Room).cells ({ frames := 0, cells := 0, slots := 0, locals := 0 } : Room).slots) := by
  refine MetFree.of_bodySF (plainFor_of_name own_pn4) hisR ?_
  intro p e s m args below meth c s₁ Bd hml0 hP hK
  obtain ⟨rfl, hZ, hh⟩ := hP
  have hx := Bd.exec
  have hby := Bd.bytes
  have hml : c.maxLocals = 2 := hml0
  have hown : s.vm.findClass "com/example/tymely/tymely/model/Step" = some m.cls := findClass_of_methodNamed Bd.named
  have hnm := (name_of_methodNamed Bd.named Bd.method).1
  have X0 : Stand p l e ({ frames := 0, cells := 0, slots := 0, locals := 0 } : Room) s m #[(.ref a_o), (.int (1 : Int32))] below meth c s₁ [] 0 0 := Stand.of_body Bd
  have e0 : s₁.heap = h0 := by rw [← hh, Bd.state]; rfl
  have N0 := Fr.nil n0
  have pre0 : ∀ t, Steps p.tables e below (s₁.setTop (mkF m 0 #[.val (.ref a_o), .val (.int (1 : Int32))] [])) t → Steps p.tables e below (s₁.setTop (entryFrame m #[(.ref a_o), (.int (1 : Int32))] 2)) t := fun t k => castTop (own_ef_own_ca1 m a_o) k
  obtain ⟨T3, X3, e3, st3⟩ := getF X0 hx hZ hown (host := "") (Or.inl (hw _ (List.mem_of_getElem? (i := 40) rfl))) Via.refl e0 F_t (g := (mkF m 1 #[.val (.ref a_o), .val (.int (1 : Int32))] [(.ref a_o)])) rfl rfl (hb hby own_d14_1)
  obtain ⟨cl6, Ar6, q6, S6, M6, H6, G6⟩ := id V_t
  have hin6 : ¬ ((1 : Int32) < 0 ∨ cl6.slots.size ≤ ((1 : Int32)).toNatClampNeg) := inb_of S6 ⟨by decide, by decide⟩
  have hat6 : cl6.slots[((1 : Int32)).toNatClampNeg]? = some (.int b_1) := H6.at hin6 rfl
  have pre8 : ∀ t, Steps p.tables e below (T3.setTop (mkF m 6 #[.val (.ref a_o), .val (.int (1 : Int32))] [(.int b_1)])) t → Steps p.tables e below (s₁.setTop (entryFrame m #[(.ref a_o), (.int (1 : Int32))] 2)) t := by
    intro t kt
    refine pre0 _ ?_
    show Steps p.tables e below (s₁.setTop (mkF m 0 #[.val (.ref a_o), .val (.int (1 : Int32))] [])) _
    refine XS.aloadN X0.here hx rfl (hb hby own_d14_0) rfl rfl ?_
    show Steps p.tables e below (s₁.setTop (mkF m 1 #[.val (.ref a_o), .val (.int (1 : Int32))] [(.ref a_o)])) _
    refine st3 _ ?_
    show Steps p.tables e below (T3.setTop (mkF m 4 #[.val (.ref a_o), .val (.int (1 : Int32))] [(.ref t_o)])) _
    refine XS.iloadN X3.here hx rfl (hb hby own_d14_4) rfl ?_
    show Steps p.tables e below (T3.setTop (mkF m 5 #[.val (.ref a_o), .val (.int (1 : Int32))] [(.int (1 : Int32)), (.ref t_o)])) _
    refine X3.baloadBooleans hx (j := (1 : Int32)) (v := (.int b_1)) (by rw [e3]; exact Ar6.1) (State.isArrayOf_alike hZ.alike Ar6.2.1) Ar6.2.2 hin6 hat6 (g := (mkF m 5 #[.val (.ref a_o), .val (.int (1 : Int32))] [(.int (1 : Int32)), (.ref t_o)])) rfl rfl (hb hby own_d14_5) _ ?_
    exact kt
  by_cases hc6_9 : b_1 = (0 : Int32)
  · obtain ⟨T12, X12, e12, st12⟩ := getF X3 hx hZ hown (host := "") (Or.inl (hw _ (List.mem_of_getElem? (i := 37) rfl))) Via.refl e3 F_c (g := (mkF m 21 #[.val (.ref a_o), .val (.int (1 : Int32))] [(.ref a_o)])) rfl rfl (hb hby own_d14_21)
    obtain ⟨cl15, Ar15, q15, S15, M15, H15, G15⟩ := id V_c
    have hin15 : ¬ ((1 : Int32) < 0 ∨ cl15.slots.size ≤ ((1 : Int32)).toNatClampNeg) := inb_of S15 ⟨by decide, by decide⟩
    have hat15 : cl15.slots[((1 : Int32)).toNatClampNeg]? = some (.long c_1) := H15.at hin15 rfl
    obtain ⟨fs, hr, hrun, hended, hW, hsame⟩ := X12.leave (v := some (.long c_1)) (fun h => by rw [Bd.returns] at h; cases h) (hlocks := BodyLoose.notSynchronized Bd)
    refine ⟨_, _, pre8 _ ?_, hrun, hended, _, _, rfl, ?_, ⟨_, rfl⟩, hW, hsame.mono (by decide) (by decide)⟩
    · show Steps p.tables e below (T3.setTop (mkF m 6 #[.val (.ref a_o), .val (.int (1 : Int32))] [(.int b_1)])) _
      refine XS.ifYes X3.here hx rfl (pc0 := 6) (pc' := 20) rfl (hb hby own_d14_6) rfl ((if0 _ _).trans (teq hc6_9).1) (by decide) (by decide) ?_
      show Steps p.tables e below (T3.setTop (mkF m 20 #[.val (.ref a_o), .val (.int (1 : Int32))] [])) _
      refine XS.aloadN X3.here hx rfl (hb hby own_d14_20) rfl rfl ?_
      show Steps p.tables e below (T3.setTop (mkF m 21 #[.val (.ref a_o), .val (.int (1 : Int32))] [(.ref a_o)])) _
      refine st12 _ ?_
      show Steps p.tables e below (T12.setTop (mkF m 24 #[.val (.ref a_o), .val (.int (1 : Int32))] [(.ref c_o)])) _
      refine XS.iloadN X12.here hx rfl (hb hby own_d14_24) rfl ?_
      show Steps p.tables e below (T12.setTop (mkF m 25 #[.val (.ref a_o), .val (.int (1 : Int32))] [(.int (1 : Int32)), (.ref c_o)])) _
      refine X12.laload hx (j := (1 : Int32)) (v := (.long c_1)) (by rw [e12]; exact Ar15.1) (State.isArrayOf_alike hZ.alike Ar15.2.1) Ar15.2.2 hin15 hat15 (g := (mkF m 25 #[.val (.ref a_o), .val (.int (1 : Int32))] [(.int (1 : Int32)), (.ref c_o)])) rfl rfl (hb hby own_d14_25) _ ?_
      show Steps p.tables e below (T12.setTop (mkF m 26 #[.val (.ref a_o), .val (.int (1 : Int32))] [(.long c_1)])) _
      exact X12.lreturnOut hx Bd.returns (hb hby own_d14_26) hr
    · show Qown_ca1 Z a_o t_o c_o k_t k_c b_0 b_1 c_0 c_1 h0 n0 _ T12.heap _
      rw [e12]
      have hv : (own_ca_f b_1 c_1) = c_1 := by unfold own_ca_f; rw [if_pos hc6_9]
      exact ⟨(by rw [hv]), N0, rfl⟩
  · obtain ⟨T19, X19, e19, st19⟩ := getF X3 hx hZ hown (host := "") (Or.inl (hw _ (List.mem_of_getElem? (i := 37) rfl))) Via.refl e3 F_c (g := (mkF m 10 #[.val (.ref a_o), .val (.int (1 : Int32))] [(.ref a_o)])) rfl rfl (hb hby own_d14_10)
    obtain ⟨cl22, Ar22, q22, S22, M22, H22, G22⟩ := id V_c
    have hin22 : ¬ ((1 : Int32) < 0 ∨ cl22.slots.size ≤ ((1 : Int32)).toNatClampNeg) := inb_of S22 ⟨by decide, by decide⟩
    have hat22 : cl22.slots[((1 : Int32)).toNatClampNeg]? = some (.long c_1) := H22.at hin22 rfl
    obtain ⟨fs, hr, hrun, hended, hW, hsame⟩ := X19.leave (v := some (.long (c_1 + (1 : Int64)))) (fun h => by rw [Bd.returns] at h; cases h) (hlocks := BodyLoose.notSynchronized Bd)
    refine ⟨_, _, pre8 _ ?_, hrun, hended, _, _, rfl, ?_, ⟨_, rfl⟩, hW, hsame.mono (by decide) (by decide)⟩
    · show Steps p.tables e below (T3.setTop (mkF m 6 #[.val (.ref a_o), .val (.int (1 : Int32))] [(.int b_1)])) _
      refine XS.ifNo X3.here hx rfl (hb hby own_d14_6) rfl ((if0 _ _).trans (feq hc6_9).1) ?_
      show Steps p.tables e below (T3.setTop (mkF m 9 #[.val (.ref a_o), .val (.int (1 : Int32))] [])) _
      refine XS.aloadN X3.here hx rfl (hb hby own_d14_9) rfl rfl ?_
      show Steps p.tables e below (T3.setTop (mkF m 10 #[.val (.ref a_o), .val (.int (1 : Int32))] [(.ref a_o)])) _
      refine st19 _ ?_
      show Steps p.tables e below (T19.setTop (mkF m 13 #[.val (.ref a_o), .val (.int (1 : Int32))] [(.ref c_o)])) _
      refine XS.iloadN X19.here hx rfl (hb hby own_d14_13) rfl ?_
      show Steps p.tables e below (T19.setTop (mkF m 14 #[.val (.ref a_o), .val (.int (1 : Int32))] [(.int (1 : Int32)), (.ref c_o)])) _
      refine X19.laload hx (j := (1 : Int32)) (v := (.long c_1)) (by rw [e19]; exact Ar22.1) (State.isArrayOf_alike hZ.alike Ar22.2.1) Ar22.2.2 hin22 hat22 (g := (mkF m 14 #[.val (.ref a_o), .val (.int (1 : Int32))] [(.int (1 : Int32)), (.ref c_o)])) rfl rfl (hb hby own_d14_14) _ ?_
      show Steps p.tables e below (T19.setTop (mkF m 15 #[.val (.ref a_o), .val (.int (1 : Int32))] [(.long c_1)])) _
      refine XS.lconst X19.here hx rfl (hb hby own_d14_15) ?_
      show Steps p.tables e below (T19.setTop (mkF m 16 #[.val (.ref a_o), .val (.int (1 : Int32))] [(.long (1 : Int64)), (.long c_1)])) _
      refine XS.ladd X19.here hx rfl (hb hby own_d14_16) rfl ?_
      show Steps p.tables e below (T19.setTop (mkF m 17 #[.val (.ref a_o), .val (.int (1 : Int32))] [(.long (c_1 + (1 : Int64)))])) _
      refine XS.goto X19.here hx rfl (pc0 := 17) (pc' := 26) rfl (hb hby own_d14_17) (by decide) (by decide) ?_
      show Steps p.tables e below (T19.setTop (mkF m 26 #[.val (.ref a_o), .val (.int (1 : Int32))] [(.long (c_1 + (1 : Int64)))])) _
      exact X19.lreturnOut hx Bd.returns (hb hby own_d14_26) hr
    · show Qown_ca1 Z a_o t_o c_o k_t k_c b_0 b_1 c_0 c_1 h0 n0 _ T19.heap _
      rw [e19]
      have hv : (own_ca_f b_1 c_1) = (c_1 + (1 : Int64)) := by unfold own_ca_f; rw [if_neg hc6_9]
      exact ⟨(by rw [hv]), N0, rfl⟩
theorem own_pn5 : plainName "com/example/tymely/tymely/model/StepCountAfterPinLaw" = true := by first | (simp [plainName, overriddenIn]; done) | decide +kernel
theorem own_ef_own_bit (m : MethodId) (p0 : Int32) : entryFrame m #[(.int p0)] 1 = mkF m 0 #[.val (.int p0)] [] := by first | (simp [entryFrame, mkF, argsToLocals, Value.category]; done) | rfl
theorem own_d13_0 : decode method_2_code 0 = .ok (.iload_n 0, 1) := by decide +kernel
theorem own_d13_1 : decode method_2_code 1 = .ok (.ifCond .eq 7, 3) := by decide +kernel
theorem own_d13_4 : decode method_2_code 4 = .ok (.lconst 1, 1) := by decide +kernel
theorem own_d13_5 : decode method_2_code 5 = .ok (.goto 4, 3) := by decide +kernel
theorem own_d13_8 : decode method_2_code 8 = .ok (.lconst 0, 1) := by decide +kernel
theorem own_d13_9 : decode method_2_code 9 = .ok (.lreturn, 1) := by decide +kernel
def own_bit_f (p0 : Int32) : Int64 := (if p0 = (0 : Int32) then (0 : Int64) else (1 : Int64))
def Qown_bit (Z : State) (p0 : Int32) (h0 : Heap) (n0 : Nat) (v : Option Value) (h : Heap) (L : List Loc) : Prop := v = some (.long (own_bit_f p0)) ∧ Fr n0 L ∧ h = h0
set_option maxRecDepth 65536 in
set_option maxHeartbeats 40000000 in
theorem own_bit (l : Launch) (Z : State) (a0 : Array Value) (hw : ∀ d ∈ tables_1, d.before a0 Z = true) (ws : List Jvm.Cond) (p0 : Int32) (h0 : Heap) (n0 : Nat) (Z0 : n0 ≤ h0.size) :
    MetFree l (⟨"com/example/tymely/tymely/model/StepCountAfterPinLaw", "bit", "(Z)J"⟩ : MethodName) (head1 (Jvm.Cond.code (⟨"com/example/tymely/tymely/model/StepCountAfterPinLaw", "bit", "(Z)J"⟩ : MethodName) method_2_code 1 (some .long) :: ws) ({ frames := 0, cells := 0, slots := 0, locals := 0 } : Room)) (fun a U => a = #[(.int p0)] ∧ Z.Warmed39 U.vm ∧ U.heap = h0) (fun _ _ _ _ _ => True) (fun _ U o U' => ∃ v L, o = .returned v ∧ Qown_bit Z p0 h0 n0 v U'.heap L ∧ FrameEnd U o U' L ({ frames := 0, cells := 0, slots := 0, locals := 0 } : Room).cells ({ frames := 0, cells := 0, slots := 0, locals := 0 } : Room).slots) := by
  refine MetFree.of_bodySF (plainFor_of_name own_pn5) hisR ?_
  intro p e s m args below meth c s₁ Bd hml0 hP hK
  obtain ⟨rfl, hZ, hh⟩ := hP
  have hx := Bd.exec
  have hby := Bd.bytes
  have hml : c.maxLocals = 1 := hml0
  have hown : s.vm.findClass "com/example/tymely/tymely/model/StepCountAfterPinLaw" = some m.cls := findClass_of_methodNamed Bd.named
  have hnm := (name_of_methodNamed Bd.named Bd.method).1
  have X0 : Stand p l e ({ frames := 0, cells := 0, slots := 0, locals := 0 } : Room) s m #[(.int p0)] below meth c s₁ [] 0 0 := Stand.of_body Bd
  have e0 : s₁.heap = h0 := by rw [← hh, Bd.state]; rfl
  have N0 := Fr.nil n0
  have pre0 : ∀ t, Steps p.tables e below (s₁.setTop (mkF m 0 #[.val (.int p0)] [])) t → Steps p.tables e below (s₁.setTop (entryFrame m #[(.int p0)] 1)) t := fun t k => castTop (own_ef_own_bit m p0) k
  have pre3 : ∀ t, Steps p.tables e below (s₁.setTop (mkF m 1 #[.val (.int p0)] [(.int p0)])) t → Steps p.tables e below (s₁.setTop (entryFrame m #[(.int p0)] 1)) t := by
    intro t kt
    refine pre0 _ ?_
    show Steps p.tables e below (s₁.setTop (mkF m 0 #[.val (.int p0)] [])) _
    refine XS.iloadN X0.here hx rfl (hb hby own_d13_0) rfl ?_
    exact kt
  by_cases hc1_4 : p0 = (0 : Int32)
  · obtain ⟨fs, hr, hrun, hended, hW, hsame⟩ := X0.leave (v := some (.long (0 : Int64))) (fun h => by rw [Bd.returns] at h; cases h) (hlocks := BodyLoose.notSynchronized Bd)
    refine ⟨_, _, pre3 _ ?_, hrun, hended, _, _, rfl, ?_, ⟨_, rfl⟩, hW, hsame.mono (by decide) (by decide)⟩
    · show Steps p.tables e below (s₁.setTop (mkF m 1 #[.val (.int p0)] [(.int p0)])) _
      refine XS.ifYes X0.here hx rfl (pc0 := 1) (pc' := 8) rfl (hb hby own_d13_1) rfl ((if0 _ _).trans (teq hc1_4).1) (by decide) (by decide) ?_
      show Steps p.tables e below (s₁.setTop (mkF m 8 #[.val (.int p0)] [])) _
      refine XS.lconst X0.here hx rfl (hb hby own_d13_8) ?_
      show Steps p.tables e below (s₁.setTop (mkF m 9 #[.val (.int p0)] [(.long (0 : Int64))])) _
      exact X0.lreturnOut hx Bd.returns (hb hby own_d13_9) hr
    · show Qown_bit Z p0 h0 n0 _ s₁.heap _
      rw [e0]
      have hv : (own_bit_f p0) = (0 : Int64) := by unfold own_bit_f; rw [if_pos hc1_4]
      exact ⟨(by rw [hv]), N0, rfl⟩
  · obtain ⟨fs, hr, hrun, hended, hW, hsame⟩ := X0.leave (v := some (.long (1 : Int64))) (fun h => by rw [Bd.returns] at h; cases h) (hlocks := BodyLoose.notSynchronized Bd)
    refine ⟨_, _, pre3 _ ?_, hrun, hended, _, _, rfl, ?_, ⟨_, rfl⟩, hW, hsame.mono (by decide) (by decide)⟩
    · show Steps p.tables e below (s₁.setTop (mkF m 1 #[.val (.int p0)] [(.int p0)])) _
      refine XS.ifNo X0.here hx rfl (hb hby own_d13_1) rfl ((if0 _ _).trans (feq hc1_4).1) ?_
      show Steps p.tables e below (s₁.setTop (mkF m 4 #[.val (.int p0)] [])) _
      refine XS.lconst X0.here hx rfl (hb hby own_d13_4) ?_
      show Steps p.tables e below (s₁.setTop (mkF m 5 #[.val (.int p0)] [(.long (1 : Int64))])) _
      refine XS.goto X0.here hx rfl (pc0 := 5) (pc' := 9) rfl (hb hby own_d13_5) (by decide) (by decide) ?_
      show Steps p.tables e below (s₁.setTop (mkF m 9 #[.val (.int p0)] [(.long (1 : Int64))])) _
      exact X0.lreturnOut hx Bd.returns (hb hby own_d13_9) hr
    · show Qown_bit Z p0 h0 n0 _ s₁.heap _
      rw [e0]
      have hv : (own_bit_f p0) = (1 : Int64) := by unfold own_bit_f; rw [if_neg hc1_4]
      exact ⟨(by rw [hv]), N0, rfl⟩
theorem own_static {Z : State} {a0 : Array Value} {C n d : String} (hf : Fit Z) (h1 : (Cond.arrayOf (Term.static C n d) (.object "java/lang/Object")).before a0 Z = true) (h2 : (Cond.eq (Term.length (Term.static C n d)) (Term.int (0 : Int32))).before a0 Z = true)
    (hi : (Cond.initialized C).before a0 Z = true ∧ (Cond.laysStatic C n d).before a0 Z = true) : ∃ w k, Sta Z Z.heap C n d (.ref w) ∧ Arv Z Z.heap w k (.object "java/lang/Object") (0 : Int32) [] .null := by
  obtain ⟨w, ev⟩ := arr_v (Cond.before_iff.mp h1)
  obtain ⟨c, A⟩ := Arr.start ev (Cond.before_iff.mp h1)
  obtain ⟨x, y, e1, e2, -, -⟩ := cmp_v (Or.inl (Cond.before_iff.mp h2))
  obtain ⟨a, cell, e3, e4, e5, e6⟩ := Jvm.Free.SB.Term.length_small e1
  cases ev.symm.trans e3
  have e7 : Z.arrayAt? w = some c := A.fin (Vm.Alike.refl _)
  cases e7.symm.trans e4
  subst e5
  have e8 := gotT (Cond.eq_ints e1 (Term.int_eval (0 : Int32))) (Cond.before_iff.mp h2)
  exact ⟨w, c.cls, Sta.start ev (Or.inr hi), Arv.start hf A e6 e8 (by decide) rfl trivial⟩
theorem own_m (P Q : Prop) [Decidable P] [Decidable Q] : own_ca_f (nar .boolean (if Q then (0 : Int32) else (1 : Int32))) (if (nar .boolean (if P then (0 : Int32) else (1 : Int32))) = (0 : Int32) then (0 : Int64) else ((0 : Int64) + (1 : Int64))) =
    (own_bit_f (if P then (0 : Int32) else (1 : Int32)) + own_bit_f (if Q then (0 : Int32) else (1 : Int32))) := by
  by_cases p : P <;> by_cases q : Q <;> simp only [if_pos, if_neg, p, q, if_true, if_false] <;> decide
theorem own_ef_own_law (m : MethodId) (p0 : Int32) (p1 : Int32) : entryFrame m #[(.int p0), (.int p1)] maxLocals = mkF m 0 #[.val (.int p0), .val (.int p1), .unset, .unset, .unset, .unset, .unset, .unset, .unset, .unset, .unset] [] := by first | (simp [entryFrame, mkF, argsToLocals, Value.category, maxLocals]; done) | rfl
theorem own_pd6 : parseMethodDescriptor "(ILjava/util/List;)V" = some ⟨[.int, (.object "java/util/List")], none⟩ := by decide +kernel
theorem own_pd7 : parseMethodDescriptor "(IZ)V" = some ⟨[.int, .boolean], none⟩ := by decide +kernel
theorem own_pd8 : parseMethodDescriptor "(Z)J" = some ⟨[.boolean], some .long⟩ := by decide +kernel
theorem own_pd9 : parseMethodDescriptor "(I)J" = some ⟨[.int], some .long⟩ := by decide +kernel
def Qown_law (Z : State) (p0 : Int32) (p1 : Int32) (w_d : Addr) (k_d : ClassId) (h0 : Heap) (n0 : Nat) (v : Option Value) (h : Heap) (L : List Loc) : Prop := v = some (.int (1 : Int32)) ∧ Fr n0 L
set_option maxRecDepth 65536 in
set_option maxHeartbeats 40000000 in
theorem own_law (l : Launch) (Z : State) (a0 : Array Value) (hw : ∀ d ∈ tables_1, d.before a0 Z = true) (ws : List Jvm.Cond) (p0 : Int32) (p1 : Int32) (w_d : Addr) (k_d : ClassId) (h0 : Heap) (n0 : Nat) (Z0 : n0 ≤ h0.size) (O0 : Old Z n0 h0) (S_d : Sta Z Z.heap "java/util/ArrayList" "DEFAULTCAPACITY_EMPTY_ELEMENTDATA" "[Ljava/lang/Object;" (.ref w_d)) (V_d : Arv Z h0 w_d k_d (.object "java/lang/Object") (0 : Int32) [] .null) :
    MetFree l x (head1 (Jvm.Cond.code x code maxLocals ret :: ws) room_1) (fun a U => a = #[(.int p0), (.int p1)] ∧ Z.Warmed39 U.vm ∧ U.heap = h0) (fun _ _ _ _ _ => True) (fun _ U o U' => ∃ v L, o = .returned v ∧ Qown_law Z p0 p1 w_d k_d h0 n0 v U'.heap L ∧ FrameEnd U o U' L room_1.cells room_1.slots) := by
  refine MetFree.of_bodySF (plainFor_of_name own_pn5) hisR ?_
  intro p e s m args below meth c s₁ Bd hml0 hP hK
  obtain ⟨rfl, hZ, hh⟩ := hP
  have hx := Bd.exec
  have hby := Bd.bytes
  have hml : c.maxLocals = 11 := hml0
  have hown : s.vm.findClass "com/example/tymely/tymely/model/StepCountAfterPinLaw" = some m.cls := findClass_of_methodNamed Bd.named
  have hnm := (name_of_methodNamed Bd.named Bd.method).1
  have X0 : Stand p l e room_1 s m #[(.int p0), (.int p1)] below meth c s₁ [] 0 0 := Stand.of_body Bd
  have e0 : s₁.heap = h0 := by rw [← hh, Bd.state]; rfl
  have N0 := Fr.nil n0
  have pre0 : ∀ t, Steps p.tables e below (s₁.setTop (mkF m 0 #[.val (.int p0), .val (.int p1), .unset, .unset, .unset, .unset, .unset, .unset, .unset, .unset, .unset] [])) t → Steps p.tables e below (s₁.setTop (entryFrame m #[(.int p0), (.int p1)] maxLocals)) t := fun t k => castTop (own_ef_own_law m p0 p1) k
  have pre5 : ∀ t, Steps p.tables e below (s₁.setTop (mkF m 3 #[.val (.int p0), .val (.int p1), .unset, .unset, .unset, .unset, .unset, .unset, .unset, .unset, .unset] [(.int (p0 &&& (1 : Int32)))])) t → Steps p.tables e below (s₁.setTop (entryFrame m #[(.int p0), (.int p1)] maxLocals)) t := by
    intro t kt
    refine pre0 _ ?_
    show Steps p.tables e below (s₁.setTop (mkF m 0 #[.val (.int p0), .val (.int p1), .unset, .unset, .unset, .unset, .unset, .unset, .unset, .unset, .unset] [])) _
    refine XS.iloadN X0.here hx rfl (hb hby at_0) rfl ?_
    show Steps p.tables e below (s₁.setTop (mkF m 1 #[.val (.int p0), .val (.int p1), .unset, .unset, .unset, .unset, .unset, .unset, .unset, .unset, .unset] [(.int p0)])) _
    refine XS.iconst X0.here hx rfl (hb hby at_1) ?_
    show Steps p.tables e below (s₁.setTop (mkF m 2 #[.val (.int p0), .val (.int p1), .unset, .unset, .unset, .unset, .unset, .unset, .unset, .unset, .unset] [(.int (1 : Int32)), (.int p0)])) _
    refine XS.iand X0.here hx rfl (hb hby at_2) rfl ?_
    exact kt
  have pre12 : ∀ t, Steps p.tables e below (s₁.setTop (mkF m 11 #[.val (.int p0), .val (.int p1), .unset, .unset, .unset, .unset, .unset, .unset, .unset, .unset, .unset] [(.int (if (p0 &&& (1 : Int32)) = (0 : Int32) then (0 : Int32) else (1 : Int32)))])) t → Steps p.tables e below (s₁.setTop (entryFrame m #[(.int p0), (.int p1)] maxLocals)) t := by
    intro t kt
    refine pre5 _ ?_
    by_cases hc3_6 : (p0 &&& (1 : Int32)) = (0 : Int32)
    · rw [if_pos hc3_6] at kt
      show Steps p.tables e below (s₁.setTop (mkF m 3 #[.val (.int p0), .val (.int p1), .unset, .unset, .unset, .unset, .unset, .unset, .unset, .unset, .unset] [(.int (p0 &&& (1 : Int32)))])) _
      refine XS.ifYes X0.here hx rfl (pc0 := 3) (pc' := 10) rfl (hb hby at_3) rfl ((if0 _ _).trans (teq hc3_6).1) (by decide) (by decide) ?_
      show Steps p.tables e below (s₁.setTop (mkF m 10 #[.val (.int p0), .val (.int p1), .unset, .unset, .unset, .unset, .unset, .unset, .unset, .unset, .unset] [])) _
      refine XS.iconst X0.here hx rfl (hb hby at_10) ?_
      exact kt
    · rw [if_neg hc3_6] at kt
      show Steps p.tables e below (s₁.setTop (mkF m 3 #[.val (.int p0), .val (.int p1), .unset, .unset, .unset, .unset, .unset, .unset, .unset, .unset, .unset] [(.int (p0 &&& (1 : Int32)))])) _
      refine XS.ifNo X0.here hx rfl (hb hby at_3) rfl ((if0 _ _).trans (feq hc3_6).1) ?_
      show Steps p.tables e below (s₁.setTop (mkF m 6 #[.val (.int p0), .val (.int p1), .unset, .unset, .unset, .unset, .unset, .unset, .unset, .unset, .unset] [])) _
      refine XS.iconst X0.here hx rfl (hb hby at_6) ?_
      show Steps p.tables e below (s₁.setTop (mkF m 7 #[.val (.int p0), .val (.int p1), .unset, .unset, .unset, .unset, .unset, .unset, .unset, .unset, .unset] [(.int (1 : Int32))])) _
      refine XS.goto X0.here hx rfl (pc0 := 7) (pc' := 11) rfl (hb hby at_7) (by decide) (by decide) ?_
      exact kt
  have pre18 : ∀ t, Steps p.tables e below (s₁.setTop (mkF m 15 #[.val (.int p0), .val (.int p1), .val (.int (if (p0 &&& (1 : Int32)) = (0 : Int32) then (0 : Int32) else (1 : Int32))), .unset, .unset, .unset, .unset, .unset, .unset, .unset, .unset] [(.int (p0 &&& (2 : Int32)))])) t → Steps p.tables e below (s₁.setTop (entryFrame m #[(.int p0), (.int p1)] maxLocals)) t := by
    intro t kt
    refine pre12 _ ?_
    show Steps p.tables e below (s₁.setTop (mkF m 11 #[.val (.int p0), .val (.int p1), .unset, .unset, .unset, .unset, .unset, .unset, .unset, .unset, .unset] [(.int (if (p0 &&& (1 : Int32)) = (0 : Int32) then (0 : Int32) else (1 : Int32)))])) _
    refine XS.istoreN X0.here hx rfl (hb hby at_11) rfl (l' := #[.val (.int p0), .val (.int p1), .val (.int (if (p0 &&& (1 : Int32)) = (0 : Int32) then (0 : Int32) else (1 : Int32))), .unset, .unset, .unset, .unset, .unset, .unset, .unset, .unset]) rfl ?_
    show Steps p.tables e below (s₁.setTop (mkF m 12 #[.val (.int p0), .val (.int p1), .val (.int (if (p0 &&& (1 : Int32)) = (0 : Int32) then (0 : Int32) else (1 : Int32))), .unset, .unset, .unset, .unset, .unset, .unset, .unset, .unset] [])) _
    refine XS.iloadN X0.here hx rfl (hb hby at_12) rfl ?_
    show Steps p.tables e below (s₁.setTop (mkF m 13 #[.val (.int p0), .val (.int p1), .val (.int (if (p0 &&& (1 : Int32)) = (0 : Int32) then (0 : Int32) else (1 : Int32))), .unset, .unset, .unset, .unset, .unset, .unset, .unset, .unset] [(.int p0)])) _
    refine XS.iconst X0.here hx rfl (hb hby at_13) ?_
    show Steps p.tables e below (s₁.setTop (mkF m 14 #[.val (.int p0), .val (.int p1), .val (.int (if (p0 &&& (1 : Int32)) = (0 : Int32) then (0 : Int32) else (1 : Int32))), .unset, .unset, .unset, .unset, .unset, .unset, .unset, .unset] [(.int (2 : Int32)), (.int p0)])) _
    refine XS.iand X0.here hx rfl (hb hby at_14) rfl ?_
    exact kt
  have pre25 : ∀ t, Steps p.tables e below (s₁.setTop (mkF m 23 #[.val (.int p0), .val (.int p1), .val (.int (if (p0 &&& (1 : Int32)) = (0 : Int32) then (0 : Int32) else (1 : Int32))), .unset, .unset, .unset, .unset, .unset, .unset, .unset, .unset] [(.int (if (p0 &&& (2 : Int32)) = (0 : Int32) then (0 : Int32) else (1 : Int32)))])) t → Steps p.tables e below (s₁.setTop (entryFrame m #[(.int p0), (.int p1)] maxLocals)) t := by
    intro t kt
    refine pre18 _ ?_
    by_cases hc15_19 : (p0 &&& (2 : Int32)) = (0 : Int32)
    · rw [if_pos hc15_19] at kt
      show Steps p.tables e below (s₁.setTop (mkF m 15 #[.val (.int p0), .val (.int p1), .val (.int (if (p0 &&& (1 : Int32)) = (0 : Int32) then (0 : Int32) else (1 : Int32))), .unset, .unset, .unset, .unset, .unset, .unset, .unset, .unset] [(.int (p0 &&& (2 : Int32)))])) _
      refine XS.ifYes X0.here hx rfl (pc0 := 15) (pc' := 22) rfl (hb hby at_15) rfl ((if0 _ _).trans (teq hc15_19).1) (by decide) (by decide) ?_
      show Steps p.tables e below (s₁.setTop (mkF m 22 #[.val (.int p0), .val (.int p1), .val (.int (if (p0 &&& (1 : Int32)) = (0 : Int32) then (0 : Int32) else (1 : Int32))), .unset, .unset, .unset, .unset, .unset, .unset, .unset, .unset] [])) _
      refine XS.iconst X0.here hx rfl (hb hby at_22) ?_
      exact kt
    · rw [if_neg hc15_19] at kt
      show Steps p.tables e below (s₁.setTop (mkF m 15 #[.val (.int p0), .val (.int p1), .val (.int (if (p0 &&& (1 : Int32)) = (0 : Int32) then (0 : Int32) else (1 : Int32))), .unset, .unset, .unset, .unset, .unset, .unset, .unset, .unset] [(.int (p0 &&& (2 : Int32)))])) _
      refine XS.ifNo X0.here hx rfl (hb hby at_15) rfl ((if0 _ _).trans (feq hc15_19).1) ?_
      show Steps p.tables e below (s₁.setTop (mkF m 18 #[.val (.int p0), .val (.int p1), .val (.int (if (p0 &&& (1 : Int32)) = (0 : Int32) then (0 : Int32) else (1 : Int32))), .unset, .unset, .unset, .unset, .unset, .unset, .unset, .unset] [])) _
      refine XS.iconst X0.here hx rfl (hb hby at_18) ?_
      show Steps p.tables e below (s₁.setTop (mkF m 19 #[.val (.int p0), .val (.int p1), .val (.int (if (p0 &&& (1 : Int32)) = (0 : Int32) then (0 : Int32) else (1 : Int32))), .unset, .unset, .unset, .unset, .unset, .unset, .unset, .unset] [(.int (1 : Int32))])) _
      refine XS.goto X0.here hx rfl (pc0 := 19) (pc' := 23) rfl (hb hby at_19) (by decide) (by decide) ?_
      exact kt
  have pre31 : ∀ t, Steps p.tables e below (s₁.setTop (mkF m 27 #[.val (.int p0), .val (.int p1), .val (.int (if (p0 &&& (1 : Int32)) = (0 : Int32) then (0 : Int32) else (1 : Int32))), .val (.int (if (p0 &&& (2 : Int32)) = (0 : Int32) then (0 : Int32) else (1 : Int32))), .unset, .unset, .unset, .unset, .unset, .unset, .unset] [(.int (p1 &&& (1 : Int32)))])) t → Steps p.tables e below (s₁.setTop (entryFrame m #[(.int p0), (.int p1)] maxLocals)) t := by
    intro t kt
    refine pre25 _ ?_
    show Steps p.tables e below (s₁.setTop (mkF m 23 #[.val (.int p0), .val (.int p1), .val (.int (if (p0 &&& (1 : Int32)) = (0 : Int32) then (0 : Int32) else (1 : Int32))), .unset, .unset, .unset, .unset, .unset, .unset, .unset, .unset] [(.int (if (p0 &&& (2 : Int32)) = (0 : Int32) then (0 : Int32) else (1 : Int32)))])) _
    refine XS.istoreN X0.here hx rfl (hb hby at_23) rfl (l' := #[.val (.int p0), .val (.int p1), .val (.int (if (p0 &&& (1 : Int32)) = (0 : Int32) then (0 : Int32) else (1 : Int32))), .val (.int (if (p0 &&& (2 : Int32)) = (0 : Int32) then (0 : Int32) else (1 : Int32))), .unset, .unset, .unset, .unset, .unset, .unset, .unset]) rfl ?_
    show Steps p.tables e below (s₁.setTop (mkF m 24 #[.val (.int p0), .val (.int p1), .val (.int (if (p0 &&& (1 : Int32)) = (0 : Int32) then (0 : Int32) else (1 : Int32))), .val (.int (if (p0 &&& (2 : Int32)) = (0 : Int32) then (0 : Int32) else (1 : Int32))), .unset, .unset, .unset, .unset, .unset, .unset, .unset] [])) _
    refine XS.iloadN X0.here hx rfl (hb hby at_24) rfl ?_
    show Steps p.tables e below (s₁.setTop (mkF m 25 #[.val (.int p0), .val (.int p1), .val (.int (if (p0 &&& (1 : Int32)) = (0 : Int32) then (0 : Int32) else (1 : Int32))), .val (.int (if (p0 &&& (2 : Int32)) = (0 : Int32) then (0 : Int32) else (1 : Int32))), .unset, .unset, .unset, .unset, .unset, .unset, .unset] [(.int p1)])) _
    refine XS.iconst X0.here hx rfl (hb hby at_25) ?_
    show Steps p.tables e below (s₁.setTop (mkF m 26 #[.val (.int p0), .val (.int p1), .val (.int (if (p0 &&& (1 : Int32)) = (0 : Int32) then (0 : Int32) else (1 : Int32))), .val (.int (if (p0 &&& (2 : Int32)) = (0 : Int32) then (0 : Int32) else (1 : Int32))), .unset, .unset, .unset, .unset, .unset, .unset, .unset] [(.int (1 : Int32)), (.int p1)])) _
    refine XS.iand X0.here hx rfl (hb hby at_26) rfl ?_
    exact kt
  have pre38 : ∀ t, Steps p.tables e below (s₁.setTop (mkF m 35 #[.val (.int p0), .val (.int p1), .val (.int (if (p0 &&& (1 : Int32)) = (0 : Int32) then (0 : Int32) else (1 : Int32))), .val (.int (if (p0 &&& (2 : Int32)) = (0 : Int32) then (0 : Int32) else (1 : Int32))), .unset, .unset, .unset, .unset, .unset, .unset, .unset] [(.int (if (p1 &&& (1 : Int32)) = (0 : Int32) then (0 : Int32) else (1 : Int32)))])) t → Steps p.tables e below (s₁.setTop (entryFrame m #[(.int p0), (.int p1)] maxLocals)) t := by
    intro t kt
    refine pre31 _ ?_
    by_cases hc27_32 : (p1 &&& (1 : Int32)) = (0 : Int32)
    · rw [if_pos hc27_32] at kt
      show Steps p.tables e below (s₁.setTop (mkF m 27 #[.val (.int p0), .val (.int p1), .val (.int (if (p0 &&& (1 : Int32)) = (0 : Int32) then (0 : Int32) else (1 : Int32))), .val (.int (if (p0 &&& (2 : Int32)) = (0 : Int32) then (0 : Int32) else (1 : Int32))), .unset, .unset, .unset, .unset, .unset, .unset, .unset] [(.int (p1 &&& (1 : Int32)))])) _
      refine XS.ifYes X0.here hx rfl (pc0 := 27) (pc' := 34) rfl (hb hby at_27) rfl ((if0 _ _).trans (teq hc27_32).1) (by decide) (by decide) ?_
      show Steps p.tables e below (s₁.setTop (mkF m 34 #[.val (.int p0), .val (.int p1), .val (.int (if (p0 &&& (1 : Int32)) = (0 : Int32) then (0 : Int32) else (1 : Int32))), .val (.int (if (p0 &&& (2 : Int32)) = (0 : Int32) then (0 : Int32) else (1 : Int32))), .unset, .unset, .unset, .unset, .unset, .unset, .unset] [])) _
      refine XS.iconst X0.here hx rfl (hb hby at_34) ?_
      exact kt
    · rw [if_neg hc27_32] at kt
      show Steps p.tables e below (s₁.setTop (mkF m 27 #[.val (.int p0), .val (.int p1), .val (.int (if (p0 &&& (1 : Int32)) = (0 : Int32) then (0 : Int32) else (1 : Int32))), .val (.int (if (p0 &&& (2 : Int32)) = (0 : Int32) then (0 : Int32) else (1 : Int32))), .unset, .unset, .unset, .unset, .unset, .unset, .unset] [(.int (p1 &&& (1 : Int32)))])) _
      refine XS.ifNo X0.here hx rfl (hb hby at_27) rfl ((if0 _ _).trans (feq hc27_32).1) ?_
      show Steps p.tables e below (s₁.setTop (mkF m 30 #[.val (.int p0), .val (.int p1), .val (.int (if (p0 &&& (1 : Int32)) = (0 : Int32) then (0 : Int32) else (1 : Int32))), .val (.int (if (p0 &&& (2 : Int32)) = (0 : Int32) then (0 : Int32) else (1 : Int32))), .unset, .unset, .unset, .unset, .unset, .unset, .unset] [])) _
      refine XS.iconst X0.here hx rfl (hb hby at_30) ?_
      show Steps p.tables e below (s₁.setTop (mkF m 31 #[.val (.int p0), .val (.int p1), .val (.int (if (p0 &&& (1 : Int32)) = (0 : Int32) then (0 : Int32) else (1 : Int32))), .val (.int (if (p0 &&& (2 : Int32)) = (0 : Int32) then (0 : Int32) else (1 : Int32))), .unset, .unset, .unset, .unset, .unset, .unset, .unset] [(.int (1 : Int32))])) _
      refine XS.goto X0.here hx rfl (pc0 := 31) (pc' := 35) rfl (hb hby at_31) (by decide) (by decide) ?_
      exact kt
  have pre44 : ∀ t, Steps p.tables e below (s₁.setTop (mkF m 40 #[.val (.int p0), .val (.int p1), .val (.int (if (p0 &&& (1 : Int32)) = (0 : Int32) then (0 : Int32) else (1 : Int32))), .val (.int (if (p0 &&& (2 : Int32)) = (0 : Int32) then (0 : Int32) else (1 : Int32))), .val (.int (if (p1 &&& (1 : Int32)) = (0 : Int32) then (0 : Int32) else (1 : Int32))), .unset, .unset, .unset, .unset, .unset, .unset] [(.int (p1 &&& (2 : Int32)))])) t → Steps p.tables e below (s₁.setTop (entryFrame m #[(.int p0), (.int p1)] maxLocals)) t := by
    intro t kt
    refine pre38 _ ?_
    show Steps p.tables e below (s₁.setTop (mkF m 35 #[.val (.int p0), .val (.int p1), .val (.int (if (p0 &&& (1 : Int32)) = (0 : Int32) then (0 : Int32) else (1 : Int32))), .val (.int (if (p0 &&& (2 : Int32)) = (0 : Int32) then (0 : Int32) else (1 : Int32))), .unset, .unset, .unset, .unset, .unset, .unset, .unset] [(.int (if (p1 &&& (1 : Int32)) = (0 : Int32) then (0 : Int32) else (1 : Int32)))])) _
    refine XS.istore X0.here hx rfl (hb hby at_35) rfl (l' := #[.val (.int p0), .val (.int p1), .val (.int (if (p0 &&& (1 : Int32)) = (0 : Int32) then (0 : Int32) else (1 : Int32))), .val (.int (if (p0 &&& (2 : Int32)) = (0 : Int32) then (0 : Int32) else (1 : Int32))), .val (.int (if (p1 &&& (1 : Int32)) = (0 : Int32) then (0 : Int32) else (1 : Int32))), .unset, .unset, .unset, .unset, .unset, .unset]) rfl ?_
    show Steps p.tables e below (s₁.setTop (mkF m 37 #[.val (.int p0), .val (.int p1), .val (.int (if (p0 &&& (1 : Int32)) = (0 : Int32) then (0 : Int32) else (1 : Int32))), .val (.int (if (p0 &&& (2 : Int32)) = (0 : Int32) then (0 : Int32) else (1 : Int32))), .val (.int (if (p1 &&& (1 : Int32)) = (0 : Int32) then (0 : Int32) else (1 : Int32))), .unset, .unset, .unset, .unset, .unset, .unset] [])) _
    refine XS.iloadN X0.here hx rfl (hb hby at_37) rfl ?_
    show Steps p.tables e below (s₁.setTop (mkF m 38 #[.val (.int p0), .val (.int p1), .val (.int (if (p0 &&& (1 : Int32)) = (0 : Int32) then (0 : Int32) else (1 : Int32))), .val (.int (if (p0 &&& (2 : Int32)) = (0 : Int32) then (0 : Int32) else (1 : Int32))), .val (.int (if (p1 &&& (1 : Int32)) = (0 : Int32) then (0 : Int32) else (1 : Int32))), .unset, .unset, .unset, .unset, .unset, .unset] [(.int p1)])) _
    refine XS.iconst X0.here hx rfl (hb hby at_38) ?_
    show Steps p.tables e below (s₁.setTop (mkF m 39 #[.val (.int p0), .val (.int p1), .val (.int (if (p0 &&& (1 : Int32)) = (0 : Int32) then (0 : Int32) else (1 : Int32))), .val (.int (if (p0 &&& (2 : Int32)) = (0 : Int32) then (0 : Int32) else (1 : Int32))), .val (.int (if (p1 &&& (1 : Int32)) = (0 : Int32) then (0 : Int32) else (1 : Int32))), .unset, .unset, .unset, .unset, .unset, .unset] [(.int (2 : Int32)), (.int p1)])) _
    refine XS.iand X0.here hx rfl (hb hby at_39) rfl ?_
    exact kt
  have pre51 : ∀ t, Steps p.tables e below (s₁.setTop (mkF m 48 #[.val (.int p0), .val (.int p1), .val (.int (if (p0 &&& (1 : Int32)) = (0 : Int32) then (0 : Int32) else (1 : Int32))), .val (.int (if (p0 &&& (2 : Int32)) = (0 : Int32) then (0 : Int32) else (1 : Int32))), .val (.int (if (p1 &&& (1 : Int32)) = (0 : Int32) then (0 : Int32) else (1 : Int32))), .unset, .unset, .unset, .unset, .unset, .unset] [(.int (if (p1 &&& (2 : Int32)) = (0 : Int32) then (0 : Int32) else (1 : Int32)))])) t → Steps p.tables e below (s₁.setTop (entryFrame m #[(.int p0), (.int p1)] maxLocals)) t := by
    intro t kt
    refine pre44 _ ?_
    by_cases hc40_45 : (p1 &&& (2 : Int32)) = (0 : Int32)
    · rw [if_pos hc40_45] at kt
      show Steps p.tables e below (s₁.setTop (mkF m 40 #[.val (.int p0), .val (.int p1), .val (.int (if (p0 &&& (1 : Int32)) = (0 : Int32) then (0 : Int32) else (1 : Int32))), .val (.int (if (p0 &&& (2 : Int32)) = (0 : Int32) then (0 : Int32) else (1 : Int32))), .val (.int (if (p1 &&& (1 : Int32)) = (0 : Int32) then (0 : Int32) else (1 : Int32))), .unset, .unset, .unset, .unset, .unset, .unset] [(.int (p1 &&& (2 : Int32)))])) _
      refine XS.ifYes X0.here hx rfl (pc0 := 40) (pc' := 47) rfl (hb hby at_40) rfl ((if0 _ _).trans (teq hc40_45).1) (by decide) (by decide) ?_
      show Steps p.tables e below (s₁.setTop (mkF m 47 #[.val (.int p0), .val (.int p1), .val (.int (if (p0 &&& (1 : Int32)) = (0 : Int32) then (0 : Int32) else (1 : Int32))), .val (.int (if (p0 &&& (2 : Int32)) = (0 : Int32) then (0 : Int32) else (1 : Int32))), .val (.int (if (p1 &&& (1 : Int32)) = (0 : Int32) then (0 : Int32) else (1 : Int32))), .unset, .unset, .unset, .unset, .unset, .unset] [])) _
      refine XS.iconst X0.here hx rfl (hb hby at_47) ?_
      exact kt
    · rw [if_neg hc40_45] at kt
      show Steps p.tables e below (s₁.setTop (mkF m 40 #[.val (.int p0), .val (.int p1), .val (.int (if (p0 &&& (1 : Int32)) = (0 : Int32) then (0 : Int32) else (1 : Int32))), .val (.int (if (p0 &&& (2 : Int32)) = (0 : Int32) then (0 : Int32) else (1 : Int32))), .val (.int (if (p1 &&& (1 : Int32)) = (0 : Int32) then (0 : Int32) else (1 : Int32))), .unset, .unset, .unset, .unset, .unset, .unset] [(.int (p1 &&& (2 : Int32)))])) _
      refine XS.ifNo X0.here hx rfl (hb hby at_40) rfl ((if0 _ _).trans (feq hc40_45).1) ?_
      show Steps p.tables e below (s₁.setTop (mkF m 43 #[.val (.int p0), .val (.int p1), .val (.int (if (p0 &&& (1 : Int32)) = (0 : Int32) then (0 : Int32) else (1 : Int32))), .val (.int (if (p0 &&& (2 : Int32)) = (0 : Int32) then (0 : Int32) else (1 : Int32))), .val (.int (if (p1 &&& (1 : Int32)) = (0 : Int32) then (0 : Int32) else (1 : Int32))), .unset, .unset, .unset, .unset, .unset, .unset] [])) _
      refine XS.iconst X0.here hx rfl (hb hby at_43) ?_
      show Steps p.tables e below (s₁.setTop (mkF m 44 #[.val (.int p0), .val (.int p1), .val (.int (if (p0 &&& (1 : Int32)) = (0 : Int32) then (0 : Int32) else (1 : Int32))), .val (.int (if (p0 &&& (2 : Int32)) = (0 : Int32) then (0 : Int32) else (1 : Int32))), .val (.int (if (p1 &&& (1 : Int32)) = (0 : Int32) then (0 : Int32) else (1 : Int32))), .unset, .unset, .unset, .unset, .unset, .unset] [(.int (1 : Int32))])) _
      refine XS.goto X0.here hx rfl (pc0 := 44) (pc' := 48) rfl (hb hby at_44) (by decide) (by decide) ?_
      exact kt
  obtain ⟨T54, h54, X54, e54, E54, A54, D54, -, st54⟩ := newO X0 hx hZ hown (hw _ (List.mem_of_getElem? (i := 0) rfl)) (hw _ (List.mem_of_getElem? (i := 1) rfl)) (hw _ (List.mem_of_getElem? (i := 2) rfl)) e0 (g := (mkF m 50 #[.val (.int p0), .val (.int p1), .val (.int (if (p0 &&& (1 : Int32)) = (0 : Int32) then (0 : Int32) else (1 : Int32))), .val (.int (if (p0 &&& (2 : Int32)) = (0 : Int32) then (0 : Int32) else (1 : Int32))), .val (.int (if (p1 &&& (1 : Int32)) = (0 : Int32) then (0 : Int32) else (1 : Int32))), .val (.int (if (p1 &&& (2 : Int32)) = (0 : Int32) then (0 : Int32) else (1 : Int32))), .unset, .unset, .unset, .unset, .unset] [])) rfl (hb hby at_50) (by decide) (by decide)
  obtain ⟨b54, g54⟩ : ∃ z, z = h0.size := ⟨_, rfl⟩
  rw [← g54] at A54 D54 st54
  have Ne55 : w_d ≠ b54 := Nat.ne_of_lt (Nat.lt_of_lt_of_le V_d.lt (Nat.le_of_eq g54.symm))
  have Ge56 : n0 ≤ b54 := Nat.le_trans Z0 (Nat.le_of_eq g54.symm)
  have Sz57 : h0.size ≤ b54 := Nat.le_trans (Keep.refl h0 []).1 (Nat.le_of_eq g54.symm)
  have Kc58 : Keep h0 h54 [] := (Keep.refl h0 []).ext E54
  have Zs59 : n0 ≤ h54.size := (Nat.le_trans Z0 E54.1)
  have F54_countsBefore : Fld Z h54 b54 "com/example/tymely/tymely/model/Step" "countsBefore" "[J" .null := D54 (Or.inr (hw _ (List.mem_of_getElem? (i := 38) rfl))) (ty := (.array .long)) (by decide)
  have F54_ticking : Fld Z h54 b54 "com/example/tymely/tymely/model/Step" "ticking" "[Z" .null := D54 (Or.inr (hw _ (List.mem_of_getElem? (i := 41) rfl))) (ty := (.array .boolean)) (by decide)
  have F54_remembering : Fld Z h54 b54 "com/example/tymely/tymely/model/Step" "remembering" "[Lcom/example/tymely/tymely/model/Constraint;" .null := D54 (Or.inr (hw _ (List.mem_of_getElem? (i := 100) rfl))) (ty := (.array (.object "com/example/tymely/tymely/model/Constraint"))) (by decide)
  have F54_memories : Fld Z h54 b54 "com/example/tymely/tymely/model/Step" "memories" "[Lcom/example/tymely/tymely/model/Memory;" .null := D54 (Or.inr (hw _ (List.mem_of_getElem? (i := 106) rfl))) (ty := (.array (.object "com/example/tymely/tymely/model/Memory"))) (by decide)
  obtain ⟨T63, h63, X63, e63, E63, A63, D63, -, st63⟩ := newO X54 hx hZ hown (hw _ (List.mem_of_getElem? (i := 3) rfl)) (hw _ (List.mem_of_getElem? (i := 4) rfl)) (hw _ (List.mem_of_getElem? (i := 5) rfl)) e54 (g := (mkF m 55 #[.val (.int p0), .val (.int p1), .val (.int (if (p0 &&& (1 : Int32)) = (0 : Int32) then (0 : Int32) else (1 : Int32))), .val (.int (if (p0 &&& (2 : Int32)) = (0 : Int32) then (0 : Int32) else (1 : Int32))), .val (.int (if (p1 &&& (1 : Int32)) = (0 : Int32) then (0 : Int32) else (1 : Int32))), .val (.int (if (p1 &&& (2 : Int32)) = (0 : Int32) then (0 : Int32) else (1 : Int32))), .unset, .unset, .unset, .unset, .unset] [(.int (2 : Int32)), (.ref b54), (.ref b54)])) rfl (hb hby at_55) (by decide) (by decide)
  obtain ⟨b63, g63⟩ : ∃ z, z = h54.size := ⟨_, rfl⟩
  rw [← g63] at A63 D63 st63
  have Fq65 : Arv Z h54 w_d k_d (.object "java/lang/Object") (0 : Int32) [] .null := (V_d.ext E54)
  have Ne64 : w_d ≠ b63 := Nat.ne_of_lt (Nat.lt_of_lt_of_le Fq65.lt (Nat.le_of_eq g63.symm))
  have Ne66 : b54 ≠ b63 := Nat.ne_of_lt (Nat.lt_of_lt_of_le A54.lt (Nat.le_of_eq g63.symm))
  have Ge67 : n0 ≤ b63 := Nat.le_trans Zs59 (Nat.le_of_eq g63.symm)
  have Sz68 : h0.size ≤ b63 := Nat.le_trans Kc58.1 (Nat.le_of_eq g63.symm)
  have Kc69 : Keep h0 h63 [] := Kc58.ext E63
  have Zs70 : n0 ≤ h63.size := (Nat.le_trans Zs59 E63.1)
  have F63_modCount : Fld Z h63 b63 "java/util/AbstractList" "modCount" "I" (.int (0 : Int32)) := D63 (Or.inl (hw _ (List.mem_of_getElem? (i := 25) rfl))) (ty := .int) (by decide)
  have F63_elementData : Fld Z h63 b63 "java/util/ArrayList" "elementData" "[Ljava/lang/Object;" .null := D63 (Or.inl (hw _ (List.mem_of_getElem? (i := 28) rfl))) (ty := (.array (.object "java/lang/Object"))) (by decide)
  have F63_size : Fld Z h63 b63 "java/util/ArrayList" "size" "I" (.int (0 : Int32)) := D63 (Or.inl (hw _ (List.mem_of_getElem? (i := 81) rfl))) (ty := .int) (by decide)
  have Fq74 : Old Z n0 h63 := ((O0.ext E54).ext E63)
  obtain ⟨_, _, ⟨T73, L73, k73, n73⟩, -, X73, ⟨Lc73, hQ73, l73, y73, z73⟩, st73⟩ := X63.specialBack hx (y := (⟨"java/util/ArrayList", "<init>", "()V"⟩ : MethodName)) rfl hown (mvT hZ (hw _ (List.mem_of_getElem? (i := 6) rfl))) (mvT hZ (hw _ (List.mem_of_getElem? (i := 7) rfl))) (mvT hZ (hw _ (List.mem_of_getElem? (i := 8) rfl))) (by decide) (backOf (W := 4) (own_li l Z a0 hw [] b63 w_d h63 n0 Zs70 Fq74 S_d A63 F63_modCount F63_elementData F63_size Ge67) hZ (hw _ (List.mem_of_getElem? (i := 8) rfl)) (hw _ (List.mem_of_getElem? (i := 5) rfl)) (by decide) (by decide)) (g := (mkF m 59 #[.val (.int p0), .val (.int p1), .val (.int (if (p0 &&& (1 : Int32)) = (0 : Int32) then (0 : Int32) else (1 : Int32))), .val (.int (if (p0 &&& (2 : Int32)) = (0 : Int32) then (0 : Int32) else (1 : Int32))), .val (.int (if (p1 &&& (1 : Int32)) = (0 : Int32) then (0 : Int32) else (1 : Int32))), .val (.int (if (p1 &&& (2 : Int32)) = (0 : Int32) then (0 : Int32) else (1 : Int32))), .unset, .unset, .unset, .unset, .unset] [(.ref b63), (.ref b63), (.int (2 : Int32)), (.ref b54), (.ref b54)])) rfl (by rw [hml]; rfl) (Steps.refl _) (a := b63) (argsL := []) (rest := [(.ref b63), (.int (2 : Int32)), (.ref b54), (.ref b54)]) (lenOf own_pd0 rfl) rfl (by show 2 * 0 + _ ≤ _; exact Nat.le_of_eq rfl) (hb hby at_59) (fun _ _ => ⟨rfl, e63, (by decide : 2 + 0 ≤ _), (by decide : 7 + 0 ≤ _)⟩)
  dsimp only [Pt.U, Pt.locs, Pt.cells, Pt.slots] at X73 l73 y73 z73 st73 hQ73
  subst l73 y73 z73
  obtain ⟨rfl, Nq73, K73, Pf73_0, Pf73_1, Pf73_2, Pf73_3⟩ := hQ73
  have N75 := Fr.app N0 Nq73
  have Kc76 : Keep h0 T73.heap [] := Kc69.trans K73 (allS (Or.inr Sz68) all0)
  have Zs77 : n0 ≤ T73.heap.size := Nat.le_trans Zs70 K73.1
  have Fq80 : Old Z n0 T73.heap := (Fq74.keep K73 (allS Ge67 all0))
  have Fq81 : Arv Z T73.heap w_d k_d (.object "java/lang/Object") (0 : Int32) [] .null := ((Fq65.ext E63).keep K73 (ninS Ne64 nin0))
  have Fq82 : Exa Z T73.heap b54 "com/example/tymely/tymely/model/Step" := ((A54.ext E63).keep K73)
  have Fq83 : Fld Z T73.heap b54 "com/example/tymely/tymely/model/Step" "countsBefore" "[J" .null := ((F54_countsBefore.ext E63).keep K73 (ninS Ne66 nin0))
  have Fq84 : Fld Z T73.heap b54 "com/example/tymely/tymely/model/Step" "ticking" "[Z" .null := ((F54_ticking.ext E63).keep K73 (ninS Ne66 nin0))
  have Fq85 : Fld Z T73.heap b54 "com/example/tymely/tymely/model/Step" "remembering" "[Lcom/example/tymely/tymely/model/Constraint;" .null := ((F54_remembering.ext E63).keep K73 (ninS Ne66 nin0))
  have Fq86 : Fld Z T73.heap b54 "com/example/tymely/tymely/model/Step" "memories" "[Lcom/example/tymely/tymely/model/Memory;" .null := ((F54_memories.ext E63).keep K73 (ninS Ne66 nin0))
  obtain ⟨_, _, ⟨T79, L79, k79, n79⟩, -, X79, ⟨Lc79, hQ79, l79, y79, z79⟩, st79⟩ := X73.specialBack hx (y := (⟨"com/example/tymely/tymely/model/Step", "<init>", "(ILjava/util/List;)V"⟩ : MethodName)) rfl hown (mvT hZ (hw _ (List.mem_of_getElem? (i := 29) rfl))) (mvT hZ (hw _ (List.mem_of_getElem? (i := 30) rfl))) (mvT hZ (hw _ (List.mem_of_getElem? (i := 31) rfl))) (by decide) (backOf (W := 1) (own_s2 l Z a0 hw [] b54 b63 w_d k_d T73.heap n0 Zs77 Fq80 S_d Fq81 Fq82 Fq83 Fq84 Fq85 Fq86 Pf73_0 Pf73_1 Pf73_3 Ge56 (Ne.symm Ne66) Ne55) hZ (hw _ (List.mem_of_getElem? (i := 31) rfl)) (hw _ (List.mem_of_getElem? (i := 2) rfl)) (by decide) (by decide)) (g := (mkF m 62 #[.val (.int p0), .val (.int p1), .val (.int (if (p0 &&& (1 : Int32)) = (0 : Int32) then (0 : Int32) else (1 : Int32))), .val (.int (if (p0 &&& (2 : Int32)) = (0 : Int32) then (0 : Int32) else (1 : Int32))), .val (.int (if (p1 &&& (1 : Int32)) = (0 : Int32) then (0 : Int32) else (1 : Int32))), .val (.int (if (p1 &&& (2 : Int32)) = (0 : Int32) then (0 : Int32) else (1 : Int32))), .unset, .unset, .unset, .unset, .unset] [(.ref b63), (.int (2 : Int32)), (.ref b54), (.ref b54)])) rfl (by rw [hml]; rfl) (Steps.refl _) (a := b54) (argsL := [(.int (2 : Int32)), (.ref b63)]) (rest := [(.ref b54)]) (lenOf own_pd6 rfl) rfl (by show 2 * 0 + _ ≤ _; exact Nat.le_of_eq rfl) (hb hby at_62) (fun _ _ => ⟨rfl, rfl, (by decide : 2 + 7 ≤ _), (by decide : 7 + 14 ≤ _)⟩)
  dsimp only [Pt.U, Pt.locs, Pt.cells, Pt.slots] at X79 l79 y79 z79 st79 hQ79
  subst l79 y79 z79
  obtain ⟨c_o_79, k_c_79, t_o_79, k_t_79, m_o_79, k_m_79, rfl, Nq79, sz79_c_o, sz79_t_o, sz79_m_o, K79, Pf79_0, Pf79_1, Pf79_2, Pf79_3, Pf79_4, Pf79_5, Pf79_6, Pf79_7, Pf79_8, Pf79_9⟩ := hQ79
  have N87 := Fr.app N75 Nq79
  have Ne88 : w_d ≠ c_o_79 := Nat.ne_of_lt (Nat.lt_of_lt_of_le Fq81.lt sz79_c_o)
  have Ne89 : b54 ≠ c_o_79 := Nat.ne_of_lt (Nat.lt_of_lt_of_le Fq82.lt sz79_c_o)
  have Ne90 : b63 ≠ c_o_79 := Nat.ne_of_lt (Nat.lt_of_lt_of_le Pf73_0.lt sz79_c_o)
  have Ge91 : n0 ≤ c_o_79 := Nat.le_trans Zs77 sz79_c_o
  have Sz92 : h0.size ≤ c_o_79 := Nat.le_trans Kc76.1 sz79_c_o
  have Ne93 : w_d ≠ t_o_79 := Nat.ne_of_lt (Nat.lt_of_lt_of_le Fq81.lt sz79_t_o)
  have Ne94 : b54 ≠ t_o_79 := Nat.ne_of_lt (Nat.lt_of_lt_of_le Fq82.lt sz79_t_o)
  have Ne95 : b63 ≠ t_o_79 := Nat.ne_of_lt (Nat.lt_of_lt_of_le Pf73_0.lt sz79_t_o)
  have Ge96 : n0 ≤ t_o_79 := Nat.le_trans Zs77 sz79_t_o
  have Sz97 : h0.size ≤ t_o_79 := Nat.le_trans Kc76.1 sz79_t_o
  have Ne98 : w_d ≠ m_o_79 := Nat.ne_of_lt (Nat.lt_of_lt_of_le Fq81.lt sz79_m_o)
  have Ne99 : b54 ≠ m_o_79 := Nat.ne_of_lt (Nat.lt_of_lt_of_le Fq82.lt sz79_m_o)
  have Ne100 : b63 ≠ m_o_79 := Nat.ne_of_lt (Nat.lt_of_lt_of_le Pf73_0.lt sz79_m_o)
  have Ge101 : n0 ≤ m_o_79 := Nat.le_trans Zs77 sz79_m_o
  have Sz102 : h0.size ≤ m_o_79 := Nat.le_trans Kc76.1 sz79_m_o
  have Kc103 : Keep h0 T79.heap [] := Kc76.trans K79 (allS (Or.inr Sz57) all0)
  have Zs104 : n0 ≤ T79.heap.size := Nat.le_trans Zs77 K79.1
  obtain ⟨cq110, kq110, q110a, q110b, q110c⟩ := isOf hZ rfl Pf79_0
  obtain ⟨_, _, ⟨T110, L110, k110, n110⟩, -, X110, ⟨Lc110, hQ110, l110, y110, z110⟩, st110⟩ := X79.virtualBack hx (y := (⟨"com/example/tymely/tymely/model/Step", "setTicks", "(IZ)V"⟩ : MethodName)) (z := (⟨"com/example/tymely/tymely/model/Step", "setTicks", "(IZ)V"⟩ : MethodName)) hown (mvT hZ (hw _ (List.mem_of_getElem? (i := 107) rfl))) (mvT hZ (hw _ (List.mem_of_getElem? (i := 108) rfl))) (notFace_of_selects (args := #[]) (mvT hZ (hw _ (List.mem_of_getElem? (i := 110) rfl)))) (mvT hZ (hw _ (List.mem_of_getElem? (i := 110) rfl))) (mvT hZ (hw _ (List.mem_of_getElem? (i := 109) rfl))) (by decide) (backOf (W := 0) (own_st0 l Z a0 hw [] b54 (if (p0 &&& (1 : Int32)) = (0 : Int32) then (0 : Int32) else (1 : Int32)) t_o_79 k_t_79 (.int (0 : Int32)) (.int (0 : Int32)) T79.heap n0 Zs104 Pf79_2 Pf79_5 Ge96) hZ (hw _ (List.mem_of_getElem? (i := 111) rfl)) (hw _ (List.mem_of_getElem? (i := 2) rfl)) (by decide) (by decide)) q110a q110c (g := (mkF m 71 #[.val (.int p0), .val (.int p1), .val (.int (if (p0 &&& (1 : Int32)) = (0 : Int32) then (0 : Int32) else (1 : Int32))), .val (.int (if (p0 &&& (2 : Int32)) = (0 : Int32) then (0 : Int32) else (1 : Int32))), .val (.int (if (p1 &&& (1 : Int32)) = (0 : Int32) then (0 : Int32) else (1 : Int32))), .val (.int (if (p1 &&& (2 : Int32)) = (0 : Int32) then (0 : Int32) else (1 : Int32))), .val (.ref b54), .unset, .unset, .unset, .unset] [(.int (if (p0 &&& (1 : Int32)) = (0 : Int32) then (0 : Int32) else (1 : Int32))), (.int (0 : Int32)), (.ref b54)])) rfl (by rw [hml]; rfl) (Steps.refl _) (argsL := [(.int (0 : Int32)), (.int (if (p0 &&& (1 : Int32)) = (0 : Int32) then (0 : Int32) else (1 : Int32)))]) (rest := []) (lenOf own_pd7 rfl) rfl (by show 2 * 0 + _ ≤ _; exact Nat.le_of_eq rfl) (hb hby at_71) (fun _ _ => ⟨rfl, rfl, (by decide : 9 + 0 ≤ _), (by decide : 21 + 0 ≤ _)⟩)
  dsimp only [Pt.U, Pt.locs, Pt.cells, Pt.slots] at X110 l110 y110 z110 st110 hQ110
  subst l110 y110 z110
  obtain ⟨rfl, Nq110, K110, Pf110_0⟩ := hQ110
  have N111 := Fr.app N87 Nq110
  have Kc112 : Keep h0 T110.heap [] := Kc103.trans K110 (allS (Or.inr Sz97) all0)
  have Zs113 : n0 ≤ T110.heap.size := Nat.le_trans Zs104 K110.1
  have Fq119 : Fld Z T110.heap b54 "com/example/tymely/tymely/model/Step" "ticking" "[Z" (.ref t_o_79) := (Pf79_2.keep K110 (ninS Ne94 nin0))
  have Fq120 : Exa Z T110.heap b54 "com/example/tymely/tymely/model/Step" := (Pf79_0.keep K110)
  obtain ⟨cq118, kq118, q118a, q118b, q118c⟩ := isOf hZ rfl Fq120
  obtain ⟨_, _, ⟨T118, L118, k118, n118⟩, -, X118, ⟨Lc118, hQ118, l118, y118, z118⟩, st118⟩ := X110.virtualBack hx (y := (⟨"com/example/tymely/tymely/model/Step", "setTicks", "(IZ)V"⟩ : MethodName)) (z := (⟨"com/example/tymely/tymely/model/Step", "setTicks", "(IZ)V"⟩ : MethodName)) hown (mvT hZ (hw _ (List.mem_of_getElem? (i := 107) rfl))) (mvT hZ (hw _ (List.mem_of_getElem? (i := 108) rfl))) (notFace_of_selects (args := #[]) (mvT hZ (hw _ (List.mem_of_getElem? (i := 110) rfl)))) (mvT hZ (hw _ (List.mem_of_getElem? (i := 110) rfl))) (mvT hZ (hw _ (List.mem_of_getElem? (i := 109) rfl))) (by decide) (backOf (W := 0) (own_st1 l Z a0 hw [] b54 (if (p0 &&& (2 : Int32)) = (0 : Int32) then (0 : Int32) else (1 : Int32)) t_o_79 k_t_79 (.int (nar .boolean (if (p0 &&& (1 : Int32)) = (0 : Int32) then (0 : Int32) else (1 : Int32)))) (.int (0 : Int32)) T110.heap n0 Zs113 Fq119 Pf110_0 Ge96) hZ (hw _ (List.mem_of_getElem? (i := 111) rfl)) (hw _ (List.mem_of_getElem? (i := 2) rfl)) (by decide) (by decide)) q118a q118c (g := (mkF m 78 #[.val (.int p0), .val (.int p1), .val (.int (if (p0 &&& (1 : Int32)) = (0 : Int32) then (0 : Int32) else (1 : Int32))), .val (.int (if (p0 &&& (2 : Int32)) = (0 : Int32) then (0 : Int32) else (1 : Int32))), .val (.int (if (p1 &&& (1 : Int32)) = (0 : Int32) then (0 : Int32) else (1 : Int32))), .val (.int (if (p1 &&& (2 : Int32)) = (0 : Int32) then (0 : Int32) else (1 : Int32))), .val (.ref b54), .unset, .unset, .unset, .unset] [(.int (if (p0 &&& (2 : Int32)) = (0 : Int32) then (0 : Int32) else (1 : Int32))), (.int (1 : Int32)), (.ref b54)])) rfl (by rw [hml]; rfl) (Steps.refl _) (argsL := [(.int (1 : Int32)), (.int (if (p0 &&& (2 : Int32)) = (0 : Int32) then (0 : Int32) else (1 : Int32)))]) (rest := []) (lenOf own_pd7 rfl) rfl (by show 2 * 0 + _ ≤ _; exact Nat.le_of_eq rfl) (hb hby at_78) (fun _ _ => ⟨rfl, rfl, (by decide : 9 + 0 ≤ _), (by decide : 21 + 0 ≤ _)⟩)
  dsimp only [Pt.U, Pt.locs, Pt.cells, Pt.slots] at X118 l118 y118 z118 st118 hQ118
  subst l118 y118 z118
  obtain ⟨rfl, Nq118, K118, Pf118_0⟩ := hQ118
  have N121 := Fr.app N111 Nq118
  have Kc122 : Keep h0 T118.heap [] := Kc112.trans K118 (allS (Or.inr Sz97) all0)
  have Zs123 : n0 ≤ T118.heap.size := Nat.le_trans Zs113 K118.1
  have Fq127 : Fld Z T118.heap b54 "com/example/tymely/tymely/model/Step" "ticking" "[Z" (.ref t_o_79) := (Fq119.keep K118 (ninS Ne94 nin0))
  have Fq128 : Fld Z T118.heap b54 "com/example/tymely/tymely/model/Step" "countsBefore" "[J" (.ref c_o_79) := ((Pf79_1.keep K110 (ninS Ne94 nin0)).keep K118 (ninS Ne94 nin0))
  have Fq129 : Arv Z T118.heap c_o_79 k_c_79 .long (2 : Int32) [(.long (0 : Int64)), (.long (0 : Int64))] (.long (0 : Int64)) := ((Pf79_4.keep K110 (ninS Pf79_7 nin0)).keep K118 (ninS Pf79_7 nin0))
  have Fq130 : Fld Z T118.heap b54 "com/example/tymely/tymely/model/Step" "memories" "[Lcom/example/tymely/tymely/model/Memory;" (.ref m_o_79) := ((Pf79_3.keep K110 (ninS Ne94 nin0)).keep K118 (ninS Ne94 nin0))
  have Fq131 : Arv Z T118.heap m_o_79 k_m_79 (.object "com/example/tymely/tymely/model/Memory") (0 : Int32) [] .null := ((Pf79_6.keep K110 (ninS (Ne.symm Pf79_9) nin0)).keep K118 (ninS (Ne.symm Pf79_9) nin0))
  have Fq132 : Exa Z T118.heap b54 "com/example/tymely/tymely/model/Step" := (Fq120.keep K118)
  obtain ⟨cq126, kq126, q126a, q126b, q126c⟩ := isOf hZ rfl Fq132
  obtain ⟨_, _, ⟨T126, L126, k126, n126⟩, -, X126, ⟨Lc126, hQ126, l126, y126, z126⟩, st126⟩ := X118.virtualBack hx (y := (⟨"com/example/tymely/tymely/model/Step", "advance", "()V"⟩ : MethodName)) (z := (⟨"com/example/tymely/tymely/model/Step", "advance", "()V"⟩ : MethodName)) hown (mvT hZ (hw _ (List.mem_of_getElem? (i := 112) rfl))) (mvT hZ (hw _ (List.mem_of_getElem? (i := 113) rfl))) (notFace_of_selects (args := #[]) (mvT hZ (hw _ (List.mem_of_getElem? (i := 115) rfl)))) (mvT hZ (hw _ (List.mem_of_getElem? (i := 115) rfl))) (mvT hZ (hw _ (List.mem_of_getElem? (i := 114) rfl))) (by decide) (backOf (W := 0) (own_ad l Z a0 hw [] b54 t_o_79 c_o_79 k_t_79 k_c_79 (nar .boolean (if (p0 &&& (1 : Int32)) = (0 : Int32) then (0 : Int32) else (1 : Int32))) (nar .boolean (if (p0 &&& (2 : Int32)) = (0 : Int32) then (0 : Int32) else (1 : Int32))) (0 : Int64) (0 : Int64) m_o_79 k_m_79 T118.heap n0 Zs123 Fq127 Fq128 Pf118_0 Fq129 Fq130 Fq131 Ge96 Ge91 Ne94 Ne89 Pf79_7) hZ (hw _ (List.mem_of_getElem? (i := 116) rfl)) (hw _ (List.mem_of_getElem? (i := 2) rfl)) (by decide) (by decide)) q126a q126c (g := (mkF m 83 #[.val (.int p0), .val (.int p1), .val (.int (if (p0 &&& (1 : Int32)) = (0 : Int32) then (0 : Int32) else (1 : Int32))), .val (.int (if (p0 &&& (2 : Int32)) = (0 : Int32) then (0 : Int32) else (1 : Int32))), .val (.int (if (p1 &&& (1 : Int32)) = (0 : Int32) then (0 : Int32) else (1 : Int32))), .val (.int (if (p1 &&& (2 : Int32)) = (0 : Int32) then (0 : Int32) else (1 : Int32))), .val (.ref b54), .unset, .unset, .unset, .unset] [(.ref b54)])) rfl (by rw [hml]; rfl) (Steps.refl _) (argsL := []) (rest := []) (lenOf own_pd0 rfl) rfl (by show 2 * 0 + _ ≤ _; exact Nat.le_of_eq rfl) (hb hby at_83) (fun _ _ => ⟨rfl, rfl, (by decide : 9 + 0 ≤ _), (by decide : 21 + 0 ≤ _)⟩)
  dsimp only [Pt.U, Pt.locs, Pt.cells, Pt.slots] at X126 l126 y126 z126 st126 hQ126
  subst l126 y126 z126
  obtain ⟨rfl, Nq126, K126, Pf126_0, Pf126_1⟩ := hQ126
  have N133 := Fr.app N121 Nq126
  have Kc134 : Keep h0 T126.heap [] := Kc122.trans K126 (allS (Or.inr Sz97) (allS (Or.inr Sz92) all0))
  have Zs135 : n0 ≤ T126.heap.size := Nat.le_trans Zs123 K126.1
  have Fq141 : Fld Z T126.heap b54 "com/example/tymely/tymely/model/Step" "ticking" "[Z" (.ref t_o_79) := (Fq127.keep K126 (ninS Ne94 (ninS Ne89 nin0)))
  have Fq142 : Exa Z T126.heap b54 "com/example/tymely/tymely/model/Step" := (Fq132.keep K126)
  obtain ⟨cq140, kq140, q140a, q140b, q140c⟩ := isOf hZ rfl Fq142
  obtain ⟨_, _, ⟨T140, L140, k140, n140⟩, -, X140, ⟨Lc140, hQ140, l140, y140, z140⟩, st140⟩ := X126.virtualBack hx (y := (⟨"com/example/tymely/tymely/model/Step", "setTicks", "(IZ)V"⟩ : MethodName)) (z := (⟨"com/example/tymely/tymely/model/Step", "setTicks", "(IZ)V"⟩ : MethodName)) hown (mvT hZ (hw _ (List.mem_of_getElem? (i := 107) rfl))) (mvT hZ (hw _ (List.mem_of_getElem? (i := 108) rfl))) (notFace_of_selects (args := #[]) (mvT hZ (hw _ (List.mem_of_getElem? (i := 110) rfl)))) (mvT hZ (hw _ (List.mem_of_getElem? (i := 110) rfl))) (mvT hZ (hw _ (List.mem_of_getElem? (i := 109) rfl))) (by decide) (backOf (W := 0) (own_st0 l Z a0 hw [] b54 (if (p1 &&& (1 : Int32)) = (0 : Int32) then (0 : Int32) else (1 : Int32)) t_o_79 k_t_79 (.int (if (nar .boolean (if (p0 &&& (1 : Int32)) = (0 : Int32) then (0 : Int32) else (1 : Int32))) = (0 : Int32) then (nar .boolean (if (p0 &&& (1 : Int32)) = (0 : Int32) then (0 : Int32) else (1 : Int32))) else (0 : Int32))) (.int (if (nar .boolean (if (p0 &&& (2 : Int32)) = (0 : Int32) then (0 : Int32) else (1 : Int32))) = (0 : Int32) then (nar .boolean (if (p0 &&& (2 : Int32)) = (0 : Int32) then (0 : Int32) else (1 : Int32))) else (0 : Int32))) T126.heap n0 Zs135 Fq141 Pf126_0 Ge96) hZ (hw _ (List.mem_of_getElem? (i := 111) rfl)) (hw _ (List.mem_of_getElem? (i := 2) rfl)) (by decide) (by decide)) q140a q140c (g := (mkF m 91 #[.val (.int p0), .val (.int p1), .val (.int (if (p0 &&& (1 : Int32)) = (0 : Int32) then (0 : Int32) else (1 : Int32))), .val (.int (if (p0 &&& (2 : Int32)) = (0 : Int32) then (0 : Int32) else (1 : Int32))), .val (.int (if (p1 &&& (1 : Int32)) = (0 : Int32) then (0 : Int32) else (1 : Int32))), .val (.int (if (p1 &&& (2 : Int32)) = (0 : Int32) then (0 : Int32) else (1 : Int32))), .val (.ref b54), .unset, .unset, .unset, .unset] [(.int (if (p1 &&& (1 : Int32)) = (0 : Int32) then (0 : Int32) else (1 : Int32))), (.int (0 : Int32)), (.ref b54)])) rfl (by rw [hml]; rfl) (Steps.refl _) (argsL := [(.int (0 : Int32)), (.int (if (p1 &&& (1 : Int32)) = (0 : Int32) then (0 : Int32) else (1 : Int32)))]) (rest := []) (lenOf own_pd7 rfl) rfl (by show 2 * 0 + _ ≤ _; exact Nat.le_of_eq rfl) (hb hby at_91) (fun _ _ => ⟨rfl, rfl, (by decide : 9 + 0 ≤ _), (by decide : 21 + 0 ≤ _)⟩)
  dsimp only [Pt.U, Pt.locs, Pt.cells, Pt.slots] at X140 l140 y140 z140 st140 hQ140
  subst l140 y140 z140
  obtain ⟨rfl, Nq140, K140, Pf140_0⟩ := hQ140
  have N143 := Fr.app N133 Nq140
  have Kc144 : Keep h0 T140.heap [] := Kc134.trans K140 (allS (Or.inr Sz97) all0)
  have Zs145 : n0 ≤ T140.heap.size := Nat.le_trans Zs135 K140.1
  have Fq151 : Fld Z T140.heap b54 "com/example/tymely/tymely/model/Step" "ticking" "[Z" (.ref t_o_79) := (Fq141.keep K140 (ninS Ne94 nin0))
  have Fq152 : Exa Z T140.heap b54 "com/example/tymely/tymely/model/Step" := (Fq142.keep K140)
  obtain ⟨cq150, kq150, q150a, q150b, q150c⟩ := isOf hZ rfl Fq152
  obtain ⟨_, _, ⟨T150, L150, k150, n150⟩, -, X150, ⟨Lc150, hQ150, l150, y150, z150⟩, st150⟩ := X140.virtualBack hx (y := (⟨"com/example/tymely/tymely/model/Step", "setTicks", "(IZ)V"⟩ : MethodName)) (z := (⟨"com/example/tymely/tymely/model/Step", "setTicks", "(IZ)V"⟩ : MethodName)) hown (mvT hZ (hw _ (List.mem_of_getElem? (i := 107) rfl))) (mvT hZ (hw _ (List.mem_of_getElem? (i := 108) rfl))) (notFace_of_selects (args := #[]) (mvT hZ (hw _ (List.mem_of_getElem? (i := 110) rfl)))) (mvT hZ (hw _ (List.mem_of_getElem? (i := 110) rfl))) (mvT hZ (hw _ (List.mem_of_getElem? (i := 109) rfl))) (by decide) (backOf (W := 0) (own_st1 l Z a0 hw [] b54 (if (p1 &&& (2 : Int32)) = (0 : Int32) then (0 : Int32) else (1 : Int32)) t_o_79 k_t_79 (.int (nar .boolean (if (p1 &&& (1 : Int32)) = (0 : Int32) then (0 : Int32) else (1 : Int32)))) (.int (if (nar .boolean (if (p0 &&& (2 : Int32)) = (0 : Int32) then (0 : Int32) else (1 : Int32))) = (0 : Int32) then (nar .boolean (if (p0 &&& (2 : Int32)) = (0 : Int32) then (0 : Int32) else (1 : Int32))) else (0 : Int32))) T140.heap n0 Zs145 Fq151 Pf140_0 Ge96) hZ (hw _ (List.mem_of_getElem? (i := 111) rfl)) (hw _ (List.mem_of_getElem? (i := 2) rfl)) (by decide) (by decide)) q150a q150c (g := (mkF m 99 #[.val (.int p0), .val (.int p1), .val (.int (if (p0 &&& (1 : Int32)) = (0 : Int32) then (0 : Int32) else (1 : Int32))), .val (.int (if (p0 &&& (2 : Int32)) = (0 : Int32) then (0 : Int32) else (1 : Int32))), .val (.int (if (p1 &&& (1 : Int32)) = (0 : Int32) then (0 : Int32) else (1 : Int32))), .val (.int (if (p1 &&& (2 : Int32)) = (0 : Int32) then (0 : Int32) else (1 : Int32))), .val (.ref b54), .unset, .unset, .unset, .unset] [(.int (if (p1 &&& (2 : Int32)) = (0 : Int32) then (0 : Int32) else (1 : Int32))), (.int (1 : Int32)), (.ref b54)])) rfl (by rw [hml]; rfl) (Steps.refl _) (argsL := [(.int (1 : Int32)), (.int (if (p1 &&& (2 : Int32)) = (0 : Int32) then (0 : Int32) else (1 : Int32)))]) (rest := []) (lenOf own_pd7 rfl) rfl (by show 2 * 0 + _ ≤ _; exact Nat.le_of_eq rfl) (hb hby at_99) (fun _ _ => ⟨rfl, rfl, (by decide : 9 + 0 ≤ _), (by decide : 21 + 0 ≤ _)⟩)
  dsimp only [Pt.U, Pt.locs, Pt.cells, Pt.slots] at X150 l150 y150 z150 st150 hQ150
  subst l150 y150 z150
  obtain ⟨rfl, Nq150, K150, Pf150_0⟩ := hQ150
  have N153 := Fr.app N143 Nq150
  have Kc154 : Keep h0 T150.heap [] := Kc144.trans K150 (allS (Or.inr Sz97) all0)
  have Zs155 : n0 ≤ T150.heap.size := Nat.le_trans Zs145 K150.1
  obtain ⟨_, _, ⟨T158, L158, k158, n158⟩, -, X158, ⟨Lc158, hQ158, l158, y158, z158⟩, st158⟩ := Jvm.LawKit.callS X150 hx (y := (⟨"com/example/tymely/tymely/model/StepCountAfterPinLaw", "bit", "(Z)J"⟩ : MethodName)) hown (mvT hZ (hw _ (List.mem_of_getElem? (i := 117) rfl))) (mvT hZ (hw _ (List.mem_of_getElem? (i := 118) rfl))) (mvT hZ (hw _ (List.mem_of_getElem? (i := 119) rfl))) (mvT hZ (hw _ (List.mem_of_getElem? (i := 120) rfl))) (by decide) (backOf (W := 0) (own_bit l Z a0 hw [] (if (p0 &&& (1 : Int32)) = (0 : Int32) then (0 : Int32) else (1 : Int32)) T150.heap n0 Zs155 ) hZ (hw _ (List.mem_of_getElem? (i := 120) rfl)) (hw _ (List.mem_of_getElem? (i := 119) rfl)) (by decide) (by decide)) (g := (mkF m 103 #[.val (.int p0), .val (.int p1), .val (.int (if (p0 &&& (1 : Int32)) = (0 : Int32) then (0 : Int32) else (1 : Int32))), .val (.int (if (p0 &&& (2 : Int32)) = (0 : Int32) then (0 : Int32) else (1 : Int32))), .val (.int (if (p1 &&& (1 : Int32)) = (0 : Int32) then (0 : Int32) else (1 : Int32))), .val (.int (if (p1 &&& (2 : Int32)) = (0 : Int32) then (0 : Int32) else (1 : Int32))), .val (.ref b54), .unset, .unset, .unset, .unset] [(.int (if (p0 &&& (1 : Int32)) = (0 : Int32) then (0 : Int32) else (1 : Int32)))])) rfl (by rw [hml]; rfl) (argsL := [(.int (if (p0 &&& (1 : Int32)) = (0 : Int32) then (0 : Int32) else (1 : Int32)))]) (rest := []) (lenOf own_pd8 rfl) rfl (by show 2 * 0 + _ ≤ _; exact Nat.le_of_eq rfl) (hb hby at_103) (fun _ _ => ⟨rfl, rfl, (by decide : 9 + 0 ≤ _), (by decide : 21 + 0 ≤ _)⟩)
  dsimp only [Pt.U, Pt.locs, Pt.cells, Pt.slots] at X158 l158 y158 z158 st158 hQ158
  subst l158 y158 z158
  obtain ⟨rfl, Nq158, eh158⟩ := hQ158
  have N159 := Fr.app N153 Nq158
  obtain ⟨_, _, ⟨T162, L162, k162, n162⟩, -, X162, ⟨Lc162, hQ162, l162, y162, z162⟩, st162⟩ := Jvm.LawKit.callS X158 hx (y := (⟨"com/example/tymely/tymely/model/StepCountAfterPinLaw", "bit", "(Z)J"⟩ : MethodName)) hown (mvT hZ (hw _ (List.mem_of_getElem? (i := 117) rfl))) (mvT hZ (hw _ (List.mem_of_getElem? (i := 118) rfl))) (mvT hZ (hw _ (List.mem_of_getElem? (i := 119) rfl))) (mvT hZ (hw _ (List.mem_of_getElem? (i := 120) rfl))) (by decide) (backOf (W := 2) (own_bit l Z a0 hw [] (if (p1 &&& (1 : Int32)) = (0 : Int32) then (0 : Int32) else (1 : Int32)) T150.heap n0 Zs155 ) hZ (hw _ (List.mem_of_getElem? (i := 120) rfl)) (hw _ (List.mem_of_getElem? (i := 119) rfl)) (by decide) (by decide)) (g := (mkF m 108 #[.val (.int p0), .val (.int p1), .val (.int (if (p0 &&& (1 : Int32)) = (0 : Int32) then (0 : Int32) else (1 : Int32))), .val (.int (if (p0 &&& (2 : Int32)) = (0 : Int32) then (0 : Int32) else (1 : Int32))), .val (.int (if (p1 &&& (1 : Int32)) = (0 : Int32) then (0 : Int32) else (1 : Int32))), .val (.int (if (p1 &&& (2 : Int32)) = (0 : Int32) then (0 : Int32) else (1 : Int32))), .val (.ref b54), .unset, .unset, .unset, .unset] [(.int (if (p1 &&& (1 : Int32)) = (0 : Int32) then (0 : Int32) else (1 : Int32))), (.long (own_bit_f (if (p0 &&& (1 : Int32)) = (0 : Int32) then (0 : Int32) else (1 : Int32))))])) rfl (by rw [hml]; rfl) (argsL := [(.int (if (p1 &&& (1 : Int32)) = (0 : Int32) then (0 : Int32) else (1 : Int32)))]) (rest := [(.long (own_bit_f (if (p0 &&& (1 : Int32)) = (0 : Int32) then (0 : Int32) else (1 : Int32))))]) (lenOf own_pd8 rfl) rfl (by show 2 * 0 + _ ≤ _; exact Nat.le_of_eq rfl) (hb hby at_108) (fun _ _ => ⟨rfl, eh158, (by decide : 9 + 0 ≤ _), (by decide : 21 + 0 ≤ _)⟩)
  dsimp only [Pt.U, Pt.locs, Pt.cells, Pt.slots] at X162 l162 y162 z162 st162 hQ162
  subst l162 y162 z162
  obtain ⟨rfl, Nq162, eh162⟩ := hQ162
  have N163 := Fr.app N159 Nq162
  obtain ⟨_, _, ⟨T168, L168, k168, n168⟩, -, X168, ⟨Lc168, hQ168, l168, y168, z168⟩, st168⟩ := Jvm.LawKit.callS X162 hx (y := (⟨"com/example/tymely/tymely/model/StepCountAfterPinLaw", "bit", "(Z)J"⟩ : MethodName)) hown (mvT hZ (hw _ (List.mem_of_getElem? (i := 117) rfl))) (mvT hZ (hw _ (List.mem_of_getElem? (i := 118) rfl))) (mvT hZ (hw _ (List.mem_of_getElem? (i := 119) rfl))) (mvT hZ (hw _ (List.mem_of_getElem? (i := 120) rfl))) (by decide) (backOf (W := 0) (own_bit l Z a0 hw [] (if (p0 &&& (2 : Int32)) = (0 : Int32) then (0 : Int32) else (1 : Int32)) T150.heap n0 Zs155 ) hZ (hw _ (List.mem_of_getElem? (i := 120) rfl)) (hw _ (List.mem_of_getElem? (i := 119) rfl)) (by decide) (by decide)) (g := (mkF m 115 #[.val (.int p0), .val (.int p1), .val (.int (if (p0 &&& (1 : Int32)) = (0 : Int32) then (0 : Int32) else (1 : Int32))), .val (.int (if (p0 &&& (2 : Int32)) = (0 : Int32) then (0 : Int32) else (1 : Int32))), .val (.int (if (p1 &&& (1 : Int32)) = (0 : Int32) then (0 : Int32) else (1 : Int32))), .val (.int (if (p1 &&& (2 : Int32)) = (0 : Int32) then (0 : Int32) else (1 : Int32))), .val (.ref b54), .val (.long ((own_bit_f (if (p0 &&& (1 : Int32)) = (0 : Int32) then (0 : Int32) else (1 : Int32))) + (own_bit_f (if (p1 &&& (1 : Int32)) = (0 : Int32) then (0 : Int32) else (1 : Int32))))), .second, .unset, .unset] [(.int (if (p0 &&& (2 : Int32)) = (0 : Int32) then (0 : Int32) else (1 : Int32)))])) rfl (by rw [hml]; rfl) (argsL := [(.int (if (p0 &&& (2 : Int32)) = (0 : Int32) then (0 : Int32) else (1 : Int32)))]) (rest := []) (lenOf own_pd8 rfl) rfl (by show 2 * 0 + _ ≤ _; exact Nat.le_of_eq rfl) (hb hby at_115) (fun _ _ => ⟨rfl, eh162, (by decide : 9 + 0 ≤ _), (by decide : 21 + 0 ≤ _)⟩)
  dsimp only [Pt.U, Pt.locs, Pt.cells, Pt.slots] at X168 l168 y168 z168 st168 hQ168
  subst l168 y168 z168
  obtain ⟨rfl, Nq168, eh168⟩ := hQ168
  have N169 := Fr.app N163 Nq168
  obtain ⟨_, _, ⟨T172, L172, k172, n172⟩, -, X172, ⟨Lc172, hQ172, l172, y172, z172⟩, st172⟩ := Jvm.LawKit.callS X168 hx (y := (⟨"com/example/tymely/tymely/model/StepCountAfterPinLaw", "bit", "(Z)J"⟩ : MethodName)) hown (mvT hZ (hw _ (List.mem_of_getElem? (i := 117) rfl))) (mvT hZ (hw _ (List.mem_of_getElem? (i := 118) rfl))) (mvT hZ (hw _ (List.mem_of_getElem? (i := 119) rfl))) (mvT hZ (hw _ (List.mem_of_getElem? (i := 120) rfl))) (by decide) (backOf (W := 2) (own_bit l Z a0 hw [] (if (p1 &&& (2 : Int32)) = (0 : Int32) then (0 : Int32) else (1 : Int32)) T150.heap n0 Zs155 ) hZ (hw _ (List.mem_of_getElem? (i := 120) rfl)) (hw _ (List.mem_of_getElem? (i := 119) rfl)) (by decide) (by decide)) (g := (mkF m 120 #[.val (.int p0), .val (.int p1), .val (.int (if (p0 &&& (1 : Int32)) = (0 : Int32) then (0 : Int32) else (1 : Int32))), .val (.int (if (p0 &&& (2 : Int32)) = (0 : Int32) then (0 : Int32) else (1 : Int32))), .val (.int (if (p1 &&& (1 : Int32)) = (0 : Int32) then (0 : Int32) else (1 : Int32))), .val (.int (if (p1 &&& (2 : Int32)) = (0 : Int32) then (0 : Int32) else (1 : Int32))), .val (.ref b54), .val (.long ((own_bit_f (if (p0 &&& (1 : Int32)) = (0 : Int32) then (0 : Int32) else (1 : Int32))) + (own_bit_f (if (p1 &&& (1 : Int32)) = (0 : Int32) then (0 : Int32) else (1 : Int32))))), .second, .unset, .unset] [(.int (if (p1 &&& (2 : Int32)) = (0 : Int32) then (0 : Int32) else (1 : Int32))), (.long (own_bit_f (if (p0 &&& (2 : Int32)) = (0 : Int32) then (0 : Int32) else (1 : Int32))))])) rfl (by rw [hml]; rfl) (argsL := [(.int (if (p1 &&& (2 : Int32)) = (0 : Int32) then (0 : Int32) else (1 : Int32)))]) (rest := [(.long (own_bit_f (if (p0 &&& (2 : Int32)) = (0 : Int32) then (0 : Int32) else (1 : Int32))))]) (lenOf own_pd8 rfl) rfl (by show 2 * 0 + _ ≤ _; exact Nat.le_of_eq rfl) (hb hby at_120) (fun _ _ => ⟨rfl, eh168, (by decide : 9 + 0 ≤ _), (by decide : 21 + 0 ≤ _)⟩)
  dsimp only [Pt.U, Pt.locs, Pt.cells, Pt.slots] at X172 l172 y172 z172 st172 hQ172
  subst l172 y172 z172
  obtain ⟨rfl, Nq172, eh172⟩ := hQ172
  have N173 := Fr.app N169 Nq172
  have Fq180 : Fld Z T150.heap b54 "com/example/tymely/tymely/model/Step" "ticking" "[Z" (.ref t_o_79) := (Fq151.keep K150 (ninS Ne94 nin0))
  have Fq181 : Fld Z T150.heap b54 "com/example/tymely/tymely/model/Step" "countsBefore" "[J" (.ref c_o_79) := (((Fq128.keep K126 (ninS Ne94 (ninS Ne89 nin0))).keep K140 (ninS Ne94 nin0)).keep K150 (ninS Ne94 nin0))
  have Fq182 : Arv Z T150.heap c_o_79 k_c_79 .long (2 : Int32) [(.long (if (nar .boolean (if (p0 &&& (1 : Int32)) = (0 : Int32) then (0 : Int32) else (1 : Int32))) = (0 : Int32) then (0 : Int64) else ((0 : Int64) + (1 : Int64)))), (.long (if (nar .boolean (if (p0 &&& (2 : Int32)) = (0 : Int32) then (0 : Int32) else (1 : Int32))) = (0 : Int32) then (0 : Int64) else ((0 : Int64) + (1 : Int64))))] (.long (0 : Int64)) := ((Pf126_1.keep K140 (ninS Pf79_7 nin0)).keep K150 (ninS Pf79_7 nin0))
  have Fq183 : Exa Z T150.heap b54 "com/example/tymely/tymely/model/Step" := (Fq152.keep K150)
  obtain ⟨cq179, kq179, q179a, q179b, q179c⟩ := isOf hZ eh172 Fq183
  obtain ⟨_, _, ⟨T179, L179, k179, n179⟩, -, X179, ⟨Lc179, hQ179, l179, y179, z179⟩, st179⟩ := X172.virtualBack hx (y := (⟨"com/example/tymely/tymely/model/Step", "countAfter", "(I)J"⟩ : MethodName)) (z := (⟨"com/example/tymely/tymely/model/Step", "countAfter", "(I)J"⟩ : MethodName)) hown (mvT hZ (hw _ (List.mem_of_getElem? (i := 121) rfl))) (mvT hZ (hw _ (List.mem_of_getElem? (i := 122) rfl))) (notFace_of_selects (args := #[]) (mvT hZ (hw _ (List.mem_of_getElem? (i := 124) rfl)))) (mvT hZ (hw _ (List.mem_of_getElem? (i := 124) rfl))) (mvT hZ (hw _ (List.mem_of_getElem? (i := 123) rfl))) (by decide) (backOf (W := 0) (own_ca0 l Z a0 hw [] b54 t_o_79 c_o_79 k_t_79 k_c_79 (nar .boolean (if (p1 &&& (1 : Int32)) = (0 : Int32) then (0 : Int32) else (1 : Int32))) (nar .boolean (if (p1 &&& (2 : Int32)) = (0 : Int32) then (0 : Int32) else (1 : Int32))) (if (nar .boolean (if (p0 &&& (1 : Int32)) = (0 : Int32) then (0 : Int32) else (1 : Int32))) = (0 : Int32) then (0 : Int64) else ((0 : Int64) + (1 : Int64))) (if (nar .boolean (if (p0 &&& (2 : Int32)) = (0 : Int32) then (0 : Int32) else (1 : Int32))) = (0 : Int32) then (0 : Int64) else ((0 : Int64) + (1 : Int64))) T150.heap n0 Zs155 Fq180 Fq181 Pf150_0 Fq182) hZ (hw _ (List.mem_of_getElem? (i := 125) rfl)) (hw _ (List.mem_of_getElem? (i := 2) rfl)) (by decide) (by decide)) q179a q179c (g := (mkF m 129 #[.val (.int p0), .val (.int p1), .val (.int (if (p0 &&& (1 : Int32)) = (0 : Int32) then (0 : Int32) else (1 : Int32))), .val (.int (if (p0 &&& (2 : Int32)) = (0 : Int32) then (0 : Int32) else (1 : Int32))), .val (.int (if (p1 &&& (1 : Int32)) = (0 : Int32) then (0 : Int32) else (1 : Int32))), .val (.int (if (p1 &&& (2 : Int32)) = (0 : Int32) then (0 : Int32) else (1 : Int32))), .val (.ref b54), .val (.long ((own_bit_f (if (p0 &&& (1 : Int32)) = (0 : Int32) then (0 : Int32) else (1 : Int32))) + (own_bit_f (if (p1 &&& (1 : Int32)) = (0 : Int32) then (0 : Int32) else (1 : Int32))))), .second, .val (.long ((own_bit_f (if (p0 &&& (2 : Int32)) = (0 : Int32) then (0 : Int32) else (1 : Int32))) + (own_bit_f (if (p1 &&& (2 : Int32)) = (0 : Int32) then (0 : Int32) else (1 : Int32))))), .second] [(.int (0 : Int32)), (.ref b54)])) rfl (by rw [hml]; rfl) (Steps.refl _) (argsL := [(.int (0 : Int32))]) (rest := []) (lenOf own_pd9 rfl) rfl (by show 2 * 0 + _ ≤ _; exact Nat.le_of_eq rfl) (hb hby at_129) (fun _ _ => ⟨rfl, eh172, (by decide : 9 + 0 ≤ _), (by decide : 21 + 0 ≤ _)⟩)
  dsimp only [Pt.U, Pt.locs, Pt.cells, Pt.slots] at X179 l179 y179 z179 st179 hQ179
  subst l179 y179 z179
  obtain ⟨rfl, Nq179, eh179⟩ := hQ179
  have N184 := Fr.app N173 Nq179
  obtain ⟨cq191, kq191, q191a, q191b, q191c⟩ := isOf hZ eh179 Fq183
  obtain ⟨_, _, ⟨T191, L191, k191, n191⟩, -, X191, ⟨Lc191, hQ191, l191, y191, z191⟩, st191⟩ := X179.virtualBack hx (y := (⟨"com/example/tymely/tymely/model/Step", "countAfter", "(I)J"⟩ : MethodName)) (z := (⟨"com/example/tymely/tymely/model/Step", "countAfter", "(I)J"⟩ : MethodName)) hown (mvT hZ (hw _ (List.mem_of_getElem? (i := 121) rfl))) (mvT hZ (hw _ (List.mem_of_getElem? (i := 122) rfl))) (notFace_of_selects (args := #[]) (mvT hZ (hw _ (List.mem_of_getElem? (i := 124) rfl)))) (mvT hZ (hw _ (List.mem_of_getElem? (i := 124) rfl))) (mvT hZ (hw _ (List.mem_of_getElem? (i := 123) rfl))) (by decide) (backOf (W := 0) (own_ca1 l Z a0 hw [] b54 t_o_79 c_o_79 k_t_79 k_c_79 (nar .boolean (if (p1 &&& (1 : Int32)) = (0 : Int32) then (0 : Int32) else (1 : Int32))) (nar .boolean (if (p1 &&& (2 : Int32)) = (0 : Int32) then (0 : Int32) else (1 : Int32))) (if (nar .boolean (if (p0 &&& (1 : Int32)) = (0 : Int32) then (0 : Int32) else (1 : Int32))) = (0 : Int32) then (0 : Int64) else ((0 : Int64) + (1 : Int64))) (if (nar .boolean (if (p0 &&& (2 : Int32)) = (0 : Int32) then (0 : Int32) else (1 : Int32))) = (0 : Int32) then (0 : Int64) else ((0 : Int64) + (1 : Int64))) T150.heap n0 Zs155 Fq180 Fq181 Pf150_0 Fq182) hZ (hw _ (List.mem_of_getElem? (i := 125) rfl)) (hw _ (List.mem_of_getElem? (i := 2) rfl)) (by decide) (by decide)) q191a q191c (g := (mkF m 141 #[.val (.int p0), .val (.int p1), .val (.int (if (p0 &&& (1 : Int32)) = (0 : Int32) then (0 : Int32) else (1 : Int32))), .val (.int (if (p0 &&& (2 : Int32)) = (0 : Int32) then (0 : Int32) else (1 : Int32))), .val (.int (if (p1 &&& (1 : Int32)) = (0 : Int32) then (0 : Int32) else (1 : Int32))), .val (.int (if (p1 &&& (2 : Int32)) = (0 : Int32) then (0 : Int32) else (1 : Int32))), .val (.ref b54), .val (.long ((own_bit_f (if (p0 &&& (1 : Int32)) = (0 : Int32) then (0 : Int32) else (1 : Int32))) + (own_bit_f (if (p1 &&& (1 : Int32)) = (0 : Int32) then (0 : Int32) else (1 : Int32))))), .second, .val (.long ((own_bit_f (if (p0 &&& (2 : Int32)) = (0 : Int32) then (0 : Int32) else (1 : Int32))) + (own_bit_f (if (p1 &&& (2 : Int32)) = (0 : Int32) then (0 : Int32) else (1 : Int32))))), .second] [(.int (1 : Int32)), (.ref b54)])) rfl (by rw [hml]; rfl) (Steps.refl _) (argsL := [(.int (1 : Int32))]) (rest := []) (lenOf own_pd9 rfl) rfl (by show 2 * 0 + _ ≤ _; exact Nat.le_of_eq rfl) (hb hby at_141) (fun _ _ => ⟨rfl, eh179, (by decide : 9 + 0 ≤ _), (by decide : 21 + 0 ≤ _)⟩)
  dsimp only [Pt.U, Pt.locs, Pt.cells, Pt.slots] at X191 l191 y191 z191 st191 hQ191
  subst l191 y191 z191
  obtain ⟨rfl, Nq191, eh191⟩ := hQ191
  have N192 := Fr.app N184 Nq191
  obtain ⟨fs, hr, hrun, hended, hW, hsame⟩ := X191.leave (v := some (.int (1 : Int32))) (fun h => by rw [Bd.returns] at h; cases h) (hlocks := BodyLoose.notSynchronized Bd)
  refine ⟨_, _, pre51 _ ?_, hrun, hended, _, _, rfl, ?_, ⟨_, rfl⟩, hW, hsame.mono (by decide) (by decide)⟩
  · show Steps p.tables e below (s₁.setTop (mkF m 48 #[.val (.int p0), .val (.int p1), .val (.int (if (p0 &&& (1 : Int32)) = (0 : Int32) then (0 : Int32) else (1 : Int32))), .val (.int (if (p0 &&& (2 : Int32)) = (0 : Int32) then (0 : Int32) else (1 : Int32))), .val (.int (if (p1 &&& (1 : Int32)) = (0 : Int32) then (0 : Int32) else (1 : Int32))), .unset, .unset, .unset, .unset, .unset, .unset] [(.int (if (p1 &&& (2 : Int32)) = (0 : Int32) then (0 : Int32) else (1 : Int32)))])) _
    refine XS.istore X0.here hx rfl (hb hby at_48) rfl (l' := #[.val (.int p0), .val (.int p1), .val (.int (if (p0 &&& (1 : Int32)) = (0 : Int32) then (0 : Int32) else (1 : Int32))), .val (.int (if (p0 &&& (2 : Int32)) = (0 : Int32) then (0 : Int32) else (1 : Int32))), .val (.int (if (p1 &&& (1 : Int32)) = (0 : Int32) then (0 : Int32) else (1 : Int32))), .val (.int (if (p1 &&& (2 : Int32)) = (0 : Int32) then (0 : Int32) else (1 : Int32))), .unset, .unset, .unset, .unset, .unset]) rfl ?_
    show Steps p.tables e below (s₁.setTop (mkF m 50 #[.val (.int p0), .val (.int p1), .val (.int (if (p0 &&& (1 : Int32)) = (0 : Int32) then (0 : Int32) else (1 : Int32))), .val (.int (if (p0 &&& (2 : Int32)) = (0 : Int32) then (0 : Int32) else (1 : Int32))), .val (.int (if (p1 &&& (1 : Int32)) = (0 : Int32) then (0 : Int32) else (1 : Int32))), .val (.int (if (p1 &&& (2 : Int32)) = (0 : Int32) then (0 : Int32) else (1 : Int32))), .unset, .unset, .unset, .unset, .unset] [])) _
    refine st54 _ ?_
    show Steps p.tables e below (T54.setTop (mkF m 53 #[.val (.int p0), .val (.int p1), .val (.int (if (p0 &&& (1 : Int32)) = (0 : Int32) then (0 : Int32) else (1 : Int32))), .val (.int (if (p0 &&& (2 : Int32)) = (0 : Int32) then (0 : Int32) else (1 : Int32))), .val (.int (if (p1 &&& (1 : Int32)) = (0 : Int32) then (0 : Int32) else (1 : Int32))), .val (.int (if (p1 &&& (2 : Int32)) = (0 : Int32) then (0 : Int32) else (1 : Int32))), .unset, .unset, .unset, .unset, .unset] [(.ref b54)])) _
    refine XS.dup X54.here hx rfl (hb hby at_53) rfl rfl ?_
    show Steps p.tables e below (T54.setTop (mkF m 54 #[.val (.int p0), .val (.int p1), .val (.int (if (p0 &&& (1 : Int32)) = (0 : Int32) then (0 : Int32) else (1 : Int32))), .val (.int (if (p0 &&& (2 : Int32)) = (0 : Int32) then (0 : Int32) else (1 : Int32))), .val (.int (if (p1 &&& (1 : Int32)) = (0 : Int32) then (0 : Int32) else (1 : Int32))), .val (.int (if (p1 &&& (2 : Int32)) = (0 : Int32) then (0 : Int32) else (1 : Int32))), .unset, .unset, .unset, .unset, .unset] [(.ref b54), (.ref b54)])) _
    refine XS.iconst X54.here hx rfl (hb hby at_54) ?_
    show Steps p.tables e below (T54.setTop (mkF m 55 #[.val (.int p0), .val (.int p1), .val (.int (if (p0 &&& (1 : Int32)) = (0 : Int32) then (0 : Int32) else (1 : Int32))), .val (.int (if (p0 &&& (2 : Int32)) = (0 : Int32) then (0 : Int32) else (1 : Int32))), .val (.int (if (p1 &&& (1 : Int32)) = (0 : Int32) then (0 : Int32) else (1 : Int32))), .val (.int (if (p1 &&& (2 : Int32)) = (0 : Int32) then (0 : Int32) else (1 : Int32))), .unset, .unset, .unset, .unset, .unset] [(.int (2 : Int32)), (.ref b54), (.ref b54)])) _
    refine st63 _ ?_
    show Steps p.tables e below (T63.setTop (mkF m 58 #[.val (.int p0), .val (.int p1), .val (.int (if (p0 &&& (1 : Int32)) = (0 : Int32) then (0 : Int32) else (1 : Int32))), .val (.int (if (p0 &&& (2 : Int32)) = (0 : Int32) then (0 : Int32) else (1 : Int32))), .val (.int (if (p1 &&& (1 : Int32)) = (0 : Int32) then (0 : Int32) else (1 : Int32))), .val (.int (if (p1 &&& (2 : Int32)) = (0 : Int32) then (0 : Int32) else (1 : Int32))), .unset, .unset, .unset, .unset, .unset] [(.ref b63), (.int (2 : Int32)), (.ref b54), (.ref b54)])) _
    refine XS.dup X63.here hx rfl (hb hby at_58) rfl rfl ?_
    show Steps p.tables e below (T63.setTop (mkF m 59 #[.val (.int p0), .val (.int p1), .val (.int (if (p0 &&& (1 : Int32)) = (0 : Int32) then (0 : Int32) else (1 : Int32))), .val (.int (if (p0 &&& (2 : Int32)) = (0 : Int32) then (0 : Int32) else (1 : Int32))), .val (.int (if (p1 &&& (1 : Int32)) = (0 : Int32) then (0 : Int32) else (1 : Int32))), .val (.int (if (p1 &&& (2 : Int32)) = (0 : Int32) then (0 : Int32) else (1 : Int32))), .unset, .unset, .unset, .unset, .unset] [(.ref b63), (.ref b63), (.int (2 : Int32)), (.ref b54), (.ref b54)])) _
    refine st73.trans ?_
    show Steps p.tables e below (T73.setTop (mkF m 62 #[.val (.int p0), .val (.int p1), .val (.int (if (p0 &&& (1 : Int32)) = (0 : Int32) then (0 : Int32) else (1 : Int32))), .val (.int (if (p0 &&& (2 : Int32)) = (0 : Int32) then (0 : Int32) else (1 : Int32))), .val (.int (if (p1 &&& (1 : Int32)) = (0 : Int32) then (0 : Int32) else (1 : Int32))), .val (.int (if (p1 &&& (2 : Int32)) = (0 : Int32) then (0 : Int32) else (1 : Int32))), .unset, .unset, .unset, .unset, .unset] [(.ref b63), (.int (2 : Int32)), (.ref b54), (.ref b54)])) _
    refine st79.trans ?_
    show Steps p.tables e below (T79.setTop (mkF m 65 #[.val (.int p0), .val (.int p1), .val (.int (if (p0 &&& (1 : Int32)) = (0 : Int32) then (0 : Int32) else (1 : Int32))), .val (.int (if (p0 &&& (2 : Int32)) = (0 : Int32) then (0 : Int32) else (1 : Int32))), .val (.int (if (p1 &&& (1 : Int32)) = (0 : Int32) then (0 : Int32) else (1 : Int32))), .val (.int (if (p1 &&& (2 : Int32)) = (0 : Int32) then (0 : Int32) else (1 : Int32))), .unset, .unset, .unset, .unset, .unset] [(.ref b54)])) _
    refine XS.astore X79.here hx rfl (hb hby at_65) rfl rfl (l' := #[.val (.int p0), .val (.int p1), .val (.int (if (p0 &&& (1 : Int32)) = (0 : Int32) then (0 : Int32) else (1 : Int32))), .val (.int (if (p0 &&& (2 : Int32)) = (0 : Int32) then (0 : Int32) else (1 : Int32))), .val (.int (if (p1 &&& (1 : Int32)) = (0 : Int32) then (0 : Int32) else (1 : Int32))), .val (.int (if (p1 &&& (2 : Int32)) = (0 : Int32) then (0 : Int32) else (1 : Int32))), .val (.ref b54), .unset, .unset, .unset, .unset]) rfl ?_
    show Steps p.tables e below (T79.setTop (mkF m 67 #[.val (.int p0), .val (.int p1), .val (.int (if (p0 &&& (1 : Int32)) = (0 : Int32) then (0 : Int32) else (1 : Int32))), .val (.int (if (p0 &&& (2 : Int32)) = (0 : Int32) then (0 : Int32) else (1 : Int32))), .val (.int (if (p1 &&& (1 : Int32)) = (0 : Int32) then (0 : Int32) else (1 : Int32))), .val (.int (if (p1 &&& (2 : Int32)) = (0 : Int32) then (0 : Int32) else (1 : Int32))), .val (.ref b54), .unset, .unset, .unset, .unset] [])) _
    refine XS.aload X79.here hx rfl (hb hby at_67) rfl rfl ?_
    show Steps p.tables e below (T79.setTop (mkF m 69 #[.val (.int p0), .val (.int p1), .val (.int (if (p0 &&& (1 : Int32)) = (0 : Int32) then (0 : Int32) else (1 : Int32))), .val (.int (if (p0 &&& (2 : Int32)) = (0 : Int32) then (0 : Int32) else (1 : Int32))), .val (.int (if (p1 &&& (1 : Int32)) = (0 : Int32) then (0 : Int32) else (1 : Int32))), .val (.int (if (p1 &&& (2 : Int32)) = (0 : Int32) then (0 : Int32) else (1 : Int32))), .val (.ref b54), .unset, .unset, .unset, .unset] [(.ref b54)])) _
    refine XS.iconst X79.here hx rfl (hb hby at_69) ?_
    show Steps p.tables e below (T79.setTop (mkF m 70 #[.val (.int p0), .val (.int p1), .val (.int (if (p0 &&& (1 : Int32)) = (0 : Int32) then (0 : Int32) else (1 : Int32))), .val (.int (if (p0 &&& (2 : Int32)) = (0 : Int32) then (0 : Int32) else (1 : Int32))), .val (.int (if (p1 &&& (1 : Int32)) = (0 : Int32) then (0 : Int32) else (1 : Int32))), .val (.int (if (p1 &&& (2 : Int32)) = (0 : Int32) then (0 : Int32) else (1 : Int32))), .val (.ref b54), .unset, .unset, .unset, .unset] [(.int (0 : Int32)), (.ref b54)])) _
    refine XS.iloadN X79.here hx rfl (hb hby at_70) rfl ?_
    show Steps p.tables e below (T79.setTop (mkF m 71 #[.val (.int p0), .val (.int p1), .val (.int (if (p0 &&& (1 : Int32)) = (0 : Int32) then (0 : Int32) else (1 : Int32))), .val (.int (if (p0 &&& (2 : Int32)) = (0 : Int32) then (0 : Int32) else (1 : Int32))), .val (.int (if (p1 &&& (1 : Int32)) = (0 : Int32) then (0 : Int32) else (1 : Int32))), .val (.int (if (p1 &&& (2 : Int32)) = (0 : Int32) then (0 : Int32) else (1 : Int32))), .val (.ref b54), .unset, .unset, .unset, .unset] [(.int (if (p0 &&& (1 : Int32)) = (0 : Int32) then (0 : Int32) else (1 : Int32))), (.int (0 : Int32)), (.ref b54)])) _
    refine st110.trans ?_
    show Steps p.tables e below (T110.setTop (mkF m 74 #[.val (.int p0), .val (.int p1), .val (.int (if (p0 &&& (1 : Int32)) = (0 : Int32) then (0 : Int32) else (1 : Int32))), .val (.int (if (p0 &&& (2 : Int32)) = (0 : Int32) then (0 : Int32) else (1 : Int32))), .val (.int (if (p1 &&& (1 : Int32)) = (0 : Int32) then (0 : Int32) else (1 : Int32))), .val (.int (if (p1 &&& (2 : Int32)) = (0 : Int32) then (0 : Int32) else (1 : Int32))), .val (.ref b54), .unset, .unset, .unset, .unset] [])) _
    refine XS.aload X110.here hx rfl (hb hby at_74) rfl rfl ?_
    show Steps p.tables e below (T110.setTop (mkF m 76 #[.val (.int p0), .val (.int p1), .val (.int (if (p0 &&& (1 : Int32)) = (0 : Int32) then (0 : Int32) else (1 : Int32))), .val (.int (if (p0 &&& (2 : Int32)) = (0 : Int32) then (0 : Int32) else (1 : Int32))), .val (.int (if (p1 &&& (1 : Int32)) = (0 : Int32) then (0 : Int32) else (1 : Int32))), .val (.int (if (p1 &&& (2 : Int32)) = (0 : Int32) then (0 : Int32) else (1 : Int32))), .val (.ref b54), .unset, .unset, .unset, .unset] [(.ref b54)])) _
    refine XS.iconst X110.here hx rfl (hb hby at_76) ?_
    show Steps p.tables e below (T110.setTop (mkF m 77 #[.val (.int p0), .val (.int p1), .val (.int (if (p0 &&& (1 : Int32)) = (0 : Int32) then (0 : Int32) else (1 : Int32))), .val (.int (if (p0 &&& (2 : Int32)) = (0 : Int32) then (0 : Int32) else (1 : Int32))), .val (.int (if (p1 &&& (1 : Int32)) = (0 : Int32) then (0 : Int32) else (1 : Int32))), .val (.int (if (p1 &&& (2 : Int32)) = (0 : Int32) then (0 : Int32) else (1 : Int32))), .val (.ref b54), .unset, .unset, .unset, .unset] [(.int (1 : Int32)), (.ref b54)])) _
    refine XS.iloadN X110.here hx rfl (hb hby at_77) rfl ?_
    show Steps p.tables e below (T110.setTop (mkF m 78 #[.val (.int p0), .val (.int p1), .val (.int (if (p0 &&& (1 : Int32)) = (0 : Int32) then (0 : Int32) else (1 : Int32))), .val (.int (if (p0 &&& (2 : Int32)) = (0 : Int32) then (0 : Int32) else (1 : Int32))), .val (.int (if (p1 &&& (1 : Int32)) = (0 : Int32) then (0 : Int32) else (1 : Int32))), .val (.int (if (p1 &&& (2 : Int32)) = (0 : Int32) then (0 : Int32) else (1 : Int32))), .val (.ref b54), .unset, .unset, .unset, .unset] [(.int (if (p0 &&& (2 : Int32)) = (0 : Int32) then (0 : Int32) else (1 : Int32))), (.int (1 : Int32)), (.ref b54)])) _
    refine st118.trans ?_
    show Steps p.tables e below (T118.setTop (mkF m 81 #[.val (.int p0), .val (.int p1), .val (.int (if (p0 &&& (1 : Int32)) = (0 : Int32) then (0 : Int32) else (1 : Int32))), .val (.int (if (p0 &&& (2 : Int32)) = (0 : Int32) then (0 : Int32) else (1 : Int32))), .val (.int (if (p1 &&& (1 : Int32)) = (0 : Int32) then (0 : Int32) else (1 : Int32))), .val (.int (if (p1 &&& (2 : Int32)) = (0 : Int32) then (0 : Int32) else (1 : Int32))), .val (.ref b54), .unset, .unset, .unset, .unset] [])) _
    refine XS.aload X118.here hx rfl (hb hby at_81) rfl rfl ?_
    show Steps p.tables e below (T118.setTop (mkF m 83 #[.val (.int p0), .val (.int p1), .val (.int (if (p0 &&& (1 : Int32)) = (0 : Int32) then (0 : Int32) else (1 : Int32))), .val (.int (if (p0 &&& (2 : Int32)) = (0 : Int32) then (0 : Int32) else (1 : Int32))), .val (.int (if (p1 &&& (1 : Int32)) = (0 : Int32) then (0 : Int32) else (1 : Int32))), .val (.int (if (p1 &&& (2 : Int32)) = (0 : Int32) then (0 : Int32) else (1 : Int32))), .val (.ref b54), .unset, .unset, .unset, .unset] [(.ref b54)])) _
    refine st126.trans ?_
    show Steps p.tables e below (T126.setTop (mkF m 86 #[.val (.int p0), .val (.int p1), .val (.int (if (p0 &&& (1 : Int32)) = (0 : Int32) then (0 : Int32) else (1 : Int32))), .val (.int (if (p0 &&& (2 : Int32)) = (0 : Int32) then (0 : Int32) else (1 : Int32))), .val (.int (if (p1 &&& (1 : Int32)) = (0 : Int32) then (0 : Int32) else (1 : Int32))), .val (.int (if (p1 &&& (2 : Int32)) = (0 : Int32) then (0 : Int32) else (1 : Int32))), .val (.ref b54), .unset, .unset, .unset, .unset] [])) _
    refine XS.aload X126.here hx rfl (hb hby at_86) rfl rfl ?_
    show Steps p.tables e below (T126.setTop (mkF m 88 #[.val (.int p0), .val (.int p1), .val (.int (if (p0 &&& (1 : Int32)) = (0 : Int32) then (0 : Int32) else (1 : Int32))), .val (.int (if (p0 &&& (2 : Int32)) = (0 : Int32) then (0 : Int32) else (1 : Int32))), .val (.int (if (p1 &&& (1 : Int32)) = (0 : Int32) then (0 : Int32) else (1 : Int32))), .val (.int (if (p1 &&& (2 : Int32)) = (0 : Int32) then (0 : Int32) else (1 : Int32))), .val (.ref b54), .unset, .unset, .unset, .unset] [(.ref b54)])) _
    refine XS.iconst X126.here hx rfl (hb hby at_88) ?_
    show Steps p.tables e below (T126.setTop (mkF m 89 #[.val (.int p0), .val (.int p1), .val (.int (if (p0 &&& (1 : Int32)) = (0 : Int32) then (0 : Int32) else (1 : Int32))), .val (.int (if (p0 &&& (2 : Int32)) = (0 : Int32) then (0 : Int32) else (1 : Int32))), .val (.int (if (p1 &&& (1 : Int32)) = (0 : Int32) then (0 : Int32) else (1 : Int32))), .val (.int (if (p1 &&& (2 : Int32)) = (0 : Int32) then (0 : Int32) else (1 : Int32))), .val (.ref b54), .unset, .unset, .unset, .unset] [(.int (0 : Int32)), (.ref b54)])) _
    refine XS.iload X126.here hx rfl (hb hby at_89) rfl ?_
    show Steps p.tables e below (T126.setTop (mkF m 91 #[.val (.int p0), .val (.int p1), .val (.int (if (p0 &&& (1 : Int32)) = (0 : Int32) then (0 : Int32) else (1 : Int32))), .val (.int (if (p0 &&& (2 : Int32)) = (0 : Int32) then (0 : Int32) else (1 : Int32))), .val (.int (if (p1 &&& (1 : Int32)) = (0 : Int32) then (0 : Int32) else (1 : Int32))), .val (.int (if (p1 &&& (2 : Int32)) = (0 : Int32) then (0 : Int32) else (1 : Int32))), .val (.ref b54), .unset, .unset, .unset, .unset] [(.int (if (p1 &&& (1 : Int32)) = (0 : Int32) then (0 : Int32) else (1 : Int32))), (.int (0 : Int32)), (.ref b54)])) _
    refine st140.trans ?_
    show Steps p.tables e below (T140.setTop (mkF m 94 #[.val (.int p0), .val (.int p1), .val (.int (if (p0 &&& (1 : Int32)) = (0 : Int32) then (0 : Int32) else (1 : Int32))), .val (.int (if (p0 &&& (2 : Int32)) = (0 : Int32) then (0 : Int32) else (1 : Int32))), .val (.int (if (p1 &&& (1 : Int32)) = (0 : Int32) then (0 : Int32) else (1 : Int32))), .val (.int (if (p1 &&& (2 : Int32)) = (0 : Int32) then (0 : Int32) else (1 : Int32))), .val (.ref b54), .unset, .unset, .unset, .unset] [])) _
    refine XS.aload X140.here hx rfl (hb hby at_94) rfl rfl ?_
    show Steps p.tables e below (T140.setTop (mkF m 96 #[.val (.int p0), .val (.int p1), .val (.int (if (p0 &&& (1 : Int32)) = (0 : Int32) then (0 : Int32) else (1 : Int32))), .val (.int (if (p0 &&& (2 : Int32)) = (0 : Int32) then (0 : Int32) else (1 : Int32))), .val (.int (if (p1 &&& (1 : Int32)) = (0 : Int32) then (0 : Int32) else (1 : Int32))), .val (.int (if (p1 &&& (2 : Int32)) = (0 : Int32) then (0 : Int32) else (1 : Int32))), .val (.ref b54), .unset, .unset, .unset, .unset] [(.ref b54)])) _
    refine XS.iconst X140.here hx rfl (hb hby at_96) ?_
    show Steps p.tables e below (T140.setTop (mkF m 97 #[.val (.int p0), .val (.int p1), .val (.int (if (p0 &&& (1 : Int32)) = (0 : Int32) then (0 : Int32) else (1 : Int32))), .val (.int (if (p0 &&& (2 : Int32)) = (0 : Int32) then (0 : Int32) else (1 : Int32))), .val (.int (if (p1 &&& (1 : Int32)) = (0 : Int32) then (0 : Int32) else (1 : Int32))), .val (.int (if (p1 &&& (2 : Int32)) = (0 : Int32) then (0 : Int32) else (1 : Int32))), .val (.ref b54), .unset, .unset, .unset, .unset] [(.int (1 : Int32)), (.ref b54)])) _
    refine XS.iload X140.here hx rfl (hb hby at_97) rfl ?_
    show Steps p.tables e below (T140.setTop (mkF m 99 #[.val (.int p0), .val (.int p1), .val (.int (if (p0 &&& (1 : Int32)) = (0 : Int32) then (0 : Int32) else (1 : Int32))), .val (.int (if (p0 &&& (2 : Int32)) = (0 : Int32) then (0 : Int32) else (1 : Int32))), .val (.int (if (p1 &&& (1 : Int32)) = (0 : Int32) then (0 : Int32) else (1 : Int32))), .val (.int (if (p1 &&& (2 : Int32)) = (0 : Int32) then (0 : Int32) else (1 : Int32))), .val (.ref b54), .unset, .unset, .unset, .unset] [(.int (if (p1 &&& (2 : Int32)) = (0 : Int32) then (0 : Int32) else (1 : Int32))), (.int (1 : Int32)), (.ref b54)])) _
    refine st150.trans ?_
    show Steps p.tables e below (T150.setTop (mkF m 102 #[.val (.int p0), .val (.int p1), .val (.int (if (p0 &&& (1 : Int32)) = (0 : Int32) then (0 : Int32) else (1 : Int32))), .val (.int (if (p0 &&& (2 : Int32)) = (0 : Int32) then (0 : Int32) else (1 : Int32))), .val (.int (if (p1 &&& (1 : Int32)) = (0 : Int32) then (0 : Int32) else (1 : Int32))), .val (.int (if (p1 &&& (2 : Int32)) = (0 : Int32) then (0 : Int32) else (1 : Int32))), .val (.ref b54), .unset, .unset, .unset, .unset] [])) _
    refine XS.iloadN X150.here hx rfl (hb hby at_102) rfl ?_
    show Steps p.tables e below (T150.setTop (mkF m 103 #[.val (.int p0), .val (.int p1), .val (.int (if (p0 &&& (1 : Int32)) = (0 : Int32) then (0 : Int32) else (1 : Int32))), .val (.int (if (p0 &&& (2 : Int32)) = (0 : Int32) then (0 : Int32) else (1 : Int32))), .val (.int (if (p1 &&& (1 : Int32)) = (0 : Int32) then (0 : Int32) else (1 : Int32))), .val (.int (if (p1 &&& (2 : Int32)) = (0 : Int32) then (0 : Int32) else (1 : Int32))), .val (.ref b54), .unset, .unset, .unset, .unset] [(.int (if (p0 &&& (1 : Int32)) = (0 : Int32) then (0 : Int32) else (1 : Int32)))])) _
    refine st158 _ ?_
    show Steps p.tables e below (T158.setTop (mkF m 106 #[.val (.int p0), .val (.int p1), .val (.int (if (p0 &&& (1 : Int32)) = (0 : Int32) then (0 : Int32) else (1 : Int32))), .val (.int (if (p0 &&& (2 : Int32)) = (0 : Int32) then (0 : Int32) else (1 : Int32))), .val (.int (if (p1 &&& (1 : Int32)) = (0 : Int32) then (0 : Int32) else (1 : Int32))), .val (.int (if (p1 &&& (2 : Int32)) = (0 : Int32) then (0 : Int32) else (1 : Int32))), .val (.ref b54), .unset, .unset, .unset, .unset] [(.long (own_bit_f (if (p0 &&& (1 : Int32)) = (0 : Int32) then (0 : Int32) else (1 : Int32))))])) _
    refine XS.iload X158.here hx rfl (hb hby at_106) rfl ?_
    show Steps p.tables e below (T158.setTop (mkF m 108 #[.val (.int p0), .val (.int p1), .val (.int (if (p0 &&& (1 : Int32)) = (0 : Int32) then (0 : Int32) else (1 : Int32))), .val (.int (if (p0 &&& (2 : Int32)) = (0 : Int32) then (0 : Int32) else (1 : Int32))), .val (.int (if (p1 &&& (1 : Int32)) = (0 : Int32) then (0 : Int32) else (1 : Int32))), .val (.int (if (p1 &&& (2 : Int32)) = (0 : Int32) then (0 : Int32) else (1 : Int32))), .val (.ref b54), .unset, .unset, .unset, .unset] [(.int (if (p1 &&& (1 : Int32)) = (0 : Int32) then (0 : Int32) else (1 : Int32))), (.long (own_bit_f (if (p0 &&& (1 : Int32)) = (0 : Int32) then (0 : Int32) else (1 : Int32))))])) _
    refine st162 _ ?_
    show Steps p.tables e below (T162.setTop (mkF m 111 #[.val (.int p0), .val (.int p1), .val (.int (if (p0 &&& (1 : Int32)) = (0 : Int32) then (0 : Int32) else (1 : Int32))), .val (.int (if (p0 &&& (2 : Int32)) = (0 : Int32) then (0 : Int32) else (1 : Int32))), .val (.int (if (p1 &&& (1 : Int32)) = (0 : Int32) then (0 : Int32) else (1 : Int32))), .val (.int (if (p1 &&& (2 : Int32)) = (0 : Int32) then (0 : Int32) else (1 : Int32))), .val (.ref b54), .unset, .unset, .unset, .unset] [(.long (own_bit_f (if (p1 &&& (1 : Int32)) = (0 : Int32) then (0 : Int32) else (1 : Int32)))), (.long (own_bit_f (if (p0 &&& (1 : Int32)) = (0 : Int32) then (0 : Int32) else (1 : Int32))))])) _
    refine XS.ladd X162.here hx rfl (hb hby at_111) rfl ?_
    show Steps p.tables e below (T162.setTop (mkF m 112 #[.val (.int p0), .val (.int p1), .val (.int (if (p0 &&& (1 : Int32)) = (0 : Int32) then (0 : Int32) else (1 : Int32))), .val (.int (if (p0 &&& (2 : Int32)) = (0 : Int32) then (0 : Int32) else (1 : Int32))), .val (.int (if (p1 &&& (1 : Int32)) = (0 : Int32) then (0 : Int32) else (1 : Int32))), .val (.int (if (p1 &&& (2 : Int32)) = (0 : Int32) then (0 : Int32) else (1 : Int32))), .val (.ref b54), .unset, .unset, .unset, .unset] [(.long ((own_bit_f (if (p0 &&& (1 : Int32)) = (0 : Int32) then (0 : Int32) else (1 : Int32))) + (own_bit_f (if (p1 &&& (1 : Int32)) = (0 : Int32) then (0 : Int32) else (1 : Int32)))))])) _
    refine XS.lstore X162.here hx rfl (hb hby at_112) rfl (l' := #[.val (.int p0), .val (.int p1), .val (.int (if (p0 &&& (1 : Int32)) = (0 : Int32) then (0 : Int32) else (1 : Int32))), .val (.int (if (p0 &&& (2 : Int32)) = (0 : Int32) then (0 : Int32) else (1 : Int32))), .val (.int (if (p1 &&& (1 : Int32)) = (0 : Int32) then (0 : Int32) else (1 : Int32))), .val (.int (if (p1 &&& (2 : Int32)) = (0 : Int32) then (0 : Int32) else (1 : Int32))), .val (.ref b54), .val (.long ((own_bit_f (if (p0 &&& (1 : Int32)) = (0 : Int32) then (0 : Int32) else (1 : Int32))) + (own_bit_f (if (p1 &&& (1 : Int32)) = (0 : Int32) then (0 : Int32) else (1 : Int32))))), .second, .unset, .unset]) rfl ?_
    show Steps p.tables e below (T162.setTop (mkF m 114 #[.val (.int p0), .val (.int p1), .val (.int (if (p0 &&& (1 : Int32)) = (0 : Int32) then (0 : Int32) else (1 : Int32))), .val (.int (if (p0 &&& (2 : Int32)) = (0 : Int32) then (0 : Int32) else (1 : Int32))), .val (.int (if (p1 &&& (1 : Int32)) = (0 : Int32) then (0 : Int32) else (1 : Int32))), .val (.int (if (p1 &&& (2 : Int32)) = (0 : Int32) then (0 : Int32) else (1 : Int32))), .val (.ref b54), .val (.long ((own_bit_f (if (p0 &&& (1 : Int32)) = (0 : Int32) then (0 : Int32) else (1 : Int32))) + (own_bit_f (if (p1 &&& (1 : Int32)) = (0 : Int32) then (0 : Int32) else (1 : Int32))))), .second, .unset, .unset] [])) _
    refine XS.iloadN X162.here hx rfl (hb hby at_114) rfl ?_
    show Steps p.tables e below (T162.setTop (mkF m 115 #[.val (.int p0), .val (.int p1), .val (.int (if (p0 &&& (1 : Int32)) = (0 : Int32) then (0 : Int32) else (1 : Int32))), .val (.int (if (p0 &&& (2 : Int32)) = (0 : Int32) then (0 : Int32) else (1 : Int32))), .val (.int (if (p1 &&& (1 : Int32)) = (0 : Int32) then (0 : Int32) else (1 : Int32))), .val (.int (if (p1 &&& (2 : Int32)) = (0 : Int32) then (0 : Int32) else (1 : Int32))), .val (.ref b54), .val (.long ((own_bit_f (if (p0 &&& (1 : Int32)) = (0 : Int32) then (0 : Int32) else (1 : Int32))) + (own_bit_f (if (p1 &&& (1 : Int32)) = (0 : Int32) then (0 : Int32) else (1 : Int32))))), .second, .unset, .unset] [(.int (if (p0 &&& (2 : Int32)) = (0 : Int32) then (0 : Int32) else (1 : Int32)))])) _
    refine st168 _ ?_
    show Steps p.tables e below (T168.setTop (mkF m 118 #[.val (.int p0), .val (.int p1), .val (.int (if (p0 &&& (1 : Int32)) = (0 : Int32) then (0 : Int32) else (1 : Int32))), .val (.int (if (p0 &&& (2 : Int32)) = (0 : Int32) then (0 : Int32) else (1 : Int32))), .val (.int (if (p1 &&& (1 : Int32)) = (0 : Int32) then (0 : Int32) else (1 : Int32))), .val (.int (if (p1 &&& (2 : Int32)) = (0 : Int32) then (0 : Int32) else (1 : Int32))), .val (.ref b54), .val (.long ((own_bit_f (if (p0 &&& (1 : Int32)) = (0 : Int32) then (0 : Int32) else (1 : Int32))) + (own_bit_f (if (p1 &&& (1 : Int32)) = (0 : Int32) then (0 : Int32) else (1 : Int32))))), .second, .unset, .unset] [(.long (own_bit_f (if (p0 &&& (2 : Int32)) = (0 : Int32) then (0 : Int32) else (1 : Int32))))])) _
    refine XS.iload X168.here hx rfl (hb hby at_118) rfl ?_
    show Steps p.tables e below (T168.setTop (mkF m 120 #[.val (.int p0), .val (.int p1), .val (.int (if (p0 &&& (1 : Int32)) = (0 : Int32) then (0 : Int32) else (1 : Int32))), .val (.int (if (p0 &&& (2 : Int32)) = (0 : Int32) then (0 : Int32) else (1 : Int32))), .val (.int (if (p1 &&& (1 : Int32)) = (0 : Int32) then (0 : Int32) else (1 : Int32))), .val (.int (if (p1 &&& (2 : Int32)) = (0 : Int32) then (0 : Int32) else (1 : Int32))), .val (.ref b54), .val (.long ((own_bit_f (if (p0 &&& (1 : Int32)) = (0 : Int32) then (0 : Int32) else (1 : Int32))) + (own_bit_f (if (p1 &&& (1 : Int32)) = (0 : Int32) then (0 : Int32) else (1 : Int32))))), .second, .unset, .unset] [(.int (if (p1 &&& (2 : Int32)) = (0 : Int32) then (0 : Int32) else (1 : Int32))), (.long (own_bit_f (if (p0 &&& (2 : Int32)) = (0 : Int32) then (0 : Int32) else (1 : Int32))))])) _
    refine st172 _ ?_
    show Steps p.tables e below (T172.setTop (mkF m 123 #[.val (.int p0), .val (.int p1), .val (.int (if (p0 &&& (1 : Int32)) = (0 : Int32) then (0 : Int32) else (1 : Int32))), .val (.int (if (p0 &&& (2 : Int32)) = (0 : Int32) then (0 : Int32) else (1 : Int32))), .val (.int (if (p1 &&& (1 : Int32)) = (0 : Int32) then (0 : Int32) else (1 : Int32))), .val (.int (if (p1 &&& (2 : Int32)) = (0 : Int32) then (0 : Int32) else (1 : Int32))), .val (.ref b54), .val (.long ((own_bit_f (if (p0 &&& (1 : Int32)) = (0 : Int32) then (0 : Int32) else (1 : Int32))) + (own_bit_f (if (p1 &&& (1 : Int32)) = (0 : Int32) then (0 : Int32) else (1 : Int32))))), .second, .unset, .unset] [(.long (own_bit_f (if (p1 &&& (2 : Int32)) = (0 : Int32) then (0 : Int32) else (1 : Int32)))), (.long (own_bit_f (if (p0 &&& (2 : Int32)) = (0 : Int32) then (0 : Int32) else (1 : Int32))))])) _
    refine XS.ladd X172.here hx rfl (hb hby at_123) rfl ?_
    show Steps p.tables e below (T172.setTop (mkF m 124 #[.val (.int p0), .val (.int p1), .val (.int (if (p0 &&& (1 : Int32)) = (0 : Int32) then (0 : Int32) else (1 : Int32))), .val (.int (if (p0 &&& (2 : Int32)) = (0 : Int32) then (0 : Int32) else (1 : Int32))), .val (.int (if (p1 &&& (1 : Int32)) = (0 : Int32) then (0 : Int32) else (1 : Int32))), .val (.int (if (p1 &&& (2 : Int32)) = (0 : Int32) then (0 : Int32) else (1 : Int32))), .val (.ref b54), .val (.long ((own_bit_f (if (p0 &&& (1 : Int32)) = (0 : Int32) then (0 : Int32) else (1 : Int32))) + (own_bit_f (if (p1 &&& (1 : Int32)) = (0 : Int32) then (0 : Int32) else (1 : Int32))))), .second, .unset, .unset] [(.long ((own_bit_f (if (p0 &&& (2 : Int32)) = (0 : Int32) then (0 : Int32) else (1 : Int32))) + (own_bit_f (if (p1 &&& (2 : Int32)) = (0 : Int32) then (0 : Int32) else (1 : Int32)))))])) _
    refine XS.lstore X172.here hx rfl (hb hby at_124) rfl (l' := #[.val (.int p0), .val (.int p1), .val (.int (if (p0 &&& (1 : Int32)) = (0 : Int32) then (0 : Int32) else (1 : Int32))), .val (.int (if (p0 &&& (2 : Int32)) = (0 : Int32) then (0 : Int32) else (1 : Int32))), .val (.int (if (p1 &&& (1 : Int32)) = (0 : Int32) then (0 : Int32) else (1 : Int32))), .val (.int (if (p1 &&& (2 : Int32)) = (0 : Int32) then (0 : Int32) else (1 : Int32))), .val (.ref b54), .val (.long ((own_bit_f (if (p0 &&& (1 : Int32)) = (0 : Int32) then (0 : Int32) else (1 : Int32))) + (own_bit_f (if (p1 &&& (1 : Int32)) = (0 : Int32) then (0 : Int32) else (1 : Int32))))), .second, .val (.long ((own_bit_f (if (p0 &&& (2 : Int32)) = (0 : Int32) then (0 : Int32) else (1 : Int32))) + (own_bit_f (if (p1 &&& (2 : Int32)) = (0 : Int32) then (0 : Int32) else (1 : Int32))))), .second]) rfl ?_
    show Steps p.tables e below (T172.setTop (mkF m 126 #[.val (.int p0), .val (.int p1), .val (.int (if (p0 &&& (1 : Int32)) = (0 : Int32) then (0 : Int32) else (1 : Int32))), .val (.int (if (p0 &&& (2 : Int32)) = (0 : Int32) then (0 : Int32) else (1 : Int32))), .val (.int (if (p1 &&& (1 : Int32)) = (0 : Int32) then (0 : Int32) else (1 : Int32))), .val (.int (if (p1 &&& (2 : Int32)) = (0 : Int32) then (0 : Int32) else (1 : Int32))), .val (.ref b54), .val (.long ((own_bit_f (if (p0 &&& (1 : Int32)) = (0 : Int32) then (0 : Int32) else (1 : Int32))) + (own_bit_f (if (p1 &&& (1 : Int32)) = (0 : Int32) then (0 : Int32) else (1 : Int32))))), .second, .val (.long ((own_bit_f (if (p0 &&& (2 : Int32)) = (0 : Int32) then (0 : Int32) else (1 : Int32))) + (own_bit_f (if (p1 &&& (2 : Int32)) = (0 : Int32) then (0 : Int32) else (1 : Int32))))), .second] [])) _
    refine XS.aload X172.here hx rfl (hb hby at_126) rfl rfl ?_
    show Steps p.tables e below (T172.setTop (mkF m 128 #[.val (.int p0), .val (.int p1), .val (.int (if (p0 &&& (1 : Int32)) = (0 : Int32) then (0 : Int32) else (1 : Int32))), .val (.int (if (p0 &&& (2 : Int32)) = (0 : Int32) then (0 : Int32) else (1 : Int32))), .val (.int (if (p1 &&& (1 : Int32)) = (0 : Int32) then (0 : Int32) else (1 : Int32))), .val (.int (if (p1 &&& (2 : Int32)) = (0 : Int32) then (0 : Int32) else (1 : Int32))), .val (.ref b54), .val (.long ((own_bit_f (if (p0 &&& (1 : Int32)) = (0 : Int32) then (0 : Int32) else (1 : Int32))) + (own_bit_f (if (p1 &&& (1 : Int32)) = (0 : Int32) then (0 : Int32) else (1 : Int32))))), .second, .val (.long ((own_bit_f (if (p0 &&& (2 : Int32)) = (0 : Int32) then (0 : Int32) else (1 : Int32))) + (own_bit_f (if (p1 &&& (2 : Int32)) = (0 : Int32) then (0 : Int32) else (1 : Int32))))), .second] [(.ref b54)])) _
    refine XS.iconst X172.here hx rfl (hb hby at_128) ?_
    show Steps p.tables e below (T172.setTop (mkF m 129 #[.val (.int p0), .val (.int p1), .val (.int (if (p0 &&& (1 : Int32)) = (0 : Int32) then (0 : Int32) else (1 : Int32))), .val (.int (if (p0 &&& (2 : Int32)) = (0 : Int32) then (0 : Int32) else (1 : Int32))), .val (.int (if (p1 &&& (1 : Int32)) = (0 : Int32) then (0 : Int32) else (1 : Int32))), .val (.int (if (p1 &&& (2 : Int32)) = (0 : Int32) then (0 : Int32) else (1 : Int32))), .val (.ref b54), .val (.long ((own_bit_f (if (p0 &&& (1 : Int32)) = (0 : Int32) then (0 : Int32) else (1 : Int32))) + (own_bit_f (if (p1 &&& (1 : Int32)) = (0 : Int32) then (0 : Int32) else (1 : Int32))))), .second, .val (.long ((own_bit_f (if (p0 &&& (2 : Int32)) = (0 : Int32) then (0 : Int32) else (1 : Int32))) + (own_bit_f (if (p1 &&& (2 : Int32)) = (0 : Int32) then (0 : Int32) else (1 : Int32))))), .second] [(.int (0 : Int32)), (.ref b54)])) _
    refine st179.trans ?_
    show Steps p.tables e below (T179.setTop (mkF m 132 #[.val (.int p0), .val (.int p1), .val (.int (if (p0 &&& (1 : Int32)) = (0 : Int32) then (0 : Int32) else (1 : Int32))), .val (.int (if (p0 &&& (2 : Int32)) = (0 : Int32) then (0 : Int32) else (1 : Int32))), .val (.int (if (p1 &&& (1 : Int32)) = (0 : Int32) then (0 : Int32) else (1 : Int32))), .val (.int (if (p1 &&& (2 : Int32)) = (0 : Int32) then (0 : Int32) else (1 : Int32))), .val (.ref b54), .val (.long ((own_bit_f (if (p0 &&& (1 : Int32)) = (0 : Int32) then (0 : Int32) else (1 : Int32))) + (own_bit_f (if (p1 &&& (1 : Int32)) = (0 : Int32) then (0 : Int32) else (1 : Int32))))), .second, .val (.long ((own_bit_f (if (p0 &&& (2 : Int32)) = (0 : Int32) then (0 : Int32) else (1 : Int32))) + (own_bit_f (if (p1 &&& (2 : Int32)) = (0 : Int32) then (0 : Int32) else (1 : Int32))))), .second] [(.long (own_ca_f (nar .boolean (if (p1 &&& (1 : Int32)) = (0 : Int32) then (0 : Int32) else (1 : Int32))) (if (nar .boolean (if (p0 &&& (1 : Int32)) = (0 : Int32) then (0 : Int32) else (1 : Int32))) = (0 : Int32) then (0 : Int64) else ((0 : Int64) + (1 : Int64)))))])) _
    refine XS.lload X179.here hx rfl (hb hby at_132) rfl ?_
    show Steps p.tables e below (T179.setTop (mkF m 134 #[.val (.int p0), .val (.int p1), .val (.int (if (p0 &&& (1 : Int32)) = (0 : Int32) then (0 : Int32) else (1 : Int32))), .val (.int (if (p0 &&& (2 : Int32)) = (0 : Int32) then (0 : Int32) else (1 : Int32))), .val (.int (if (p1 &&& (1 : Int32)) = (0 : Int32) then (0 : Int32) else (1 : Int32))), .val (.int (if (p1 &&& (2 : Int32)) = (0 : Int32) then (0 : Int32) else (1 : Int32))), .val (.ref b54), .val (.long ((own_bit_f (if (p0 &&& (1 : Int32)) = (0 : Int32) then (0 : Int32) else (1 : Int32))) + (own_bit_f (if (p1 &&& (1 : Int32)) = (0 : Int32) then (0 : Int32) else (1 : Int32))))), .second, .val (.long ((own_bit_f (if (p0 &&& (2 : Int32)) = (0 : Int32) then (0 : Int32) else (1 : Int32))) + (own_bit_f (if (p1 &&& (2 : Int32)) = (0 : Int32) then (0 : Int32) else (1 : Int32))))), .second] [(.long ((own_bit_f (if (p0 &&& (1 : Int32)) = (0 : Int32) then (0 : Int32) else (1 : Int32))) + (own_bit_f (if (p1 &&& (1 : Int32)) = (0 : Int32) then (0 : Int32) else (1 : Int32))))), (.long (own_ca_f (nar .boolean (if (p1 &&& (1 : Int32)) = (0 : Int32) then (0 : Int32) else (1 : Int32))) (if (nar .boolean (if (p0 &&& (1 : Int32)) = (0 : Int32) then (0 : Int32) else (1 : Int32))) = (0 : Int32) then (0 : Int64) else ((0 : Int64) + (1 : Int64)))))])) _
    refine XS.lcmp X179.here hx rfl (hb hby at_134) rfl ?_
    show Steps p.tables e below (T179.setTop (mkF m 135 #[.val (.int p0), .val (.int p1), .val (.int (if (p0 &&& (1 : Int32)) = (0 : Int32) then (0 : Int32) else (1 : Int32))), .val (.int (if (p0 &&& (2 : Int32)) = (0 : Int32) then (0 : Int32) else (1 : Int32))), .val (.int (if (p1 &&& (1 : Int32)) = (0 : Int32) then (0 : Int32) else (1 : Int32))), .val (.int (if (p1 &&& (2 : Int32)) = (0 : Int32) then (0 : Int32) else (1 : Int32))), .val (.ref b54), .val (.long ((own_bit_f (if (p0 &&& (1 : Int32)) = (0 : Int32) then (0 : Int32) else (1 : Int32))) + (own_bit_f (if (p1 &&& (1 : Int32)) = (0 : Int32) then (0 : Int32) else (1 : Int32))))), .second, .val (.long ((own_bit_f (if (p0 &&& (2 : Int32)) = (0 : Int32) then (0 : Int32) else (1 : Int32))) + (own_bit_f (if (p1 &&& (2 : Int32)) = (0 : Int32) then (0 : Int32) else (1 : Int32))))), .second] [(.int (lcmpW (own_ca_f (nar .boolean (if (p1 &&& (1 : Int32)) = (0 : Int32) then (0 : Int32) else (1 : Int32))) (if (nar .boolean (if (p0 &&& (1 : Int32)) = (0 : Int32) then (0 : Int32) else (1 : Int32))) = (0 : Int32) then (0 : Int64) else ((0 : Int64) + (1 : Int64)))) ((own_bit_f (if (p0 &&& (1 : Int32)) = (0 : Int32) then (0 : Int32) else (1 : Int32))) + (own_bit_f (if (p1 &&& (1 : Int32)) = (0 : Int32) then (0 : Int32) else (1 : Int32))))))])) _
    refine XS.ifNo X179.here hx rfl (hb hby at_135) rfl ((if0 _ _).trans (teq (own_lcEq.mpr (own_m _ _ : (own_ca_f (nar .boolean (if (p1 &&& (1 : Int32)) = (0 : Int32) then (0 : Int32) else (1 : Int32))) (if (nar .boolean (if (p0 &&& (1 : Int32)) = (0 : Int32) then (0 : Int32) else (1 : Int32))) = (0 : Int32) then (0 : Int64) else ((0 : Int64) + (1 : Int64)))) = ((own_bit_f (if (p0 &&& (1 : Int32)) = (0 : Int32) then (0 : Int32) else (1 : Int32))) + (own_bit_f (if (p1 &&& (1 : Int32)) = (0 : Int32) then (0 : Int32) else (1 : Int32))))))).2) ?_
    show Steps p.tables e below (T179.setTop (mkF m 138 #[.val (.int p0), .val (.int p1), .val (.int (if (p0 &&& (1 : Int32)) = (0 : Int32) then (0 : Int32) else (1 : Int32))), .val (.int (if (p0 &&& (2 : Int32)) = (0 : Int32) then (0 : Int32) else (1 : Int32))), .val (.int (if (p1 &&& (1 : Int32)) = (0 : Int32) then (0 : Int32) else (1 : Int32))), .val (.int (if (p1 &&& (2 : Int32)) = (0 : Int32) then (0 : Int32) else (1 : Int32))), .val (.ref b54), .val (.long ((own_bit_f (if (p0 &&& (1 : Int32)) = (0 : Int32) then (0 : Int32) else (1 : Int32))) + (own_bit_f (if (p1 &&& (1 : Int32)) = (0 : Int32) then (0 : Int32) else (1 : Int32))))), .second, .val (.long ((own_bit_f (if (p0 &&& (2 : Int32)) = (0 : Int32) then (0 : Int32) else (1 : Int32))) + (own_bit_f (if (p1 &&& (2 : Int32)) = (0 : Int32) then (0 : Int32) else (1 : Int32))))), .second] [])) _
    refine XS.aload X179.here hx rfl (hb hby at_138) rfl rfl ?_
    show Steps p.tables e below (T179.setTop (mkF m 140 #[.val (.int p0), .val (.int p1), .val (.int (if (p0 &&& (1 : Int32)) = (0 : Int32) then (0 : Int32) else (1 : Int32))), .val (.int (if (p0 &&& (2 : Int32)) = (0 : Int32) then (0 : Int32) else (1 : Int32))), .val (.int (if (p1 &&& (1 : Int32)) = (0 : Int32) then (0 : Int32) else (1 : Int32))), .val (.int (if (p1 &&& (2 : Int32)) = (0 : Int32) then (0 : Int32) else (1 : Int32))), .val (.ref b54), .val (.long ((own_bit_f (if (p0 &&& (1 : Int32)) = (0 : Int32) then (0 : Int32) else (1 : Int32))) + (own_bit_f (if (p1 &&& (1 : Int32)) = (0 : Int32) then (0 : Int32) else (1 : Int32))))), .second, .val (.long ((own_bit_f (if (p0 &&& (2 : Int32)) = (0 : Int32) then (0 : Int32) else (1 : Int32))) + (own_bit_f (if (p1 &&& (2 : Int32)) = (0 : Int32) then (0 : Int32) else (1 : Int32))))), .second] [(.ref b54)])) _
    refine XS.iconst X179.here hx rfl (hb hby at_140) ?_
    show Steps p.tables e below (T179.setTop (mkF m 141 #[.val (.int p0), .val (.int p1), .val (.int (if (p0 &&& (1 : Int32)) = (0 : Int32) then (0 : Int32) else (1 : Int32))), .val (.int (if (p0 &&& (2 : Int32)) = (0 : Int32) then (0 : Int32) else (1 : Int32))), .val (.int (if (p1 &&& (1 : Int32)) = (0 : Int32) then (0 : Int32) else (1 : Int32))), .val (.int (if (p1 &&& (2 : Int32)) = (0 : Int32) then (0 : Int32) else (1 : Int32))), .val (.ref b54), .val (.long ((own_bit_f (if (p0 &&& (1 : Int32)) = (0 : Int32) then (0 : Int32) else (1 : Int32))) + (own_bit_f (if (p1 &&& (1 : Int32)) = (0 : Int32) then (0 : Int32) else (1 : Int32))))), .second, .val (.long ((own_bit_f (if (p0 &&& (2 : Int32)) = (0 : Int32) then (0 : Int32) else (1 : Int32))) + (own_bit_f (if (p1 &&& (2 : Int32)) = (0 : Int32) then (0 : Int32) else (1 : Int32))))), .second] [(.int (1 : Int32)), (.ref b54)])) _
    refine st191.trans ?_
    show Steps p.tables e below (T191.setTop (mkF m 144 #[.val (.int p0), .val (.int p1), .val (.int (if (p0 &&& (1 : Int32)) = (0 : Int32) then (0 : Int32) else (1 : Int32))), .val (.int (if (p0 &&& (2 : Int32)) = (0 : Int32) then (0 : Int32) else (1 : Int32))), .val (.int (if (p1 &&& (1 : Int32)) = (0 : Int32) then (0 : Int32) else (1 : Int32))), .val (.int (if (p1 &&& (2 : Int32)) = (0 : Int32) then (0 : Int32) else (1 : Int32))), .val (.ref b54), .val (.long ((own_bit_f (if (p0 &&& (1 : Int32)) = (0 : Int32) then (0 : Int32) else (1 : Int32))) + (own_bit_f (if (p1 &&& (1 : Int32)) = (0 : Int32) then (0 : Int32) else (1 : Int32))))), .second, .val (.long ((own_bit_f (if (p0 &&& (2 : Int32)) = (0 : Int32) then (0 : Int32) else (1 : Int32))) + (own_bit_f (if (p1 &&& (2 : Int32)) = (0 : Int32) then (0 : Int32) else (1 : Int32))))), .second] [(.long (own_ca_f (nar .boolean (if (p1 &&& (2 : Int32)) = (0 : Int32) then (0 : Int32) else (1 : Int32))) (if (nar .boolean (if (p0 &&& (2 : Int32)) = (0 : Int32) then (0 : Int32) else (1 : Int32))) = (0 : Int32) then (0 : Int64) else ((0 : Int64) + (1 : Int64)))))])) _
    refine XS.lload X191.here hx rfl (hb hby at_144) rfl ?_
    show Steps p.tables e below (T191.setTop (mkF m 146 #[.val (.int p0), .val (.int p1), .val (.int (if (p0 &&& (1 : Int32)) = (0 : Int32) then (0 : Int32) else (1 : Int32))), .val (.int (if (p0 &&& (2 : Int32)) = (0 : Int32) then (0 : Int32) else (1 : Int32))), .val (.int (if (p1 &&& (1 : Int32)) = (0 : Int32) then (0 : Int32) else (1 : Int32))), .val (.int (if (p1 &&& (2 : Int32)) = (0 : Int32) then (0 : Int32) else (1 : Int32))), .val (.ref b54), .val (.long ((own_bit_f (if (p0 &&& (1 : Int32)) = (0 : Int32) then (0 : Int32) else (1 : Int32))) + (own_bit_f (if (p1 &&& (1 : Int32)) = (0 : Int32) then (0 : Int32) else (1 : Int32))))), .second, .val (.long ((own_bit_f (if (p0 &&& (2 : Int32)) = (0 : Int32) then (0 : Int32) else (1 : Int32))) + (own_bit_f (if (p1 &&& (2 : Int32)) = (0 : Int32) then (0 : Int32) else (1 : Int32))))), .second] [(.long ((own_bit_f (if (p0 &&& (2 : Int32)) = (0 : Int32) then (0 : Int32) else (1 : Int32))) + (own_bit_f (if (p1 &&& (2 : Int32)) = (0 : Int32) then (0 : Int32) else (1 : Int32))))), (.long (own_ca_f (nar .boolean (if (p1 &&& (2 : Int32)) = (0 : Int32) then (0 : Int32) else (1 : Int32))) (if (nar .boolean (if (p0 &&& (2 : Int32)) = (0 : Int32) then (0 : Int32) else (1 : Int32))) = (0 : Int32) then (0 : Int64) else ((0 : Int64) + (1 : Int64)))))])) _
    refine XS.lcmp X191.here hx rfl (hb hby at_146) rfl ?_
    show Steps p.tables e below (T191.setTop (mkF m 147 #[.val (.int p0), .val (.int p1), .val (.int (if (p0 &&& (1 : Int32)) = (0 : Int32) then (0 : Int32) else (1 : Int32))), .val (.int (if (p0 &&& (2 : Int32)) = (0 : Int32) then (0 : Int32) else (1 : Int32))), .val (.int (if (p1 &&& (1 : Int32)) = (0 : Int32) then (0 : Int32) else (1 : Int32))), .val (.int (if (p1 &&& (2 : Int32)) = (0 : Int32) then (0 : Int32) else (1 : Int32))), .val (.ref b54), .val (.long ((own_bit_f (if (p0 &&& (1 : Int32)) = (0 : Int32) then (0 : Int32) else (1 : Int32))) + (own_bit_f (if (p1 &&& (1 : Int32)) = (0 : Int32) then (0 : Int32) else (1 : Int32))))), .second, .val (.long ((own_bit_f (if (p0 &&& (2 : Int32)) = (0 : Int32) then (0 : Int32) else (1 : Int32))) + (own_bit_f (if (p1 &&& (2 : Int32)) = (0 : Int32) then (0 : Int32) else (1 : Int32))))), .second] [(.int (lcmpW (own_ca_f (nar .boolean (if (p1 &&& (2 : Int32)) = (0 : Int32) then (0 : Int32) else (1 : Int32))) (if (nar .boolean (if (p0 &&& (2 : Int32)) = (0 : Int32) then (0 : Int32) else (1 : Int32))) = (0 : Int32) then (0 : Int64) else ((0 : Int64) + (1 : Int64)))) ((own_bit_f (if (p0 &&& (2 : Int32)) = (0 : Int32) then (0 : Int32) else (1 : Int32))) + (own_bit_f (if (p1 &&& (2 : Int32)) = (0 : Int32) then (0 : Int32) else (1 : Int32))))))])) _
    refine XS.ifNo X191.here hx rfl (hb hby at_147) rfl ((if0 _ _).trans (teq (own_lcEq.mpr (own_m _ _ : (own_ca_f (nar .boolean (if (p1 &&& (2 : Int32)) = (0 : Int32) then (0 : Int32) else (1 : Int32))) (if (nar .boolean (if (p0 &&& (2 : Int32)) = (0 : Int32) then (0 : Int32) else (1 : Int32))) = (0 : Int32) then (0 : Int64) else ((0 : Int64) + (1 : Int64)))) = ((own_bit_f (if (p0 &&& (2 : Int32)) = (0 : Int32) then (0 : Int32) else (1 : Int32))) + (own_bit_f (if (p1 &&& (2 : Int32)) = (0 : Int32) then (0 : Int32) else (1 : Int32))))))).2) ?_
    show Steps p.tables e below (T191.setTop (mkF m 150 #[.val (.int p0), .val (.int p1), .val (.int (if (p0 &&& (1 : Int32)) = (0 : Int32) then (0 : Int32) else (1 : Int32))), .val (.int (if (p0 &&& (2 : Int32)) = (0 : Int32) then (0 : Int32) else (1 : Int32))), .val (.int (if (p1 &&& (1 : Int32)) = (0 : Int32) then (0 : Int32) else (1 : Int32))), .val (.int (if (p1 &&& (2 : Int32)) = (0 : Int32) then (0 : Int32) else (1 : Int32))), .val (.ref b54), .val (.long ((own_bit_f (if (p0 &&& (1 : Int32)) = (0 : Int32) then (0 : Int32) else (1 : Int32))) + (own_bit_f (if (p1 &&& (1 : Int32)) = (0 : Int32) then (0 : Int32) else (1 : Int32))))), .second, .val (.long ((own_bit_f (if (p0 &&& (2 : Int32)) = (0 : Int32) then (0 : Int32) else (1 : Int32))) + (own_bit_f (if (p1 &&& (2 : Int32)) = (0 : Int32) then (0 : Int32) else (1 : Int32))))), .second] [])) _
    refine XS.iconst X191.here hx rfl (hb hby at_150) ?_
    show Steps p.tables e below (T191.setTop (mkF m 151 #[.val (.int p0), .val (.int p1), .val (.int (if (p0 &&& (1 : Int32)) = (0 : Int32) then (0 : Int32) else (1 : Int32))), .val (.int (if (p0 &&& (2 : Int32)) = (0 : Int32) then (0 : Int32) else (1 : Int32))), .val (.int (if (p1 &&& (1 : Int32)) = (0 : Int32) then (0 : Int32) else (1 : Int32))), .val (.int (if (p1 &&& (2 : Int32)) = (0 : Int32) then (0 : Int32) else (1 : Int32))), .val (.ref b54), .val (.long ((own_bit_f (if (p0 &&& (1 : Int32)) = (0 : Int32) then (0 : Int32) else (1 : Int32))) + (own_bit_f (if (p1 &&& (1 : Int32)) = (0 : Int32) then (0 : Int32) else (1 : Int32))))), .second, .val (.long ((own_bit_f (if (p0 &&& (2 : Int32)) = (0 : Int32) then (0 : Int32) else (1 : Int32))) + (own_bit_f (if (p1 &&& (2 : Int32)) = (0 : Int32) then (0 : Int32) else (1 : Int32))))), .second] [(.int (1 : Int32))])) _
    refine XS.goto X191.here hx rfl (pc0 := 151) (pc' := 155) rfl (hb hby at_151) (by decide) (by decide) ?_
    show Steps p.tables e below (T191.setTop (mkF m 155 #[.val (.int p0), .val (.int p1), .val (.int (if (p0 &&& (1 : Int32)) = (0 : Int32) then (0 : Int32) else (1 : Int32))), .val (.int (if (p0 &&& (2 : Int32)) = (0 : Int32) then (0 : Int32) else (1 : Int32))), .val (.int (if (p1 &&& (1 : Int32)) = (0 : Int32) then (0 : Int32) else (1 : Int32))), .val (.int (if (p1 &&& (2 : Int32)) = (0 : Int32) then (0 : Int32) else (1 : Int32))), .val (.ref b54), .val (.long ((own_bit_f (if (p0 &&& (1 : Int32)) = (0 : Int32) then (0 : Int32) else (1 : Int32))) + (own_bit_f (if (p1 &&& (1 : Int32)) = (0 : Int32) then (0 : Int32) else (1 : Int32))))), .second, .val (.long ((own_bit_f (if (p0 &&& (2 : Int32)) = (0 : Int32) then (0 : Int32) else (1 : Int32))) + (own_bit_f (if (p1 &&& (2 : Int32)) = (0 : Int32) then (0 : Int32) else (1 : Int32))))), .second] [(.int (1 : Int32))])) _
    exact retN X191 hx (t := .boolean) Bd.returns (by simp) (hb hby at_155) hr
  · show Qown_law Z p0 p1 w_d k_d h0 n0 _ T191.heap _
    rw [eh191]
    exact ⟨rfl, N192⟩
set_option maxRecDepth 65536 in
set_option maxHeartbeats 40000000 in
theorem comes_1 {Post : Tables → Env → Array Value → State → Outcome → State → Prop} (hpost : ∀ tb e args s v u, (limb_1_1.after args s (.returned v) u = true ∧ limb_1_2.after args s (.returned v) u = true ∧ True) → FrameEnd s (.returned v) u (Jvm.fieldLocs frame_1_writes args s ++ Jvm.arrayLocs frame_1_arrays args s ++ Jvm.staticLocs frame_1_statics s) 32 128 → Post tb e args s (.returned v) u) :
    ArmFor flags0 classFile x code maxLocals ret World_1 tables_1 room_1 Calls_1 rest_1 Pre_1 Post := by
  intro l hfl _ _ p e ha hc hk s m args below hf hA hF happ hP
  obtain ⟨hcalls, hrest, hpre⟩ := hP
  obtain ⟨-, -, -, hnamed, -, -, -, hat⟩ := (Spec.applies_iff hf).mp happ
  obtain ⟨hg, hn⟩ := and_e (Cond.before_iff.mp (show (Jvm.Cond.and given_1 narrow_1).before args s = true from hpre))
  obtain ⟨gg1, gg2⟩ := and_e hg
  obtain ⟨gg3, gg4⟩ := and_e gg2
  obtain ⟨w0, w1, rfl⟩ : ∃ w0 w1 : Value, args = #[w0, w1] := by
    have hs : args.size = 2 := by simpa [Cond.value, given_1] using gg1
    obtain ⟨L⟩ := args
    match L, hs with
    | [w0, w1], _ => exact ⟨w0, w1, rfl⟩
  have hw := fun d (hd : d ∈ tables_1) => atoms_spec (ws := Jvm.Cond.code x code maxLocals ret :: tables_1) hat d (List.mem_cons_of_mem _ hd)
  have hfit : Fit s := fun {y c} hc i hi => by
    obtain ⟨ha, rfl⟩ := Array.getElem?_eq_some_iff.mp hc
    have q := List.all_eq_true.mp ((Array.all_eq_true_iff_forall_mem.mp hF) _ (Array.getElem_mem ha)) i (List.mem_range.mpr hi)
    simpa [Array.getElem?_eq_getElem hi] using q
  obtain ⟨hsets, hown0⟩ := atoms_of _ (rest_1_c_eq ▸ (show rest_1_c.before _ s = true from hrest))
  obtain ⟨i0, ei0⟩ := is_v gg3
  obtain rfl : w0 = (.int i0) := Option.some.inj ei0
  obtain ⟨i1, ei1⟩ := is_v gg4
  obtain rfl : w1 = (.int i1) := Option.some.inj ei1
  obtain ⟨w, k, hS, hV⟩ := own_static hfit (hsets _ (List.mem_of_getElem? (i := 6) rfl)) (hsets _ (List.mem_of_getElem? (i := 8) rfl)) ⟨hw _ (List.mem_of_getElem? (i := 5) rfl), hsets _ (List.mem_of_getElem? (i := 2) rfl)⟩
  obtain ⟨n, o, h1, h2, h3, _, L, rfl, ⟨rfl, N⟩, hq⟩ := own_law l s _ hw tables_1 i0 i1 w k s.heap s.heap.size (Nat.le_refl _) (Old.start s) hS hV p e ha hc hk s m _ below hf ((Spec.applies_iff_loose hf).mp happ).1 ⟨rfl, State.Warmed39.refl s, rfl⟩ trivial
  refine ⟨n, _, h1, h2, h3, hpost _ _ _ _ _ _ ⟨Cond.after_iff.mpr rfl, Cond.after_iff.mpr (eq_i res_at (Term.int_eval (1)) rfl), trivial⟩ ⟨hq.1, hq.2.1, (hq.2.2.sift fun y hy => Or.inr (N y hy)).mono (by decide) (by decide)⟩⟩
theorem main_1_1 : Claimed_1_1 := comes_1 fun _ _ _ _ _ _ h hF => ⟨h.1, hF⟩
theorem main_1_2 : Claimed_1_2 := comes_1 fun _ _ _ _ _ _ h hF => ⟨h.2.1, hF⟩
end Jvm.Pilot.@@N@@
namespace Jvm.Pilot.@@N@@
open Jvm Jvm.ClassFile Sem Op Lib Jvm.Free Jvm.Stand Jvm.Pilot.@@N@@.Jvm.D
/-! MADE BY PROGRAM (witnessworld.py) out of the Statement's table words and the real class files: 29 classes; the members and pool entries that the words name. The judged class is class 1, her method 2. -/
namespace start1
open Jvm.ClassFile
def u (s : String) : CpInfo := .utf8 (stringToUtf16 s)
/-- a pool by its gaps: so many unusable entries, then the entry; so many at the end -/
def gap : Nat → List CpInfo → List CpInfo
  | 0, r => r
  | n + 1, r => .unusable :: gap n r
def poolList (es : List (Nat × CpInfo)) (last : Nat) : List CpInfo := es.foldr (fun e r => gap e.1 (e.2 :: r)) (gap last [])
def pool (es : List (Nat × CpInfo)) (last : Nat) : Array CpInfo := ⟨poolList es last⟩
def fileOf (pool : Array CpInfo) (this : Nat) (attrs : Array Attribute := #[]) (ms : Array MethodInfo := #[]) (fl : Nat := 33) (sup : Nat := 0) (ifs : Array Nat := #[]) (fds : Array FieldInfo := #[]) : ClassFile where
  minorVersion := 0
  majorVersion := 65
  constantPool := pool
  accessFlags := fl
  thisClass := this
  superClass := sup
  interfaces := ifs
  fields := fds
  methods := ms
  attributes := attrs
def plain (name : String) (sup : Option ClassId) : Class where
  name := name
  kind := .ordinary
  loader := none
  accessFlags := 33
  super := sup
  interfaces := #[]
  cf := none
  fields := #[]
  methods := #[]
  instanceTypes := #[]
  staticTypes := #[]
  resolved := #[]
  callSites := []
  init := .initialized
  statics := none
  mirror := none

def pool0 : Array CpInfo := pool [(5, u "<init>"), (0, u "()V"), (1, .class_ 10), (1, u "java/lang/Object")] 113

def k0c0 : Code := { maxStack := 0, maxLocals := 1, code := object_method_1_code, exceptionTable := #[], attributes := #[] }
def k0m0 : Method := { name := "<init>", desc := "()V", sig := { parameters := [], returnType := none }, accessFlags := 1, code := some k0c0 }
/-- java/lang/Object -/
def k0 : Class := { plain "java/lang/Object" none with
  accessFlags := 33
  interfaces := #[]
  cf := some (fileOf pool0 8 #[] #[{ accessFlags := 1, nameIndex := 5, descriptorIndex := 6, attributes := #[] }] 33 0 #[] #[])
  fields := #[]
  methods := #[k0m0]
  instanceTypes := #[]
  staticTypes := #[]
  resolved := Array.replicate 124 none
  statics := none }

def pool1 : Array CpInfo := pool [(2, .class_ 4), (0, .nameAndType 5 6), (0, u "java/lang/Object"), (0, u "<init>"), (0, u "()V"), (0, .class_ 8), (0, u "com/example/tymely/tymely/model/Step"), (0, .class_ 10), (0, u "java/util/ArrayList"), (0, .methodref 9 3), (0, .methodref 7 13), (0, .nameAndType 5 14), (0, u "(ILjava/util/List;)V"), (0, .methodref 7 16), (0, .nameAndType 17 18), (0, u "setTicks"), (0, u "(IZ)V"), (0, .methodref 7 20), (0, .nameAndType 21 6), (0, u "advance"), (0, .methodref 23 24), (0, .class_ 25), (0, .nameAndType 26 27), (0, u "com/example/tymely/tymely/model/StepCountAfterPinLaw"), (0, u "bit"), (0, u "(Z)J"), (0, .methodref 7 29), (0, .nameAndType 30 31), (0, u "countAfter"), (0, u "(I)J"), (3, u "law"), (0, u "(II)Z")] 2

def k1m0 : Method := { name := "<init>", desc := "()V", sig := { parameters := [], returnType := none }, accessFlags := 1, code := none }
def k1c1 : Code := { maxStack := 2, maxLocals := 1, code := method_2_code, exceptionTable := #[], attributes := #[] }
def k1m1 : Method := { name := "bit", desc := "(Z)J", sig := { parameters := [.boolean], returnType := some .long }, accessFlags := 10, code := some k1c1 }
def k1c2 : Code := { maxStack := 5, maxLocals := 11, code := code, exceptionTable := #[], attributes := #[] }
def k1m2 : Method := { name := "law", desc := "(II)Z", sig := { parameters := [.int, .int], returnType := some .boolean }, accessFlags := 9, code := some k1c2 }
/-- com/example/tymely/tymely/model/StepCountAfterPinLaw -/
def k1 : Class := { plain "com/example/tymely/tymely/model/StepCountAfterPinLaw" (some 0) with
  accessFlags := 49
  interfaces := #[]
  cf := some (fileOf pool1 23 #[] #[{ accessFlags := 1, nameIndex := 5, descriptorIndex := 6, attributes := #[] }, { accessFlags := 10, nameIndex := 26, descriptorIndex := 27, attributes := #[] }, { accessFlags := 9, nameIndex := 35, descriptorIndex := 36, attributes := #[] }] 49 2 #[] #[])
  fields := #[]
  methods := #[k1m0, k1m1, k1m2]
  instanceTypes := #[]
  staticTypes := #[]
  resolved := Array.replicate 39 none
  statics := none }

def pool2 : Array CpInfo := pool [(1, .methodref 2 3), (0, .class_ 4), (0, .nameAndType 5 6), (0, u "com/example/tymely/tymely/model/Step"), (0, u "<init>"), (0, u "(ILjava/util/List;Ljava/util/Random;)V"), (0, .methodref 8 9), (0, .class_ 10), (0, .nameAndType 5 11), (0, u "java/lang/Object"), (0, u "()V"), (0, .fieldref 2 13), (0, .nameAndType 14 15), (0, u "countsBefore"), (0, u "[J"), (0, .fieldref 2 17), (0, .nameAndType 18 19), (0, u "ticking"), (0, u "[Z"), (0, .class_ 21), (0, u "java/util/ArrayList"), (0, .methodref 20 9), (0, .interfaceMethodref 24 25), (0, .class_ 26), (0, .nameAndType 27 28), (0, u "java/util/List"), (0, u "iterator"), (0, u "()Ljava/util/Iterator;"), (0, .interfaceMethodref 30 31), (0, .class_ 32), (0, .nameAndType 33 34), (0, u "java/util/Iterator"), (0, u "hasNext"), (0, u "()Z"), (4, .class_ 40), (0, u "com/example/tymely/tymely/model/Constraint"), (26, .interfaceMethodref 24 68), (0, .nameAndType 69 70), (0, u "toArray"), (0, u "([Ljava/lang/Object;)[Ljava/lang/Object;"), (0, .class_ 72), (0, u "[Lcom/example/tymely/tymely/model/Constraint;"), (0, .fieldref 2 74), (0, .nameAndType 75 72), (0, u "remembering"), (0, .class_ 77), (0, u "com/example/tymely/tymely/model/Memory"), (0, .class_ 79), (0, u "[Lcom/example/tymely/tymely/model/Memory;"), (0, .fieldref 2 81), (0, .nameAndType 82 79), (0, u "memories"), (12, u "advance"), (14, u "(ILjava/util/List;)V"), (10, u "setTicks"), (0, u "(IZ)V"), (1, u "(I)J"), (0, u "countAfter")] 21

def k2c0 : Code := { maxStack := 4, maxLocals := 3, code := prog_56_method_1_code, exceptionTable := #[], attributes := #[] }
def k2m0 : Method := { name := "<init>", desc := "(ILjava/util/List;)V", sig := { parameters := [.int, (.object "java/util/List")], returnType := none }, accessFlags := 1, code := some k2c0 }
def k2c1 : Code := { maxStack := 3, maxLocals := 9, code := prog_56_method_2_code, exceptionTable := #[], attributes := #[] }
def k2m1 : Method := { name := "<init>", desc := "(ILjava/util/List;Ljava/util/Random;)V", sig := { parameters := [.int, (.object "java/util/List"), (.object "java/util/Random")], returnType := none }, accessFlags := 1, code := some k2c1 }
def k2c2 : Code := { maxStack := 3, maxLocals := 3, code := prog_56_method_7_code, exceptionTable := #[], attributes := #[] }
def k2m2 : Method := { name := "setTicks", desc := "(IZ)V", sig := { parameters := [.int, .boolean], returnType := none }, accessFlags := 1, code := some k2c2 }
def k2c3 : Code := { maxStack := 4, maxLocals := 2, code := prog_56_method_9_code, exceptionTable := #[], attributes := #[] }
def k2m3 : Method := { name := "countAfter", desc := "(I)J", sig := { parameters := [.int], returnType := some .long }, accessFlags := 1, code := some k2c3 }
def k2c4 : Code := { maxStack := 6, maxLocals := 5, code := prog_56_method_11_code, exceptionTable := #[], attributes := #[] }
def k2m4 : Method := { name := "advance", desc := "()V", sig := { parameters := [], returnType := none }, accessFlags := 1, code := some k2c4 }
/-- com/example/tymely/tymely/model/Step -/
def k2 : Class := { plain "com/example/tymely/tymely/model/Step" (some 0) with
  accessFlags := 49
  interfaces := #[]
  cf := some (fileOf pool2 2 #[] #[{ accessFlags := 1, nameIndex := 5, descriptorIndex := 110, attributes := #[] }, { accessFlags := 1, nameIndex := 5, descriptorIndex := 6, attributes := #[] }, { accessFlags := 1, nameIndex := 121, descriptorIndex := 122, attributes := #[] }, { accessFlags := 1, nameIndex := 125, descriptorIndex := 124, attributes := #[] }, { accessFlags := 1, nameIndex := 95, descriptorIndex := 11, attributes := #[] }] 49 8 #[] #[{ accessFlags := 18, nameIndex := 14, descriptorIndex := 15, attributes := #[] }, { accessFlags := 18, nameIndex := 18, descriptorIndex := 19, attributes := #[] }, { accessFlags := 18, nameIndex := 75, descriptorIndex := 72, attributes := #[] }, { accessFlags := 18, nameIndex := 82, descriptorIndex := 79, attributes := #[] }])
  fields := #[{ name := "countsBefore", type := (.array .long), accessFlags := 18, slot := 0, constantValue := 0 }, { name := "ticking", type := (.array .boolean), accessFlags := 18, slot := 1, constantValue := 0 }, { name := "remembering", type := (.array (.object "com/example/tymely/tymely/model/Constraint")), accessFlags := 18, slot := 2, constantValue := 0 }, { name := "memories", type := (.array (.object "com/example/tymely/tymely/model/Memory")), accessFlags := 18, slot := 3, constantValue := 0 }]
  methods := #[k2m0, k2m1, k2m2, k2m3, k2m4]
  instanceTypes := #[(.array .long), (.array .boolean), (.array (.object "com/example/tymely/tymely/model/Constraint")), (.array (.object "com/example/tymely/tymely/model/Memory"))]
  staticTypes := #[]
  resolved := Array.replicate 147 none
  statics := none }

def pool3 : Array CpInfo := pool [(8, .class_ 10), (1, u "java/lang/Iterable"), (24, .class_ 36), (0, u "java/lang/Object")] 25

/-- java/lang/Iterable -/
def k3 : Class := { plain "java/lang/Iterable" (some 0) with
  accessFlags := 1537
  interfaces := #[]
  cf := some (fileOf pool3 8 #[] #[] 1537 35 #[] #[])
  fields := #[]
  methods := #[]
  instanceTypes := #[]
  staticTypes := #[]
  resolved := Array.replicate 62 none
  statics := none }

def pool4 : Array CpInfo := pool [(10, .class_ 12), (1, u "java/util/Collection"), (47, .class_ 61), (0, u "java/lang/Object"), (0, .class_ 63), (0, u "java/lang/Iterable")] 51

/-- java/util/Collection -/
def k4 : Class := { plain "java/util/Collection" (some 0) with
  accessFlags := 1537
  interfaces := #[3]
  cf := some (fileOf pool4 10 #[] #[] 1537 60 #[62] #[])
  fields := #[]
  methods := #[]
  instanceTypes := #[]
  staticTypes := #[]
  resolved := Array.replicate 115 none
  statics := none }

def pool5 : Array CpInfo := pool [(1, .methodref 2 3), (0, .class_ 4), (0, .nameAndType 5 6), (0, u "java/lang/Object"), (0, u "<init>"), (0, u "()V"), (1, .class_ 10), (1, u "java/util/AbstractCollection"), (66, .class_ 78), (0, u "java/util/Collection")] 81

def k5c0 : Code := { maxStack := 1, maxLocals := 1, code := jdk_22_method_1_code, exceptionTable := #[], attributes := #[] }
def k5m0 : Method := { name := "<init>", desc := "()V", sig := { parameters := [], returnType := none }, accessFlags := 4, code := some k5c0 }
/-- java/util/AbstractCollection -/
def k5 : Class := { plain "java/util/AbstractCollection" (some 0) with
  accessFlags := 1057
  interfaces := #[4]
  cf := some (fileOf pool5 8 #[] #[{ accessFlags := 4, nameIndex := 5, descriptorIndex := 6, attributes := #[] }] 1057 2 #[77] #[])
  fields := #[]
  methods := #[k5m0]
  instanceTypes := #[]
  staticTypes := #[]
  resolved := Array.replicate 160 none
  statics := none }

def pool6 : Array CpInfo := pool [(8, .class_ 10), (1, u "java/util/SequencedCollection"), (15, .class_ 27), (0, u "java/lang/Object"), (0, .class_ 29), (0, u "java/util/Collection")] 27

/-- java/util/SequencedCollection -/
def k6 : Class := { plain "java/util/SequencedCollection" (some 0) with
  accessFlags := 1537
  interfaces := #[4]
  cf := some (fileOf pool6 8 #[] #[] 1537 26 #[28] #[])
  fields := #[]
  methods := #[]
  instanceTypes := #[]
  staticTypes := #[]
  resolved := Array.replicate 57 none
  statics := none }

def pool7 : Array CpInfo := pool [(8, .class_ 10), (1, u "java/util/List"), (23, u "toArray"), (68, .class_ 104), (0, u "java/lang/Object"), (15, .class_ 121), (0, u "java/util/SequencedCollection"), (1, u "iterator"), (0, u "()Ljava/util/Iterator;"), (2, u "([Ljava/lang/Object;)[Ljava/lang/Object;")] 123

def k7m0 : Method := { name := "iterator", desc := "()Ljava/util/Iterator;", sig := { parameters := [], returnType := some (.object "java/util/Iterator") }, accessFlags := 1025, code := none }
def k7m1 : Method := { name := "toArray", desc := "([Ljava/lang/Object;)[Ljava/lang/Object;", sig := { parameters := [(.array (.object "java/lang/Object"))], returnType := some (.array (.object "java/lang/Object")) }, accessFlags := 1025, code := none }
/-- java/util/List -/
def k7 : Class := { plain "java/util/List" (some 0) with
  accessFlags := 1537
  interfaces := #[6]
  cf := some (fileOf pool7 8 #[] #[{ accessFlags := 1025, nameIndex := 123, descriptorIndex := 124, attributes := #[] }, { accessFlags := 1025, nameIndex := 34, descriptorIndex := 127, attributes := #[] }] 1537 103 #[120] #[])
  fields := #[]
  methods := #[k7m0, k7m1]
  instanceTypes := #[]
  staticTypes := #[]
  resolved := Array.replicate 251 none
  statics := none }

def pool8 : Array CpInfo := pool [(1, .methodref 2 3), (0, .class_ 4), (0, .nameAndType 5 6), (0, u "java/util/AbstractCollection"), (0, u "<init>"), (0, u "()V"), (0, .fieldref 8 9), (0, .class_ 10), (0, .nameAndType 11 12), (0, u "java/util/AbstractList"), (0, u "modCount"), (0, u "I"), (64, .class_ 78), (0, u "java/util/AbstractList$Itr"), (3, .class_ 83), (0, u "java/util/AbstractList$ListItr"), (9, .class_ 94), (0, u "java/util/AbstractList$RandomAccessSubList"), (3, .class_ 99), (0, u "java/util/AbstractList$SubList"), (33, .class_ 134), (0, u "java/util/List"), (73, .class_ 209), (0, u "java/util/AbstractList$SubList$1"), (0, .class_ 211), (0, u "java/util/AbstractList$RandomAccessSpliterator")] 6

def k8c0 : Code := { maxStack := 2, maxLocals := 1, code := jdk_39_method_1_code, exceptionTable := #[], attributes := #[] }
def k8m0 : Method := { name := "<init>", desc := "()V", sig := { parameters := [], returnType := none }, accessFlags := 4, code := some k8c0 }
/-- java/util/AbstractList -/
def k8 : Class := { plain "java/util/AbstractList" (some 5) with
  accessFlags := 1057
  interfaces := #[7]
  cf := some (fileOf pool8 8 #[.nestMembers #[93, 98, 208, 210, 82, 77]] #[{ accessFlags := 4, nameIndex := 5, descriptorIndex := 6, attributes := #[] }] 1057 2 #[133] #[{ accessFlags := 132, nameIndex := 11, descriptorIndex := 12, attributes := #[] }])
  fields := #[{ name := "modCount", type := .int, accessFlags := 132, slot := 0, constantValue := 0 }]
  methods := #[k8m0]
  instanceTypes := #[.int]
  staticTypes := #[]
  resolved := Array.replicate 218 none
  statics := none }

def pool9 : Array CpInfo := pool [(1, .class_ 2), (0, u "java/util/RandomAccess"), (0, .class_ 4), (0, u "java/lang/Object")] 2

/-- java/util/RandomAccess -/
def k9 : Class := { plain "java/util/RandomAccess" (some 0) with
  accessFlags := 1537
  interfaces := #[]
  cf := some (fileOf pool9 1 #[] #[] 1537 3 #[] #[])
  fields := #[]
  methods := #[]
  instanceTypes := #[]
  staticTypes := #[]
  resolved := Array.replicate 7 none
  statics := none }

def pool10 : Array CpInfo := pool [(1, .class_ 2), (0, u "java/lang/Cloneable"), (0, .class_ 4), (0, u "java/lang/Object")] 2

/-- java/lang/Cloneable -/
def k10 : Class := { plain "java/lang/Cloneable" (some 0) with
  accessFlags := 1537
  interfaces := #[]
  cf := some (fileOf pool10 1 #[] #[] 1537 3 #[] #[])
  fields := #[]
  methods := #[]
  instanceTypes := #[]
  staticTypes := #[]
  resolved := Array.replicate 7 none
  statics := none }

def pool11 : Array CpInfo := pool [(1, .class_ 2), (0, u "java/io/Serializable"), (0, .class_ 4), (0, u "java/lang/Object")] 2

/-- java/io/Serializable -/
def k11 : Class := { plain "java/io/Serializable" (some 0) with
  accessFlags := 1537
  interfaces := #[]
  cf := some (fileOf pool11 1 #[] #[] 1537 3 #[] #[])
  fields := #[]
  methods := #[]
  instanceTypes := #[]
  staticTypes := #[]
  resolved := Array.replicate 7 none
  statics := none }

def pool12 : Array CpInfo := pool [(1, .methodref 2 3), (0, .class_ 4), (0, .nameAndType 5 6), (0, u "java/util/AbstractList"), (0, u "<init>"), (0, u "()V"), (2, .fieldref 10 11), (0, .class_ 12), (0, .nameAndType 13 14), (0, u "java/util/ArrayList"), (0, u "elementData"), (0, u "[Ljava/lang/Object;"), (2, u "EMPTY_ELEMENTDATA"), (21, .fieldref 10 40), (0, .nameAndType 41 14), (0, u "DEFAULTCAPACITY_EMPTY_ELEMENTDATA"), (4, u "toArray"), (1, .fieldref 10 49), (0, .nameAndType 50 51), (0, u "size"), (0, u "I"), (60, .methodref 113 114), (0, .class_ 115), (0, .nameAndType 116 117), (0, u "java/lang/System"), (0, u "arraycopy"), (0, u "(Ljava/lang/Object;ILjava/lang/Object;II)V"), (30, .class_ 149), (0, u "java/util/List"), (16, u "iterator"), (0, u "()Ljava/util/Iterator;"), (94, .class_ 263), (0, u "java/util/ArrayList$ListItr"), (3, .class_ 268), (0, u "java/util/ArrayList$Itr"), (0, .methodref 267 270), (0, .nameAndType 5 271), (0, u "(Ljava/util/ArrayList;)V"), (4, .class_ 277), (0, u "java/util/ArrayList$SubList"), (12, .class_ 291), (0, u "java/util/ArrayList$ArrayListSpliterator"), (37, .class_ 330), (0, u "java/util/RandomAccess"), (0, .class_ 332), (0, u "java/lang/Cloneable"), (0, .class_ 334), (0, u "java/io/Serializable"), (0, u "serialVersionUID"), (0, u "J"), (3, u "DEFAULT_CAPACITY"), (34, u "([Ljava/lang/Object;)[Ljava/lang/Object;"), (124, .class_ 501), (0, u "java/util/ArrayList$SubList$2"), (0, .class_ 503), (0, u "java/util/ArrayList$SubList$1")] 5

def k12c0 : Code := { maxStack := 2, maxLocals := 1, code := jdk_38_method_2_code, exceptionTable := #[], attributes := #[] }
def k12m0 : Method := { name := "<init>", desc := "()V", sig := { parameters := [], returnType := none }, accessFlags := 1, code := some k12c0 }
def k12c1 : Code := { maxStack := 5, maxLocals := 2, code := jdk_38_method_17_code, exceptionTable := #[], attributes := #[] }
def k12m1 : Method := { name := "toArray", desc := "([Ljava/lang/Object;)[Ljava/lang/Object;", sig := { parameters := [(.array (.object "java/lang/Object"))], returnType := some (.array (.object "java/lang/Object")) }, accessFlags := 1, code := some k12c1 }
def k12c2 : Code := { maxStack := 3, maxLocals := 1, code := jdk_38_method_55_code, exceptionTable := #[], attributes := #[] }
def k12m2 : Method := { name := "iterator", desc := "()Ljava/util/Iterator;", sig := { parameters := [], returnType := some (.object "java/util/Iterator") }, accessFlags := 1, code := some k12c2 }
/-- java/util/ArrayList -/
def k12 : Class := { plain "java/util/ArrayList" (some 8) with
  accessFlags := 33
  interfaces := #[7, 9, 10, 11]
  cf := some (fileOf pool12 10 #[.nestMembers #[290, 276, 500, 502, 262, 267]] #[{ accessFlags := 1, nameIndex := 5, descriptorIndex := 6, attributes := #[] }, { accessFlags := 1, nameIndex := 46, descriptorIndex := 375, attributes := #[] }, { accessFlags := 1, nameIndex := 166, descriptorIndex := 167, attributes := #[] }] 33 2 #[148, 329, 331, 333] #[{ accessFlags := 26, nameIndex := 335, descriptorIndex := 336, attributes := #[] }, { accessFlags := 26, nameIndex := 340, descriptorIndex := 51, attributes := #[] }, { accessFlags := 26, nameIndex := 17, descriptorIndex := 14, attributes := #[] }, { accessFlags := 26, nameIndex := 41, descriptorIndex := 14, attributes := #[] }, { accessFlags := 128, nameIndex := 13, descriptorIndex := 14, attributes := #[] }, { accessFlags := 2, nameIndex := 50, descriptorIndex := 51, attributes := #[] }])
  fields := #[{ name := "serialVersionUID", type := .long, accessFlags := 26, slot := 0, constantValue := 0 }, { name := "DEFAULT_CAPACITY", type := .int, accessFlags := 26, slot := 1, constantValue := 0 }, { name := "EMPTY_ELEMENTDATA", type := (.array (.object "java/lang/Object")), accessFlags := 26, slot := 2, constantValue := 0 }, { name := "DEFAULTCAPACITY_EMPTY_ELEMENTDATA", type := (.array (.object "java/lang/Object")), accessFlags := 26, slot := 3, constantValue := 0 }, { name := "elementData", type := (.array (.object "java/lang/Object")), accessFlags := 128, slot := 1, constantValue := 0 }, { name := "size", type := .int, accessFlags := 2, slot := 2, constantValue := 0 }]
  methods := #[k12m0, k12m1, k12m2]
  instanceTypes := #[.int, (.array (.object "java/lang/Object")), .int]
  staticTypes := #[.long, .int, (.array (.object "java/lang/Object")), (.array (.object "java/lang/Object"))]
  resolved := Array.replicate 509 none
  statics := some 0 }

def pool13 : Array CpInfo := pool [(16, .class_ 18), (1, u "java/util/Iterator"), (0, u "hasNext"), (0, u "()Z"), (10, .class_ 32), (0, u "java/lang/Object")] 20

def k13m0 : Method := { name := "hasNext", desc := "()Z", sig := { parameters := [], returnType := some .boolean }, accessFlags := 1025, code := none }
/-- java/util/Iterator -/
def k13 : Class := { plain "java/util/Iterator" (some 0) with
  accessFlags := 1537
  interfaces := #[]
  cf := some (fileOf pool13 16 #[] #[{ accessFlags := 1025, nameIndex := 19, descriptorIndex := 20, attributes := #[] }] 1537 31 #[] #[])
  fields := #[]
  methods := #[k13m0]
  instanceTypes := #[]
  staticTypes := #[]
  resolved := Array.replicate 53 none
  statics := none }

def pool14 : Array CpInfo := pool [(1, .fieldref 2 3), (0, .class_ 4), (0, .nameAndType 5 6), (0, u "java/util/ArrayList$Itr"), (0, u "this$0"), (0, u "Ljava/util/ArrayList;"), (0, .methodref 8 9), (0, .class_ 10), (0, .nameAndType 11 12), (0, u "java/lang/Object"), (0, u "<init>"), (0, u "()V"), (0, .fieldref 2 14), (0, .nameAndType 15 16), (0, u "lastRet"), (0, u "I"), (0, .fieldref 18 19), (0, .class_ 20), (0, .nameAndType 21 16), (0, u "java/util/ArrayList"), (0, u "modCount"), (0, .fieldref 2 23), (0, .nameAndType 24 16), (0, u "expectedModCount"), (0, .fieldref 2 26), (0, .nameAndType 27 16), (0, u "cursor"), (0, .fieldref 18 29), (0, .nameAndType 30 16), (0, u "size"), (38, .class_ 70), (0, u "java/util/Iterator"), (0, u "(Ljava/util/ArrayList;)V"), (8, u "hasNext"), (0, u "()Z")] 22

def k14c0 : Code := { maxStack := 2, maxLocals := 2, code := jdk_49_method_1_code, exceptionTable := #[], attributes := #[] }
def k14m0 : Method := { name := "<init>", desc := "(Ljava/util/ArrayList;)V", sig := { parameters := [(.object "java/util/ArrayList")], returnType := none }, accessFlags := 0, code := some k14c0 }
def k14c1 : Code := { maxStack := 2, maxLocals := 1, code := jdk_49_method_2_code, exceptionTable := #[], attributes := #[] }
def k14m1 : Method := { name := "hasNext", desc := "()Z", sig := { parameters := [], returnType := some .boolean }, accessFlags := 1, code := some k14c1 }
/-- java/util/ArrayList$Itr -/
def k14 : Class := { plain "java/util/ArrayList$Itr" (some 0) with
  accessFlags := 32
  interfaces := #[13]
  cf := some (fileOf pool14 2 #[.nestHost 18] #[{ accessFlags := 0, nameIndex := 11, descriptorIndex := 71, attributes := #[] }, { accessFlags := 1, nameIndex := 80, descriptorIndex := 81, attributes := #[] }] 32 8 #[69] #[{ accessFlags := 0, nameIndex := 27, descriptorIndex := 16, attributes := #[] }, { accessFlags := 0, nameIndex := 15, descriptorIndex := 16, attributes := #[] }, { accessFlags := 0, nameIndex := 24, descriptorIndex := 16, attributes := #[] }, { accessFlags := 4112, nameIndex := 5, descriptorIndex := 6, attributes := #[] }])
  fields := #[{ name := "cursor", type := .int, accessFlags := 0, slot := 0, constantValue := 0 }, { name := "lastRet", type := .int, accessFlags := 0, slot := 1, constantValue := 0 }, { name := "expectedModCount", type := .int, accessFlags := 0, slot := 2, constantValue := 0 }, { name := "this$0", type := (.object "java/util/ArrayList"), accessFlags := 4112, slot := 3, constantValue := 0 }]
  methods := #[k14m0, k14m1]
  instanceTypes := #[.int, .int, .int, (.object "java/util/ArrayList")]
  staticTypes := #[]
  resolved := Array.replicate 104 none
  statics := none }

def pool15 : Array CpInfo := pool [(1, .class_ 2), (0, u "com/example/tymely/tymely/model/Constraint"), (0, .class_ 4), (0, u "java/lang/Object")] 23

/-- com/example/tymely/tymely/model/Constraint -/
def k15 : Class := { plain "com/example/tymely/tymely/model/Constraint" (some 0) with
  accessFlags := 1537
  interfaces := #[]
  cf := some (fileOf pool15 1 #[] #[] 1537 3 #[] #[])
  fields := #[]
  methods := #[]
  instanceTypes := #[]
  staticTypes := #[]
  resolved := Array.replicate 28 none
  statics := none }

def pool16 : Array CpInfo := pool [(2, .class_ 4), (1, u "java/lang/Object"), (0, u "<init>"), (0, u "()V"), (1, .class_ 10), (1, u "java/lang/System"), (0, u "allowSecurityManager"), (0, u "I"), (16, u "cons"), (0, u "Ljava/io/Console;"), (77, .class_ 110), (1, u "java/lang/System$CallersHolder"), (43, u "initialErrStream"), (0, u "Ljava/io/PrintStream;"), (19, u "security"), (0, u "Ljava/lang/SecurityManager;"), (31, .class_ 209), (0, u "java/lang/System$1"), (7, u "props"), (0, u "Ljava/util/Properties;"), (2, u "lineSeparator"), (0, u "Ljava/lang/String;"), (96, .class_ 321), (1, u "java/lang/System$LoggerFinder"), (5, .class_ 328), (0, u "java/lang/System$Logger"), (67, u "err"), (2, u "out"), (91, u "notSupportedJnuEncoding"), (15, u "in"), (17, u "initialIn"), (0, u "Ljava/io/InputStream;"), (35, u "bootLayer"), (0, u "Ljava/lang/ModuleLayer;"), (99, .class_ 664), (0, u "java/lang/System$2"), (9, u "NEVER"), (2, u "MAYBE"), (49, u "arraycopy"), (0, u "(Ljava/lang/Object;ILjava/lang/Object;II)V"), (72, .class_ 802), (0, u "java/lang/System$Logger$Level")] 31

def k16m0 : Method := { name := "<init>", desc := "()V", sig := { parameters := [], returnType := none }, accessFlags := 2, code := none }
def k16m1 : Method := { name := "arraycopy", desc := "(Ljava/lang/Object;ILjava/lang/Object;II)V", sig := { parameters := [(.object "java/lang/Object"), .int, (.object "java/lang/Object"), .int, .int], returnType := none }, accessFlags := 265, code := none }
/-- java/lang/System -/
def k16 : Class := { plain "java/lang/System" (some 0) with
  accessFlags := 49
  interfaces := #[]
  cf := some (fileOf pool16 8 #[.nestMembers #[319, 327, 801, 108, 663, 208]] #[{ accessFlags := 2, nameIndex := 5, descriptorIndex := 6, attributes := #[] }, { accessFlags := 265, nameIndex := 727, descriptorIndex := 728, attributes := #[] }] 49 2 #[] #[{ accessFlags := 25, nameIndex := 507, descriptorIndex := 526, attributes := #[] }, { accessFlags := 25, nameIndex := 399, descriptorIndex := 155, attributes := #[] }, { accessFlags := 25, nameIndex := 396, descriptorIndex := 155, attributes := #[] }, { accessFlags := 10, nameIndex := 525, descriptorIndex := 526, attributes := #[] }, { accessFlags := 26, nameIndex := 674, descriptorIndex := 12, attributes := #[] }, { accessFlags := 26, nameIndex := 677, descriptorIndex := 12, attributes := #[] }, { accessFlags := 10, nameIndex := 11, descriptorIndex := 12, attributes := #[] }, { accessFlags := 74, nameIndex := 175, descriptorIndex := 176, attributes := #[] }, { accessFlags := 10, nameIndex := 491, descriptorIndex := 222, attributes := #[] }, { accessFlags := 74, nameIndex := 29, descriptorIndex := 30, attributes := #[] }, { accessFlags := 74, nameIndex := 154, descriptorIndex := 155, attributes := #[] }, { accessFlags := 10, nameIndex := 217, descriptorIndex := 218, attributes := #[] }, { accessFlags := 10, nameIndex := 221, descriptorIndex := 222, attributes := #[] }, { accessFlags := 8, nameIndex := 562, descriptorIndex := 563, attributes := #[] }])
  fields := #[{ name := "in", type := (.object "java/io/InputStream"), accessFlags := 25, slot := 0, constantValue := 0 }, { name := "out", type := (.object "java/io/PrintStream"), accessFlags := 25, slot := 1, constantValue := 0 }, { name := "err", type := (.object "java/io/PrintStream"), accessFlags := 25, slot := 2, constantValue := 0 }, { name := "initialIn", type := (.object "java/io/InputStream"), accessFlags := 10, slot := 3, constantValue := 0 }, { name := "NEVER", type := .int, accessFlags := 26, slot := 4, constantValue := 0 }, { name := "MAYBE", type := .int, accessFlags := 26, slot := 5, constantValue := 0 }, { name := "allowSecurityManager", type := .int, accessFlags := 10, slot := 6, constantValue := 0 }, { name := "security", type := (.object "java/lang/SecurityManager"), accessFlags := 74, slot := 7, constantValue := 0 }, { name := "notSupportedJnuEncoding", type := (.object "java/lang/String"), accessFlags := 10, slot := 8, constantValue := 0 }, { name := "cons", type := (.object "java/io/Console"), accessFlags := 74, slot := 9, constantValue := 0 }, { name := "initialErrStream", type := (.object "java/io/PrintStream"), accessFlags := 74, slot := 10, constantValue := 0 }, { name := "props", type := (.object "java/util/Properties"), accessFlags := 10, slot := 11, constantValue := 0 }, { name := "lineSeparator", type := (.object "java/lang/String"), accessFlags := 10, slot := 12, constantValue := 0 }, { name := "bootLayer", type := (.object "java/lang/ModuleLayer"), accessFlags := 8, slot := 13, constantValue := 0 }]
  methods := #[k16m0, k16m1]
  instanceTypes := #[]
  staticTypes := #[(.object "java/io/InputStream"), (.object "java/io/PrintStream"), (.object "java/io/PrintStream"), (.object "java/io/InputStream"), .int, .int, .int, (.object "java/lang/SecurityManager"), (.object "java/lang/String"), (.object "java/io/Console"), (.object "java/io/PrintStream"), (.object "java/util/Properties"), (.object "java/lang/String"), (.object "java/lang/ModuleLayer")]
  resolved := Array.replicate 834 none
  statics := none }

def pool17 : Array CpInfo := pool [(1, .class_ 2), (0, u "com/example/tymely/tymely/model/Memory"), (0, .class_ 4), (0, u "java/lang/Object")] 6

/-- com/example/tymely/tymely/model/Memory -/
def k17 : Class := { plain "com/example/tymely/tymely/model/Memory" (some 0) with
  accessFlags := 1537
  interfaces := #[]
  cf := some (fileOf pool17 1 #[] #[] 1537 3 #[] #[])
  fields := #[]
  methods := #[]
  instanceTypes := #[]
  staticTypes := #[]
  resolved := Array.replicate 11 none
  statics := none }

/-- the primitive boolean -/
def k18 : Class := { plain "boolean" none with kind := .primitive 'Z', accessFlags := 0x411 }
/-- [Z -/
def k19 : Class := { plain "[Z" (some 0) with kind := .array 18 .boolean, interfaces := #[10, 11], accessFlags := 1041 }

/-- the primitive byte -/
def k20 : Class := { plain "byte" none with kind := .primitive 'B', accessFlags := 0x411 }
/-- [B -/
def k21 : Class := { plain "[B" (some 0) with kind := .array 20 .byte, interfaces := #[10, 11], accessFlags := 1041 }

/-- the primitive int -/
def k22 : Class := { plain "int" none with kind := .primitive 'I', accessFlags := 0x411 }
/-- [I -/
def k23 : Class := { plain "[I" (some 0) with kind := .array 22 .int, interfaces := #[10, 11], accessFlags := 1041 }

/-- the primitive long -/
def k24 : Class := { plain "long" none with kind := .primitive 'J', accessFlags := 0x411 }
/-- [J -/
def k25 : Class := { plain "[J" (some 0) with kind := .array 24 .long, interfaces := #[10, 11], accessFlags := 1041 }

/-- [Lcom/example/tymely/tymely/model/Constraint; -/
def k26 : Class := { plain "[Lcom/example/tymely/tymely/model/Constraint;" (some 0) with kind := .array 15 (.object "com/example/tymely/tymely/model/Constraint"), interfaces := #[10, 11], accessFlags := 1041 }

/-- [Lcom/example/tymely/tymely/model/Memory; -/
def k27 : Class := { plain "[Lcom/example/tymely/tymely/model/Memory;" (some 0) with kind := .array 17 (.object "com/example/tymely/tymely/model/Memory"), interfaces := #[10, 11], accessFlags := 1041 }

/-- [Ljava/lang/Object; -/
def k28 : Class := { plain "[Ljava/lang/Object;" (some 0) with kind := .array 0 (.object "java/lang/Object"), interfaces := #[10, 11], accessFlags := 1041 }

def heap : Heap := #[{ cls := 12, slots := #[.long 0, .int 0, .ref 1, .ref 2], vm := .statics 12 },
  { cls := 28, slots := #[], vm := .none },
  { cls := 28, slots := #[], vm := .none }]
def classes : Array Class := #[k0, k1, k2, k3, k4, k5, k6, k7, k8, k9, k10, k11, k12, k13, k14, k15, k16, k17, k18, k19, k20, k21, k22, k23, k24, k25, k26, k27, k28]
def interned : List (Array UInt16 × Addr) := []
def slotsUsed : Nat := 4
def theMethod : MethodId := ⟨1, 2⟩
def args0 : Array Value := #[.int 5, .int 7]
def aboutOver (below : List Frame) : State where
  vm := { classes := classes, interned := interned.toArray }
  heap := heap
  slotsUsed := slotsUsed
  threads := #[{ frames := .invoking theMethod args0 :: below }]
def below0 : List Frame := [.native { method := ⟨0, 0⟩, args := #[] }]
def about1 : State := aboutOver below0
def p0 : Program := .bare "" "" ""
def e0 : Env := launch0.env 0 0 0
theorem w_frames : about1.frames = Frame.invoking theMethod args0 :: below0 := rfl
set_option maxRecDepth 65536 in
theorem w_args : argsFit about1.vm theMethod args0 = true := by decide +kernel
set_option maxRecDepth 65536 in
theorem w_heap : heapFits about1 = true := by decide +kernel
set_option maxRecDepth 65536 in
theorem w_runnable : about1.curStatus? = some .runnable := by decide +kernel
set_option maxRecDepth 65536 in
theorem w_alone : about1.alone = true := by decide +kernel
set_option maxRecDepth 65536 in
theorem w_named : about1.methodNamed? x = some theMethod := by decide +kernel
set_option maxRecDepth 65536 in
theorem w_hears : about1.hears theMethod below0 = true := by decide +kernel
set_option maxRecDepth 65536 in
theorem w_ripe : about1.ripe theMethod args0 below0 = true := by decide +kernel
theorem w_running : about1.status = .running := rfl
set_option maxRecDepth 65536 in
theorem w_room : about1.hasRoom e0.platform room_1 = true :=
  launch0.hasRoom_least _ room_1 (by decide +kernel) (by decide +kernel) (by decide +kernel) (by decide +kernel) (by decide +kernel) (by decide +kernel)
theorem allAtoms_all (ts : List Jvm.Cond) (a : Array Jvm.Value) (st : Jvm.State) : (allAtoms ts).before a st = ts.all (fun c => c.before a st) := by
  induction ts with
  | nil => rfl
  | cons c t ih =>
    show (Jvm.Cond.and c (allAtoms t)).before a st = _
    rw [Jvm.Cond.before_and, ih, List.all_cons]
def words1 : List Jvm.Cond := Jvm.Cond.code x code maxLocals ret :: tables_1
/-- a 'code' word, met by the world's own term for the bytes: nothing is compared byte by byte -/
theorem code_word {y : MethodName} {bytes : ByteArray} {mx : Nat} {rt : Option FieldType} {a : Array Value} {s : State} {m : MethodId} {meth : Method} {c : Code} (h1 : s.methodNamed? y = some m) (h2 : s.vm.method? m = some meth) (h3 : meth.code = some c) (h4 : c.code = bytes)
    (h5 : (c.maxLocals == mx && c.exceptionTable.isEmpty && decide (c.maxStack ≤ mostOperands) && decide (meth.sig.returnType = rt) && !meth.locks && decide (parseMethodDescriptor y.desc = some meth.sig)) = true) : (Jvm.Cond.code y bytes mx rt).before a s = true := by
  simp only [Bool.and_eq_true, beq_iff_eq, Bool.not_eq_true', decide_eq_true_eq] at h5
  obtain ⟨⟨⟨⟨⟨g1, g2⟩, g3⟩, g4⟩, g5⟩, g6⟩ := h5
  simp [Cond.before, Cond.holds, Cond.value, h1, h2, h3, h4, g1, g2, g3, g4, g5, g6]
def isCode : Jvm.Cond → Bool
  | .code _ _ _ _ => true
  | _ => false
theorem all_split {L : List Jvm.Cond} {P : Jvm.Cond → Bool} (h1 : L.all (fun c => isCode c || P c) = true) (h2 : ∀ c ∈ L.filter isCode, P c = true) : L.all P = true := by
  refine List.all_eq_true.mpr fun c hc => ?_
  have h := List.all_eq_true.mp h1 c hc
  rcases Bool.eq_false_or_eq_true (isCode c) with hi | hi
  · exact h2 c (List.mem_filter.mpr ⟨hc, hi⟩)
  · simpa [hi] using h
set_option maxRecDepth 65536 in
theorem w_c0 : (Jvm.Cond.code x code maxLocals ret).before args0 about1 = true := code_word (m := ⟨1, 2⟩) (meth := k1m2) (c := k1c2) (by decide +kernel) rfl rfl rfl (by decide +kernel)
set_option maxRecDepth 65536 in
theorem w_c1 : (Jvm.Cond.code ({ cls := "java/util/ArrayList", name := "<init>", desc := "()V" } : Jvm.MethodName) jdk_38_method_2_code (1 : Nat) (Option.none : Option Jvm.ClassFile.FieldType)).before args0 about1 = true := code_word (m := ⟨12, 0⟩) (meth := k12m0) (c := k12c0) (by decide +kernel) rfl rfl rfl (by decide +kernel)
set_option maxRecDepth 65536 in
theorem w_c2 : (Jvm.Cond.code ({ cls := "java/util/AbstractList", name := "<init>", desc := "()V" } : Jvm.MethodName) jdk_39_method_1_code (1 : Nat) (Option.none : Option Jvm.ClassFile.FieldType)).before args0 about1 = true := code_word (m := ⟨8, 0⟩) (meth := k8m0) (c := k8c0) (by decide +kernel) rfl rfl rfl (by decide +kernel)
set_option maxRecDepth 65536 in
theorem w_c3 : (Jvm.Cond.code ({ cls := "java/util/AbstractCollection", name := "<init>", desc := "()V" } : Jvm.MethodName) jdk_22_method_1_code (1 : Nat) (Option.none : Option Jvm.ClassFile.FieldType)).before args0 about1 = true := code_word (m := ⟨5, 0⟩) (meth := k5m0) (c := k5c0) (by decide +kernel) rfl rfl rfl (by decide +kernel)
set_option maxRecDepth 65536 in
theorem w_c4 : (Jvm.Cond.code ({ cls := "java/lang/Object", name := "<init>", desc := "()V" } : Jvm.MethodName) object_method_1_code (1 : Nat) (Option.none : Option Jvm.ClassFile.FieldType)).before args0 about1 = true := code_word (m := ⟨0, 0⟩) (meth := k0m0) (c := k0c0) (by decide +kernel) rfl rfl rfl (by decide +kernel)
set_option maxRecDepth 65536 in
theorem w_c5 : (Jvm.Cond.code ({ cls := "com/example/tymely/tymely/model/Step", name := "<init>", desc := "(ILjava/util/List;)V" } : Jvm.MethodName) prog_56_method_1_code (3 : Nat) (Option.none : Option Jvm.ClassFile.FieldType)).before args0 about1 = true := code_word (m := ⟨2, 0⟩) (meth := k2m0) (c := k2c0) (by decide +kernel) rfl rfl rfl (by decide +kernel)
set_option maxRecDepth 65536 in
theorem w_c6 : (Jvm.Cond.code ({ cls := "com/example/tymely/tymely/model/Step", name := "<init>", desc := "(ILjava/util/List;Ljava/util/Random;)V" } : Jvm.MethodName) prog_56_method_2_code (9 : Nat) (Option.none : Option Jvm.ClassFile.FieldType)).before args0 about1 = true := code_word (m := ⟨2, 1⟩) (meth := k2m1) (c := k2c1) (by decide +kernel) rfl rfl rfl (by decide +kernel)
set_option maxRecDepth 65536 in
theorem w_c7 : (Jvm.Cond.code ({ cls := "java/util/ArrayList", name := "iterator", desc := "()Ljava/util/Iterator;" } : Jvm.MethodName) jdk_38_method_55_code (1 : Nat) (Option.some (Jvm.ClassFile.FieldType.object "java/util/Iterator"))).before args0 about1 = true := code_word (m := ⟨12, 2⟩) (meth := k12m2) (c := k12c2) (by decide +kernel) rfl rfl rfl (by decide +kernel)
set_option maxRecDepth 65536 in
theorem w_c8 : (Jvm.Cond.code ({ cls := "java/util/ArrayList$Itr", name := "<init>", desc := "(Ljava/util/ArrayList;)V" } : Jvm.MethodName) jdk_49_method_1_code (2 : Nat) (Option.none : Option Jvm.ClassFile.FieldType)).before args0 about1 = true := code_word (m := ⟨14, 0⟩) (meth := k14m0) (c := k14c0) (by decide +kernel) rfl rfl rfl (by decide +kernel)
set_option maxRecDepth 65536 in
theorem w_c9 : (Jvm.Cond.code ({ cls := "java/util/ArrayList$Itr", name := "hasNext", desc := "()Z" } : Jvm.MethodName) jdk_49_method_2_code (1 : Nat) (Option.some Jvm.ClassFile.FieldType.boolean)).before args0 about1 = true := code_word (m := ⟨14, 1⟩) (meth := k14m1) (c := k14c1) (by decide +kernel) rfl rfl rfl (by decide +kernel)
set_option maxRecDepth 65536 in
theorem w_c10 : (Jvm.Cond.code ({ cls := "java/util/ArrayList", name := "toArray", desc := "([Ljava/lang/Object;)[Ljava/lang/Object;" } : Jvm.MethodName) jdk_38_method_17_code (2 : Nat) (Option.some (Jvm.ClassFile.FieldType.array (Jvm.ClassFile.FieldType.object "java/lang/Object")))).before args0 about1 = true := code_word (m := ⟨12, 1⟩) (meth := k12m1) (c := k12c1) (by decide +kernel) rfl rfl rfl (by decide +kernel)
set_option maxRecDepth 65536 in
theorem w_c11 : (Jvm.Cond.code ({ cls := "com/example/tymely/tymely/model/Step", name := "setTicks", desc := "(IZ)V" } : Jvm.MethodName) prog_56_method_7_code (3 : Nat) (Option.none : Option Jvm.ClassFile.FieldType)).before args0 about1 = true := code_word (m := ⟨2, 2⟩) (meth := k2m2) (c := k2c2) (by decide +kernel) rfl rfl rfl (by decide +kernel)
set_option maxRecDepth 65536 in
theorem w_c12 : (Jvm.Cond.code ({ cls := "com/example/tymely/tymely/model/Step", name := "advance", desc := "()V" } : Jvm.MethodName) prog_56_method_11_code (5 : Nat) (Option.none : Option Jvm.ClassFile.FieldType)).before args0 about1 = true := code_word (m := ⟨2, 4⟩) (meth := k2m4) (c := k2c4) (by decide +kernel) rfl rfl rfl (by decide +kernel)
set_option maxRecDepth 65536 in
theorem w_c13 : (Jvm.Cond.code ({ cls := "com/example/tymely/tymely/model/StepCountAfterPinLaw", name := "bit", desc := "(Z)J" } : Jvm.MethodName) method_2_code (1 : Nat) (Option.some Jvm.ClassFile.FieldType.long)).before args0 about1 = true := code_word (m := ⟨1, 1⟩) (meth := k1m1) (c := k1c1) (by decide +kernel) rfl rfl rfl (by decide +kernel)
set_option maxRecDepth 65536 in
theorem w_c14 : (Jvm.Cond.code ({ cls := "com/example/tymely/tymely/model/Step", name := "countAfter", desc := "(I)J" } : Jvm.MethodName) prog_56_method_9_code (2 : Nat) (Option.some Jvm.ClassFile.FieldType.long)).before args0 about1 = true := code_word (m := ⟨2, 3⟩) (meth := k2m3) (c := k2c3) (by decide +kernel) rfl rfl rfl (by decide +kernel)
def codes1 : List Jvm.Cond := [Jvm.Cond.code x code maxLocals ret, Jvm.Cond.code ({ cls := "java/util/ArrayList", name := "<init>", desc := "()V" } : Jvm.MethodName) jdk_38_method_2_code (1 : Nat) (Option.none : Option Jvm.ClassFile.FieldType), Jvm.Cond.code ({ cls := "java/util/AbstractList", name := "<init>", desc := "()V" } : Jvm.MethodName) jdk_39_method_1_code (1 : Nat) (Option.none : Option Jvm.ClassFile.FieldType), Jvm.Cond.code ({ cls := "java/util/AbstractCollection", name := "<init>", desc := "()V" } : Jvm.MethodName) jdk_22_method_1_code (1 : Nat) (Option.none : Option Jvm.ClassFile.FieldType), Jvm.Cond.code ({ cls := "java/lang/Object", name := "<init>", desc := "()V" } : Jvm.MethodName) object_method_1_code (1 : Nat) (Option.none : Option Jvm.ClassFile.FieldType), Jvm.Cond.code ({ cls := "com/example/tymely/tymely/model/Step", name := "<init>", desc := "(ILjava/util/List;)V" } : Jvm.MethodName) prog_56_method_1_code (3 : Nat) (Option.none : Option Jvm.ClassFile.FieldType), Jvm.Cond.code ({ cls := "com/example/tymely/tymely/model/Step", name := "<init>", desc := "(ILjava/util/List;Ljava/util/Random;)V" } : Jvm.MethodName) prog_56_method_2_code (9 : Nat) (Option.none : Option Jvm.ClassFile.FieldType), Jvm.Cond.code ({ cls := "java/util/ArrayList", name := "iterator", desc := "()Ljava/util/Iterator;" } : Jvm.MethodName) jdk_38_method_55_code (1 : Nat) (Option.some (Jvm.ClassFile.FieldType.object "java/util/Iterator")), Jvm.Cond.code ({ cls := "java/util/ArrayList$Itr", name := "<init>", desc := "(Ljava/util/ArrayList;)V" } : Jvm.MethodName) jdk_49_method_1_code (2 : Nat) (Option.none : Option Jvm.ClassFile.FieldType), Jvm.Cond.code ({ cls := "java/util/ArrayList$Itr", name := "hasNext", desc := "()Z" } : Jvm.MethodName) jdk_49_method_2_code (1 : Nat) (Option.some Jvm.ClassFile.FieldType.boolean), Jvm.Cond.code ({ cls := "java/util/ArrayList", name := "toArray", desc := "([Ljava/lang/Object;)[Ljava/lang/Object;" } : Jvm.MethodName) jdk_38_method_17_code (2 : Nat) (Option.some (Jvm.ClassFile.FieldType.array (Jvm.ClassFile.FieldType.object "java/lang/Object"))), Jvm.Cond.code ({ cls := "com/example/tymely/tymely/model/Step", name := "setTicks", desc := "(IZ)V" } : Jvm.MethodName) prog_56_method_7_code (3 : Nat) (Option.none : Option Jvm.ClassFile.FieldType), Jvm.Cond.code ({ cls := "com/example/tymely/tymely/model/Step", name := "advance", desc := "()V" } : Jvm.MethodName) prog_56_method_11_code (5 : Nat) (Option.none : Option Jvm.ClassFile.FieldType), Jvm.Cond.code ({ cls := "com/example/tymely/tymely/model/StepCountAfterPinLaw", name := "bit", desc := "(Z)J" } : Jvm.MethodName) method_2_code (1 : Nat) (Option.some Jvm.ClassFile.FieldType.long), Jvm.Cond.code ({ cls := "com/example/tymely/tymely/model/Step", name := "countAfter", desc := "(I)J" } : Jvm.MethodName) prog_56_method_9_code (2 : Nat) (Option.some Jvm.ClassFile.FieldType.long)]
set_option maxRecDepth 65536 in
theorem codes_eq : words1.filter isCode = codes1 := rfl
theorem w_codes : ∀ c ∈ words1.filter isCode, c.before args0 about1 = true := by
  rw [codes_eq]
  intro c hc
  simp only [codes1, List.mem_cons, List.not_mem_nil, or_false] at hc
  rcases hc with rfl | rfl | rfl | rfl | rfl | rfl | rfl | rfl | rfl | rfl | rfl | rfl | rfl | rfl | rfl
  · exact w_c0
  · exact w_c1
  · exact w_c2
  · exact w_c3
  · exact w_c4
  · exact w_c5
  · exact w_c6
  · exact w_c7
  · exact w_c8
  · exact w_c9
  · exact w_c10
  · exact w_c11
  · exact w_c12
  · exact w_c13
  · exact w_c14
set_option maxRecDepth 65536 in
theorem w_t1 : (words1.take 24).all (fun c => isCode c || c.before args0 about1) = true := by decide +kernel
set_option maxRecDepth 65536 in
theorem w_t2 : ((words1.drop 24).take 24).all (fun c => isCode c || c.before args0 about1) = true := by decide +kernel
set_option maxRecDepth 65536 in
theorem w_t3 : (((words1.drop 24).drop 24).take 24).all (fun c => isCode c || c.before args0 about1) = true := by decide +kernel
set_option maxRecDepth 65536 in
theorem w_t4 : ((((words1.drop 24).drop 24).drop 24).take 24).all (fun c => isCode c || c.before args0 about1) = true := by decide +kernel
set_option maxRecDepth 65536 in
theorem w_t5 : (((((words1.drop 24).drop 24).drop 24).drop 24).take 24).all (fun c => isCode c || c.before args0 about1) = true := by decide +kernel
set_option maxRecDepth 65536 in
theorem w_t6 : (((((words1.drop 24).drop 24).drop 24).drop 24).drop 24).all (fun c => isCode c || c.before args0 about1) = true := by decide +kernel
theorem w_tables : (allAtoms (Jvm.Cond.code x code maxLocals ret :: tables_1)).before args0 about1 = true := by
  rw [allAtoms_all]
  show words1.all (fun c => c.before args0 about1) = true
  refine all_split ?_ w_codes
  rw [← List.take_append_drop 24 words1, List.all_append, w_t1, ← List.take_append_drop 24 (words1.drop 24), List.all_append, w_t2, ← List.take_append_drop 24 ((words1.drop 24).drop 24), List.all_append, w_t3, ← List.take_append_drop 24 (((words1.drop 24).drop 24).drop 24), List.all_append, w_t4, ← List.take_append_drop 24 ((((words1.drop 24).drop 24).drop 24).drop 24), List.all_append, w_t5, w_t6]
  rfl
set_option maxRecDepth 65536 in
theorem w_rest : rest_1_c.before args0 about1 = true := by decide +kernel
set_option maxRecDepth 65536 in
theorem w_case : (Jvm.Cond.and given_1 narrow_1).before args0 about1 = true := by decide +kernel
theorem w_applies : (headSpec (Jvm.Cond.code x code maxLocals ret :: tables_1) room_1).applies x e0.platform about1 = true :=
  (Spec.applies_iff w_frames).mpr ⟨w_running, w_runnable, w_alone, w_named, w_hears, w_ripe, w_room, w_tables⟩
theorem atStart : AtStart classFile x code maxLocals ret World_1 tables_1 room_1 Calls_1 rest_1 Pre_1 launch0 p0 e0 about1 theMethod args0 below0 :=
  ⟨lists_1, trivial, launch0.admits_env _ _ _, launch0.least_env, fairChoices_fair.cas, fairChoices_fair.clock, w_frames, w_args, w_heap, w_applies, trivial, w_rest, w_case⟩
end start1
theorem witness_1 : WitnessClaimed_1 := ⟨start1.p0, start1.e0, start1.about1, start1.theMethod, start1.args0, start1.below0, start1.atStart⟩
end Jvm.Pilot.@@N@@
