import JvmDerived
import JvmDerived.Pilot.@@N@@Statement
import JvmDerived.Pilot.@@N@@Code
set_option linter.unusedVariables false
set_option linter.unusedSimpArgs false
@@BLOCK:NumsL.lean.txt@@
namespace Jvm.RoadKit
open Sem ClassFile Op Lib Jvm.Stand Jvm.Free Jvm.LawKit
section New
variable {p : Program} {l : Launch} {e : Env} {R : Room} {s : State} {m : MethodId} {args : Array Value} {below : List Frame} {meth : Method} {c : Code} {T : State} {locs : List Loc} {cells slots : Nat}
theorem retI (X : Stand p l e R s m args below meth c T locs cells slots) (hx : p.tables.exec = Jvm.exec) {pc : Nat} {Ls : Array Slot} {z : Int32} {rest : List Value} (hret : meth.sig.returnType = some .int) (hd : decode c.code pc = .ok (.ireturn, 1)) {fs : List Frame}
    (hl : ∀ (f : JFrame) (acts : List Action), f.method = m → f.locked = none → f.entered = [] → (doReturn e (T.setTop f) acts (some (.int z))).1 = T.setFrames fs) : Steps p.tables e below (T.setTop (mkF m pc Ls (.int z :: rest))) (T.setFrames fs) := by
  have hm' : T.vm.method? m = some meth := X.method'
  have hn : narrow .int (.int z) = .int z := rfl
  show Steps p.tables e below (T.setTop { method := m, pc := pc, locals := Ls, stack := _ :: rest, locked := none }) _
  jvm_step X.here [X.here.top, hx, hd, hm', hret, hn]
  first | (intro acts; rw [hl _ acts rfl rfl rfl]) | rw [hl _ _ rfl rfl rfl]
  exact Steps.refl _
end New
end Jvm.RoadKit
namespace Jvm.Pilot.@@N@@
open Jvm Jvm.ClassFile Sem Op Lib Jvm.Free Jvm.Stand Jvm.LawKit Jvm.RoadKit Bundle Jvm.Pilot.@@N@@.Jvm.D
theorem own_lcLt {x y : Int64} : lcmpW x y < 0 ↔ x < y := by rw [lcW]; exact lc_lt x y
theorem own_lcGt {x y : Int64} : 0 < lcmpW x y ↔ y < x := by rw [lcW]; exact lc_gt x y
theorem own_lcEq {x y : Int64} : lcmpW x y = 0 ↔ x = y := by rw [lcW]; exact lc_eq x y
theorem own_ef_own_max (m : MethodId) (p0 : Int32) (p1 : Int32) : entryFrame m #[(.int p0), (.int p1)] 2 = mkF m 0 #[.val (.int p0), .val (.int p1)] [] := by first | (simp [entryFrame, mkF, argsToLocals, Value.category]; done) | rfl
theorem own_d2_0 : decode jdk_29_method_65_code 0 = .ok (.iload_n 0, 1) := by decide +kernel
theorem own_d2_1 : decode jdk_29_method_65_code 1 = .ok (.iload_n 1, 1) := by decide +kernel
theorem own_d2_2 : decode jdk_29_method_65_code 2 = .ok (.if_icmp .lt 7, 3) := by decide +kernel
theorem own_d2_5 : decode jdk_29_method_65_code 5 = .ok (.iload_n 0, 1) := by decide +kernel
theorem own_d2_6 : decode jdk_29_method_65_code 6 = .ok (.goto 4, 3) := by decide +kernel
theorem own_d2_9 : decode jdk_29_method_65_code 9 = .ok (.iload_n 1, 1) := by decide +kernel
theorem own_d2_10 : decode jdk_29_method_65_code 10 = .ok (.ireturn, 1) := by decide +kernel
def own_max_f (p0 : Int32) (p1 : Int32) : Int32 := (if p0 < p1 then p1 else p0)
def Qown_max (Z : State) (p0 : Int32) (p1 : Int32) (h0 : Heap) (n0 : Nat) (v : Option Value) (h : Heap) (L : List Loc) : Prop := v = some (.int (own_max_f p0 p1)) ∧ Fr n0 L ∧ h = h0
set_option maxRecDepth 65536 in
set_option maxHeartbeats 40000000 in
theorem own_max (l : Launch) (Z : State) (a0 : Array Value) (hw : ∀ d ∈ tables_1, d.before a0 Z = true) (ws : List Jvm.Cond) (p0 : Int32) (p1 : Int32) (h0 : Heap) (n0 : Nat) (Z0 : n0 ≤ h0.size) :
    MetFree l (⟨"java/lang/Math", "max", "(II)I"⟩ : MethodName) (head1 (Jvm.Cond.code (⟨"java/lang/Math", "max", "(II)I"⟩ : MethodName) jdk_29_method_65_code 2 (some .int) :: ws) ({ frames := 0, cells := 0, slots := 0, locals := 0 } : Room)) (fun a U => a = #[(.int p0), (.int p1)] ∧ Z.Warmed39 U.vm ∧ U.heap = h0) (fun _ _ _ _ _ => True) (fun _ U o U' => ∃ v L, o = .returned v ∧ Qown_max Z p0 p1 h0 n0 v U'.heap L ∧ FrameEnd U o U' L ({ frames := 0, cells := 0, slots := 0, locals := 0 } : Room).cells ({ frames := 0, cells := 0, slots := 0, locals := 0 } : Room).slots) := by
  refine MetFree.of_bodySF (Jvm.Free.JP.mathPlain rfl (by decide +kernel)) hisR ?_
  intro p e s m args below meth c s₁ Bd hml0 hP hK
  obtain ⟨rfl, hZ, hh⟩ := hP
  have hx := Bd.exec
  have hby := Bd.bytes
  have hml : c.maxLocals = 2 := hml0
  have hown : s.vm.findClass "java/lang/Math" = some m.cls := findClass_of_methodNamed Bd.named
  have hnm := (name_of_methodNamed Bd.named Bd.method).1
  have X0 : Stand p l e ({ frames := 0, cells := 0, slots := 0, locals := 0 } : Room) s m #[(.int p0), (.int p1)] below meth c s₁ [] 0 0 := Stand.of_body Bd
  have e0 : s₁.heap = h0 := by rw [← hh, Bd.state]; rfl
  have N0 := Fr.nil n0
  have pre0 : ∀ t, Steps p.tables e below (s₁.setTop (mkF m 0 #[.val (.int p0), .val (.int p1)] [])) t → Steps p.tables e below (s₁.setTop (entryFrame m #[(.int p0), (.int p1)] 2)) t := fun t k => castTop (own_ef_own_max m p0 p1) k
  have pre4 : ∀ t, Steps p.tables e below (s₁.setTop (mkF m 2 #[.val (.int p0), .val (.int p1)] [(.int p1), (.int p0)])) t → Steps p.tables e below (s₁.setTop (entryFrame m #[(.int p0), (.int p1)] 2)) t := by
    intro t kt
    refine pre0 _ ?_
    show Steps p.tables e below (s₁.setTop (mkF m 0 #[.val (.int p0), .val (.int p1)] [])) _
    refine XS.iloadN X0.here hx rfl (hb hby own_d2_0) rfl ?_
    show Steps p.tables e below (s₁.setTop (mkF m 1 #[.val (.int p0), .val (.int p1)] [(.int p0)])) _
    refine XS.iloadN X0.here hx rfl (hb hby own_d2_1) rfl ?_
    exact kt
  by_cases hc2_5 : p0 < p1
  · obtain ⟨fs, hr, hrun, hended, hW, hsame⟩ := X0.leave (v := some (.int p1)) (fun h => by rw [Bd.returns] at h; cases h) (hlocks := BodyLoose.notSynchronized Bd)
    refine ⟨_, _, pre4 _ ?_, hrun, hended, _, _, rfl, ?_, ⟨_, rfl⟩, hW, hsame.mono (by decide) (by decide)⟩
    · show Steps p.tables e below (s₁.setTop (mkF m 2 #[.val (.int p0), .val (.int p1)] [(.int p1), (.int p0)])) _
      refine XS.icmpYes X0.here hx rfl (pc0 := 2) (pc' := 9) rfl (hb hby own_d2_2) rfl (tlt hc2_5).1 (by decide) (by decide) ?_
      show Steps p.tables e below (s₁.setTop (mkF m 9 #[.val (.int p0), .val (.int p1)] [])) _
      refine XS.iloadN X0.here hx rfl (hb hby own_d2_9) rfl ?_
      show Steps p.tables e below (s₁.setTop (mkF m 10 #[.val (.int p0), .val (.int p1)] [(.int p1)])) _
      exact retI X0 hx Bd.returns (hb hby own_d2_10) hr
    · show Qown_max Z p0 p1 h0 n0 _ s₁.heap _
      rw [e0]
      have hv : (own_max_f p0 p1) = p1 := by unfold own_max_f; rw [if_pos hc2_5]
      exact ⟨(by rw [hv]), N0, rfl⟩
  · obtain ⟨fs, hr, hrun, hended, hW, hsame⟩ := X0.leave (v := some (.int p0)) (fun h => by rw [Bd.returns] at h; cases h) (hlocks := BodyLoose.notSynchronized Bd)
    refine ⟨_, _, pre4 _ ?_, hrun, hended, _, _, rfl, ?_, ⟨_, rfl⟩, hW, hsame.mono (by decide) (by decide)⟩
    · show Steps p.tables e below (s₁.setTop (mkF m 2 #[.val (.int p0), .val (.int p1)] [(.int p1), (.int p0)])) _
      refine XS.icmpNo X0.here hx rfl (hb hby own_d2_2) rfl (flt hc2_5).1 ?_
      show Steps p.tables e below (s₁.setTop (mkF m 5 #[.val (.int p0), .val (.int p1)] [])) _
      refine XS.iloadN X0.here hx rfl (hb hby own_d2_5) rfl ?_
      show Steps p.tables e below (s₁.setTop (mkF m 6 #[.val (.int p0), .val (.int p1)] [(.int p0)])) _
      refine XS.goto X0.here hx rfl (pc0 := 6) (pc' := 10) rfl (hb hby own_d2_6) (by decide) (by decide) ?_
      show Steps p.tables e below (s₁.setTop (mkF m 10 #[.val (.int p0), .val (.int p1)] [(.int p0)])) _
      exact retI X0 hx Bd.returns (hb hby own_d2_10) hr
    · show Qown_max Z p0 p1 h0 n0 _ s₁.heap _
      rw [e0]
      have hv : (own_max_f p0 p1) = p0 := by unfold own_max_f; rw [if_neg hc2_5]
      exact ⟨(by rw [hv]), N0, rfl⟩
theorem own_pn0 : plainName "com/example/merit/merit/PostingsCollectionFrequencyPinLaw" = true := by first | (simp [plainName, overriddenIn]; done) | decide +kernel
theorem own_ef_own_freq (m : MethodId) (p0 : Int32) : entryFrame m #[(.int p0)] 1 = mkF m 0 #[.val (.int p0)] [] := by first | (simp [entryFrame, mkF, argsToLocals, Value.category]; done) | rfl
theorem own_pd0 : parseMethodDescriptor "(II)I" = some ⟨[.int, .int], some .int⟩ := by decide +kernel
theorem own_d1_0 : decode method_2_code 0 = .ok (.iconst 1, 1) := by decide +kernel
theorem own_d1_1 : decode method_2_code 1 = .ok (.iload_n 0, 1) := by decide +kernel
theorem own_d1_2 : decode method_2_code 2 = .ok (.ldc 7, 2) := by decide +kernel
theorem own_d1_4 : decode method_2_code 4 = .ok (.iand, 1) := by decide +kernel
theorem own_d1_5 : decode method_2_code 5 = .ok (.invokestatic 8, 3) := by decide +kernel
theorem own_d1_8 : decode method_2_code 8 = .ok (.ireturn, 1) := by decide +kernel
def own_freq_f (p0 : Int32) : Int32 := (own_max_f (1 : Int32) (p0 &&& (2147483647 : Int32)))
def Qown_freq (Z : State) (p0 : Int32) (h0 : Heap) (n0 : Nat) (v : Option Value) (h : Heap) (L : List Loc) : Prop := v = some (.int (own_freq_f p0)) ∧ Fr n0 L ∧ h = h0
set_option maxRecDepth 65536 in
set_option maxHeartbeats 40000000 in
theorem own_freq (l : Launch) (Z : State) (a0 : Array Value) (hw : ∀ d ∈ tables_1, d.before a0 Z = true) (ws : List Jvm.Cond) (p0 : Int32) (h0 : Heap) (n0 : Nat) (Z0 : n0 ≤ h0.size) :
    MetFree l (⟨"com/example/merit/merit/PostingsCollectionFrequencyPinLaw", "freq", "(I)I"⟩ : MethodName) (head1 (Jvm.Cond.code (⟨"com/example/merit/merit/PostingsCollectionFrequencyPinLaw", "freq", "(I)I"⟩ : MethodName) method_2_code 1 (some .int) :: ws) ({ frames := 1, cells := 0, slots := 0, locals := 13 } : Room)) (fun a U => a = #[(.int p0)] ∧ Z.Warmed39 U.vm ∧ U.heap = h0) (fun _ _ _ _ _ => True) (fun _ U o U' => ∃ v L, o = .returned v ∧ Qown_freq Z p0 h0 n0 v U'.heap L ∧ FrameEnd U o U' L ({ frames := 1, cells := 0, slots := 0, locals := 13 } : Room).cells ({ frames := 1, cells := 0, slots := 0, locals := 13 } : Room).slots) := by
  refine MetFree.of_bodySF (plainFor_of_name own_pn0) hisR ?_
  intro p e s m args below meth c s₁ Bd hml0 hP hK
  obtain ⟨rfl, hZ, hh⟩ := hP
  have hx := Bd.exec
  have hby := Bd.bytes
  have hml : c.maxLocals = 1 := hml0
  have hown : s.vm.findClass "com/example/merit/merit/PostingsCollectionFrequencyPinLaw" = some m.cls := findClass_of_methodNamed Bd.named
  have hnm := (name_of_methodNamed Bd.named Bd.method).1
  have X0 : Stand p l e ({ frames := 1, cells := 0, slots := 0, locals := 13 } : Room) s m #[(.int p0)] below meth c s₁ [] 0 0 := Stand.of_body Bd
  have e0 : s₁.heap = h0 := by rw [← hh, Bd.state]; rfl
  have N0 := Fr.nil n0
  have pre0 : ∀ t, Steps p.tables e below (s₁.setTop (mkF m 0 #[.val (.int p0)] [])) t → Steps p.tables e below (s₁.setTop (entryFrame m #[(.int p0)] 1)) t := fun t k => castTop (own_ef_own_freq m p0) k
  obtain ⟨_, _, ⟨T6, L6, k6, n6⟩, -, X6, ⟨Lc6, hQ6, l6, y6, z6⟩, st6⟩ := Jvm.LawKit.callS X0 hx (y := (⟨"java/lang/Math", "max", "(II)I"⟩ : MethodName)) hown (mvT hZ (hw _ (List.mem_of_getElem? (i := 5) rfl))) (mvT hZ (hw _ (List.mem_of_getElem? (i := 6) rfl))) (mvT hZ (hw _ (List.mem_of_getElem? (i := 7) rfl))) (mvT hZ (hw _ (List.mem_of_getElem? (i := 8) rfl))) (by decide) (backOf (W := 0) (own_max l Z a0 hw [] (1 : Int32) (p0 &&& (2147483647 : Int32)) h0 n0 Z0 ) hZ (hw _ (List.mem_of_getElem? (i := 8) rfl)) (hw _ (List.mem_of_getElem? (i := 7) rfl)) (by decide) (by decide)) (g := (mkF m 5 #[.val (.int p0)] [(.int (p0 &&& (2147483647 : Int32))), (.int (1 : Int32))])) rfl (by rw [hml]; rfl) (argsL := [(.int (1 : Int32)), (.int (p0 &&& (2147483647 : Int32)))]) (rest := []) (lenOf own_pd0 rfl) rfl (by show 2 * 0 + _ ≤ _; exact Nat.le_of_eq rfl) (hb hby own_d1_5) (fun _ _ => ⟨rfl, e0, (by decide : 0 + 0 ≤ _), (by decide : 0 + 0 ≤ _)⟩)
  dsimp only [Pt.U, Pt.locs, Pt.cells, Pt.slots] at X6 l6 y6 z6 st6 hQ6
  subst l6 y6 z6
  obtain ⟨rfl, Nq6, eh6⟩ := hQ6
  have N7 := Fr.app N0 Nq6
  obtain ⟨fs, hr, hrun, hended, hW, hsame⟩ := X6.leave (v := some (.int (own_max_f (1 : Int32) (p0 &&& (2147483647 : Int32))))) (fun h => by rw [Bd.returns] at h; cases h) (hlocks := BodyLoose.notSynchronized Bd)
  refine ⟨_, _, pre0 _ ?_, hrun, hended, _, _, rfl, ?_, ⟨_, rfl⟩, hW, hsame.mono (by decide) (by decide)⟩
  · show Steps p.tables e below (s₁.setTop (mkF m 0 #[.val (.int p0)] [])) _
    refine XS.iconst X0.here hx rfl (hb hby own_d1_0) ?_
    show Steps p.tables e below (s₁.setTop (mkF m 1 #[.val (.int p0)] [(.int (1 : Int32))])) _
    refine XS.iloadN X0.here hx rfl (hb hby own_d1_1) rfl ?_
    show Steps p.tables e below (s₁.setTop (mkF m 2 #[.val (.int p0)] [(.int p0), (.int (1 : Int32))])) _
    refine X0.ldcInt hx hown (mvT hZ (hw _ (List.mem_of_getElem? (i := 4) rfl))) (g := (mkF m 2 #[.val (.int p0)] [(.int p0), (.int (1 : Int32))])) rfl (hb hby own_d1_2) _ ?_
    show Steps p.tables e below (s₁.setTop (mkF m 4 #[.val (.int p0)] [(.int (2147483647 : Int32)), (.int p0), (.int (1 : Int32))])) _
    refine XS.iand X0.here hx rfl (hb hby own_d1_4) rfl ?_
    show Steps p.tables e below (s₁.setTop (mkF m 5 #[.val (.int p0)] [(.int (p0 &&& (2147483647 : Int32))), (.int (1 : Int32))])) _
    refine st6 _ ?_
    show Steps p.tables e below (T6.setTop (mkF m 8 #[.val (.int p0)] [(.int (own_max_f (1 : Int32) (p0 &&& (2147483647 : Int32))))])) _
    exact retI X6 hx Bd.returns (hb hby own_d1_8) hr
  · show Qown_freq Z p0 h0 n0 _ T6.heap _
    rw [eh6]
    have hv : (own_freq_f p0) = (own_max_f (1 : Int32) (p0 &&& (2147483647 : Int32))) := by unfold own_freq_f; rfl
    exact ⟨(by rw [hv]), N7, rfl⟩
theorem own_pn1 : plainName "com/example/merit/merit/Postings" = true := by first | (simp [plainName, overriddenIn]; done) | decide +kernel
theorem own_ef_own_rmI (m : MethodId) (a_o : Addr) (d_o : Addr) (f_o : Addr) : entryFrame m #[(.ref a_o), (.ref d_o), (.ref f_o)] 3 = mkF m 0 #[.val (.ref a_o), .val (.ref d_o), .val (.ref f_o)] [] := by first | (simp [entryFrame, mkF, argsToLocals, Value.category]; done) | rfl
theorem own_d3_0 : decode prog_35_method_1_code 0 = .ok (.aload_n 0, 1) := by decide +kernel
theorem own_d3_1 : decode prog_35_method_1_code 1 = .ok (.invokespecial 1, 3) := by decide +kernel
theorem own_d3_4 : decode prog_35_method_1_code 4 = .ok (.aload_n 1, 1) := by decide +kernel
theorem own_d3_5 : decode prog_35_method_1_code 5 = .ok (.arraylength, 1) := by decide +kernel
theorem own_d3_6 : decode prog_35_method_1_code 6 = .ok (.aload_n 2, 1) := by decide +kernel
theorem own_d3_7 : decode prog_35_method_1_code 7 = .ok (.arraylength, 1) := by decide +kernel
theorem own_d3_8 : decode prog_35_method_1_code 8 = .ok (.if_icmp .eq 13, 3) := by decide +kernel
theorem own_d3_21 : decode prog_35_method_1_code 21 = .ok (.aload_n 0, 1) := by decide +kernel
theorem own_d3_22 : decode prog_35_method_1_code 22 = .ok (.aload_n 1, 1) := by decide +kernel
theorem own_d3_23 : decode prog_35_method_1_code 23 = .ok (.putfield 14, 3) := by decide +kernel
theorem own_d3_26 : decode prog_35_method_1_code 26 = .ok (.aload_n 0, 1) := by decide +kernel
theorem own_d3_27 : decode prog_35_method_1_code 27 = .ok (.aload_n 2, 1) := by decide +kernel
theorem own_d3_28 : decode prog_35_method_1_code 28 = .ok (.putfield 20, 3) := by decide +kernel
theorem own_d3_31 : decode prog_35_method_1_code 31 = .ok (.return_, 1) := by decide +kernel
def Qown_rmI (Z : State) (a_o : Addr) (d_o : Addr) (f_o : Addr) (k_d : ClassId) (k_f : ClassId) (z_1 : Int32) (vs_d : List Value) (vs_f : List Value) (h0 : Heap) (n0 : Nat) (v : Option Value) (h : Heap) (L : List Loc) : Prop := v = none ∧ Fr n0 L ∧ Keep h0 h [a_o] ∧ Exa Z h a_o "com/example/merit/merit/Postings" ∧ Fld Z h a_o "com/example/merit/merit/Postings" "documents" "[I" (.ref d_o) ∧ Fld Z h a_o "com/example/merit/merit/Postings" "frequencies" "[I" (.ref f_o)
set_option maxRecDepth 65536 in
set_option maxHeartbeats 40000000 in
theorem own_rmI (l : Launch) (Z : State) (a0 : Array Value) (hw : ∀ d ∈ tables_1, d.before a0 Z = true) (ws : List Jvm.Cond) (a_o : Addr) (d_o : Addr) (f_o : Addr) (k_d : ClassId) (k_f : ClassId) (z_1 : Int32) (vs_d : List Value) (vs_f : List Value) (h0 : Heap) (n0 : Nat) (Z0 : n0 ≤ h0.size) (Eo : Exa Z h0 a_o "com/example/merit/merit/Postings") (F_d : Fld Z h0 a_o "com/example/merit/merit/Postings" "documents" "[I" .null) (F_f : Fld Z h0 a_o "com/example/merit/merit/Postings" "frequencies" "[I" .null) (V_d : Arv Z h0 d_o k_d .int z_1 vs_d (.int (0 : Int32))) (V_f : Arv Z h0 f_o k_f .int z_1 vs_f (.int (0 : Int32))) (ga : n0 ≤ a_o) :
    MetFree l (⟨"com/example/merit/merit/Postings", "<init>", "([I[I)V"⟩ : MethodName) (head1 (Jvm.Cond.code (⟨"com/example/merit/merit/Postings", "<init>", "([I[I)V"⟩ : MethodName) prog_35_method_1_code 3 none :: ws) ({ frames := 1, cells := 0, slots := 0, locals := 12 } : Room)) (fun a U => a = #[(.ref a_o), (.ref d_o), (.ref f_o)] ∧ Z.Warmed39 U.vm ∧ U.heap = h0) (fun _ _ _ _ _ => True) (fun _ U o U' => ∃ v L, o = .returned v ∧ Qown_rmI Z a_o d_o f_o k_d k_f z_1 vs_d vs_f h0 n0 v U'.heap L ∧ FrameEnd U o U' L ({ frames := 1, cells := 0, slots := 0, locals := 12 } : Room).cells ({ frames := 1, cells := 0, slots := 0, locals := 12 } : Room).slots) := by
  refine MetFree.of_bodySF (plainFor_of_name own_pn1) hisR ?_
  intro p e s m args below meth c s₁ Bd hml0 hP hK
  obtain ⟨rfl, hZ, hh⟩ := hP
  have hx := Bd.exec
  have hby := Bd.bytes
  have hml : c.maxLocals = 3 := hml0
  have hown : s.vm.findClass "com/example/merit/merit/Postings" = some m.cls := findClass_of_methodNamed Bd.named
  have hnm := (name_of_methodNamed Bd.named Bd.method).1
  have X0 : Stand p l e ({ frames := 1, cells := 0, slots := 0, locals := 12 } : Room) s m #[(.ref a_o), (.ref d_o), (.ref f_o)] below meth c s₁ [] 0 0 := Stand.of_body Bd
  have e0 : s₁.heap = h0 := by rw [← hh, Bd.state]; rfl
  have N0 := Fr.nil n0
  have pre0 : ∀ t, Steps p.tables e below (s₁.setTop (mkF m 0 #[.val (.ref a_o), .val (.ref d_o), .val (.ref f_o)] [])) t → Steps p.tables e below (s₁.setTop (entryFrame m #[(.ref a_o), (.ref d_o), (.ref f_o)] 3)) t := fun t k => castTop (own_ef_own_rmI m a_o d_o f_o) k
  obtain ⟨T3, X3, e3, st3⟩ := initO X0 hx hZ hown (hw _ (List.mem_of_getElem? (i := 16) rfl)) (hw _ (List.mem_of_getElem? (i := 17) rfl)) (hw _ (List.mem_of_getElem? (i := 18) rfl)) e0 (g := (mkF m 1 #[.val (.ref a_o), .val (.ref d_o), .val (.ref f_o)] [(.ref a_o)])) rfl (by rw [hml]; rfl) rfl (hb hby own_d3_1) (by decide) (W := 0) (by show 2 * 0 + _ ≤ _; exact Nat.le_of_eq rfl) (by decide)
  obtain ⟨cl6, Ar6, -, S6, M6, -, -⟩ := id V_d
  obtain ⟨cl9, Ar9, -, S9, M9, -, -⟩ := id V_f
  obtain ⟨T14, h14, X14, e14, W14, st14⟩ := putF X3 hx hZ hown (host := "") (Or.inl (hw _ (List.mem_of_getElem? (i := 19) rfl))) Via.refl e3 F_d Eo (Or.inr ⟨(hw _ (List.mem_of_getElem? (i := 20) rfl)), rfl, hnm⟩) (hw _ (List.mem_of_getElem? (i := 11) rfl)) (ty := (.array .int)) (by decide) rfl rfl (g := (mkF m 23 #[.val (.ref a_o), .val (.ref d_o), .val (.ref f_o)] [(.ref d_o), (.ref a_o)])) rfl rfl (hb hby own_d3_23)
  have Kc15 : Keep h0 h14 [a_o] := (Keep.refl h0 [a_o]).wr W14 (Or.inl (List.mem_of_getElem? (i := 0) rfl))
  have Zs16 : n0 ≤ h14.size := Nat.le_trans Z0 (Keep.of_wr W14).1
  have N17 := Fr.snoc X14 N0 ga
  have Fw14 : Fld Z h14 a_o "com/example/merit/merit/Postings" "documents" "[I" (.ref d_o) := F_d.same W14
  have Fq21 : Exa Z h14 a_o "com/example/merit/merit/Postings" := (Eo.wr W14)
  have Fq22 : Fld Z h14 a_o "com/example/merit/merit/Postings" "frequencies" "[I" .null := (F_f.other W14 (Or.inr (slot_ne (Or.inr (hw _ (List.mem_of_getElem? (i := 22) rfl))) (Or.inr (hw _ (List.mem_of_getElem? (i := 20) rfl))) (by decide) (t := (.array .int)) (t' := (.array .int)) (by decide) (by decide))))
  obtain ⟨T23, h23, X23, e23, W23, st23⟩ := putF X14 hx hZ hown (host := "") (Or.inl (hw _ (List.mem_of_getElem? (i := 21) rfl))) Via.refl e14 Fq22 Fq21 (Or.inr ⟨(hw _ (List.mem_of_getElem? (i := 22) rfl)), rfl, hnm⟩) (hw _ (List.mem_of_getElem? (i := 11) rfl)) (ty := (.array .int)) (by decide) rfl rfl (g := (mkF m 28 #[.val (.ref a_o), .val (.ref d_o), .val (.ref f_o)] [(.ref f_o), (.ref a_o)])) rfl rfl (hb hby own_d3_28)
  have Kc24 : Keep h0 h23 [a_o] := Kc15.wr W23 (Or.inl (List.mem_of_getElem? (i := 0) rfl))
  have Zs25 : n0 ≤ h23.size := Nat.le_trans Zs16 (Keep.of_wr W23).1
  have N26 := Fr.snoc X23 N17 ga
  have Fw23 : Fld Z h23 a_o "com/example/merit/merit/Postings" "frequencies" "[I" (.ref f_o) := Fq22.same W23
  obtain ⟨fs, hr, hrun, hended, hW, hsame⟩ := X23.leave (v := none) (fun _ => rfl) (hlocks := BodyLoose.notSynchronized Bd)
  refine ⟨_, _, pre0 _ ?_, hrun, hended, _, _, rfl, ?_, ⟨_, rfl⟩, hW, hsame.mono (by decide) (by decide)⟩
  · show Steps p.tables e below (s₁.setTop (mkF m 0 #[.val (.ref a_o), .val (.ref d_o), .val (.ref f_o)] [])) _
    refine XS.aloadN X0.here hx rfl (hb hby own_d3_0) rfl rfl ?_
    show Steps p.tables e below (s₁.setTop (mkF m 1 #[.val (.ref a_o), .val (.ref d_o), .val (.ref f_o)] [(.ref a_o)])) _
    refine st3 _ ?_
    show Steps p.tables e below (T3.setTop (mkF m 4 #[.val (.ref a_o), .val (.ref d_o), .val (.ref f_o)] [])) _
    refine XS.aloadN X3.here hx rfl (hb hby own_d3_4) rfl rfl ?_
    show Steps p.tables e below (T3.setTop (mkF m 5 #[.val (.ref a_o), .val (.ref d_o), .val (.ref f_o)] [(.ref d_o)])) _
    refine X3.arraylength hx (by rw [e3]; exact Ar6.1) (State.isArrayOf_alike hZ.alike Ar6.2.1) (g := (mkF m 5 #[.val (.ref a_o), .val (.ref d_o), .val (.ref f_o)] [(.ref d_o)])) rfl rfl (hb hby own_d3_5) _ ?_
    rw [len_of S6 M6]
    show Steps p.tables e below (T3.setTop (mkF m 6 #[.val (.ref a_o), .val (.ref d_o), .val (.ref f_o)] [(.int z_1)])) _
    refine XS.aloadN X3.here hx rfl (hb hby own_d3_6) rfl rfl ?_
    show Steps p.tables e below (T3.setTop (mkF m 7 #[.val (.ref a_o), .val (.ref d_o), .val (.ref f_o)] [(.ref f_o), (.int z_1)])) _
    refine X3.arraylength hx (by rw [e3]; exact Ar9.1) (State.isArrayOf_alike hZ.alike Ar9.2.1) (g := (mkF m 7 #[.val (.ref a_o), .val (.ref d_o), .val (.ref f_o)] [(.ref f_o), (.int z_1)])) rfl rfl (hb hby own_d3_7) _ ?_
    rw [len_of S9 M9]
    show Steps p.tables e below (T3.setTop (mkF m 8 #[.val (.ref a_o), .val (.ref d_o), .val (.ref f_o)] [(.int z_1), (.int z_1)])) _
    refine XS.icmpYes X3.here hx rfl (pc0 := 8) (pc' := 21) rfl (hb hby own_d3_8) rfl (teq (rfl : z_1 = z_1)).1 (by decide) (by decide) ?_
    show Steps p.tables e below (T3.setTop (mkF m 21 #[.val (.ref a_o), .val (.ref d_o), .val (.ref f_o)] [])) _
    refine XS.aloadN X3.here hx rfl (hb hby own_d3_21) rfl rfl ?_
    show Steps p.tables e below (T3.setTop (mkF m 22 #[.val (.ref a_o), .val (.ref d_o), .val (.ref f_o)] [(.ref a_o)])) _
    refine XS.aloadN X3.here hx rfl (hb hby own_d3_22) rfl rfl ?_
    show Steps p.tables e below (T3.setTop (mkF m 23 #[.val (.ref a_o), .val (.ref d_o), .val (.ref f_o)] [(.ref d_o), (.ref a_o)])) _
    refine st14 _ ?_
    show Steps p.tables e below (T14.setTop (mkF m 26 #[.val (.ref a_o), .val (.ref d_o), .val (.ref f_o)] [])) _
    refine XS.aloadN X14.here hx rfl (hb hby own_d3_26) rfl rfl ?_
    show Steps p.tables e below (T14.setTop (mkF m 27 #[.val (.ref a_o), .val (.ref d_o), .val (.ref f_o)] [(.ref a_o)])) _
    refine XS.aloadN X14.here hx rfl (hb hby own_d3_27) rfl rfl ?_
    show Steps p.tables e below (T14.setTop (mkF m 28 #[.val (.ref a_o), .val (.ref d_o), .val (.ref f_o)] [(.ref f_o), (.ref a_o)])) _
    refine st23 _ ?_
    show Steps p.tables e below (T23.setTop (mkF m 31 #[.val (.ref a_o), .val (.ref d_o), .val (.ref f_o)] [])) _
    exact X23.returnOut hx Bd.returns (hb hby own_d3_31) hr
  · show Qown_rmI Z a_o d_o f_o k_d k_f z_1 vs_d vs_f h0 n0 _ T23.heap _
    rw [e23]
    have Fq28 : Exa Z h23 a_o "com/example/merit/merit/Postings" := (Fq21.wr W23)
    have Fq29 : Fld Z h23 a_o "com/example/merit/merit/Postings" "documents" "[I" (.ref d_o) := (Fw14.other W23 (Or.inr (slot_ne (Or.inr (hw _ (List.mem_of_getElem? (i := 20) rfl))) (Or.inr (hw _ (List.mem_of_getElem? (i := 22) rfl))) (by decide) (t := (.array .int)) (t' := (.array .int)) (by decide) (by decide))))
    exact ⟨rfl, N26, Kc24, Fq28, Fq29, Fw23⟩
theorem own_ef_own_cf1 (m : MethodId) (a_o : Addr) : entryFrame m #[(.ref a_o)] 7 = mkF m 0 #[.val (.ref a_o), .unset, .unset, .unset, .unset, .unset, .unset] [] := by first | (simp [entryFrame, mkF, argsToLocals, Value.category]; done) | rfl
theorem own_d5_0 : decode prog_35_method_6_code 0 = .ok (.lconst 0, 1) := by decide +kernel
theorem own_d5_1 : decode prog_35_method_6_code 1 = .ok (.lstore_n 1, 1) := by decide +kernel
theorem own_d5_2 : decode prog_35_method_6_code 2 = .ok (.aload_n 0, 1) := by decide +kernel
theorem own_d5_3 : decode prog_35_method_6_code 3 = .ok (.getfield 20, 3) := by decide +kernel
theorem own_d5_6 : decode prog_35_method_6_code 6 = .ok (.astore_n 3, 1) := by decide +kernel
theorem own_d5_7 : decode prog_35_method_6_code 7 = .ok (.aload_n 3, 1) := by decide +kernel
theorem own_d5_8 : decode prog_35_method_6_code 8 = .ok (.arraylength, 1) := by decide +kernel
theorem own_d5_9 : decode prog_35_method_6_code 9 = .ok (.istore 4, 2) := by decide +kernel
theorem own_d5_11 : decode prog_35_method_6_code 11 = .ok (.iconst 0, 1) := by decide +kernel
theorem own_d5_12 : decode prog_35_method_6_code 12 = .ok (.istore 5, 2) := by decide +kernel
theorem own_d5_14 : decode prog_35_method_6_code 14 = .ok (.iload 5, 2) := by decide +kernel
theorem own_d5_16 : decode prog_35_method_6_code 16 = .ok (.iload 4, 2) := by decide +kernel
theorem own_d5_18 : decode prog_35_method_6_code 18 = .ok (.if_icmp .ge 21, 3) := by decide +kernel
theorem own_d5_21 : decode prog_35_method_6_code 21 = .ok (.aload_n 3, 1) := by decide +kernel
theorem own_d5_22 : decode prog_35_method_6_code 22 = .ok (.iload 5, 2) := by decide +kernel
theorem own_d5_24 : decode prog_35_method_6_code 24 = .ok (.iaload, 1) := by decide +kernel
theorem own_d5_25 : decode prog_35_method_6_code 25 = .ok (.istore 6, 2) := by decide +kernel
theorem own_d5_27 : decode prog_35_method_6_code 27 = .ok (.lload_n 1, 1) := by decide +kernel
theorem own_d5_28 : decode prog_35_method_6_code 28 = .ok (.iload 6, 2) := by decide +kernel
theorem own_d5_30 : decode prog_35_method_6_code 30 = .ok (.i2l, 1) := by decide +kernel
theorem own_d5_31 : decode prog_35_method_6_code 31 = .ok (.ladd, 1) := by decide +kernel
theorem own_d5_32 : decode prog_35_method_6_code 32 = .ok (.lstore_n 1, 1) := by decide +kernel
theorem own_d5_33 : decode prog_35_method_6_code 33 = .ok (.iinc 5 1, 3) := by decide +kernel
theorem own_d5_36 : decode prog_35_method_6_code 36 = .ok (.goto (-22), 3) := by decide +kernel
theorem own_d5_39 : decode prog_35_method_6_code 39 = .ok (.lload_n 1, 1) := by decide +kernel
theorem own_d5_40 : decode prog_35_method_6_code 40 = .ok (.lreturn, 1) := by decide +kernel
def Qown_cf1 (Z : State) (a_o : Addr) (f_o : Addr) (k_f : ClassId) (x_0 : Int32) (h0 : Heap) (n0 : Nat) (v : Option Value) (h : Heap) (L : List Loc) : Prop := v = some (.long ((0 : Int64) + (x_0.toInt64))) ∧ Fr n0 L ∧ h = h0
set_option maxRecDepth 65536 in
set_option maxHeartbeats 40000000 in
theorem own_cf1 (l : Launch) (Z : State) (a0 : Array Value) (hw : ∀ d ∈ tables_1, d.before a0 Z = true) (ws : List Jvm.Cond) (a_o : Addr) (f_o : Addr) (k_f : ClassId) (x_0 : Int32) (h0 : Heap) (n0 : Nat) (Z0 : n0 ≤ h0.size) (F_f : Fld Z h0 a_o "com/example/merit/merit/Postings" "frequencies" "[I" (.ref f_o)) (V_f : Arv Z h0 f_o k_f .int (1 : Int32) [(.int x_0)] (.int (0 : Int32))) :
    MetFree l (⟨"com/example/merit/merit/Postings", "collectionFrequency", "()J"⟩ : MethodName) (head1 (Jvm.Cond.code (⟨"com/example/merit/merit/Postings", "collectionFrequency", "()J"⟩ : MethodName) prog_35_method_6_code 7 (some .long) :: ws) ({ frames := 0, cells := 0, slots := 0, locals := 0 } : Room)) (fun a U => a = #[(.ref a_o)] ∧ Z.Warmed39 U.vm ∧ U.heap = h0) (fun _ _ _ _ _ => True) (fun _ U o U' => ∃ v L, o = .returned v ∧ Qown_cf1 Z a_o f_o k_f x_0 h0 n0 v U'.heap L ∧ FrameEnd U o U' L ({ frames := 0, cells := 0, slots := 0, locals := 0 } : Room).cells ({ frames := 0, cells := 0, slots := 0, locals := 0 } : Room).slots) := by
  refine MetFree.of_bodySF (plainFor_of_name own_pn1) hisR ?_
  intro p e s m args below meth c s₁ Bd hml0 hP hK
  obtain ⟨rfl, hZ, hh⟩ := hP
  have hx := Bd.exec
  have hby := Bd.bytes
  have hml : c.maxLocals = 7 := hml0
  have hown : s.vm.findClass "com/example/merit/merit/Postings" = some m.cls := findClass_of_methodNamed Bd.named
  have hnm := (name_of_methodNamed Bd.named Bd.method).1
  have X0 : Stand p l e ({ frames := 0, cells := 0, slots := 0, locals := 0 } : Room) s m #[(.ref a_o)] below meth c s₁ [] 0 0 := Stand.of_body Bd
  have e0 : s₁.heap = h0 := by rw [← hh, Bd.state]; rfl
  have N0 := Fr.nil n0
  have pre0 : ∀ t, Steps p.tables e below (s₁.setTop (mkF m 0 #[.val (.ref a_o), .unset, .unset, .unset, .unset, .unset, .unset] [])) t → Steps p.tables e below (s₁.setTop (entryFrame m #[(.ref a_o)] 7)) t := fun t k => castTop (own_ef_own_cf1 m a_o) k
  obtain ⟨T5, X5, e5, st5⟩ := getF X0 hx hZ hown (host := "") (Or.inl (hw _ (List.mem_of_getElem? (i := 21) rfl))) Via.refl e0 F_f (g := (mkF m 3 #[.val (.ref a_o), .val (.long (0 : Int64)), .second, .unset, .unset, .unset, .unset] [(.ref a_o)])) rfl rfl (hb hby own_d5_3)
  obtain ⟨cl9, Ar9, -, S9, M9, -, -⟩ := id V_f
  obtain ⟨cl19, Ar19, q19, S19, M19, H19, G19⟩ := id V_f
  have hin19 : ¬ ((0 : Int32) < 0 ∨ cl19.slots.size ≤ ((0 : Int32)).toNatClampNeg) := inb_of S19 ⟨by decide, by decide⟩
  have hat19 : cl19.slots[((0 : Int32)).toNatClampNeg]? = some (.int x_0) := H19.at hin19 rfl
  obtain ⟨fs, hr, hrun, hended, hW, hsame⟩ := X5.leave (v := some (.long ((0 : Int64) + (x_0.toInt64)))) (fun h => by rw [Bd.returns] at h; cases h) (hlocks := BodyLoose.notSynchronized Bd)
  refine ⟨_, _, pre0 _ ?_, hrun, hended, _, _, rfl, ?_, ⟨_, rfl⟩, hW, hsame.mono (by decide) (by decide)⟩
  · show Steps p.tables e below (s₁.setTop (mkF m 0 #[.val (.ref a_o), .unset, .unset, .unset, .unset, .unset, .unset] [])) _
    refine XS.lconst X0.here hx rfl (hb hby own_d5_0) ?_
    show Steps p.tables e below (s₁.setTop (mkF m 1 #[.val (.ref a_o), .unset, .unset, .unset, .unset, .unset, .unset] [(.long (0 : Int64))])) _
    refine XS.lstoreN X0.here hx rfl (hb hby own_d5_1) rfl (l' := #[.val (.ref a_o), .val (.long (0 : Int64)), .second, .unset, .unset, .unset, .unset]) rfl ?_
    show Steps p.tables e below (s₁.setTop (mkF m 2 #[.val (.ref a_o), .val (.long (0 : Int64)), .second, .unset, .unset, .unset, .unset] [])) _
    refine XS.aloadN X0.here hx rfl (hb hby own_d5_2) rfl rfl ?_
    show Steps p.tables e below (s₁.setTop (mkF m 3 #[.val (.ref a_o), .val (.long (0 : Int64)), .second, .unset, .unset, .unset, .unset] [(.ref a_o)])) _
    refine st5 _ ?_
    show Steps p.tables e below (T5.setTop (mkF m 6 #[.val (.ref a_o), .val (.long (0 : Int64)), .second, .unset, .unset, .unset, .unset] [(.ref f_o)])) _
    refine XS.astoreN X5.here hx rfl (hb hby own_d5_6) rfl rfl (l' := #[.val (.ref a_o), .val (.long (0 : Int64)), .second, .val (.ref f_o), .unset, .unset, .unset]) rfl ?_
    show Steps p.tables e below (T5.setTop (mkF m 7 #[.val (.ref a_o), .val (.long (0 : Int64)), .second, .val (.ref f_o), .unset, .unset, .unset] [])) _
    refine XS.aloadN X5.here hx rfl (hb hby own_d5_7) rfl rfl ?_
    show Steps p.tables e below (T5.setTop (mkF m 8 #[.val (.ref a_o), .val (.long (0 : Int64)), .second, .val (.ref f_o), .unset, .unset, .unset] [(.ref f_o)])) _
    refine X5.arraylength hx (by rw [e5]; exact Ar9.1) (State.isArrayOf_alike hZ.alike Ar9.2.1) (g := (mkF m 8 #[.val (.ref a_o), .val (.long (0 : Int64)), .second, .val (.ref f_o), .unset, .unset, .unset] [(.ref f_o)])) rfl rfl (hb hby own_d5_8) _ ?_
    rw [len_of S9 M9]
    show Steps p.tables e below (T5.setTop (mkF m 9 #[.val (.ref a_o), .val (.long (0 : Int64)), .second, .val (.ref f_o), .unset, .unset, .unset] [(.int (1 : Int32))])) _
    refine XS.istore X5.here hx rfl (hb hby own_d5_9) rfl (l' := #[.val (.ref a_o), .val (.long (0 : Int64)), .second, .val (.ref f_o), .val (.int (1 : Int32)), .unset, .unset]) rfl ?_
    show Steps p.tables e below (T5.setTop (mkF m 11 #[.val (.ref a_o), .val (.long (0 : Int64)), .second, .val (.ref f_o), .val (.int (1 : Int32)), .unset, .unset] [])) _
    refine XS.iconst X5.here hx rfl (hb hby own_d5_11) ?_
    show Steps p.tables e below (T5.setTop (mkF m 12 #[.val (.ref a_o), .val (.long (0 : Int64)), .second, .val (.ref f_o), .val (.int (1 : Int32)), .unset, .unset] [(.int (0 : Int32))])) _
    refine XS.istore X5.here hx rfl (hb hby own_d5_12) rfl (l' := #[.val (.ref a_o), .val (.long (0 : Int64)), .second, .val (.ref f_o), .val (.int (1 : Int32)), .val (.int (0 : Int32)), .unset]) rfl ?_
    show Steps p.tables e below (T5.setTop (mkF m 14 #[.val (.ref a_o), .val (.long (0 : Int64)), .second, .val (.ref f_o), .val (.int (1 : Int32)), .val (.int (0 : Int32)), .unset] [])) _
    refine XS.iload X5.here hx rfl (hb hby own_d5_14) rfl ?_
    show Steps p.tables e below (T5.setTop (mkF m 16 #[.val (.ref a_o), .val (.long (0 : Int64)), .second, .val (.ref f_o), .val (.int (1 : Int32)), .val (.int (0 : Int32)), .unset] [(.int (0 : Int32))])) _
    refine XS.iload X5.here hx rfl (hb hby own_d5_16) rfl ?_
    show Steps p.tables e below (T5.setTop (mkF m 18 #[.val (.ref a_o), .val (.long (0 : Int64)), .second, .val (.ref f_o), .val (.int (1 : Int32)), .val (.int (0 : Int32)), .unset] [(.int (1 : Int32)), (.int (0 : Int32))])) _
    refine XS.icmpNo X5.here hx rfl (hb hby own_d5_18) rfl (tlt ((by decide) : (0 : Int32) < (1 : Int32))).2.1 ?_
    show Steps p.tables e below (T5.setTop (mkF m 21 #[.val (.ref a_o), .val (.long (0 : Int64)), .second, .val (.ref f_o), .val (.int (1 : Int32)), .val (.int (0 : Int32)), .unset] [])) _
    refine XS.aloadN X5.here hx rfl (hb hby own_d5_21) rfl rfl ?_
    show Steps p.tables e below (T5.setTop (mkF m 22 #[.val (.ref a_o), .val (.long (0 : Int64)), .second, .val (.ref f_o), .val (.int (1 : Int32)), .val (.int (0 : Int32)), .unset] [(.ref f_o)])) _
    refine XS.iload X5.here hx rfl (hb hby own_d5_22) rfl ?_
    show Steps p.tables e below (T5.setTop (mkF m 24 #[.val (.ref a_o), .val (.long (0 : Int64)), .second, .val (.ref f_o), .val (.int (1 : Int32)), .val (.int (0 : Int32)), .unset] [(.int (0 : Int32)), (.ref f_o)])) _
    refine X5.iaload hx (j := (0 : Int32)) (v := (.int x_0)) (by rw [e5]; exact Ar19.1) (State.isArrayOf_alike hZ.alike Ar19.2.1) Ar19.2.2 hin19 hat19 (g := (mkF m 24 #[.val (.ref a_o), .val (.long (0 : Int64)), .second, .val (.ref f_o), .val (.int (1 : Int32)), .val (.int (0 : Int32)), .unset] [(.int (0 : Int32)), (.ref f_o)])) rfl rfl (hb hby own_d5_24) _ ?_
    show Steps p.tables e below (T5.setTop (mkF m 25 #[.val (.ref a_o), .val (.long (0 : Int64)), .second, .val (.ref f_o), .val (.int (1 : Int32)), .val (.int (0 : Int32)), .unset] [(.int x_0)])) _
    refine XS.istore X5.here hx rfl (hb hby own_d5_25) rfl (l' := #[.val (.ref a_o), .val (.long (0 : Int64)), .second, .val (.ref f_o), .val (.int (1 : Int32)), .val (.int (0 : Int32)), .val (.int x_0)]) rfl ?_
    show Steps p.tables e below (T5.setTop (mkF m 27 #[.val (.ref a_o), .val (.long (0 : Int64)), .second, .val (.ref f_o), .val (.int (1 : Int32)), .val (.int (0 : Int32)), .val (.int x_0)] [])) _
    refine XS.lloadN X5.here hx rfl (hb hby own_d5_27) rfl ?_
    show Steps p.tables e below (T5.setTop (mkF m 28 #[.val (.ref a_o), .val (.long (0 : Int64)), .second, .val (.ref f_o), .val (.int (1 : Int32)), .val (.int (0 : Int32)), .val (.int x_0)] [(.long (0 : Int64))])) _
    refine XS.iload X5.here hx rfl (hb hby own_d5_28) rfl ?_
    show Steps p.tables e below (T5.setTop (mkF m 30 #[.val (.ref a_o), .val (.long (0 : Int64)), .second, .val (.ref f_o), .val (.int (1 : Int32)), .val (.int (0 : Int32)), .val (.int x_0)] [(.int x_0), (.long (0 : Int64))])) _
    refine XS.i2l X5.here hx rfl (hb hby own_d5_30) rfl ?_
    show Steps p.tables e below (T5.setTop (mkF m 31 #[.val (.ref a_o), .val (.long (0 : Int64)), .second, .val (.ref f_o), .val (.int (1 : Int32)), .val (.int (0 : Int32)), .val (.int x_0)] [(.long (x_0.toInt64)), (.long (0 : Int64))])) _
    refine XS.ladd X5.here hx rfl (hb hby own_d5_31) rfl ?_
    show Steps p.tables e below (T5.setTop (mkF m 32 #[.val (.ref a_o), .val (.long (0 : Int64)), .second, .val (.ref f_o), .val (.int (1 : Int32)), .val (.int (0 : Int32)), .val (.int x_0)] [(.long ((0 : Int64) + (x_0.toInt64)))])) _
    refine XS.lstoreN X5.here hx rfl (hb hby own_d5_32) rfl (l' := #[.val (.ref a_o), .val (.long ((0 : Int64) + (x_0.toInt64))), .second, .val (.ref f_o), .val (.int (1 : Int32)), .val (.int (0 : Int32)), .val (.int x_0)]) rfl ?_
    show Steps p.tables e below (T5.setTop (mkF m 33 #[.val (.ref a_o), .val (.long ((0 : Int64) + (x_0.toInt64))), .second, .val (.ref f_o), .val (.int (1 : Int32)), .val (.int (0 : Int32)), .val (.int x_0)] [])) _
    refine XS.iinc X5.here hx rfl (hb hby own_d5_33) rfl (l' := #[.val (.ref a_o), .val (.long ((0 : Int64) + (x_0.toInt64))), .second, .val (.ref f_o), .val (.int (1 : Int32)), .val (.int (1 : Int32)), .val (.int x_0)]) rfl ?_
    show Steps p.tables e below (T5.setTop (mkF m 36 #[.val (.ref a_o), .val (.long ((0 : Int64) + (x_0.toInt64))), .second, .val (.ref f_o), .val (.int (1 : Int32)), .val (.int (1 : Int32)), .val (.int x_0)] [])) _
    refine XS.goto X5.here hx rfl (pc0 := 36) (pc' := 14) rfl (hb hby own_d5_36) (by decide) (by decide) ?_
    show Steps p.tables e below (T5.setTop (mkF m 14 #[.val (.ref a_o), .val (.long ((0 : Int64) + (x_0.toInt64))), .second, .val (.ref f_o), .val (.int (1 : Int32)), .val (.int (1 : Int32)), .val (.int x_0)] [])) _
    refine XS.iload X5.here hx rfl (hb hby own_d5_14) rfl ?_
    show Steps p.tables e below (T5.setTop (mkF m 16 #[.val (.ref a_o), .val (.long ((0 : Int64) + (x_0.toInt64))), .second, .val (.ref f_o), .val (.int (1 : Int32)), .val (.int (1 : Int32)), .val (.int x_0)] [(.int (1 : Int32))])) _
    refine XS.iload X5.here hx rfl (hb hby own_d5_16) rfl ?_
    show Steps p.tables e below (T5.setTop (mkF m 18 #[.val (.ref a_o), .val (.long ((0 : Int64) + (x_0.toInt64))), .second, .val (.ref f_o), .val (.int (1 : Int32)), .val (.int (1 : Int32)), .val (.int x_0)] [(.int (1 : Int32)), (.int (1 : Int32))])) _
    refine XS.icmpYes X5.here hx rfl (pc0 := 18) (pc' := 39) rfl (hb hby own_d5_18) rfl (flt ((by decide) : ¬ ((1 : Int32) < (1 : Int32)))).2.1 (by decide) (by decide) ?_
    show Steps p.tables e below (T5.setTop (mkF m 39 #[.val (.ref a_o), .val (.long ((0 : Int64) + (x_0.toInt64))), .second, .val (.ref f_o), .val (.int (1 : Int32)), .val (.int (1 : Int32)), .val (.int x_0)] [])) _
    refine XS.lloadN X5.here hx rfl (hb hby own_d5_39) rfl ?_
    show Steps p.tables e below (T5.setTop (mkF m 40 #[.val (.ref a_o), .val (.long ((0 : Int64) + (x_0.toInt64))), .second, .val (.ref f_o), .val (.int (1 : Int32)), .val (.int (1 : Int32)), .val (.int x_0)] [(.long ((0 : Int64) + (x_0.toInt64)))])) _
    exact X5.lreturnOut hx Bd.returns (hb hby own_d5_40) hr
  · show Qown_cf1 Z a_o f_o k_f x_0 h0 n0 _ T5.heap _
    rw [e5]
    exact ⟨rfl, N0, rfl⟩
theorem own_ef_own_cf2 (m : MethodId) (a_o : Addr) : entryFrame m #[(.ref a_o)] 7 = mkF m 0 #[.val (.ref a_o), .unset, .unset, .unset, .unset, .unset, .unset] [] := by first | (simp [entryFrame, mkF, argsToLocals, Value.category]; done) | rfl
def Qown_cf2 (Z : State) (a_o : Addr) (f_o : Addr) (k_f : ClassId) (x_0 : Int32) (x_1 : Int32) (h0 : Heap) (n0 : Nat) (v : Option Value) (h : Heap) (L : List Loc) : Prop := v = some (.long (((0 : Int64) + (x_0.toInt64)) + (x_1.toInt64))) ∧ Fr n0 L ∧ h = h0
set_option maxRecDepth 65536 in
set_option maxHeartbeats 40000000 in
theorem own_cf2 (l : Launch) (Z : State) (a0 : Array Value) (hw : ∀ d ∈ tables_1, d.before a0 Z = true) (ws : List Jvm.Cond) (a_o : Addr) (f_o : Addr) (k_f : ClassId) (x_0 : Int32) (x_1 : Int32) (h0 : Heap) (n0 : Nat) (Z0 : n0 ≤ h0.size) (F_f : Fld Z h0 a_o "com/example/merit/merit/Postings" "frequencies" "[I" (.ref f_o)) (V_f : Arv Z h0 f_o k_f .int (2 : Int32) [(.int x_0), (.int x_1)] (.int (0 : Int32))) :
    MetFree l (⟨"com/example/merit/merit/Postings", "collectionFrequency", "()J"⟩ : MethodName) (head1 (Jvm.Cond.code (⟨"com/example/merit/merit/Postings", "collectionFrequency", "()J"⟩ : MethodName) prog_35_method_6_code 7 (some .long) :: ws) ({ frames := 0, cells := 0, slots := 0, locals := 0 } : Room)) (fun a U => a = #[(.ref a_o)] ∧ Z.Warmed39 U.vm ∧ U.heap = h0) (fun _ _ _ _ _ => True) (fun _ U o U' => ∃ v L, o = .returned v ∧ Qown_cf2 Z a_o f_o k_f x_0 x_1 h0 n0 v U'.heap L ∧ FrameEnd U o U' L ({ frames := 0, cells := 0, slots := 0, locals := 0 } : Room).cells ({ frames := 0, cells := 0, slots := 0, locals := 0 } : Room).slots) := by
  refine MetFree.of_bodySF (plainFor_of_name own_pn1) hisR ?_
  intro p e s m args below meth c s₁ Bd hml0 hP hK
  obtain ⟨rfl, hZ, hh⟩ := hP
  have hx := Bd.exec
  have hby := Bd.bytes
  have hml : c.maxLocals = 7 := hml0
  have hown : s.vm.findClass "com/example/merit/merit/Postings" = some m.cls := findClass_of_methodNamed Bd.named
  have hnm := (name_of_methodNamed Bd.named Bd.method).1
  have X0 : Stand p l e ({ frames := 0, cells := 0, slots := 0, locals := 0 } : Room) s m #[(.ref a_o)] below meth c s₁ [] 0 0 := Stand.of_body Bd
  have e0 : s₁.heap = h0 := by rw [← hh, Bd.state]; rfl
  have N0 := Fr.nil n0
  have pre0 : ∀ t, Steps p.tables e below (s₁.setTop (mkF m 0 #[.val (.ref a_o), .unset, .unset, .unset, .unset, .unset, .unset] [])) t → Steps p.tables e below (s₁.setTop (entryFrame m #[(.ref a_o)] 7)) t := fun t k => castTop (own_ef_own_cf2 m a_o) k
  obtain ⟨T5, X5, e5, st5⟩ := getF X0 hx hZ hown (host := "") (Or.inl (hw _ (List.mem_of_getElem? (i := 21) rfl))) Via.refl e0 F_f (g := (mkF m 3 #[.val (.ref a_o), .val (.long (0 : Int64)), .second, .unset, .unset, .unset, .unset] [(.ref a_o)])) rfl rfl (hb hby own_d5_3)
  obtain ⟨cl9, Ar9, -, S9, M9, -, -⟩ := id V_f
  obtain ⟨cl19, Ar19, q19, S19, M19, H19, G19⟩ := id V_f
  have hin19 : ¬ ((0 : Int32) < 0 ∨ cl19.slots.size ≤ ((0 : Int32)).toNatClampNeg) := inb_of S19 ⟨by decide, by decide⟩
  have hat19 : cl19.slots[((0 : Int32)).toNatClampNeg]? = some (.int x_0) := H19.at hin19 rfl
  obtain ⟨cl34, Ar34, q34, S34, M34, H34, G34⟩ := id V_f
  have hin34 : ¬ ((1 : Int32) < 0 ∨ cl34.slots.size ≤ ((1 : Int32)).toNatClampNeg) := inb_of S34 ⟨by decide, by decide⟩
  have hat34 : cl34.slots[((1 : Int32)).toNatClampNeg]? = some (.int x_1) := H34.at hin34 rfl
  obtain ⟨fs, hr, hrun, hended, hW, hsame⟩ := X5.leave (v := some (.long (((0 : Int64) + (x_0.toInt64)) + (x_1.toInt64)))) (fun h => by rw [Bd.returns] at h; cases h) (hlocks := BodyLoose.notSynchronized Bd)
  refine ⟨_, _, pre0 _ ?_, hrun, hended, _, _, rfl, ?_, ⟨_, rfl⟩, hW, hsame.mono (by decide) (by decide)⟩
  · show Steps p.tables e below (s₁.setTop (mkF m 0 #[.val (.ref a_o), .unset, .unset, .unset, .unset, .unset, .unset] [])) _
    refine XS.lconst X0.here hx rfl (hb hby own_d5_0) ?_
    show Steps p.tables e below (s₁.setTop (mkF m 1 #[.val (.ref a_o), .unset, .unset, .unset, .unset, .unset, .unset] [(.long (0 : Int64))])) _
    refine XS.lstoreN X0.here hx rfl (hb hby own_d5_1) rfl (l' := #[.val (.ref a_o), .val (.long (0 : Int64)), .second, .unset, .unset, .unset, .unset]) rfl ?_
    show Steps p.tables e below (s₁.setTop (mkF m 2 #[.val (.ref a_o), .val (.long (0 : Int64)), .second, .unset, .unset, .unset, .unset] [])) _
    refine XS.aloadN X0.here hx rfl (hb hby own_d5_2) rfl rfl ?_
    show Steps p.tables e below (s₁.setTop (mkF m 3 #[.val (.ref a_o), .val (.long (0 : Int64)), .second, .unset, .unset, .unset, .unset] [(.ref a_o)])) _
    refine st5 _ ?_
    show Steps p.tables e below (T5.setTop (mkF m 6 #[.val (.ref a_o), .val (.long (0 : Int64)), .second, .unset, .unset, .unset, .unset] [(.ref f_o)])) _
    refine XS.astoreN X5.here hx rfl (hb hby own_d5_6) rfl rfl (l' := #[.val (.ref a_o), .val (.long (0 : Int64)), .second, .val (.ref f_o), .unset, .unset, .unset]) rfl ?_
    show Steps p.tables e below (T5.setTop (mkF m 7 #[.val (.ref a_o), .val (.long (0 : Int64)), .second, .val (.ref f_o), .unset, .unset, .unset] [])) _
    refine XS.aloadN X5.here hx rfl (hb hby own_d5_7) rfl rfl ?_
    show Steps p.tables e below (T5.setTop (mkF m 8 #[.val (.ref a_o), .val (.long (0 : Int64)), .second, .val (.ref f_o), .unset, .unset, .unset] [(.ref f_o)])) _
    refine X5.arraylength hx (by rw [e5]; exact Ar9.1) (State.isArrayOf_alike hZ.alike Ar9.2.1) (g := (mkF m 8 #[.val (.ref a_o), .val (.long (0 : Int64)), .second, .val (.ref f_o), .unset, .unset, .unset] [(.ref f_o)])) rfl rfl (hb hby own_d5_8) _ ?_
    rw [len_of S9 M9]
    show Steps p.tables e below (T5.setTop (mkF m 9 #[.val (.ref a_o), .val (.long (0 : Int64)), .second, .val (.ref f_o), .unset, .unset, .unset] [(.int (2 : Int32))])) _
    refine XS.istore X5.here hx rfl (hb hby own_d5_9) rfl (l' := #[.val (.ref a_o), .val (.long (0 : Int64)), .second, .val (.ref f_o), .val (.int (2 : Int32)), .unset, .unset]) rfl ?_
    show Steps p.tables e below (T5.setTop (mkF m 11 #[.val (.ref a_o), .val (.long (0 : Int64)), .second, .val (.ref f_o), .val (.int (2 : Int32)), .unset, .unset] [])) _
    refine XS.iconst X5.here hx rfl (hb hby own_d5_11) ?_
    show Steps p.tables e below (T5.setTop (mkF m 12 #[.val (.ref a_o), .val (.long (0 : Int64)), .second, .val (.ref f_o), .val (.int (2 : Int32)), .unset, .unset] [(.int (0 : Int32))])) _
    refine XS.istore X5.here hx rfl (hb hby own_d5_12) rfl (l' := #[.val (.ref a_o), .val (.long (0 : Int64)), .second, .val (.ref f_o), .val (.int (2 : Int32)), .val (.int (0 : Int32)), .unset]) rfl ?_
    show Steps p.tables e below (T5.setTop (mkF m 14 #[.val (.ref a_o), .val (.long (0 : Int64)), .second, .val (.ref f_o), .val (.int (2 : Int32)), .val (.int (0 : Int32)), .unset] [])) _
    refine XS.iload X5.here hx rfl (hb hby own_d5_14) rfl ?_
    show Steps p.tables e below (T5.setTop (mkF m 16 #[.val (.ref a_o), .val (.long (0 : Int64)), .second, .val (.ref f_o), .val (.int (2 : Int32)), .val (.int (0 : Int32)), .unset] [(.int (0 : Int32))])) _
    refine XS.iload X5.here hx rfl (hb hby own_d5_16) rfl ?_
    show Steps p.tables e below (T5.setTop (mkF m 18 #[.val (.ref a_o), .val (.long (0 : Int64)), .second, .val (.ref f_o), .val (.int (2 : Int32)), .val (.int (0 : Int32)), .unset] [(.int (2 : Int32)), (.int (0 : Int32))])) _
    refine XS.icmpNo X5.here hx rfl (hb hby own_d5_18) rfl (tlt ((by decide) : (0 : Int32) < (2 : Int32))).2.1 ?_
    show Steps p.tables e below (T5.setTop (mkF m 21 #[.val (.ref a_o), .val (.long (0 : Int64)), .second, .val (.ref f_o), .val (.int (2 : Int32)), .val (.int (0 : Int32)), .unset] [])) _
    refine XS.aloadN X5.here hx rfl (hb hby own_d5_21) rfl rfl ?_
    show Steps p.tables e below (T5.setTop (mkF m 22 #[.val (.ref a_o), .val (.long (0 : Int64)), .second, .val (.ref f_o), .val (.int (2 : Int32)), .val (.int (0 : Int32)), .unset] [(.ref f_o)])) _
    refine XS.iload X5.here hx rfl (hb hby own_d5_22) rfl ?_
    show Steps p.tables e below (T5.setTop (mkF m 24 #[.val (.ref a_o), .val (.long (0 : Int64)), .second, .val (.ref f_o), .val (.int (2 : Int32)), .val (.int (0 : Int32)), .unset] [(.int (0 : Int32)), (.ref f_o)])) _
    refine X5.iaload hx (j := (0 : Int32)) (v := (.int x_0)) (by rw [e5]; exact Ar19.1) (State.isArrayOf_alike hZ.alike Ar19.2.1) Ar19.2.2 hin19 hat19 (g := (mkF m 24 #[.val (.ref a_o), .val (.long (0 : Int64)), .second, .val (.ref f_o), .val (.int (2 : Int32)), .val (.int (0 : Int32)), .unset] [(.int (0 : Int32)), (.ref f_o)])) rfl rfl (hb hby own_d5_24) _ ?_
    show Steps p.tables e below (T5.setTop (mkF m 25 #[.val (.ref a_o), .val (.long (0 : Int64)), .second, .val (.ref f_o), .val (.int (2 : Int32)), .val (.int (0 : Int32)), .unset] [(.int x_0)])) _
    refine XS.istore X5.here hx rfl (hb hby own_d5_25) rfl (l' := #[.val (.ref a_o), .val (.long (0 : Int64)), .second, .val (.ref f_o), .val (.int (2 : Int32)), .val (.int (0 : Int32)), .val (.int x_0)]) rfl ?_
    show Steps p.tables e below (T5.setTop (mkF m 27 #[.val (.ref a_o), .val (.long (0 : Int64)), .second, .val (.ref f_o), .val (.int (2 : Int32)), .val (.int (0 : Int32)), .val (.int x_0)] [])) _
    refine XS.lloadN X5.here hx rfl (hb hby own_d5_27) rfl ?_
    show Steps p.tables e below (T5.setTop (mkF m 28 #[.val (.ref a_o), .val (.long (0 : Int64)), .second, .val (.ref f_o), .val (.int (2 : Int32)), .val (.int (0 : Int32)), .val (.int x_0)] [(.long (0 : Int64))])) _
    refine XS.iload X5.here hx rfl (hb hby own_d5_28) rfl ?_
    show Steps p.tables e below (T5.setTop (mkF m 30 #[.val (.ref a_o), .val (.long (0 : Int64)), .second, .val (.ref f_o), .val (.int (2 : Int32)), .val (.int (0 : Int32)), .val (.int x_0)] [(.int x_0), (.long (0 : Int64))])) _
    refine XS.i2l X5.here hx rfl (hb hby own_d5_30) rfl ?_
    show Steps p.tables e below (T5.setTop (mkF m 31 #[.val (.ref a_o), .val (.long (0 : Int64)), .second, .val (.ref f_o), .val (.int (2 : Int32)), .val (.int (0 : Int32)), .val (.int x_0)] [(.long (x_0.toInt64)), (.long (0 : Int64))])) _
    refine XS.ladd X5.here hx rfl (hb hby own_d5_31) rfl ?_
    show Steps p.tables e below (T5.setTop (mkF m 32 #[.val (.ref a_o), .val (.long (0 : Int64)), .second, .val (.ref f_o), .val (.int (2 : Int32)), .val (.int (0 : Int32)), .val (.int x_0)] [(.long ((0 : Int64) + (x_0.toInt64)))])) _
    refine XS.lstoreN X5.here hx rfl (hb hby own_d5_32) rfl (l' := #[.val (.ref a_o), .val (.long ((0 : Int64) + (x_0.toInt64))), .second, .val (.ref f_o), .val (.int (2 : Int32)), .val (.int (0 : Int32)), .val (.int x_0)]) rfl ?_
    show Steps p.tables e below (T5.setTop (mkF m 33 #[.val (.ref a_o), .val (.long ((0 : Int64) + (x_0.toInt64))), .second, .val (.ref f_o), .val (.int (2 : Int32)), .val (.int (0 : Int32)), .val (.int x_0)] [])) _
    refine XS.iinc X5.here hx rfl (hb hby own_d5_33) rfl (l' := #[.val (.ref a_o), .val (.long ((0 : Int64) + (x_0.toInt64))), .second, .val (.ref f_o), .val (.int (2 : Int32)), .val (.int (1 : Int32)), .val (.int x_0)]) rfl ?_
    show Steps p.tables e below (T5.setTop (mkF m 36 #[.val (.ref a_o), .val (.long ((0 : Int64) + (x_0.toInt64))), .second, .val (.ref f_o), .val (.int (2 : Int32)), .val (.int (1 : Int32)), .val (.int x_0)] [])) _
    refine XS.goto X5.here hx rfl (pc0 := 36) (pc' := 14) rfl (hb hby own_d5_36) (by decide) (by decide) ?_
    show Steps p.tables e below (T5.setTop (mkF m 14 #[.val (.ref a_o), .val (.long ((0 : Int64) + (x_0.toInt64))), .second, .val (.ref f_o), .val (.int (2 : Int32)), .val (.int (1 : Int32)), .val (.int x_0)] [])) _
    refine XS.iload X5.here hx rfl (hb hby own_d5_14) rfl ?_
    show Steps p.tables e below (T5.setTop (mkF m 16 #[.val (.ref a_o), .val (.long ((0 : Int64) + (x_0.toInt64))), .second, .val (.ref f_o), .val (.int (2 : Int32)), .val (.int (1 : Int32)), .val (.int x_0)] [(.int (1 : Int32))])) _
    refine XS.iload X5.here hx rfl (hb hby own_d5_16) rfl ?_
    show Steps p.tables e below (T5.setTop (mkF m 18 #[.val (.ref a_o), .val (.long ((0 : Int64) + (x_0.toInt64))), .second, .val (.ref f_o), .val (.int (2 : Int32)), .val (.int (1 : Int32)), .val (.int x_0)] [(.int (2 : Int32)), (.int (1 : Int32))])) _
    refine XS.icmpNo X5.here hx rfl (hb hby own_d5_18) rfl (tlt ((by decide) : (1 : Int32) < (2 : Int32))).2.1 ?_
    show Steps p.tables e below (T5.setTop (mkF m 21 #[.val (.ref a_o), .val (.long ((0 : Int64) + (x_0.toInt64))), .second, .val (.ref f_o), .val (.int (2 : Int32)), .val (.int (1 : Int32)), .val (.int x_0)] [])) _
    refine XS.aloadN X5.here hx rfl (hb hby own_d5_21) rfl rfl ?_
    show Steps p.tables e below (T5.setTop (mkF m 22 #[.val (.ref a_o), .val (.long ((0 : Int64) + (x_0.toInt64))), .second, .val (.ref f_o), .val (.int (2 : Int32)), .val (.int (1 : Int32)), .val (.int x_0)] [(.ref f_o)])) _
    refine XS.iload X5.here hx rfl (hb hby own_d5_22) rfl ?_
    show Steps p.tables e below (T5.setTop (mkF m 24 #[.val (.ref a_o), .val (.long ((0 : Int64) + (x_0.toInt64))), .second, .val (.ref f_o), .val (.int (2 : Int32)), .val (.int (1 : Int32)), .val (.int x_0)] [(.int (1 : Int32)), (.ref f_o)])) _
    refine X5.iaload hx (j := (1 : Int32)) (v := (.int x_1)) (by rw [e5]; exact Ar34.1) (State.isArrayOf_alike hZ.alike Ar34.2.1) Ar34.2.2 hin34 hat34 (g := (mkF m 24 #[.val (.ref a_o), .val (.long ((0 : Int64) + (x_0.toInt64))), .second, .val (.ref f_o), .val (.int (2 : Int32)), .val (.int (1 : Int32)), .val (.int x_0)] [(.int (1 : Int32)), (.ref f_o)])) rfl rfl (hb hby own_d5_24) _ ?_
    show Steps p.tables e below (T5.setTop (mkF m 25 #[.val (.ref a_o), .val (.long ((0 : Int64) + (x_0.toInt64))), .second, .val (.ref f_o), .val (.int (2 : Int32)), .val (.int (1 : Int32)), .val (.int x_0)] [(.int x_1)])) _
    refine XS.istore X5.here hx rfl (hb hby own_d5_25) rfl (l' := #[.val (.ref a_o), .val (.long ((0 : Int64) + (x_0.toInt64))), .second, .val (.ref f_o), .val (.int (2 : Int32)), .val (.int (1 : Int32)), .val (.int x_1)]) rfl ?_
    show Steps p.tables e below (T5.setTop (mkF m 27 #[.val (.ref a_o), .val (.long ((0 : Int64) + (x_0.toInt64))), .second, .val (.ref f_o), .val (.int (2 : Int32)), .val (.int (1 : Int32)), .val (.int x_1)] [])) _
    refine XS.lloadN X5.here hx rfl (hb hby own_d5_27) rfl ?_
    show Steps p.tables e below (T5.setTop (mkF m 28 #[.val (.ref a_o), .val (.long ((0 : Int64) + (x_0.toInt64))), .second, .val (.ref f_o), .val (.int (2 : Int32)), .val (.int (1 : Int32)), .val (.int x_1)] [(.long ((0 : Int64) + (x_0.toInt64)))])) _
    refine XS.iload X5.here hx rfl (hb hby own_d5_28) rfl ?_
    show Steps p.tables e below (T5.setTop (mkF m 30 #[.val (.ref a_o), .val (.long ((0 : Int64) + (x_0.toInt64))), .second, .val (.ref f_o), .val (.int (2 : Int32)), .val (.int (1 : Int32)), .val (.int x_1)] [(.int x_1), (.long ((0 : Int64) + (x_0.toInt64)))])) _
    refine XS.i2l X5.here hx rfl (hb hby own_d5_30) rfl ?_
    show Steps p.tables e below (T5.setTop (mkF m 31 #[.val (.ref a_o), .val (.long ((0 : Int64) + (x_0.toInt64))), .second, .val (.ref f_o), .val (.int (2 : Int32)), .val (.int (1 : Int32)), .val (.int x_1)] [(.long (x_1.toInt64)), (.long ((0 : Int64) + (x_0.toInt64)))])) _
    refine XS.ladd X5.here hx rfl (hb hby own_d5_31) rfl ?_
    show Steps p.tables e below (T5.setTop (mkF m 32 #[.val (.ref a_o), .val (.long ((0 : Int64) + (x_0.toInt64))), .second, .val (.ref f_o), .val (.int (2 : Int32)), .val (.int (1 : Int32)), .val (.int x_1)] [(.long (((0 : Int64) + (x_0.toInt64)) + (x_1.toInt64)))])) _
    refine XS.lstoreN X5.here hx rfl (hb hby own_d5_32) rfl (l' := #[.val (.ref a_o), .val (.long (((0 : Int64) + (x_0.toInt64)) + (x_1.toInt64))), .second, .val (.ref f_o), .val (.int (2 : Int32)), .val (.int (1 : Int32)), .val (.int x_1)]) rfl ?_
    show Steps p.tables e below (T5.setTop (mkF m 33 #[.val (.ref a_o), .val (.long (((0 : Int64) + (x_0.toInt64)) + (x_1.toInt64))), .second, .val (.ref f_o), .val (.int (2 : Int32)), .val (.int (1 : Int32)), .val (.int x_1)] [])) _
    refine XS.iinc X5.here hx rfl (hb hby own_d5_33) rfl (l' := #[.val (.ref a_o), .val (.long (((0 : Int64) + (x_0.toInt64)) + (x_1.toInt64))), .second, .val (.ref f_o), .val (.int (2 : Int32)), .val (.int (2 : Int32)), .val (.int x_1)]) rfl ?_
    show Steps p.tables e below (T5.setTop (mkF m 36 #[.val (.ref a_o), .val (.long (((0 : Int64) + (x_0.toInt64)) + (x_1.toInt64))), .second, .val (.ref f_o), .val (.int (2 : Int32)), .val (.int (2 : Int32)), .val (.int x_1)] [])) _
    refine XS.goto X5.here hx rfl (pc0 := 36) (pc' := 14) rfl (hb hby own_d5_36) (by decide) (by decide) ?_
    show Steps p.tables e below (T5.setTop (mkF m 14 #[.val (.ref a_o), .val (.long (((0 : Int64) + (x_0.toInt64)) + (x_1.toInt64))), .second, .val (.ref f_o), .val (.int (2 : Int32)), .val (.int (2 : Int32)), .val (.int x_1)] [])) _
    refine XS.iload X5.here hx rfl (hb hby own_d5_14) rfl ?_
    show Steps p.tables e below (T5.setTop (mkF m 16 #[.val (.ref a_o), .val (.long (((0 : Int64) + (x_0.toInt64)) + (x_1.toInt64))), .second, .val (.ref f_o), .val (.int (2 : Int32)), .val (.int (2 : Int32)), .val (.int x_1)] [(.int (2 : Int32))])) _
    refine XS.iload X5.here hx rfl (hb hby own_d5_16) rfl ?_
    show Steps p.tables e below (T5.setTop (mkF m 18 #[.val (.ref a_o), .val (.long (((0 : Int64) + (x_0.toInt64)) + (x_1.toInt64))), .second, .val (.ref f_o), .val (.int (2 : Int32)), .val (.int (2 : Int32)), .val (.int x_1)] [(.int (2 : Int32)), (.int (2 : Int32))])) _
    refine XS.icmpYes X5.here hx rfl (pc0 := 18) (pc' := 39) rfl (hb hby own_d5_18) rfl (flt ((by decide) : ¬ ((2 : Int32) < (2 : Int32)))).2.1 (by decide) (by decide) ?_
    show Steps p.tables e below (T5.setTop (mkF m 39 #[.val (.ref a_o), .val (.long (((0 : Int64) + (x_0.toInt64)) + (x_1.toInt64))), .second, .val (.ref f_o), .val (.int (2 : Int32)), .val (.int (2 : Int32)), .val (.int x_1)] [])) _
    refine XS.lloadN X5.here hx rfl (hb hby own_d5_39) rfl ?_
    show Steps p.tables e below (T5.setTop (mkF m 40 #[.val (.ref a_o), .val (.long (((0 : Int64) + (x_0.toInt64)) + (x_1.toInt64))), .second, .val (.ref f_o), .val (.int (2 : Int32)), .val (.int (2 : Int32)), .val (.int x_1)] [(.long (((0 : Int64) + (x_0.toInt64)) + (x_1.toInt64)))])) _
    exact X5.lreturnOut hx Bd.returns (hb hby own_d5_40) hr
  · show Qown_cf2 Z a_o f_o k_f x_0 x_1 h0 n0 _ T5.heap _
    rw [e5]
    exact ⟨rfl, N0, rfl⟩
theorem own_ef_own_cf3 (m : MethodId) (a_o : Addr) : entryFrame m #[(.ref a_o)] 7 = mkF m 0 #[.val (.ref a_o), .unset, .unset, .unset, .unset, .unset, .unset] [] := by first | (simp [entryFrame, mkF, argsToLocals, Value.category]; done) | rfl
def Qown_cf3 (Z : State) (a_o : Addr) (f_o : Addr) (k_f : ClassId) (x_0 : Int32) (x_1 : Int32) (x_2 : Int32) (h0 : Heap) (n0 : Nat) (v : Option Value) (h : Heap) (L : List Loc) : Prop := v = some (.long ((((0 : Int64) + (x_0.toInt64)) + (x_1.toInt64)) + (x_2.toInt64))) ∧ Fr n0 L ∧ h = h0
set_option maxRecDepth 65536 in
set_option maxHeartbeats 40000000 in
theorem own_cf3 (l : Launch) (Z : State) (a0 : Array Value) (hw : ∀ d ∈ tables_1, d.before a0 Z = true) (ws : List Jvm.Cond) (a_o : Addr) (f_o : Addr) (k_f : ClassId) (x_0 : Int32) (x_1 : Int32) (x_2 : Int32) (h0 : Heap) (n0 : Nat) (Z0 : n0 ≤ h0.size) (F_f : Fld Z h0 a_o "com/example/merit/merit/Postings" "frequencies" "[I" (.ref f_o)) (V_f : Arv Z h0 f_o k_f .int (3 : Int32) [(.int x_0), (.int x_1), (.int x_2)] (.int (0 : Int32))) :
    MetFree l (⟨"com/example/merit/merit/Postings", "collectionFrequency", "()J"⟩ : MethodName) (head1 (Jvm.Cond.code (⟨"com/example/merit/merit/Postings", "collectionFrequency", "()J"⟩ : MethodName) prog_35_method_6_code 7 (some .long) :: ws) ({ frames := 0, cells := 0, slots := 0, locals := 0 } : Room)) (fun a U => a = #[(.ref a_o)] ∧ Z.Warmed39 U.vm ∧ U.heap = h0) (fun _ _ _ _ _ => True) (fun _ U o U' => ∃ v L, o = .returned v ∧ Qown_cf3 Z a_o f_o k_f x_0 x_1 x_2 h0 n0 v U'.heap L ∧ FrameEnd U o U' L ({ frames := 0, cells := 0, slots := 0, locals := 0 } : Room).cells ({ frames := 0, cells := 0, slots := 0, locals := 0 } : Room).slots) := by
  refine MetFree.of_bodySF (plainFor_of_name own_pn1) hisR ?_
  intro p e s m args below meth c s₁ Bd hml0 hP hK
  obtain ⟨rfl, hZ, hh⟩ := hP
  have hx := Bd.exec
  have hby := Bd.bytes
  have hml : c.maxLocals = 7 := hml0
  have hown : s.vm.findClass "com/example/merit/merit/Postings" = some m.cls := findClass_of_methodNamed Bd.named
  have hnm := (name_of_methodNamed Bd.named Bd.method).1
  have X0 : Stand p l e ({ frames := 0, cells := 0, slots := 0, locals := 0 } : Room) s m #[(.ref a_o)] below meth c s₁ [] 0 0 := Stand.of_body Bd
  have e0 : s₁.heap = h0 := by rw [← hh, Bd.state]; rfl
  have N0 := Fr.nil n0
  have pre0 : ∀ t, Steps p.tables e below (s₁.setTop (mkF m 0 #[.val (.ref a_o), .unset, .unset, .unset, .unset, .unset, .unset] [])) t → Steps p.tables e below (s₁.setTop (entryFrame m #[(.ref a_o)] 7)) t := fun t k => castTop (own_ef_own_cf3 m a_o) k
  obtain ⟨T5, X5, e5, st5⟩ := getF X0 hx hZ hown (host := "") (Or.inl (hw _ (List.mem_of_getElem? (i := 21) rfl))) Via.refl e0 F_f (g := (mkF m 3 #[.val (.ref a_o), .val (.long (0 : Int64)), .second, .unset, .unset, .unset, .unset] [(.ref a_o)])) rfl rfl (hb hby own_d5_3)
  obtain ⟨cl9, Ar9, -, S9, M9, -, -⟩ := id V_f
  obtain ⟨cl19, Ar19, q19, S19, M19, H19, G19⟩ := id V_f
  have hin19 : ¬ ((0 : Int32) < 0 ∨ cl19.slots.size ≤ ((0 : Int32)).toNatClampNeg) := inb_of S19 ⟨by decide, by decide⟩
  have hat19 : cl19.slots[((0 : Int32)).toNatClampNeg]? = some (.int x_0) := H19.at hin19 rfl
  obtain ⟨cl34, Ar34, q34, S34, M34, H34, G34⟩ := id V_f
  have hin34 : ¬ ((1 : Int32) < 0 ∨ cl34.slots.size ≤ ((1 : Int32)).toNatClampNeg) := inb_of S34 ⟨by decide, by decide⟩
  have hat34 : cl34.slots[((1 : Int32)).toNatClampNeg]? = some (.int x_1) := H34.at hin34 rfl
  obtain ⟨cl49, Ar49, q49, S49, M49, H49, G49⟩ := id V_f
  have hin49 : ¬ ((2 : Int32) < 0 ∨ cl49.slots.size ≤ ((2 : Int32)).toNatClampNeg) := inb_of S49 ⟨by decide, by decide⟩
  have hat49 : cl49.slots[((2 : Int32)).toNatClampNeg]? = some (.int x_2) := H49.at hin49 rfl
  obtain ⟨fs, hr, hrun, hended, hW, hsame⟩ := X5.leave (v := some (.long ((((0 : Int64) + (x_0.toInt64)) + (x_1.toInt64)) + (x_2.toInt64)))) (fun h => by rw [Bd.returns] at h; cases h) (hlocks := BodyLoose.notSynchronized Bd)
  refine ⟨_, _, pre0 _ ?_, hrun, hended, _, _, rfl, ?_, ⟨_, rfl⟩, hW, hsame.mono (by decide) (by decide)⟩
  · show Steps p.tables e below (s₁.setTop (mkF m 0 #[.val (.ref a_o), .unset, .unset, .unset, .unset, .unset, .unset] [])) _
    refine XS.lconst X0.here hx rfl (hb hby own_d5_0) ?_
    show Steps p.tables e below (s₁.setTop (mkF m 1 #[.val (.ref a_o), .unset, .unset, .unset, .unset, .unset, .unset] [(.long (0 : Int64))])) _
    refine XS.lstoreN X0.here hx rfl (hb hby own_d5_1) rfl (l' := #[.val (.ref a_o), .val (.long (0 : Int64)), .second, .unset, .unset, .unset, .unset]) rfl ?_
    show Steps p.tables e below (s₁.setTop (mkF m 2 #[.val (.ref a_o), .val (.long (0 : Int64)), .second, .unset, .unset, .unset, .unset] [])) _
    refine XS.aloadN X0.here hx rfl (hb hby own_d5_2) rfl rfl ?_
    show Steps p.tables e below (s₁.setTop (mkF m 3 #[.val (.ref a_o), .val (.long (0 : Int64)), .second, .unset, .unset, .unset, .unset] [(.ref a_o)])) _
    refine st5 _ ?_
    show Steps p.tables e below (T5.setTop (mkF m 6 #[.val (.ref a_o), .val (.long (0 : Int64)), .second, .unset, .unset, .unset, .unset] [(.ref f_o)])) _
    refine XS.astoreN X5.here hx rfl (hb hby own_d5_6) rfl rfl (l' := #[.val (.ref a_o), .val (.long (0 : Int64)), .second, .val (.ref f_o), .unset, .unset, .unset]) rfl ?_
    show Steps p.tables e below (T5.setTop (mkF m 7 #[.val (.ref a_o), .val (.long (0 : Int64)), .second, .val (.ref f_o), .unset, .unset, .unset] [])) _
    refine XS.aloadN X5.here hx rfl (hb hby own_d5_7) rfl rfl ?_
    show Steps p.tables e below (T5.setTop (mkF m 8 #[.val (.ref a_o), .val (.long (0 : Int64)), .second, .val (.ref f_o), .unset, .unset, .unset] [(.ref f_o)])) _
    refine X5.arraylength hx (by rw [e5]; exact Ar9.1) (State.isArrayOf_alike hZ.alike Ar9.2.1) (g := (mkF m 8 #[.val (.ref a_o), .val (.long (0 : Int64)), .second, .val (.ref f_o), .unset, .unset, .unset] [(.ref f_o)])) rfl rfl (hb hby own_d5_8) _ ?_
    rw [len_of S9 M9]
    show Steps p.tables e below (T5.setTop (mkF m 9 #[.val (.ref a_o), .val (.long (0 : Int64)), .second, .val (.ref f_o), .unset, .unset, .unset] [(.int (3 : Int32))])) _
    refine XS.istore X5.here hx rfl (hb hby own_d5_9) rfl (l' := #[.val (.ref a_o), .val (.long (0 : Int64)), .second, .val (.ref f_o), .val (.int (3 : Int32)), .unset, .unset]) rfl ?_
    show Steps p.tables e below (T5.setTop (mkF m 11 #[.val (.ref a_o), .val (.long (0 : Int64)), .second, .val (.ref f_o), .val (.int (3 : Int32)), .unset, .unset] [])) _
    refine XS.iconst X5.here hx rfl (hb hby own_d5_11) ?_
    show Steps p.tables e below (T5.setTop (mkF m 12 #[.val (.ref a_o), .val (.long (0 : Int64)), .second, .val (.ref f_o), .val (.int (3 : Int32)), .unset, .unset] [(.int (0 : Int32))])) _
    refine XS.istore X5.here hx rfl (hb hby own_d5_12) rfl (l' := #[.val (.ref a_o), .val (.long (0 : Int64)), .second, .val (.ref f_o), .val (.int (3 : Int32)), .val (.int (0 : Int32)), .unset]) rfl ?_
    show Steps p.tables e below (T5.setTop (mkF m 14 #[.val (.ref a_o), .val (.long (0 : Int64)), .second, .val (.ref f_o), .val (.int (3 : Int32)), .val (.int (0 : Int32)), .unset] [])) _
    refine XS.iload X5.here hx rfl (hb hby own_d5_14) rfl ?_
    show Steps p.tables e below (T5.setTop (mkF m 16 #[.val (.ref a_o), .val (.long (0 : Int64)), .second, .val (.ref f_o), .val (.int (3 : Int32)), .val (.int (0 : Int32)), .unset] [(.int (0 : Int32))])) _
    refine XS.iload X5.here hx rfl (hb hby own_d5_16) rfl ?_
    show Steps p.tables e below (T5.setTop (mkF m 18 #[.val (.ref a_o), .val (.long (0 : Int64)), .second, .val (.ref f_o), .val (.int (3 : Int32)), .val (.int (0 : Int32)), .unset] [(.int (3 : Int32)), (.int (0 : Int32))])) _
    refine XS.icmpNo X5.here hx rfl (hb hby own_d5_18) rfl (tlt ((by decide) : (0 : Int32) < (3 : Int32))).2.1 ?_
    show Steps p.tables e below (T5.setTop (mkF m 21 #[.val (.ref a_o), .val (.long (0 : Int64)), .second, .val (.ref f_o), .val (.int (3 : Int32)), .val (.int (0 : Int32)), .unset] [])) _
    refine XS.aloadN X5.here hx rfl (hb hby own_d5_21) rfl rfl ?_
    show Steps p.tables e below (T5.setTop (mkF m 22 #[.val (.ref a_o), .val (.long (0 : Int64)), .second, .val (.ref f_o), .val (.int (3 : Int32)), .val (.int (0 : Int32)), .unset] [(.ref f_o)])) _
    refine XS.iload X5.here hx rfl (hb hby own_d5_22) rfl ?_
    show Steps p.tables e below (T5.setTop (mkF m 24 #[.val (.ref a_o), .val (.long (0 : Int64)), .second, .val (.ref f_o), .val (.int (3 : Int32)), .val (.int (0 : Int32)), .unset] [(.int (0 : Int32)), (.ref f_o)])) _
    refine X5.iaload hx (j := (0 : Int32)) (v := (.int x_0)) (by rw [e5]; exact Ar19.1) (State.isArrayOf_alike hZ.alike Ar19.2.1) Ar19.2.2 hin19 hat19 (g := (mkF m 24 #[.val (.ref a_o), .val (.long (0 : Int64)), .second, .val (.ref f_o), .val (.int (3 : Int32)), .val (.int (0 : Int32)), .unset] [(.int (0 : Int32)), (.ref f_o)])) rfl rfl (hb hby own_d5_24) _ ?_
    show Steps p.tables e below (T5.setTop (mkF m 25 #[.val (.ref a_o), .val (.long (0 : Int64)), .second, .val (.ref f_o), .val (.int (3 : Int32)), .val (.int (0 : Int32)), .unset] [(.int x_0)])) _
    refine XS.istore X5.here hx rfl (hb hby own_d5_25) rfl (l' := #[.val (.ref a_o), .val (.long (0 : Int64)), .second, .val (.ref f_o), .val (.int (3 : Int32)), .val (.int (0 : Int32)), .val (.int x_0)]) rfl ?_
    show Steps p.tables e below (T5.setTop (mkF m 27 #[.val (.ref a_o), .val (.long (0 : Int64)), .second, .val (.ref f_o), .val (.int (3 : Int32)), .val (.int (0 : Int32)), .val (.int x_0)] [])) _
    refine XS.lloadN X5.here hx rfl (hb hby own_d5_27) rfl ?_
    show Steps p.tables e below (T5.setTop (mkF m 28 #[.val (.ref a_o), .val (.long (0 : Int64)), .second, .val (.ref f_o), .val (.int (3 : Int32)), .val (.int (0 : Int32)), .val (.int x_0)] [(.long (0 : Int64))])) _
    refine XS.iload X5.here hx rfl (hb hby own_d5_28) rfl ?_
    show Steps p.tables e below (T5.setTop (mkF m 30 #[.val (.ref a_o), .val (.long (0 : Int64)), .second, .val (.ref f_o), .val (.int (3 : Int32)), .val (.int (0 : Int32)), .val (.int x_0)] [(.int x_0), (.long (0 : Int64))])) _
    refine XS.i2l X5.here hx rfl (hb hby own_d5_30) rfl ?_
    show Steps p.tables e below (T5.setTop (mkF m 31 #[.val (.ref a_o), .val (.long (0 : Int64)), .second, .val (.ref f_o), .val (.int (3 : Int32)), .val (.int (0 : Int32)), .val (.int x_0)] [(.long (x_0.toInt64)), (.long (0 : Int64))])) _
    refine XS.ladd X5.here hx rfl (hb hby own_d5_31) rfl ?_
    show Steps p.tables e below (T5.setTop (mkF m 32 #[.val (.ref a_o), .val (.long (0 : Int64)), .second, .val (.ref f_o), .val (.int (3 : Int32)), .val (.int (0 : Int32)), .val (.int x_0)] [(.long ((0 : Int64) + (x_0.toInt64)))])) _
    refine XS.lstoreN X5.here hx rfl (hb hby own_d5_32) rfl (l' := #[.val (.ref a_o), .val (.long ((0 : Int64) + (x_0.toInt64))), .second, .val (.ref f_o), .val (.int (3 : Int32)), .val (.int (0 : Int32)), .val (.int x_0)]) rfl ?_
    show Steps p.tables e below (T5.setTop (mkF m 33 #[.val (.ref a_o), .val (.long ((0 : Int64) + (x_0.toInt64))), .second, .val (.ref f_o), .val (.int (3 : Int32)), .val (.int (0 : Int32)), .val (.int x_0)] [])) _
    refine XS.iinc X5.here hx rfl (hb hby own_d5_33) rfl (l' := #[.val (.ref a_o), .val (.long ((0 : Int64) + (x_0.toInt64))), .second, .val (.ref f_o), .val (.int (3 : Int32)), .val (.int (1 : Int32)), .val (.int x_0)]) rfl ?_
    show Steps p.tables e below (T5.setTop (mkF m 36 #[.val (.ref a_o), .val (.long ((0 : Int64) + (x_0.toInt64))), .second, .val (.ref f_o), .val (.int (3 : Int32)), .val (.int (1 : Int32)), .val (.int x_0)] [])) _
    refine XS.goto X5.here hx rfl (pc0 := 36) (pc' := 14) rfl (hb hby own_d5_36) (by decide) (by decide) ?_
    show Steps p.tables e below (T5.setTop (mkF m 14 #[.val (.ref a_o), .val (.long ((0 : Int64) + (x_0.toInt64))), .second, .val (.ref f_o), .val (.int (3 : Int32)), .val (.int (1 : Int32)), .val (.int x_0)] [])) _
    refine XS.iload X5.here hx rfl (hb hby own_d5_14) rfl ?_
    show Steps p.tables e below (T5.setTop (mkF m 16 #[.val (.ref a_o), .val (.long ((0 : Int64) + (x_0.toInt64))), .second, .val (.ref f_o), .val (.int (3 : Int32)), .val (.int (1 : Int32)), .val (.int x_0)] [(.int (1 : Int32))])) _
    refine XS.iload X5.here hx rfl (hb hby own_d5_16) rfl ?_
    show Steps p.tables e below (T5.setTop (mkF m 18 #[.val (.ref a_o), .val (.long ((0 : Int64) + (x_0.toInt64))), .second, .val (.ref f_o), .val (.int (3 : Int32)), .val (.int (1 : Int32)), .val (.int x_0)] [(.int (3 : Int32)), (.int (1 : Int32))])) _
    refine XS.icmpNo X5.here hx rfl (hb hby own_d5_18) rfl (tlt ((by decide) : (1 : Int32) < (3 : Int32))).2.1 ?_
    show Steps p.tables e below (T5.setTop (mkF m 21 #[.val (.ref a_o), .val (.long ((0 : Int64) + (x_0.toInt64))), .second, .val (.ref f_o), .val (.int (3 : Int32)), .val (.int (1 : Int32)), .val (.int x_0)] [])) _
    refine XS.aloadN X5.here hx rfl (hb hby own_d5_21) rfl rfl ?_
    show Steps p.tables e below (T5.setTop (mkF m 22 #[.val (.ref a_o), .val (.long ((0 : Int64) + (x_0.toInt64))), .second, .val (.ref f_o), .val (.int (3 : Int32)), .val (.int (1 : Int32)), .val (.int x_0)] [(.ref f_o)])) _
    refine XS.iload X5.here hx rfl (hb hby own_d5_22) rfl ?_
    show Steps p.tables e below (T5.setTop (mkF m 24 #[.val (.ref a_o), .val (.long ((0 : Int64) + (x_0.toInt64))), .second, .val (.ref f_o), .val (.int (3 : Int32)), .val (.int (1 : Int32)), .val (.int x_0)] [(.int (1 : Int32)), (.ref f_o)])) _
    refine X5.iaload hx (j := (1 : Int32)) (v := (.int x_1)) (by rw [e5]; exact Ar34.1) (State.isArrayOf_alike hZ.alike Ar34.2.1) Ar34.2.2 hin34 hat34 (g := (mkF m 24 #[.val (.ref a_o), .val (.long ((0 : Int64) + (x_0.toInt64))), .second, .val (.ref f_o), .val (.int (3 : Int32)), .val (.int (1 : Int32)), .val (.int x_0)] [(.int (1 : Int32)), (.ref f_o)])) rfl rfl (hb hby own_d5_24) _ ?_
    show Steps p.tables e below (T5.setTop (mkF m 25 #[.val (.ref a_o), .val (.long ((0 : Int64) + (x_0.toInt64))), .second, .val (.ref f_o), .val (.int (3 : Int32)), .val (.int (1 : Int32)), .val (.int x_0)] [(.int x_1)])) _
    refine XS.istore X5.here hx rfl (hb hby own_d5_25) rfl (l' := #[.val (.ref a_o), .val (.long ((0 : Int64) + (x_0.toInt64))), .second, .val (.ref f_o), .val (.int (3 : Int32)), .val (.int (1 : Int32)), .val (.int x_1)]) rfl ?_
    show Steps p.tables e below (T5.setTop (mkF m 27 #[.val (.ref a_o), .val (.long ((0 : Int64) + (x_0.toInt64))), .second, .val (.ref f_o), .val (.int (3 : Int32)), .val (.int (1 : Int32)), .val (.int x_1)] [])) _
    refine XS.lloadN X5.here hx rfl (hb hby own_d5_27) rfl ?_
    show Steps p.tables e below (T5.setTop (mkF m 28 #[.val (.ref a_o), .val (.long ((0 : Int64) + (x_0.toInt64))), .second, .val (.ref f_o), .val (.int (3 : Int32)), .val (.int (1 : Int32)), .val (.int x_1)] [(.long ((0 : Int64) + (x_0.toInt64)))])) _
    refine XS.iload X5.here hx rfl (hb hby own_d5_28) rfl ?_
    show Steps p.tables e below (T5.setTop (mkF m 30 #[.val (.ref a_o), .val (.long ((0 : Int64) + (x_0.toInt64))), .second, .val (.ref f_o), .val (.int (3 : Int32)), .val (.int (1 : Int32)), .val (.int x_1)] [(.int x_1), (.long ((0 : Int64) + (x_0.toInt64)))])) _
    refine XS.i2l X5.here hx rfl (hb hby own_d5_30) rfl ?_
    show Steps p.tables e below (T5.setTop (mkF m 31 #[.val (.ref a_o), .val (.long ((0 : Int64) + (x_0.toInt64))), .second, .val (.ref f_o), .val (.int (3 : Int32)), .val (.int (1 : Int32)), .val (.int x_1)] [(.long (x_1.toInt64)), (.long ((0 : Int64) + (x_0.toInt64)))])) _
    refine XS.ladd X5.here hx rfl (hb hby own_d5_31) rfl ?_
    show Steps p.tables e below (T5.setTop (mkF m 32 #[.val (.ref a_o), .val (.long ((0 : Int64) + (x_0.toInt64))), .second, .val (.ref f_o), .val (.int (3 : Int32)), .val (.int (1 : Int32)), .val (.int x_1)] [(.long (((0 : Int64) + (x_0.toInt64)) + (x_1.toInt64)))])) _
    refine XS.lstoreN X5.here hx rfl (hb hby own_d5_32) rfl (l' := #[.val (.ref a_o), .val (.long (((0 : Int64) + (x_0.toInt64)) + (x_1.toInt64))), .second, .val (.ref f_o), .val (.int (3 : Int32)), .val (.int (1 : Int32)), .val (.int x_1)]) rfl ?_
    show Steps p.tables e below (T5.setTop (mkF m 33 #[.val (.ref a_o), .val (.long (((0 : Int64) + (x_0.toInt64)) + (x_1.toInt64))), .second, .val (.ref f_o), .val (.int (3 : Int32)), .val (.int (1 : Int32)), .val (.int x_1)] [])) _
    refine XS.iinc X5.here hx rfl (hb hby own_d5_33) rfl (l' := #[.val (.ref a_o), .val (.long (((0 : Int64) + (x_0.toInt64)) + (x_1.toInt64))), .second, .val (.ref f_o), .val (.int (3 : Int32)), .val (.int (2 : Int32)), .val (.int x_1)]) rfl ?_
    show Steps p.tables e below (T5.setTop (mkF m 36 #[.val (.ref a_o), .val (.long (((0 : Int64) + (x_0.toInt64)) + (x_1.toInt64))), .second, .val (.ref f_o), .val (.int (3 : Int32)), .val (.int (2 : Int32)), .val (.int x_1)] [])) _
    refine XS.goto X5.here hx rfl (pc0 := 36) (pc' := 14) rfl (hb hby own_d5_36) (by decide) (by decide) ?_
    show Steps p.tables e below (T5.setTop (mkF m 14 #[.val (.ref a_o), .val (.long (((0 : Int64) + (x_0.toInt64)) + (x_1.toInt64))), .second, .val (.ref f_o), .val (.int (3 : Int32)), .val (.int (2 : Int32)), .val (.int x_1)] [])) _
    refine XS.iload X5.here hx rfl (hb hby own_d5_14) rfl ?_
    show Steps p.tables e below (T5.setTop (mkF m 16 #[.val (.ref a_o), .val (.long (((0 : Int64) + (x_0.toInt64)) + (x_1.toInt64))), .second, .val (.ref f_o), .val (.int (3 : Int32)), .val (.int (2 : Int32)), .val (.int x_1)] [(.int (2 : Int32))])) _
    refine XS.iload X5.here hx rfl (hb hby own_d5_16) rfl ?_
    show Steps p.tables e below (T5.setTop (mkF m 18 #[.val (.ref a_o), .val (.long (((0 : Int64) + (x_0.toInt64)) + (x_1.toInt64))), .second, .val (.ref f_o), .val (.int (3 : Int32)), .val (.int (2 : Int32)), .val (.int x_1)] [(.int (3 : Int32)), (.int (2 : Int32))])) _
    refine XS.icmpNo X5.here hx rfl (hb hby own_d5_18) rfl (tlt ((by decide) : (2 : Int32) < (3 : Int32))).2.1 ?_
    show Steps p.tables e below (T5.setTop (mkF m 21 #[.val (.ref a_o), .val (.long (((0 : Int64) + (x_0.toInt64)) + (x_1.toInt64))), .second, .val (.ref f_o), .val (.int (3 : Int32)), .val (.int (2 : Int32)), .val (.int x_1)] [])) _
    refine XS.aloadN X5.here hx rfl (hb hby own_d5_21) rfl rfl ?_
    show Steps p.tables e below (T5.setTop (mkF m 22 #[.val (.ref a_o), .val (.long (((0 : Int64) + (x_0.toInt64)) + (x_1.toInt64))), .second, .val (.ref f_o), .val (.int (3 : Int32)), .val (.int (2 : Int32)), .val (.int x_1)] [(.ref f_o)])) _
    refine XS.iload X5.here hx rfl (hb hby own_d5_22) rfl ?_
    show Steps p.tables e below (T5.setTop (mkF m 24 #[.val (.ref a_o), .val (.long (((0 : Int64) + (x_0.toInt64)) + (x_1.toInt64))), .second, .val (.ref f_o), .val (.int (3 : Int32)), .val (.int (2 : Int32)), .val (.int x_1)] [(.int (2 : Int32)), (.ref f_o)])) _
    refine X5.iaload hx (j := (2 : Int32)) (v := (.int x_2)) (by rw [e5]; exact Ar49.1) (State.isArrayOf_alike hZ.alike Ar49.2.1) Ar49.2.2 hin49 hat49 (g := (mkF m 24 #[.val (.ref a_o), .val (.long (((0 : Int64) + (x_0.toInt64)) + (x_1.toInt64))), .second, .val (.ref f_o), .val (.int (3 : Int32)), .val (.int (2 : Int32)), .val (.int x_1)] [(.int (2 : Int32)), (.ref f_o)])) rfl rfl (hb hby own_d5_24) _ ?_
    show Steps p.tables e below (T5.setTop (mkF m 25 #[.val (.ref a_o), .val (.long (((0 : Int64) + (x_0.toInt64)) + (x_1.toInt64))), .second, .val (.ref f_o), .val (.int (3 : Int32)), .val (.int (2 : Int32)), .val (.int x_1)] [(.int x_2)])) _
    refine XS.istore X5.here hx rfl (hb hby own_d5_25) rfl (l' := #[.val (.ref a_o), .val (.long (((0 : Int64) + (x_0.toInt64)) + (x_1.toInt64))), .second, .val (.ref f_o), .val (.int (3 : Int32)), .val (.int (2 : Int32)), .val (.int x_2)]) rfl ?_
    show Steps p.tables e below (T5.setTop (mkF m 27 #[.val (.ref a_o), .val (.long (((0 : Int64) + (x_0.toInt64)) + (x_1.toInt64))), .second, .val (.ref f_o), .val (.int (3 : Int32)), .val (.int (2 : Int32)), .val (.int x_2)] [])) _
    refine XS.lloadN X5.here hx rfl (hb hby own_d5_27) rfl ?_
    show Steps p.tables e below (T5.setTop (mkF m 28 #[.val (.ref a_o), .val (.long (((0 : Int64) + (x_0.toInt64)) + (x_1.toInt64))), .second, .val (.ref f_o), .val (.int (3 : Int32)), .val (.int (2 : Int32)), .val (.int x_2)] [(.long (((0 : Int64) + (x_0.toInt64)) + (x_1.toInt64)))])) _
    refine XS.iload X5.here hx rfl (hb hby own_d5_28) rfl ?_
    show Steps p.tables e below (T5.setTop (mkF m 30 #[.val (.ref a_o), .val (.long (((0 : Int64) + (x_0.toInt64)) + (x_1.toInt64))), .second, .val (.ref f_o), .val (.int (3 : Int32)), .val (.int (2 : Int32)), .val (.int x_2)] [(.int x_2), (.long (((0 : Int64) + (x_0.toInt64)) + (x_1.toInt64)))])) _
    refine XS.i2l X5.here hx rfl (hb hby own_d5_30) rfl ?_
    show Steps p.tables e below (T5.setTop (mkF m 31 #[.val (.ref a_o), .val (.long (((0 : Int64) + (x_0.toInt64)) + (x_1.toInt64))), .second, .val (.ref f_o), .val (.int (3 : Int32)), .val (.int (2 : Int32)), .val (.int x_2)] [(.long (x_2.toInt64)), (.long (((0 : Int64) + (x_0.toInt64)) + (x_1.toInt64)))])) _
    refine XS.ladd X5.here hx rfl (hb hby own_d5_31) rfl ?_
    show Steps p.tables e below (T5.setTop (mkF m 32 #[.val (.ref a_o), .val (.long (((0 : Int64) + (x_0.toInt64)) + (x_1.toInt64))), .second, .val (.ref f_o), .val (.int (3 : Int32)), .val (.int (2 : Int32)), .val (.int x_2)] [(.long ((((0 : Int64) + (x_0.toInt64)) + (x_1.toInt64)) + (x_2.toInt64)))])) _
    refine XS.lstoreN X5.here hx rfl (hb hby own_d5_32) rfl (l' := #[.val (.ref a_o), .val (.long ((((0 : Int64) + (x_0.toInt64)) + (x_1.toInt64)) + (x_2.toInt64))), .second, .val (.ref f_o), .val (.int (3 : Int32)), .val (.int (2 : Int32)), .val (.int x_2)]) rfl ?_
    show Steps p.tables e below (T5.setTop (mkF m 33 #[.val (.ref a_o), .val (.long ((((0 : Int64) + (x_0.toInt64)) + (x_1.toInt64)) + (x_2.toInt64))), .second, .val (.ref f_o), .val (.int (3 : Int32)), .val (.int (2 : Int32)), .val (.int x_2)] [])) _
    refine XS.iinc X5.here hx rfl (hb hby own_d5_33) rfl (l' := #[.val (.ref a_o), .val (.long ((((0 : Int64) + (x_0.toInt64)) + (x_1.toInt64)) + (x_2.toInt64))), .second, .val (.ref f_o), .val (.int (3 : Int32)), .val (.int (3 : Int32)), .val (.int x_2)]) rfl ?_
    show Steps p.tables e below (T5.setTop (mkF m 36 #[.val (.ref a_o), .val (.long ((((0 : Int64) + (x_0.toInt64)) + (x_1.toInt64)) + (x_2.toInt64))), .second, .val (.ref f_o), .val (.int (3 : Int32)), .val (.int (3 : Int32)), .val (.int x_2)] [])) _
    refine XS.goto X5.here hx rfl (pc0 := 36) (pc' := 14) rfl (hb hby own_d5_36) (by decide) (by decide) ?_
    show Steps p.tables e below (T5.setTop (mkF m 14 #[.val (.ref a_o), .val (.long ((((0 : Int64) + (x_0.toInt64)) + (x_1.toInt64)) + (x_2.toInt64))), .second, .val (.ref f_o), .val (.int (3 : Int32)), .val (.int (3 : Int32)), .val (.int x_2)] [])) _
    refine XS.iload X5.here hx rfl (hb hby own_d5_14) rfl ?_
    show Steps p.tables e below (T5.setTop (mkF m 16 #[.val (.ref a_o), .val (.long ((((0 : Int64) + (x_0.toInt64)) + (x_1.toInt64)) + (x_2.toInt64))), .second, .val (.ref f_o), .val (.int (3 : Int32)), .val (.int (3 : Int32)), .val (.int x_2)] [(.int (3 : Int32))])) _
    refine XS.iload X5.here hx rfl (hb hby own_d5_16) rfl ?_
    show Steps p.tables e below (T5.setTop (mkF m 18 #[.val (.ref a_o), .val (.long ((((0 : Int64) + (x_0.toInt64)) + (x_1.toInt64)) + (x_2.toInt64))), .second, .val (.ref f_o), .val (.int (3 : Int32)), .val (.int (3 : Int32)), .val (.int x_2)] [(.int (3 : Int32)), (.int (3 : Int32))])) _
    refine XS.icmpYes X5.here hx rfl (pc0 := 18) (pc' := 39) rfl (hb hby own_d5_18) rfl (flt ((by decide) : ¬ ((3 : Int32) < (3 : Int32)))).2.1 (by decide) (by decide) ?_
    show Steps p.tables e below (T5.setTop (mkF m 39 #[.val (.ref a_o), .val (.long ((((0 : Int64) + (x_0.toInt64)) + (x_1.toInt64)) + (x_2.toInt64))), .second, .val (.ref f_o), .val (.int (3 : Int32)), .val (.int (3 : Int32)), .val (.int x_2)] [])) _
    refine XS.lloadN X5.here hx rfl (hb hby own_d5_39) rfl ?_
    show Steps p.tables e below (T5.setTop (mkF m 40 #[.val (.ref a_o), .val (.long ((((0 : Int64) + (x_0.toInt64)) + (x_1.toInt64)) + (x_2.toInt64))), .second, .val (.ref f_o), .val (.int (3 : Int32)), .val (.int (3 : Int32)), .val (.int x_2)] [(.long ((((0 : Int64) + (x_0.toInt64)) + (x_1.toInt64)) + (x_2.toInt64)))])) _
    exact X5.lreturnOut hx Bd.returns (hb hby own_d5_40) hr
  · show Qown_cf3 Z a_o f_o k_f x_0 x_1 x_2 h0 n0 _ T5.heap _
    rw [e5]
    exact ⟨rfl, N0, rfl⟩
theorem own_ef_own_cf4 (m : MethodId) (a_o : Addr) : entryFrame m #[(.ref a_o)] 7 = mkF m 0 #[.val (.ref a_o), .unset, .unset, .unset, .unset, .unset, .unset] [] := by first | (simp [entryFrame, mkF, argsToLocals, Value.category]; done) | rfl
def Qown_cf4 (Z : State) (a_o : Addr) (f_o : Addr) (k_f : ClassId) (x_0 : Int32) (x_1 : Int32) (x_2 : Int32) (x_3 : Int32) (h0 : Heap) (n0 : Nat) (v : Option Value) (h : Heap) (L : List Loc) : Prop := v = some (.long (((((0 : Int64) + (x_0.toInt64)) + (x_1.toInt64)) + (x_2.toInt64)) + (x_3.toInt64))) ∧ Fr n0 L ∧ h = h0
set_option maxRecDepth 65536 in
set_option maxHeartbeats 40000000 in
theorem own_cf4 (l : Launch) (Z : State) (a0 : Array Value) (hw : ∀ d ∈ tables_1, d.before a0 Z = true) (ws : List Jvm.Cond) (a_o : Addr) (f_o : Addr) (k_f : ClassId) (x_0 : Int32) (x_1 : Int32) (x_2 : Int32) (x_3 : Int32) (h0 : Heap) (n0 : Nat) (Z0 : n0 ≤ h0.size) (F_f : Fld Z h0 a_o "com/example/merit/merit/Postings" "frequencies" "[I" (.ref f_o)) (V_f : Arv Z h0 f_o k_f .int (4 : Int32) [(.int x_0), (.int x_1), (.int x_2), (.int x_3)] (.int (0 : Int32))) :
    MetFree l (⟨"com/example/merit/merit/Postings", "collectionFrequency", "()J"⟩ : MethodName) (head1 (Jvm.Cond.code (⟨"com/example/merit/merit/Postings", "collectionFrequency", "()J"⟩ : MethodName) prog_35_method_6_code 7 (some .long) :: ws) ({ frames := 0, cells := 0, slots := 0, locals := 0 } : Room)) (fun a U => a = #[(.ref a_o)] ∧ Z.Warmed39 U.vm ∧ U.heap = h0) (fun _ _ _ _ _ => True) (fun _ U o U' => ∃ v L, o = .returned v ∧ Qown_cf4 Z a_o f_o k_f x_0 x_1 x_2 x_3 h0 n0 v U'.heap L ∧ FrameEnd U o U' L ({ frames := 0, cells := 0, slots := 0, locals := 0 } : Room).cells ({ frames := 0, cells := 0, slots := 0, locals := 0 } : Room).slots) := by
  refine MetFree.of_bodySF (plainFor_of_name own_pn1) hisR ?_
  intro p e s m args below meth c s₁ Bd hml0 hP hK
  obtain ⟨rfl, hZ, hh⟩ := hP
  have hx := Bd.exec
  have hby := Bd.bytes
  have hml : c.maxLocals = 7 := hml0
  have hown : s.vm.findClass "com/example/merit/merit/Postings" = some m.cls := findClass_of_methodNamed Bd.named
  have hnm := (name_of_methodNamed Bd.named Bd.method).1
  have X0 : Stand p l e ({ frames := 0, cells := 0, slots := 0, locals := 0 } : Room) s m #[(.ref a_o)] below meth c s₁ [] 0 0 := Stand.of_body Bd
  have e0 : s₁.heap = h0 := by rw [← hh, Bd.state]; rfl
  have N0 := Fr.nil n0
  have pre0 : ∀ t, Steps p.tables e below (s₁.setTop (mkF m 0 #[.val (.ref a_o), .unset, .unset, .unset, .unset, .unset, .unset] [])) t → Steps p.tables e below (s₁.setTop (entryFrame m #[(.ref a_o)] 7)) t := fun t k => castTop (own_ef_own_cf4 m a_o) k
  obtain ⟨T5, X5, e5, st5⟩ := getF X0 hx hZ hown (host := "") (Or.inl (hw _ (List.mem_of_getElem? (i := 21) rfl))) Via.refl e0 F_f (g := (mkF m 3 #[.val (.ref a_o), .val (.long (0 : Int64)), .second, .unset, .unset, .unset, .unset] [(.ref a_o)])) rfl rfl (hb hby own_d5_3)
  obtain ⟨cl9, Ar9, -, S9, M9, -, -⟩ := id V_f
  obtain ⟨cl19, Ar19, q19, S19, M19, H19, G19⟩ := id V_f
  have hin19 : ¬ ((0 : Int32) < 0 ∨ cl19.slots.size ≤ ((0 : Int32)).toNatClampNeg) := inb_of S19 ⟨by decide, by decide⟩
  have hat19 : cl19.slots[((0 : Int32)).toNatClampNeg]? = some (.int x_0) := H19.at hin19 rfl
  obtain ⟨cl34, Ar34, q34, S34, M34, H34, G34⟩ := id V_f
  have hin34 : ¬ ((1 : Int32) < 0 ∨ cl34.slots.size ≤ ((1 : Int32)).toNatClampNeg) := inb_of S34 ⟨by decide, by decide⟩
  have hat34 : cl34.slots[((1 : Int32)).toNatClampNeg]? = some (.int x_1) := H34.at hin34 rfl
  obtain ⟨cl49, Ar49, q49, S49, M49, H49, G49⟩ := id V_f
  have hin49 : ¬ ((2 : Int32) < 0 ∨ cl49.slots.size ≤ ((2 : Int32)).toNatClampNeg) := inb_of S49 ⟨by decide, by decide⟩
  have hat49 : cl49.slots[((2 : Int32)).toNatClampNeg]? = some (.int x_2) := H49.at hin49 rfl
  obtain ⟨cl64, Ar64, q64, S64, M64, H64, G64⟩ := id V_f
  have hin64 : ¬ ((3 : Int32) < 0 ∨ cl64.slots.size ≤ ((3 : Int32)).toNatClampNeg) := inb_of S64 ⟨by decide, by decide⟩
  have hat64 : cl64.slots[((3 : Int32)).toNatClampNeg]? = some (.int x_3) := H64.at hin64 rfl
  obtain ⟨fs, hr, hrun, hended, hW, hsame⟩ := X5.leave (v := some (.long (((((0 : Int64) + (x_0.toInt64)) + (x_1.toInt64)) + (x_2.toInt64)) + (x_3.toInt64)))) (fun h => by rw [Bd.returns] at h; cases h) (hlocks := BodyLoose.notSynchronized Bd)
  refine ⟨_, _, pre0 _ ?_, hrun, hended, _, _, rfl, ?_, ⟨_, rfl⟩, hW, hsame.mono (by decide) (by decide)⟩
  · show Steps p.tables e below (s₁.setTop (mkF m 0 #[.val (.ref a_o), .unset, .unset, .unset, .unset, .unset, .unset] [])) _
    refine XS.lconst X0.here hx rfl (hb hby own_d5_0) ?_
    show Steps p.tables e below (s₁.setTop (mkF m 1 #[.val (.ref a_o), .unset, .unset, .unset, .unset, .unset, .unset] [(.long (0 : Int64))])) _
    refine XS.lstoreN X0.here hx rfl (hb hby own_d5_1) rfl (l' := #[.val (.ref a_o), .val (.long (0 : Int64)), .second, .unset, .unset, .unset, .unset]) rfl ?_
    show Steps p.tables e below (s₁.setTop (mkF m 2 #[.val (.ref a_o), .val (.long (0 : Int64)), .second, .unset, .unset, .unset, .unset] [])) _
    refine XS.aloadN X0.here hx rfl (hb hby own_d5_2) rfl rfl ?_
    show Steps p.tables e below (s₁.setTop (mkF m 3 #[.val (.ref a_o), .val (.long (0 : Int64)), .second, .unset, .unset, .unset, .unset] [(.ref a_o)])) _
    refine st5 _ ?_
    show Steps p.tables e below (T5.setTop (mkF m 6 #[.val (.ref a_o), .val (.long (0 : Int64)), .second, .unset, .unset, .unset, .unset] [(.ref f_o)])) _
    refine XS.astoreN X5.here hx rfl (hb hby own_d5_6) rfl rfl (l' := #[.val (.ref a_o), .val (.long (0 : Int64)), .second, .val (.ref f_o), .unset, .unset, .unset]) rfl ?_
    show Steps p.tables e below (T5.setTop (mkF m 7 #[.val (.ref a_o), .val (.long (0 : Int64)), .second, .val (.ref f_o), .unset, .unset, .unset] [])) _
    refine XS.aloadN X5.here hx rfl (hb hby own_d5_7) rfl rfl ?_
    show Steps p.tables e below (T5.setTop (mkF m 8 #[.val (.ref a_o), .val (.long (0 : Int64)), .second, .val (.ref f_o), .unset, .unset, .unset] [(.ref f_o)])) _
    refine X5.arraylength hx (by rw [e5]; exact Ar9.1) (State.isArrayOf_alike hZ.alike Ar9.2.1) (g := (mkF m 8 #[.val (.ref a_o), .val (.long (0 : Int64)), .second, .val (.ref f_o), .unset, .unset, .unset] [(.ref f_o)])) rfl rfl (hb hby own_d5_8) _ ?_
    rw [len_of S9 M9]
    show Steps p.tables e below (T5.setTop (mkF m 9 #[.val (.ref a_o), .val (.long (0 : Int64)), .second, .val (.ref f_o), .unset, .unset, .unset] [(.int (4 : Int32))])) _
    refine XS.istore X5.here hx rfl (hb hby own_d5_9) rfl (l' := #[.val (.ref a_o), .val (.long (0 : Int64)), .second, .val (.ref f_o), .val (.int (4 : Int32)), .unset, .unset]) rfl ?_
    show Steps p.tables e below (T5.setTop (mkF m 11 #[.val (.ref a_o), .val (.long (0 : Int64)), .second, .val (.ref f_o), .val (.int (4 : Int32)), .unset, .unset] [])) _
    refine XS.iconst X5.here hx rfl (hb hby own_d5_11) ?_
    show Steps p.tables e below (T5.setTop (mkF m 12 #[.val (.ref a_o), .val (.long (0 : Int64)), .second, .val (.ref f_o), .val (.int (4 : Int32)), .unset, .unset] [(.int (0 : Int32))])) _
    refine XS.istore X5.here hx rfl (hb hby own_d5_12) rfl (l' := #[.val (.ref a_o), .val (.long (0 : Int64)), .second, .val (.ref f_o), .val (.int (4 : Int32)), .val (.int (0 : Int32)), .unset]) rfl ?_
    show Steps p.tables e below (T5.setTop (mkF m 14 #[.val (.ref a_o), .val (.long (0 : Int64)), .second, .val (.ref f_o), .val (.int (4 : Int32)), .val (.int (0 : Int32)), .unset] [])) _
    refine XS.iload X5.here hx rfl (hb hby own_d5_14) rfl ?_
    show Steps p.tables e below (T5.setTop (mkF m 16 #[.val (.ref a_o), .val (.long (0 : Int64)), .second, .val (.ref f_o), .val (.int (4 : Int32)), .val (.int (0 : Int32)), .unset] [(.int (0 : Int32))])) _
    refine XS.iload X5.here hx rfl (hb hby own_d5_16) rfl ?_
    show Steps p.tables e below (T5.setTop (mkF m 18 #[.val (.ref a_o), .val (.long (0 : Int64)), .second, .val (.ref f_o), .val (.int (4 : Int32)), .val (.int (0 : Int32)), .unset] [(.int (4 : Int32)), (.int (0 : Int32))])) _
    refine XS.icmpNo X5.here hx rfl (hb hby own_d5_18) rfl (tlt ((by decide) : (0 : Int32) < (4 : Int32))).2.1 ?_
    show Steps p.tables e below (T5.setTop (mkF m 21 #[.val (.ref a_o), .val (.long (0 : Int64)), .second, .val (.ref f_o), .val (.int (4 : Int32)), .val (.int (0 : Int32)), .unset] [])) _
    refine XS.aloadN X5.here hx rfl (hb hby own_d5_21) rfl rfl ?_
    show Steps p.tables e below (T5.setTop (mkF m 22 #[.val (.ref a_o), .val (.long (0 : Int64)), .second, .val (.ref f_o), .val (.int (4 : Int32)), .val (.int (0 : Int32)), .unset] [(.ref f_o)])) _
    refine XS.iload X5.here hx rfl (hb hby own_d5_22) rfl ?_
    show Steps p.tables e below (T5.setTop (mkF m 24 #[.val (.ref a_o), .val (.long (0 : Int64)), .second, .val (.ref f_o), .val (.int (4 : Int32)), .val (.int (0 : Int32)), .unset] [(.int (0 : Int32)), (.ref f_o)])) _
    refine X5.iaload hx (j := (0 : Int32)) (v := (.int x_0)) (by rw [e5]; exact Ar19.1) (State.isArrayOf_alike hZ.alike Ar19.2.1) Ar19.2.2 hin19 hat19 (g := (mkF m 24 #[.val (.ref a_o), .val (.long (0 : Int64)), .second, .val (.ref f_o), .val (.int (4 : Int32)), .val (.int (0 : Int32)), .unset] [(.int (0 : Int32)), (.ref f_o)])) rfl rfl (hb hby own_d5_24) _ ?_
    show Steps p.tables e below (T5.setTop (mkF m 25 #[.val (.ref a_o), .val (.long (0 : Int64)), .second, .val (.ref f_o), .val (.int (4 : Int32)), .val (.int (0 : Int32)), .unset] [(.int x_0)])) _
    refine XS.istore X5.here hx rfl (hb hby own_d5_25) rfl (l' := #[.val (.ref a_o), .val (.long (0 : Int64)), .second, .val (.ref f_o), .val (.int (4 : Int32)), .val (.int (0 : Int32)), .val (.int x_0)]) rfl ?_
    show Steps p.tables e below (T5.setTop (mkF m 27 #[.val (.ref a_o), .val (.long (0 : Int64)), .second, .val (.ref f_o), .val (.int (4 : Int32)), .val (.int (0 : Int32)), .val (.int x_0)] [])) _
    refine XS.lloadN X5.here hx rfl (hb hby own_d5_27) rfl ?_
    show Steps p.tables e below (T5.setTop (mkF m 28 #[.val (.ref a_o), .val (.long (0 : Int64)), .second, .val (.ref f_o), .val (.int (4 : Int32)), .val (.int (0 : Int32)), .val (.int x_0)] [(.long (0 : Int64))])) _
    refine XS.iload X5.here hx rfl (hb hby own_d5_28) rfl ?_
    show Steps p.tables e below (T5.setTop (mkF m 30 #[.val (.ref a_o), .val (.long (0 : Int64)), .second, .val (.ref f_o), .val (.int (4 : Int32)), .val (.int (0 : Int32)), .val (.int x_0)] [(.int x_0), (.long (0 : Int64))])) _
    refine XS.i2l X5.here hx rfl (hb hby own_d5_30) rfl ?_
    show Steps p.tables e below (T5.setTop (mkF m 31 #[.val (.ref a_o), .val (.long (0 : Int64)), .second, .val (.ref f_o), .val (.int (4 : Int32)), .val (.int (0 : Int32)), .val (.int x_0)] [(.long (x_0.toInt64)), (.long (0 : Int64))])) _
    refine XS.ladd X5.here hx rfl (hb hby own_d5_31) rfl ?_
    show Steps p.tables e below (T5.setTop (mkF m 32 #[.val (.ref a_o), .val (.long (0 : Int64)), .second, .val (.ref f_o), .val (.int (4 : Int32)), .val (.int (0 : Int32)), .val (.int x_0)] [(.long ((0 : Int64) + (x_0.toInt64)))])) _
    refine XS.lstoreN X5.here hx rfl (hb hby own_d5_32) rfl (l' := #[.val (.ref a_o), .val (.long ((0 : Int64) + (x_0.toInt64))), .second, .val (.ref f_o), .val (.int (4 : Int32)), .val (.int (0 : Int32)), .val (.int x_0)]) rfl ?_
    show Steps p.tables e below (T5.setTop (mkF m 33 #[.val (.ref a_o), .val (.long ((0 : Int64) + (x_0.toInt64))), .second, .val (.ref f_o), .val (.int (4 : Int32)), .val (.int (0 : Int32)), .val (.int x_0)] [])) _
    refine XS.iinc X5.here hx rfl (hb hby own_d5_33) rfl (l' := #[.val (.ref a_o), .val (.long ((0 : Int64) + (x_0.toInt64))), .second, .val (.ref f_o), .val (.int (4 : Int32)), .val (.int (1 : Int32)), .val (.int x_0)]) rfl ?_
    show Steps p.tables e below (T5.setTop (mkF m 36 #[.val (.ref a_o), .val (.long ((0 : Int64) + (x_0.toInt64))), .second, .val (.ref f_o), .val (.int (4 : Int32)), .val (.int (1 : Int32)), .val (.int x_0)] [])) _
    refine XS.goto X5.here hx rfl (pc0 := 36) (pc' := 14) rfl (hb hby own_d5_36) (by decide) (by decide) ?_
    show Steps p.tables e below (T5.setTop (mkF m 14 #[.val (.ref a_o), .val (.long ((0 : Int64) + (x_0.toInt64))), .second, .val (.ref f_o), .val (.int (4 : Int32)), .val (.int (1 : Int32)), .val (.int x_0)] [])) _
    refine XS.iload X5.here hx rfl (hb hby own_d5_14) rfl ?_
    show Steps p.tables e below (T5.setTop (mkF m 16 #[.val (.ref a_o), .val (.long ((0 : Int64) + (x_0.toInt64))), .second, .val (.ref f_o), .val (.int (4 : Int32)), .val (.int (1 : Int32)), .val (.int x_0)] [(.int (1 : Int32))])) _
    refine XS.iload X5.here hx rfl (hb hby own_d5_16) rfl ?_
    show Steps p.tables e below (T5.setTop (mkF m 18 #[.val (.ref a_o), .val (.long ((0 : Int64) + (x_0.toInt64))), .second, .val (.ref f_o), .val (.int (4 : Int32)), .val (.int (1 : Int32)), .val (.int x_0)] [(.int (4 : Int32)), (.int (1 : Int32))])) _
    refine XS.icmpNo X5.here hx rfl (hb hby own_d5_18) rfl (tlt ((by decide) : (1 : Int32) < (4 : Int32))).2.1 ?_
    show Steps p.tables e below (T5.setTop (mkF m 21 #[.val (.ref a_o), .val (.long ((0 : Int64) + (x_0.toInt64))), .second, .val (.ref f_o), .val (.int (4 : Int32)), .val (.int (1 : Int32)), .val (.int x_0)] [])) _
    refine XS.aloadN X5.here hx rfl (hb hby own_d5_21) rfl rfl ?_
    show Steps p.tables e below (T5.setTop (mkF m 22 #[.val (.ref a_o), .val (.long ((0 : Int64) + (x_0.toInt64))), .second, .val (.ref f_o), .val (.int (4 : Int32)), .val (.int (1 : Int32)), .val (.int x_0)] [(.ref f_o)])) _
    refine XS.iload X5.here hx rfl (hb hby own_d5_22) rfl ?_
    show Steps p.tables e below (T5.setTop (mkF m 24 #[.val (.ref a_o), .val (.long ((0 : Int64) + (x_0.toInt64))), .second, .val (.ref f_o), .val (.int (4 : Int32)), .val (.int (1 : Int32)), .val (.int x_0)] [(.int (1 : Int32)), (.ref f_o)])) _
    refine X5.iaload hx (j := (1 : Int32)) (v := (.int x_1)) (by rw [e5]; exact Ar34.1) (State.isArrayOf_alike hZ.alike Ar34.2.1) Ar34.2.2 hin34 hat34 (g := (mkF m 24 #[.val (.ref a_o), .val (.long ((0 : Int64) + (x_0.toInt64))), .second, .val (.ref f_o), .val (.int (4 : Int32)), .val (.int (1 : Int32)), .val (.int x_0)] [(.int (1 : Int32)), (.ref f_o)])) rfl rfl (hb hby own_d5_24) _ ?_
    show Steps p.tables e below (T5.setTop (mkF m 25 #[.val (.ref a_o), .val (.long ((0 : Int64) + (x_0.toInt64))), .second, .val (.ref f_o), .val (.int (4 : Int32)), .val (.int (1 : Int32)), .val (.int x_0)] [(.int x_1)])) _
    refine XS.istore X5.here hx rfl (hb hby own_d5_25) rfl (l' := #[.val (.ref a_o), .val (.long ((0 : Int64) + (x_0.toInt64))), .second, .val (.ref f_o), .val (.int (4 : Int32)), .val (.int (1 : Int32)), .val (.int x_1)]) rfl ?_
    show Steps p.tables e below (T5.setTop (mkF m 27 #[.val (.ref a_o), .val (.long ((0 : Int64) + (x_0.toInt64))), .second, .val (.ref f_o), .val (.int (4 : Int32)), .val (.int (1 : Int32)), .val (.int x_1)] [])) _
    refine XS.lloadN X5.here hx rfl (hb hby own_d5_27) rfl ?_
    show Steps p.tables e below (T5.setTop (mkF m 28 #[.val (.ref a_o), .val (.long ((0 : Int64) + (x_0.toInt64))), .second, .val (.ref f_o), .val (.int (4 : Int32)), .val (.int (1 : Int32)), .val (.int x_1)] [(.long ((0 : Int64) + (x_0.toInt64)))])) _
    refine XS.iload X5.here hx rfl (hb hby own_d5_28) rfl ?_
    show Steps p.tables e below (T5.setTop (mkF m 30 #[.val (.ref a_o), .val (.long ((0 : Int64) + (x_0.toInt64))), .second, .val (.ref f_o), .val (.int (4 : Int32)), .val (.int (1 : Int32)), .val (.int x_1)] [(.int x_1), (.long ((0 : Int64) + (x_0.toInt64)))])) _
    refine XS.i2l X5.here hx rfl (hb hby own_d5_30) rfl ?_
    show Steps p.tables e below (T5.setTop (mkF m 31 #[.val (.ref a_o), .val (.long ((0 : Int64) + (x_0.toInt64))), .second, .val (.ref f_o), .val (.int (4 : Int32)), .val (.int (1 : Int32)), .val (.int x_1)] [(.long (x_1.toInt64)), (.long ((0 : Int64) + (x_0.toInt64)))])) _
    refine XS.ladd X5.here hx rfl (hb hby own_d5_31) rfl ?_
    show Steps p.tables e below (T5.setTop (mkF m 32 #[.val (.ref a_o), .val (.long ((0 : Int64) + (x_0.toInt64))), .second, .val (.ref f_o), .val (.int (4 : Int32)), .val (.int (1 : Int32)), .val (.int x_1)] [(.long (((0 : Int64) + (x_0.toInt64)) + (x_1.toInt64)))])) _
    refine XS.lstoreN X5.here hx rfl (hb hby own_d5_32) rfl (l' := #[.val (.ref a_o), .val (.long (((0 : Int64) + (x_0.toInt64)) + (x_1.toInt64))), .second, .val (.ref f_o), .val (.int (4 : Int32)), .val (.int (1 : Int32)), .val (.int x_1)]) rfl ?_
    show Steps p.tables e below (T5.setTop (mkF m 33 #[.val (.ref a_o), .val (.long (((0 : Int64) + (x_0.toInt64)) + (x_1.toInt64))), .second, .val (.ref f_o), .val (.int (4 : Int32)), .val (.int (1 : Int32)), .val (.int x_1)] [])) _
    refine XS.iinc X5.here hx rfl (hb hby own_d5_33) rfl (l' := #[.val (.ref a_o), .val (.long (((0 : Int64) + (x_0.toInt64)) + (x_1.toInt64))), .second, .val (.ref f_o), .val (.int (4 : Int32)), .val (.int (2 : Int32)), .val (.int x_1)]) rfl ?_
    show Steps p.tables e below (T5.setTop (mkF m 36 #[.val (.ref a_o), .val (.long (((0 : Int64) + (x_0.toInt64)) + (x_1.toInt64))), .second, .val (.ref f_o), .val (.int (4 : Int32)), .val (.int (2 : Int32)), .val (.int x_1)] [])) _
    refine XS.goto X5.here hx rfl (pc0 := 36) (pc' := 14) rfl (hb hby own_d5_36) (by decide) (by decide) ?_
    show Steps p.tables e below (T5.setTop (mkF m 14 #[.val (.ref a_o), .val (.long (((0 : Int64) + (x_0.toInt64)) + (x_1.toInt64))), .second, .val (.ref f_o), .val (.int (4 : Int32)), .val (.int (2 : Int32)), .val (.int x_1)] [])) _
    refine XS.iload X5.here hx rfl (hb hby own_d5_14) rfl ?_
    show Steps p.tables e below (T5.setTop (mkF m 16 #[.val (.ref a_o), .val (.long (((0 : Int64) + (x_0.toInt64)) + (x_1.toInt64))), .second, .val (.ref f_o), .val (.int (4 : Int32)), .val (.int (2 : Int32)), .val (.int x_1)] [(.int (2 : Int32))])) _
    refine XS.iload X5.here hx rfl (hb hby own_d5_16) rfl ?_
    show Steps p.tables e below (T5.setTop (mkF m 18 #[.val (.ref a_o), .val (.long (((0 : Int64) + (x_0.toInt64)) + (x_1.toInt64))), .second, .val (.ref f_o), .val (.int (4 : Int32)), .val (.int (2 : Int32)), .val (.int x_1)] [(.int (4 : Int32)), (.int (2 : Int32))])) _
    refine XS.icmpNo X5.here hx rfl (hb hby own_d5_18) rfl (tlt ((by decide) : (2 : Int32) < (4 : Int32))).2.1 ?_
    show Steps p.tables e below (T5.setTop (mkF m 21 #[.val (.ref a_o), .val (.long (((0 : Int64) + (x_0.toInt64)) + (x_1.toInt64))), .second, .val (.ref f_o), .val (.int (4 : Int32)), .val (.int (2 : Int32)), .val (.int x_1)] [])) _
    refine XS.aloadN X5.here hx rfl (hb hby own_d5_21) rfl rfl ?_
    show Steps p.tables e below (T5.setTop (mkF m 22 #[.val (.ref a_o), .val (.long (((0 : Int64) + (x_0.toInt64)) + (x_1.toInt64))), .second, .val (.ref f_o), .val (.int (4 : Int32)), .val (.int (2 : Int32)), .val (.int x_1)] [(.ref f_o)])) _
    refine XS.iload X5.here hx rfl (hb hby own_d5_22) rfl ?_
    show Steps p.tables e below (T5.setTop (mkF m 24 #[.val (.ref a_o), .val (.long (((0 : Int64) + (x_0.toInt64)) + (x_1.toInt64))), .second, .val (.ref f_o), .val (.int (4 : Int32)), .val (.int (2 : Int32)), .val (.int x_1)] [(.int (2 : Int32)), (.ref f_o)])) _
    refine X5.iaload hx (j := (2 : Int32)) (v := (.int x_2)) (by rw [e5]; exact Ar49.1) (State.isArrayOf_alike hZ.alike Ar49.2.1) Ar49.2.2 hin49 hat49 (g := (mkF m 24 #[.val (.ref a_o), .val (.long (((0 : Int64) + (x_0.toInt64)) + (x_1.toInt64))), .second, .val (.ref f_o), .val (.int (4 : Int32)), .val (.int (2 : Int32)), .val (.int x_1)] [(.int (2 : Int32)), (.ref f_o)])) rfl rfl (hb hby own_d5_24) _ ?_
    show Steps p.tables e below (T5.setTop (mkF m 25 #[.val (.ref a_o), .val (.long (((0 : Int64) + (x_0.toInt64)) + (x_1.toInt64))), .second, .val (.ref f_o), .val (.int (4 : Int32)), .val (.int (2 : Int32)), .val (.int x_1)] [(.int x_2)])) _
    refine XS.istore X5.here hx rfl (hb hby own_d5_25) rfl (l' := #[.val (.ref a_o), .val (.long (((0 : Int64) + (x_0.toInt64)) + (x_1.toInt64))), .second, .val (.ref f_o), .val (.int (4 : Int32)), .val (.int (2 : Int32)), .val (.int x_2)]) rfl ?_
    show Steps p.tables e below (T5.setTop (mkF m 27 #[.val (.ref a_o), .val (.long (((0 : Int64) + (x_0.toInt64)) + (x_1.toInt64))), .second, .val (.ref f_o), .val (.int (4 : Int32)), .val (.int (2 : Int32)), .val (.int x_2)] [])) _
    refine XS.lloadN X5.here hx rfl (hb hby own_d5_27) rfl ?_
    show Steps p.tables e below (T5.setTop (mkF m 28 #[.val (.ref a_o), .val (.long (((0 : Int64) + (x_0.toInt64)) + (x_1.toInt64))), .second, .val (.ref f_o), .val (.int (4 : Int32)), .val (.int (2 : Int32)), .val (.int x_2)] [(.long (((0 : Int64) + (x_0.toInt64)) + (x_1.toInt64)))])) _
    refine XS.iload X5.here hx rfl (hb hby own_d5_28) rfl ?_
    show Steps p.tables e below (T5.setTop (mkF m 30 #[.val (.ref a_o), .val (.long (((0 : Int64) + (x_0.toInt64)) + (x_1.toInt64))), .second, .val (.ref f_o), .val (.int (4 : Int32)), .val (.int (2 : Int32)), .val (.int x_2)] [(.int x_2), (.long (((0 : Int64) + (x_0.toInt64)) + (x_1.toInt64)))])) _
    refine XS.i2l X5.here hx rfl (hb hby own_d5_30) rfl ?_
    show Steps p.tables e below (T5.setTop (mkF m 31 #[.val (.ref a_o), .val (.long (((0 : Int64) + (x_0.toInt64)) + (x_1.toInt64))), .second, .val (.ref f_o), .val (.int (4 : Int32)), .val (.int (2 : Int32)), .val (.int x_2)] [(.long (x_2.toInt64)), (.long (((0 : Int64) + (x_0.toInt64)) + (x_1.toInt64)))])) _
    refine XS.ladd X5.here hx rfl (hb hby own_d5_31) rfl ?_
    show Steps p.tables e below (T5.setTop (mkF m 32 #[.val (.ref a_o), .val (.long (((0 : Int64) + (x_0.toInt64)) + (x_1.toInt64))), .second, .val (.ref f_o), .val (.int (4 : Int32)), .val (.int (2 : Int32)), .val (.int x_2)] [(.long ((((0 : Int64) + (x_0.toInt64)) + (x_1.toInt64)) + (x_2.toInt64)))])) _
    refine XS.lstoreN X5.here hx rfl (hb hby own_d5_32) rfl (l' := #[.val (.ref a_o), .val (.long ((((0 : Int64) + (x_0.toInt64)) + (x_1.toInt64)) + (x_2.toInt64))), .second, .val (.ref f_o), .val (.int (4 : Int32)), .val (.int (2 : Int32)), .val (.int x_2)]) rfl ?_
    show Steps p.tables e below (T5.setTop (mkF m 33 #[.val (.ref a_o), .val (.long ((((0 : Int64) + (x_0.toInt64)) + (x_1.toInt64)) + (x_2.toInt64))), .second, .val (.ref f_o), .val (.int (4 : Int32)), .val (.int (2 : Int32)), .val (.int x_2)] [])) _
    refine XS.iinc X5.here hx rfl (hb hby own_d5_33) rfl (l' := #[.val (.ref a_o), .val (.long ((((0 : Int64) + (x_0.toInt64)) + (x_1.toInt64)) + (x_2.toInt64))), .second, .val (.ref f_o), .val (.int (4 : Int32)), .val (.int (3 : Int32)), .val (.int x_2)]) rfl ?_
    show Steps p.tables e below (T5.setTop (mkF m 36 #[.val (.ref a_o), .val (.long ((((0 : Int64) + (x_0.toInt64)) + (x_1.toInt64)) + (x_2.toInt64))), .second, .val (.ref f_o), .val (.int (4 : Int32)), .val (.int (3 : Int32)), .val (.int x_2)] [])) _
    refine XS.goto X5.here hx rfl (pc0 := 36) (pc' := 14) rfl (hb hby own_d5_36) (by decide) (by decide) ?_
    show Steps p.tables e below (T5.setTop (mkF m 14 #[.val (.ref a_o), .val (.long ((((0 : Int64) + (x_0.toInt64)) + (x_1.toInt64)) + (x_2.toInt64))), .second, .val (.ref f_o), .val (.int (4 : Int32)), .val (.int (3 : Int32)), .val (.int x_2)] [])) _
    refine XS.iload X5.here hx rfl (hb hby own_d5_14) rfl ?_
    show Steps p.tables e below (T5.setTop (mkF m 16 #[.val (.ref a_o), .val (.long ((((0 : Int64) + (x_0.toInt64)) + (x_1.toInt64)) + (x_2.toInt64))), .second, .val (.ref f_o), .val (.int (4 : Int32)), .val (.int (3 : Int32)), .val (.int x_2)] [(.int (3 : Int32))])) _
    refine XS.iload X5.here hx rfl (hb hby own_d5_16) rfl ?_
    show Steps p.tables e below (T5.setTop (mkF m 18 #[.val (.ref a_o), .val (.long ((((0 : Int64) + (x_0.toInt64)) + (x_1.toInt64)) + (x_2.toInt64))), .second, .val (.ref f_o), .val (.int (4 : Int32)), .val (.int (3 : Int32)), .val (.int x_2)] [(.int (4 : Int32)), (.int (3 : Int32))])) _
    refine XS.icmpNo X5.here hx rfl (hb hby own_d5_18) rfl (tlt ((by decide) : (3 : Int32) < (4 : Int32))).2.1 ?_
    show Steps p.tables e below (T5.setTop (mkF m 21 #[.val (.ref a_o), .val (.long ((((0 : Int64) + (x_0.toInt64)) + (x_1.toInt64)) + (x_2.toInt64))), .second, .val (.ref f_o), .val (.int (4 : Int32)), .val (.int (3 : Int32)), .val (.int x_2)] [])) _
    refine XS.aloadN X5.here hx rfl (hb hby own_d5_21) rfl rfl ?_
    show Steps p.tables e below (T5.setTop (mkF m 22 #[.val (.ref a_o), .val (.long ((((0 : Int64) + (x_0.toInt64)) + (x_1.toInt64)) + (x_2.toInt64))), .second, .val (.ref f_o), .val (.int (4 : Int32)), .val (.int (3 : Int32)), .val (.int x_2)] [(.ref f_o)])) _
    refine XS.iload X5.here hx rfl (hb hby own_d5_22) rfl ?_
    show Steps p.tables e below (T5.setTop (mkF m 24 #[.val (.ref a_o), .val (.long ((((0 : Int64) + (x_0.toInt64)) + (x_1.toInt64)) + (x_2.toInt64))), .second, .val (.ref f_o), .val (.int (4 : Int32)), .val (.int (3 : Int32)), .val (.int x_2)] [(.int (3 : Int32)), (.ref f_o)])) _
    refine X5.iaload hx (j := (3 : Int32)) (v := (.int x_3)) (by rw [e5]; exact Ar64.1) (State.isArrayOf_alike hZ.alike Ar64.2.1) Ar64.2.2 hin64 hat64 (g := (mkF m 24 #[.val (.ref a_o), .val (.long ((((0 : Int64) + (x_0.toInt64)) + (x_1.toInt64)) + (x_2.toInt64))), .second, .val (.ref f_o), .val (.int (4 : Int32)), .val (.int (3 : Int32)), .val (.int x_2)] [(.int (3 : Int32)), (.ref f_o)])) rfl rfl (hb hby own_d5_24) _ ?_
    show Steps p.tables e below (T5.setTop (mkF m 25 #[.val (.ref a_o), .val (.long ((((0 : Int64) + (x_0.toInt64)) + (x_1.toInt64)) + (x_2.toInt64))), .second, .val (.ref f_o), .val (.int (4 : Int32)), .val (.int (3 : Int32)), .val (.int x_2)] [(.int x_3)])) _
    refine XS.istore X5.here hx rfl (hb hby own_d5_25) rfl (l' := #[.val (.ref a_o), .val (.long ((((0 : Int64) + (x_0.toInt64)) + (x_1.toInt64)) + (x_2.toInt64))), .second, .val (.ref f_o), .val (.int (4 : Int32)), .val (.int (3 : Int32)), .val (.int x_3)]) rfl ?_
    show Steps p.tables e below (T5.setTop (mkF m 27 #[.val (.ref a_o), .val (.long ((((0 : Int64) + (x_0.toInt64)) + (x_1.toInt64)) + (x_2.toInt64))), .second, .val (.ref f_o), .val (.int (4 : Int32)), .val (.int (3 : Int32)), .val (.int x_3)] [])) _
    refine XS.lloadN X5.here hx rfl (hb hby own_d5_27) rfl ?_
    show Steps p.tables e below (T5.setTop (mkF m 28 #[.val (.ref a_o), .val (.long ((((0 : Int64) + (x_0.toInt64)) + (x_1.toInt64)) + (x_2.toInt64))), .second, .val (.ref f_o), .val (.int (4 : Int32)), .val (.int (3 : Int32)), .val (.int x_3)] [(.long ((((0 : Int64) + (x_0.toInt64)) + (x_1.toInt64)) + (x_2.toInt64)))])) _
    refine XS.iload X5.here hx rfl (hb hby own_d5_28) rfl ?_
    show Steps p.tables e below (T5.setTop (mkF m 30 #[.val (.ref a_o), .val (.long ((((0 : Int64) + (x_0.toInt64)) + (x_1.toInt64)) + (x_2.toInt64))), .second, .val (.ref f_o), .val (.int (4 : Int32)), .val (.int (3 : Int32)), .val (.int x_3)] [(.int x_3), (.long ((((0 : Int64) + (x_0.toInt64)) + (x_1.toInt64)) + (x_2.toInt64)))])) _
    refine XS.i2l X5.here hx rfl (hb hby own_d5_30) rfl ?_
    show Steps p.tables e below (T5.setTop (mkF m 31 #[.val (.ref a_o), .val (.long ((((0 : Int64) + (x_0.toInt64)) + (x_1.toInt64)) + (x_2.toInt64))), .second, .val (.ref f_o), .val (.int (4 : Int32)), .val (.int (3 : Int32)), .val (.int x_3)] [(.long (x_3.toInt64)), (.long ((((0 : Int64) + (x_0.toInt64)) + (x_1.toInt64)) + (x_2.toInt64)))])) _
    refine XS.ladd X5.here hx rfl (hb hby own_d5_31) rfl ?_
    show Steps p.tables e below (T5.setTop (mkF m 32 #[.val (.ref a_o), .val (.long ((((0 : Int64) + (x_0.toInt64)) + (x_1.toInt64)) + (x_2.toInt64))), .second, .val (.ref f_o), .val (.int (4 : Int32)), .val (.int (3 : Int32)), .val (.int x_3)] [(.long (((((0 : Int64) + (x_0.toInt64)) + (x_1.toInt64)) + (x_2.toInt64)) + (x_3.toInt64)))])) _
    refine XS.lstoreN X5.here hx rfl (hb hby own_d5_32) rfl (l' := #[.val (.ref a_o), .val (.long (((((0 : Int64) + (x_0.toInt64)) + (x_1.toInt64)) + (x_2.toInt64)) + (x_3.toInt64))), .second, .val (.ref f_o), .val (.int (4 : Int32)), .val (.int (3 : Int32)), .val (.int x_3)]) rfl ?_
    show Steps p.tables e below (T5.setTop (mkF m 33 #[.val (.ref a_o), .val (.long (((((0 : Int64) + (x_0.toInt64)) + (x_1.toInt64)) + (x_2.toInt64)) + (x_3.toInt64))), .second, .val (.ref f_o), .val (.int (4 : Int32)), .val (.int (3 : Int32)), .val (.int x_3)] [])) _
    refine XS.iinc X5.here hx rfl (hb hby own_d5_33) rfl (l' := #[.val (.ref a_o), .val (.long (((((0 : Int64) + (x_0.toInt64)) + (x_1.toInt64)) + (x_2.toInt64)) + (x_3.toInt64))), .second, .val (.ref f_o), .val (.int (4 : Int32)), .val (.int (4 : Int32)), .val (.int x_3)]) rfl ?_
    show Steps p.tables e below (T5.setTop (mkF m 36 #[.val (.ref a_o), .val (.long (((((0 : Int64) + (x_0.toInt64)) + (x_1.toInt64)) + (x_2.toInt64)) + (x_3.toInt64))), .second, .val (.ref f_o), .val (.int (4 : Int32)), .val (.int (4 : Int32)), .val (.int x_3)] [])) _
    refine XS.goto X5.here hx rfl (pc0 := 36) (pc' := 14) rfl (hb hby own_d5_36) (by decide) (by decide) ?_
    show Steps p.tables e below (T5.setTop (mkF m 14 #[.val (.ref a_o), .val (.long (((((0 : Int64) + (x_0.toInt64)) + (x_1.toInt64)) + (x_2.toInt64)) + (x_3.toInt64))), .second, .val (.ref f_o), .val (.int (4 : Int32)), .val (.int (4 : Int32)), .val (.int x_3)] [])) _
    refine XS.iload X5.here hx rfl (hb hby own_d5_14) rfl ?_
    show Steps p.tables e below (T5.setTop (mkF m 16 #[.val (.ref a_o), .val (.long (((((0 : Int64) + (x_0.toInt64)) + (x_1.toInt64)) + (x_2.toInt64)) + (x_3.toInt64))), .second, .val (.ref f_o), .val (.int (4 : Int32)), .val (.int (4 : Int32)), .val (.int x_3)] [(.int (4 : Int32))])) _
    refine XS.iload X5.here hx rfl (hb hby own_d5_16) rfl ?_
    show Steps p.tables e below (T5.setTop (mkF m 18 #[.val (.ref a_o), .val (.long (((((0 : Int64) + (x_0.toInt64)) + (x_1.toInt64)) + (x_2.toInt64)) + (x_3.toInt64))), .second, .val (.ref f_o), .val (.int (4 : Int32)), .val (.int (4 : Int32)), .val (.int x_3)] [(.int (4 : Int32)), (.int (4 : Int32))])) _
    refine XS.icmpYes X5.here hx rfl (pc0 := 18) (pc' := 39) rfl (hb hby own_d5_18) rfl (flt ((by decide) : ¬ ((4 : Int32) < (4 : Int32)))).2.1 (by decide) (by decide) ?_
    show Steps p.tables e below (T5.setTop (mkF m 39 #[.val (.ref a_o), .val (.long (((((0 : Int64) + (x_0.toInt64)) + (x_1.toInt64)) + (x_2.toInt64)) + (x_3.toInt64))), .second, .val (.ref f_o), .val (.int (4 : Int32)), .val (.int (4 : Int32)), .val (.int x_3)] [])) _
    refine XS.lloadN X5.here hx rfl (hb hby own_d5_39) rfl ?_
    show Steps p.tables e below (T5.setTop (mkF m 40 #[.val (.ref a_o), .val (.long (((((0 : Int64) + (x_0.toInt64)) + (x_1.toInt64)) + (x_2.toInt64)) + (x_3.toInt64))), .second, .val (.ref f_o), .val (.int (4 : Int32)), .val (.int (4 : Int32)), .val (.int x_3)] [(.long (((((0 : Int64) + (x_0.toInt64)) + (x_1.toInt64)) + (x_2.toInt64)) + (x_3.toInt64)))])) _
    exact X5.lreturnOut hx Bd.returns (hb hby own_d5_40) hr
  · show Qown_cf4 Z a_o f_o k_f x_0 x_1 x_2 x_3 h0 n0 _ T5.heap _
    rw [e5]
    exact ⟨rfl, N0, rfl⟩
theorem own_ef_own_law (m : MethodId) (p0 : Int32) (p1 : Int32) (p2 : Int32) (p3 : Int32) (p4 : Int32) : entryFrame m #[(.int p0), (.int p1), (.int p2), (.int p3), (.int p4)] maxLocals = mkF m 0 #[.val (.int p0), .val (.int p1), .val (.int p2), .val (.int p3), .val (.int p4), .unset, .unset, .unset, .unset, .unset, .unset, .unset, .unset, .unset, .unset, .unset, .unset, .unset, .unset] [] := by first | (simp [entryFrame, mkF, argsToLocals, Value.category, maxLocals]; done) | rfl
theorem own_pd1 : parseMethodDescriptor "(I)I" = some ⟨[.int], some .int⟩ := by decide +kernel
theorem own_pd2 : parseMethodDescriptor "([I[I)V" = some ⟨[(.array .int), (.array .int)], none⟩ := by decide +kernel
theorem own_pd3 : parseMethodDescriptor "()J" = some ⟨[], some .long⟩ := by decide +kernel
def Qown_law (Z : State) (p0 : Int32) (p1 : Int32) (p2 : Int32) (p3 : Int32) (p4 : Int32) (h0 : Heap) (n0 : Nat) (v : Option Value) (h : Heap) (L : List Loc) : Prop := v = some (.int (1 : Int32)) ∧ Fr n0 L
set_option maxRecDepth 65536 in
set_option maxHeartbeats 40000000 in
theorem own_law (l : Launch) (Z : State) (a0 : Array Value) (hw : ∀ d ∈ tables_1, d.before a0 Z = true) (ws : List Jvm.Cond) (p0 : Int32) (p1 : Int32) (p2 : Int32) (p3 : Int32) (p4 : Int32) (h0 : Heap) (n0 : Nat) (Z0 : n0 ≤ h0.size) :
    MetFree l x (head1 (Jvm.Cond.code x code maxLocals ret :: ws) room_1) (fun a U => a = #[(.int p0), (.int p1), (.int p2), (.int p3), (.int p4)] ∧ Z.Warmed39 U.vm ∧ U.heap = h0) (fun _ _ _ _ _ => True) (fun _ U o U' => ∃ v L, o = .returned v ∧ Qown_law Z p0 p1 p2 p3 p4 h0 n0 v U'.heap L ∧ FrameEnd U o U' L room_1.cells room_1.slots) := by
  refine MetFree.of_bodySF (plainFor_of_name own_pn0) hisR ?_
  intro p e s m args below meth c s₁ Bd hml0 hP hK
  obtain ⟨rfl, hZ, hh⟩ := hP
  have hx := Bd.exec
  have hby := Bd.bytes
  have hml : c.maxLocals = 19 := hml0
  have hown : s.vm.findClass "com/example/merit/merit/PostingsCollectionFrequencyPinLaw" = some m.cls := findClass_of_methodNamed Bd.named
  have hnm := (name_of_methodNamed Bd.named Bd.method).1
  have X0 : Stand p l e room_1 s m #[(.int p0), (.int p1), (.int p2), (.int p3), (.int p4)] below meth c s₁ [] 0 0 := Stand.of_body Bd
  have e0 : s₁.heap = h0 := by rw [← hh, Bd.state]; rfl
  have N0 := Fr.nil n0
  have pre0 : ∀ t, Steps p.tables e below (s₁.setTop (mkF m 0 #[.val (.int p0), .val (.int p1), .val (.int p2), .val (.int p3), .val (.int p4), .unset, .unset, .unset, .unset, .unset, .unset, .unset, .unset, .unset, .unset, .unset, .unset, .unset, .unset] [])) t → Steps p.tables e below (s₁.setTop (entryFrame m #[(.int p0), (.int p1), (.int p2), (.int p3), (.int p4)] maxLocals)) t := fun t k => castTop (own_ef_own_law m p0 p1 p2 p3 p4) k
  obtain ⟨_, _, ⟨T9, L9, k9, n9⟩, -, X9, ⟨Lc9, hQ9, l9, y9, z9⟩, st9⟩ := Jvm.LawKit.callS X0 hx (y := (⟨"com/example/merit/merit/PostingsCollectionFrequencyPinLaw", "freq", "(I)I"⟩ : MethodName)) hown (mvT hZ (hw _ (List.mem_of_getElem? (i := 0) rfl))) (mvT hZ (hw _ (List.mem_of_getElem? (i := 1) rfl))) (mvT hZ (hw _ (List.mem_of_getElem? (i := 2) rfl))) (mvT hZ (hw _ (List.mem_of_getElem? (i := 3) rfl))) (by decide) (backOf (W := 0) (own_freq l Z a0 hw [] p1 h0 n0 Z0 ) hZ (hw _ (List.mem_of_getElem? (i := 3) rfl)) (hw _ (List.mem_of_getElem? (i := 2) rfl)) (by decide) (by decide)) (g := (mkF m 8 #[.val (.int p0), .val (.int p1), .val (.int p2), .val (.int p3), .val (.int p4), .val (.int ((1 : Int32) + (p0 &&& (3 : Int32)))), .unset, .unset, .unset, .unset, .unset, .unset, .unset, .unset, .unset, .unset, .unset, .unset, .unset] [(.int p1)])) rfl (by rw [hml]; rfl) (argsL := [(.int p1)]) (rest := []) (lenOf own_pd1 rfl) rfl (by show 2 * 0 + _ ≤ _; exact Nat.le_of_eq rfl) (hb hby at_8) (fun _ _ => ⟨rfl, e0, (by decide : 0 + 0 ≤ _), (by decide : 0 + 0 ≤ _)⟩)
  dsimp only [Pt.U, Pt.locs, Pt.cells, Pt.slots] at X9 l9 y9 z9 st9 hQ9
  subst l9 y9 z9
  obtain ⟨rfl, Nq9, eh9⟩ := hQ9
  have N10 := Fr.app N0 Nq9
  obtain ⟨_, _, ⟨T14, L14, k14, n14⟩, -, X14, ⟨Lc14, hQ14, l14, y14, z14⟩, st14⟩ := Jvm.LawKit.callS X9 hx (y := (⟨"com/example/merit/merit/PostingsCollectionFrequencyPinLaw", "freq", "(I)I"⟩ : MethodName)) hown (mvT hZ (hw _ (List.mem_of_getElem? (i := 0) rfl))) (mvT hZ (hw _ (List.mem_of_getElem? (i := 1) rfl))) (mvT hZ (hw _ (List.mem_of_getElem? (i := 2) rfl))) (mvT hZ (hw _ (List.mem_of_getElem? (i := 3) rfl))) (by decide) (backOf (W := 0) (own_freq l Z a0 hw [] p2 h0 n0 Z0 ) hZ (hw _ (List.mem_of_getElem? (i := 3) rfl)) (hw _ (List.mem_of_getElem? (i := 2) rfl)) (by decide) (by decide)) (g := (mkF m 14 #[.val (.int p0), .val (.int p1), .val (.int p2), .val (.int p3), .val (.int p4), .val (.int ((1 : Int32) + (p0 &&& (3 : Int32)))), .val (.int (own_freq_f p1)), .unset, .unset, .unset, .unset, .unset, .unset, .unset, .unset, .unset, .unset, .unset, .unset] [(.int p2)])) rfl (by rw [hml]; rfl) (argsL := [(.int p2)]) (rest := []) (lenOf own_pd1 rfl) rfl (by show 2 * 0 + _ ≤ _; exact Nat.le_of_eq rfl) (hb hby at_14) (fun _ _ => ⟨rfl, eh9, (by decide : 0 + 0 ≤ _), (by decide : 0 + 0 ≤ _)⟩)
  dsimp only [Pt.U, Pt.locs, Pt.cells, Pt.slots] at X14 l14 y14 z14 st14 hQ14
  subst l14 y14 z14
  obtain ⟨rfl, Nq14, eh14⟩ := hQ14
  have N15 := Fr.app N10 Nq14
  obtain ⟨_, _, ⟨T19, L19, k19, n19⟩, -, X19, ⟨Lc19, hQ19, l19, y19, z19⟩, st19⟩ := Jvm.LawKit.callS X14 hx (y := (⟨"com/example/merit/merit/PostingsCollectionFrequencyPinLaw", "freq", "(I)I"⟩ : MethodName)) hown (mvT hZ (hw _ (List.mem_of_getElem? (i := 0) rfl))) (mvT hZ (hw _ (List.mem_of_getElem? (i := 1) rfl))) (mvT hZ (hw _ (List.mem_of_getElem? (i := 2) rfl))) (mvT hZ (hw _ (List.mem_of_getElem? (i := 3) rfl))) (by decide) (backOf (W := 0) (own_freq l Z a0 hw [] p3 h0 n0 Z0 ) hZ (hw _ (List.mem_of_getElem? (i := 3) rfl)) (hw _ (List.mem_of_getElem? (i := 2) rfl)) (by decide) (by decide)) (g := (mkF m 20 #[.val (.int p0), .val (.int p1), .val (.int p2), .val (.int p3), .val (.int p4), .val (.int ((1 : Int32) + (p0 &&& (3 : Int32)))), .val (.int (own_freq_f p1)), .val (.int (own_freq_f p2)), .unset, .unset, .unset, .unset, .unset, .unset, .unset, .unset, .unset, .unset, .unset] [(.int p3)])) rfl (by rw [hml]; rfl) (argsL := [(.int p3)]) (rest := []) (lenOf own_pd1 rfl) rfl (by show 2 * 0 + _ ≤ _; exact Nat.le_of_eq rfl) (hb hby at_20) (fun _ _ => ⟨rfl, eh14, (by decide : 0 + 0 ≤ _), (by decide : 0 + 0 ≤ _)⟩)
  dsimp only [Pt.U, Pt.locs, Pt.cells, Pt.slots] at X19 l19 y19 z19 st19 hQ19
  subst l19 y19 z19
  obtain ⟨rfl, Nq19, eh19⟩ := hQ19
  have N20 := Fr.app N15 Nq19
  obtain ⟨_, _, ⟨T24, L24, k24, n24⟩, -, X24, ⟨Lc24, hQ24, l24, y24, z24⟩, st24⟩ := Jvm.LawKit.callS X19 hx (y := (⟨"com/example/merit/merit/PostingsCollectionFrequencyPinLaw", "freq", "(I)I"⟩ : MethodName)) hown (mvT hZ (hw _ (List.mem_of_getElem? (i := 0) rfl))) (mvT hZ (hw _ (List.mem_of_getElem? (i := 1) rfl))) (mvT hZ (hw _ (List.mem_of_getElem? (i := 2) rfl))) (mvT hZ (hw _ (List.mem_of_getElem? (i := 3) rfl))) (by decide) (backOf (W := 0) (own_freq l Z a0 hw [] p4 h0 n0 Z0 ) hZ (hw _ (List.mem_of_getElem? (i := 3) rfl)) (hw _ (List.mem_of_getElem? (i := 2) rfl)) (by decide) (by decide)) (g := (mkF m 27 #[.val (.int p0), .val (.int p1), .val (.int p2), .val (.int p3), .val (.int p4), .val (.int ((1 : Int32) + (p0 &&& (3 : Int32)))), .val (.int (own_freq_f p1)), .val (.int (own_freq_f p2)), .val (.int (own_freq_f p3)), .unset, .unset, .unset, .unset, .unset, .unset, .unset, .unset, .unset, .unset] [(.int p4)])) rfl (by rw [hml]; rfl) (argsL := [(.int p4)]) (rest := []) (lenOf own_pd1 rfl) rfl (by show 2 * 0 + _ ≤ _; exact Nat.le_of_eq rfl) (hb hby at_27) (fun _ _ => ⟨rfl, eh19, (by decide : 0 + 0 ≤ _), (by decide : 0 + 0 ≤ _)⟩)
  dsimp only [Pt.U, Pt.locs, Pt.cells, Pt.slots] at X24 l24 y24 z24 st24 hQ24
  subst l24 y24 z24
  obtain ⟨rfl, Nq24, eh24⟩ := hQ24
  have N25 := Fr.app N20 Nq24
  have pre30 : ∀ t, Steps p.tables e below (T24.setTop (mkF m 35 #[.val (.int p0), .val (.int p1), .val (.int p2), .val (.int p3), .val (.int p4), .val (.int ((1 : Int32) + (p0 &&& (3 : Int32)))), .val (.int (own_freq_f p1)), .val (.int (own_freq_f p2)), .val (.int (own_freq_f p3)), .val (.int (own_freq_f p4)), .unset, .unset, .unset, .unset, .unset, .unset, .unset, .unset, .unset] [(.int (1 : Int32)), (.int ((1 : Int32) + (p0 &&& (3 : Int32))))])) t → Steps p.tables e below (s₁.setTop (entryFrame m #[(.int p0), (.int p1), (.int p2), (.int p3), (.int p4)] maxLocals)) t := by
    intro t kt
    refine pre0 _ ?_
    show Steps p.tables e below (s₁.setTop (mkF m 0 #[.val (.int p0), .val (.int p1), .val (.int p2), .val (.int p3), .val (.int p4), .unset, .unset, .unset, .unset, .unset, .unset, .unset, .unset, .unset, .unset, .unset, .unset, .unset, .unset] [])) _
    refine XS.iconst X0.here hx rfl (hb hby at_0) ?_
    show Steps p.tables e below (s₁.setTop (mkF m 1 #[.val (.int p0), .val (.int p1), .val (.int p2), .val (.int p3), .val (.int p4), .unset, .unset, .unset, .unset, .unset, .unset, .unset, .unset, .unset, .unset, .unset, .unset, .unset, .unset] [(.int (1 : Int32))])) _
    refine XS.iloadN X0.here hx rfl (hb hby at_1) rfl ?_
    show Steps p.tables e below (s₁.setTop (mkF m 2 #[.val (.int p0), .val (.int p1), .val (.int p2), .val (.int p3), .val (.int p4), .unset, .unset, .unset, .unset, .unset, .unset, .unset, .unset, .unset, .unset, .unset, .unset, .unset, .unset] [(.int p0), (.int (1 : Int32))])) _
    refine XS.iconst X0.here hx rfl (hb hby at_2) ?_
    show Steps p.tables e below (s₁.setTop (mkF m 3 #[.val (.int p0), .val (.int p1), .val (.int p2), .val (.int p3), .val (.int p4), .unset, .unset, .unset, .unset, .unset, .unset, .unset, .unset, .unset, .unset, .unset, .unset, .unset, .unset] [(.int (3 : Int32)), (.int p0), (.int (1 : Int32))])) _
    refine XS.iand X0.here hx rfl (hb hby at_3) rfl ?_
    show Steps p.tables e below (s₁.setTop (mkF m 4 #[.val (.int p0), .val (.int p1), .val (.int p2), .val (.int p3), .val (.int p4), .unset, .unset, .unset, .unset, .unset, .unset, .unset, .unset, .unset, .unset, .unset, .unset, .unset, .unset] [(.int (p0 &&& (3 : Int32))), (.int (1 : Int32))])) _
    refine XS.iadd X0.here hx rfl (hb hby at_4) rfl ?_
    show Steps p.tables e below (s₁.setTop (mkF m 5 #[.val (.int p0), .val (.int p1), .val (.int p2), .val (.int p3), .val (.int p4), .unset, .unset, .unset, .unset, .unset, .unset, .unset, .unset, .unset, .unset, .unset, .unset, .unset, .unset] [(.int ((1 : Int32) + (p0 &&& (3 : Int32))))])) _
    refine XS.istore X0.here hx rfl (hb hby at_5) rfl (l' := #[.val (.int p0), .val (.int p1), .val (.int p2), .val (.int p3), .val (.int p4), .val (.int ((1 : Int32) + (p0 &&& (3 : Int32)))), .unset, .unset, .unset, .unset, .unset, .unset, .unset, .unset, .unset, .unset, .unset, .unset, .unset]) rfl ?_
    show Steps p.tables e below (s₁.setTop (mkF m 7 #[.val (.int p0), .val (.int p1), .val (.int p2), .val (.int p3), .val (.int p4), .val (.int ((1 : Int32) + (p0 &&& (3 : Int32)))), .unset, .unset, .unset, .unset, .unset, .unset, .unset, .unset, .unset, .unset, .unset, .unset, .unset] [])) _
    refine XS.iloadN X0.here hx rfl (hb hby at_7) rfl ?_
    show Steps p.tables e below (s₁.setTop (mkF m 8 #[.val (.int p0), .val (.int p1), .val (.int p2), .val (.int p3), .val (.int p4), .val (.int ((1 : Int32) + (p0 &&& (3 : Int32)))), .unset, .unset, .unset, .unset, .unset, .unset, .unset, .unset, .unset, .unset, .unset, .unset, .unset] [(.int p1)])) _
    refine st9 _ ?_
    show Steps p.tables e below (T9.setTop (mkF m 11 #[.val (.int p0), .val (.int p1), .val (.int p2), .val (.int p3), .val (.int p4), .val (.int ((1 : Int32) + (p0 &&& (3 : Int32)))), .unset, .unset, .unset, .unset, .unset, .unset, .unset, .unset, .unset, .unset, .unset, .unset, .unset] [(.int (own_freq_f p1))])) _
    refine XS.istore X9.here hx rfl (hb hby at_11) rfl (l' := #[.val (.int p0), .val (.int p1), .val (.int p2), .val (.int p3), .val (.int p4), .val (.int ((1 : Int32) + (p0 &&& (3 : Int32)))), .val (.int (own_freq_f p1)), .unset, .unset, .unset, .unset, .unset, .unset, .unset, .unset, .unset, .unset, .unset, .unset]) rfl ?_
    show Steps p.tables e below (T9.setTop (mkF m 13 #[.val (.int p0), .val (.int p1), .val (.int p2), .val (.int p3), .val (.int p4), .val (.int ((1 : Int32) + (p0 &&& (3 : Int32)))), .val (.int (own_freq_f p1)), .unset, .unset, .unset, .unset, .unset, .unset, .unset, .unset, .unset, .unset, .unset, .unset] [])) _
    refine XS.iloadN X9.here hx rfl (hb hby at_13) rfl ?_
    show Steps p.tables e below (T9.setTop (mkF m 14 #[.val (.int p0), .val (.int p1), .val (.int p2), .val (.int p3), .val (.int p4), .val (.int ((1 : Int32) + (p0 &&& (3 : Int32)))), .val (.int (own_freq_f p1)), .unset, .unset, .unset, .unset, .unset, .unset, .unset, .unset, .unset, .unset, .unset, .unset] [(.int p2)])) _
    refine st14 _ ?_
    show Steps p.tables e below (T14.setTop (mkF m 17 #[.val (.int p0), .val (.int p1), .val (.int p2), .val (.int p3), .val (.int p4), .val (.int ((1 : Int32) + (p0 &&& (3 : Int32)))), .val (.int (own_freq_f p1)), .unset, .unset, .unset, .unset, .unset, .unset, .unset, .unset, .unset, .unset, .unset, .unset] [(.int (own_freq_f p2))])) _
    refine XS.istore X14.here hx rfl (hb hby at_17) rfl (l' := #[.val (.int p0), .val (.int p1), .val (.int p2), .val (.int p3), .val (.int p4), .val (.int ((1 : Int32) + (p0 &&& (3 : Int32)))), .val (.int (own_freq_f p1)), .val (.int (own_freq_f p2)), .unset, .unset, .unset, .unset, .unset, .unset, .unset, .unset, .unset, .unset, .unset]) rfl ?_
    show Steps p.tables e below (T14.setTop (mkF m 19 #[.val (.int p0), .val (.int p1), .val (.int p2), .val (.int p3), .val (.int p4), .val (.int ((1 : Int32) + (p0 &&& (3 : Int32)))), .val (.int (own_freq_f p1)), .val (.int (own_freq_f p2)), .unset, .unset, .unset, .unset, .unset, .unset, .unset, .unset, .unset, .unset, .unset] [])) _
    refine XS.iloadN X14.here hx rfl (hb hby at_19) rfl ?_
    show Steps p.tables e below (T14.setTop (mkF m 20 #[.val (.int p0), .val (.int p1), .val (.int p2), .val (.int p3), .val (.int p4), .val (.int ((1 : Int32) + (p0 &&& (3 : Int32)))), .val (.int (own_freq_f p1)), .val (.int (own_freq_f p2)), .unset, .unset, .unset, .unset, .unset, .unset, .unset, .unset, .unset, .unset, .unset] [(.int p3)])) _
    refine st19 _ ?_
    show Steps p.tables e below (T19.setTop (mkF m 23 #[.val (.int p0), .val (.int p1), .val (.int p2), .val (.int p3), .val (.int p4), .val (.int ((1 : Int32) + (p0 &&& (3 : Int32)))), .val (.int (own_freq_f p1)), .val (.int (own_freq_f p2)), .unset, .unset, .unset, .unset, .unset, .unset, .unset, .unset, .unset, .unset, .unset] [(.int (own_freq_f p3))])) _
    refine XS.istore X19.here hx rfl (hb hby at_23) rfl (l' := #[.val (.int p0), .val (.int p1), .val (.int p2), .val (.int p3), .val (.int p4), .val (.int ((1 : Int32) + (p0 &&& (3 : Int32)))), .val (.int (own_freq_f p1)), .val (.int (own_freq_f p2)), .val (.int (own_freq_f p3)), .unset, .unset, .unset, .unset, .unset, .unset, .unset, .unset, .unset, .unset]) rfl ?_
    show Steps p.tables e below (T19.setTop (mkF m 25 #[.val (.int p0), .val (.int p1), .val (.int p2), .val (.int p3), .val (.int p4), .val (.int ((1 : Int32) + (p0 &&& (3 : Int32)))), .val (.int (own_freq_f p1)), .val (.int (own_freq_f p2)), .val (.int (own_freq_f p3)), .unset, .unset, .unset, .unset, .unset, .unset, .unset, .unset, .unset, .unset] [])) _
    refine XS.iload X19.here hx rfl (hb hby at_25) rfl ?_
    show Steps p.tables e below (T19.setTop (mkF m 27 #[.val (.int p0), .val (.int p1), .val (.int p2), .val (.int p3), .val (.int p4), .val (.int ((1 : Int32) + (p0 &&& (3 : Int32)))), .val (.int (own_freq_f p1)), .val (.int (own_freq_f p2)), .val (.int (own_freq_f p3)), .unset, .unset, .unset, .unset, .unset, .unset, .unset, .unset, .unset, .unset] [(.int p4)])) _
    refine st24 _ ?_
    show Steps p.tables e below (T24.setTop (mkF m 30 #[.val (.int p0), .val (.int p1), .val (.int p2), .val (.int p3), .val (.int p4), .val (.int ((1 : Int32) + (p0 &&& (3 : Int32)))), .val (.int (own_freq_f p1)), .val (.int (own_freq_f p2)), .val (.int (own_freq_f p3)), .unset, .unset, .unset, .unset, .unset, .unset, .unset, .unset, .unset, .unset] [(.int (own_freq_f p4))])) _
    refine XS.istore X24.here hx rfl (hb hby at_30) rfl (l' := #[.val (.int p0), .val (.int p1), .val (.int p2), .val (.int p3), .val (.int p4), .val (.int ((1 : Int32) + (p0 &&& (3 : Int32)))), .val (.int (own_freq_f p1)), .val (.int (own_freq_f p2)), .val (.int (own_freq_f p3)), .val (.int (own_freq_f p4)), .unset, .unset, .unset, .unset, .unset, .unset, .unset, .unset, .unset]) rfl ?_
    show Steps p.tables e below (T24.setTop (mkF m 32 #[.val (.int p0), .val (.int p1), .val (.int p2), .val (.int p3), .val (.int p4), .val (.int ((1 : Int32) + (p0 &&& (3 : Int32)))), .val (.int (own_freq_f p1)), .val (.int (own_freq_f p2)), .val (.int (own_freq_f p3)), .val (.int (own_freq_f p4)), .unset, .unset, .unset, .unset, .unset, .unset, .unset, .unset, .unset] [])) _
    refine XS.iload X24.here hx rfl (hb hby at_32) rfl ?_
    show Steps p.tables e below (T24.setTop (mkF m 34 #[.val (.int p0), .val (.int p1), .val (.int p2), .val (.int p3), .val (.int p4), .val (.int ((1 : Int32) + (p0 &&& (3 : Int32)))), .val (.int (own_freq_f p1)), .val (.int (own_freq_f p2)), .val (.int (own_freq_f p3)), .val (.int (own_freq_f p4)), .unset, .unset, .unset, .unset, .unset, .unset, .unset, .unset, .unset] [(.int ((1 : Int32) + (p0 &&& (3 : Int32))))])) _
    refine XS.iconst X24.here hx rfl (hb hby at_34) ?_
    exact kt
  by_cases hc35_31 : ((1 : Int32) + (p0 &&& (3 : Int32))) = (1 : Int32)
  · obtain ⟨T34, h34, k34, X34, e34, E34, A34, Y34, st34⟩ := newPE X24 hx hZ (hw _ (List.mem_of_getElem? (i := 9) rfl)) eh24 (g := (mkF m 39 #[.val (.int p0), .val (.int p1), .val (.int p2), .val (.int p3), .val (.int p4), .val (.int ((1 : Int32) + (p0 &&& (3 : Int32)))), .val (.int (own_freq_f p1)), .val (.int (own_freq_f p2)), .val (.int (own_freq_f p3)), .val (.int (own_freq_f p4)), .unset, .unset, .unset, .unset, .unset, .unset, .unset, .unset, .unset] [(.int (1 : Int32))])) rfl (hb hby at_39) rfl (by decide) (cap := 1) (by decide) (by decide) (by decide) (by decide) (ad := "[I") (by first | rfl | decide)
    obtain ⟨b34, g34⟩ : ∃ z, z = h0.size := ⟨_, rfl⟩
    rw [← g34] at A34 Y34 st34
    have Ge35 : n0 ≤ b34 := Nat.le_trans Z0 (Nat.le_of_eq g34.symm)
    have Sz36 : h0.size ≤ b34 := Nat.le_trans (Keep.refl h0 []).1 (Nat.le_of_eq g34.symm)
    have Kc37 : Keep h0 h34 [] := (Keep.refl h0 []).ext E34
    have Zs38 : n0 ≤ h34.size := (Nat.le_trans Z0 E34.1)
    have V34 : Arv Z h34 b34 k34 .int (1 : Int32) [(.int (0 : Int32))] (.int (0 : Int32)) := (Arv.new A34 (by decide)).pad (pad_rep [] (.int (0 : Int32)) 1)
    obtain ⟨cl43, Ar43, q43, S43, M43, H43, G43⟩ := id V34
    have hin43 : ¬ ((0 : Int32) < 0 ∨ cl43.slots.size ≤ ((0 : Int32)).toNatClampNeg) := inb_of S43 ⟨by decide, by decide⟩
    obtain ⟨T44, h44, X44, e44, W44, st44⟩ := stI X34 hx hZ e34 Ar43 (j := (0 : Int32)) hin43 (g := (mkF m 44 #[.val (.int p0), .val (.int p1), .val (.int p2), .val (.int p3), .val (.int p4), .val (.int ((1 : Int32) + (p0 &&& (3 : Int32)))), .val (.int (own_freq_f p1)), .val (.int (own_freq_f p2)), .val (.int (own_freq_f p3)), .val (.int (own_freq_f p4)), .unset, .unset, .unset, .unset, .unset, .unset, .unset, .unset, .unset] [(.int (0 : Int32)), (.int (0 : Int32)), (.ref b34), (.ref b34)])) rfl rfl (hb hby at_44)
    have Kc46 : Keep h0 h44 [] := Kc37.wr W44 (Or.inr Sz36)
    have Zs47 : n0 ≤ h44.size := Nat.le_trans Zs38 (Keep.of_wr W44).1
    have N48 := Fr.snoc X44 N25 Ge35
    have Vm45 : Arv Z h44 b34 k34 .int (1 : Int32) [(.int (0 : Int32))] (.int (0 : Int32)) := Arv.set Ar43 q43 S43 M43 H43 G43 rfl W44 0 rfl (Nat.le_of_ble_eq_true rfl)
    obtain ⟨T52, h52, k52, X52, e52, E52, A52, Y52, st52⟩ := newPE X44 hx hZ (hw _ (List.mem_of_getElem? (i := 9) rfl)) e44 (g := (mkF m 48 #[.val (.int p0), .val (.int p1), .val (.int p2), .val (.int p3), .val (.int p4), .val (.int ((1 : Int32) + (p0 &&& (3 : Int32)))), .val (.int (own_freq_f p1)), .val (.int (own_freq_f p2)), .val (.int (own_freq_f p3)), .val (.int (own_freq_f p4)), .val (.ref b34), .unset, .unset, .unset, .unset, .unset, .unset, .unset, .unset] [(.int (1 : Int32))])) rfl (hb hby at_48) rfl (by decide) (cap := 1) (by decide) (by decide) (by decide) (by decide) (ad := "[I") (by first | rfl | decide)
    obtain ⟨b52, g52⟩ : ∃ z, z = h44.size := ⟨_, rfl⟩
    rw [← g52] at A52 Y52 st52
    have Fq54 : Exa Z h44 b34 "[I" := (Y34.wr W44)
    have Ne53 : b34 ≠ b52 := Nat.ne_of_lt (Nat.lt_of_lt_of_le Fq54.lt (Nat.le_of_eq g52.symm))
    have Ge55 : n0 ≤ b52 := Nat.le_trans Zs47 (Nat.le_of_eq g52.symm)
    have Sz56 : h0.size ≤ b52 := Nat.le_trans Kc46.1 (Nat.le_of_eq g52.symm)
    have Kc57 : Keep h0 h52 [] := Kc46.ext E52
    have Zs58 : n0 ≤ h52.size := (Nat.le_trans Zs47 E52.1)
    have V52 : Arv Z h52 b52 k52 .int (1 : Int32) [(.int (0 : Int32))] (.int (0 : Int32)) := (Arv.new A52 (by decide)).pad (pad_rep [] (.int (0 : Int32)) 1)
    obtain ⟨cl63, Ar63, q63, S63, M63, H63, G63⟩ := id V52
    have hin63 : ¬ ((0 : Int32) < 0 ∨ cl63.slots.size ≤ ((0 : Int32)).toNatClampNeg) := inb_of S63 ⟨by decide, by decide⟩
    obtain ⟨T64, h64, X64, e64, W64, st64⟩ := stI X52 hx hZ e52 Ar63 (j := (0 : Int32)) hin63 (g := (mkF m 54 #[.val (.int p0), .val (.int p1), .val (.int p2), .val (.int p3), .val (.int p4), .val (.int ((1 : Int32) + (p0 &&& (3 : Int32)))), .val (.int (own_freq_f p1)), .val (.int (own_freq_f p2)), .val (.int (own_freq_f p3)), .val (.int (own_freq_f p4)), .val (.ref b34), .unset, .unset, .unset, .unset, .unset, .unset, .unset, .unset] [(.int (own_freq_f p1)), (.int (0 : Int32)), (.ref b52), (.ref b52)])) rfl rfl (hb hby at_54)
    have Kc66 : Keep h0 h64 [] := Kc57.wr W64 (Or.inr Sz56)
    have Zs67 : n0 ≤ h64.size := Nat.le_trans Zs58 (Keep.of_wr W64).1
    have N68 := Fr.snoc X64 N48 Ge55
    have Vm65 : Arv Z h64 b52 k52 .int (1 : Int32) [(.int (own_freq_f p1))] (.int (0 : Int32)) := Arv.set Ar63 q63 S63 M63 H63 G63 rfl W64 0 rfl (Nat.le_of_ble_eq_true rfl)
    obtain ⟨T75, h75, X75, e75, E75, A75, D75, -, st75⟩ := newO X64 hx hZ hown (hw _ (List.mem_of_getElem? (i := 10) rfl)) (hw _ (List.mem_of_getElem? (i := 11) rfl)) (hw _ (List.mem_of_getElem? (i := 12) rfl)) e64 (g := (mkF m 233 #[.val (.int p0), .val (.int p1), .val (.int p2), .val (.int p3), .val (.int p4), .val (.int ((1 : Int32) + (p0 &&& (3 : Int32)))), .val (.int (own_freq_f p1)), .val (.int (own_freq_f p2)), .val (.int (own_freq_f p3)), .val (.int (own_freq_f p4)), .val (.ref b34), .val (.ref b52), .val (.long ((own_freq_f p1).toInt64)), .second, .unset, .unset, .unset, .unset, .unset] [])) rfl (hb hby at_233) (by decide) (by decide)
    obtain ⟨b75, g75⟩ : ∃ z, z = h64.size := ⟨_, rfl⟩
    rw [← g75] at A75 D75 st75
    have Fq77 : Exa Z h64 b34 "[I" := ((Fq54.ext E52).wr W64)
    have Ne76 : b34 ≠ b75 := Nat.ne_of_lt (Nat.lt_of_lt_of_le Fq77.lt (Nat.le_of_eq g75.symm))
    have Fq79 : Exa Z h64 b52 "[I" := (Y52.wr W64)
    have Ne78 : b52 ≠ b75 := Nat.ne_of_lt (Nat.lt_of_lt_of_le Fq79.lt (Nat.le_of_eq g75.symm))
    have Ge80 : n0 ≤ b75 := Nat.le_trans Zs67 (Nat.le_of_eq g75.symm)
    have Sz81 : h0.size ≤ b75 := Nat.le_trans Kc66.1 (Nat.le_of_eq g75.symm)
    have Kc82 : Keep h0 h75 [] := Kc66.ext E75
    have Zs83 : n0 ≤ h75.size := (Nat.le_trans Zs67 E75.1)
    have F75_documents : Fld Z h75 b75 "com/example/merit/merit/Postings" "documents" "[I" .null := D75 (Or.inr (hw _ (List.mem_of_getElem? (i := 20) rfl))) (ty := (.array .int)) (by decide)
    have F75_frequencies : Fld Z h75 b75 "com/example/merit/merit/Postings" "frequencies" "[I" .null := D75 (Or.inr (hw _ (List.mem_of_getElem? (i := 22) rfl))) (ty := (.array .int)) (by decide)
    have Fq89 : Arv Z h75 b34 k34 .int (1 : Int32) [(.int (0 : Int32))] (.int (0 : Int32)) := (((Vm45.ext E52).other W64 Ne53).ext E75)
    have Fq90 : Arv Z h75 b52 k52 .int (1 : Int32) [(.int (own_freq_f p1))] (.int (0 : Int32)) := (Vm65.ext E75)
    obtain ⟨_, _, ⟨T88, L88, k88, n88⟩, -, X88, ⟨Lc88, hQ88, l88, y88, z88⟩, st88⟩ := X75.specialBack hx (y := (⟨"com/example/merit/merit/Postings", "<init>", "([I[I)V"⟩ : MethodName)) rfl hown (mvT hZ (hw _ (List.mem_of_getElem? (i := 13) rfl))) (mvT hZ (hw _ (List.mem_of_getElem? (i := 14) rfl))) (mvT hZ (hw _ (List.mem_of_getElem? (i := 15) rfl))) (by decide) (backOf (W := 1) (own_rmI l Z a0 hw [] b75 b34 b52 k34 k52 (1 : Int32) [(.int (0 : Int32))] [(.int (own_freq_f p1))] h75 n0 Zs83 A75 F75_documents F75_frequencies Fq89 Fq90 Ge80) hZ (hw _ (List.mem_of_getElem? (i := 15) rfl)) (hw _ (List.mem_of_getElem? (i := 12) rfl)) (by decide) (by decide)) (g := (mkF m 241 #[.val (.int p0), .val (.int p1), .val (.int p2), .val (.int p3), .val (.int p4), .val (.int ((1 : Int32) + (p0 &&& (3 : Int32)))), .val (.int (own_freq_f p1)), .val (.int (own_freq_f p2)), .val (.int (own_freq_f p3)), .val (.int (own_freq_f p4)), .val (.ref b34), .val (.ref b52), .val (.long ((own_freq_f p1).toInt64)), .second, .unset, .unset, .unset, .unset, .unset] [(.ref b52), (.ref b34), (.ref b75), (.ref b75)])) rfl (by rw [hml]; rfl) (Steps.refl _) (a := b75) (argsL := [(.ref b34), (.ref b52)]) (rest := [(.ref b75)]) (lenOf own_pd2 rfl) rfl (by show 2 * 0 + _ ≤ _; exact Nat.le_of_eq rfl) (hb hby at_241) (fun _ _ => ⟨rfl, e75, (by decide : 3 + 0 ≤ _), (by decide : 4 + 0 ≤ _)⟩)
    dsimp only [Pt.U, Pt.locs, Pt.cells, Pt.slots] at X88 l88 y88 z88 st88 hQ88
    subst l88 y88 z88
    obtain ⟨rfl, Nq88, K88, Pf88_0, Pf88_1, Pf88_2⟩ := hQ88
    have N91 := Fr.app N68 Nq88
    have Kc92 : Keep h0 T88.heap [] := Kc82.trans K88 (allS (Or.inr Sz81) all0)
    have Zs93 : n0 ≤ T88.heap.size := Nat.le_trans Zs83 K88.1
    have Fq98 : Arv Z T88.heap b52 k52 .int (1 : Int32) [(.int (own_freq_f p1))] (.int (0 : Int32)) := (Fq90.keep K88 (ninS Ne78 nin0))
    obtain ⟨cq97, kq97, q97a, q97b, q97c⟩ := isOf hZ rfl Pf88_0
    obtain ⟨_, _, ⟨T97, L97, k97, n97⟩, -, X97, ⟨Lc97, hQ97, l97, y97, z97⟩, st97⟩ := X88.virtualBack hx (y := (⟨"com/example/merit/merit/Postings", "collectionFrequency", "()J"⟩ : MethodName)) (z := (⟨"com/example/merit/merit/Postings", "collectionFrequency", "()J"⟩ : MethodName)) hown (mvT hZ (hw _ (List.mem_of_getElem? (i := 23) rfl))) (mvT hZ (hw _ (List.mem_of_getElem? (i := 24) rfl))) (notFace_of_selects (args := #[]) (mvT hZ (hw _ (List.mem_of_getElem? (i := 26) rfl)))) (mvT hZ (hw _ (List.mem_of_getElem? (i := 26) rfl))) (mvT hZ (hw _ (List.mem_of_getElem? (i := 25) rfl))) (by decide) (backOf (W := 0) (own_cf1 l Z a0 hw [] b75 b52 k52 (own_freq_f p1) T88.heap n0 Zs93 Pf88_2 Fq98) hZ (hw _ (List.mem_of_getElem? (i := 27) rfl)) (hw _ (List.mem_of_getElem? (i := 12) rfl)) (by decide) (by decide)) q97a q97c (g := (mkF m 248 #[.val (.int p0), .val (.int p1), .val (.int p2), .val (.int p3), .val (.int p4), .val (.int ((1 : Int32) + (p0 &&& (3 : Int32)))), .val (.int (own_freq_f p1)), .val (.int (own_freq_f p2)), .val (.int (own_freq_f p3)), .val (.int (own_freq_f p4)), .val (.ref b34), .val (.ref b52), .val (.long ((own_freq_f p1).toInt64)), .second, .val (.ref b75), .unset, .unset, .unset, .unset] [(.ref b75)])) rfl (by rw [hml]; rfl) (Steps.refl _) (argsL := []) (rest := []) (lenOf own_pd3 rfl) rfl (by show 2 * 0 + _ ≤ _; exact Nat.le_of_eq rfl) (hb hby at_248) (fun _ _ => ⟨rfl, rfl, (by decide : 3 + 0 ≤ _), (by decide : 4 + 0 ≤ _)⟩)
    dsimp only [Pt.U, Pt.locs, Pt.cells, Pt.slots] at X97 l97 y97 z97 st97 hQ97
    subst l97 y97 z97
    obtain ⟨rfl, Nq97, eh97⟩ := hQ97
    have N99 := Fr.app N91 Nq97
    obtain ⟨cq103, kq103, q103a, q103b, q103c⟩ := isOf hZ eh97 Pf88_0
    obtain ⟨_, _, ⟨T103, L103, k103, n103⟩, -, X103, ⟨Lc103, hQ103, l103, y103, z103⟩, st103⟩ := X97.virtualBack hx (y := (⟨"com/example/merit/merit/Postings", "collectionFrequency", "()J"⟩ : MethodName)) (z := (⟨"com/example/merit/merit/Postings", "collectionFrequency", "()J"⟩ : MethodName)) hown (mvT hZ (hw _ (List.mem_of_getElem? (i := 23) rfl))) (mvT hZ (hw _ (List.mem_of_getElem? (i := 24) rfl))) (notFace_of_selects (args := #[]) (mvT hZ (hw _ (List.mem_of_getElem? (i := 26) rfl)))) (mvT hZ (hw _ (List.mem_of_getElem? (i := 26) rfl))) (mvT hZ (hw _ (List.mem_of_getElem? (i := 25) rfl))) (by decide) (backOf (W := 0) (own_cf1 l Z a0 hw [] b75 b52 k52 (own_freq_f p1) T88.heap n0 Zs93 Pf88_2 Fq98) hZ (hw _ (List.mem_of_getElem? (i := 27) rfl)) (hw _ (List.mem_of_getElem? (i := 12) rfl)) (by decide) (by decide)) q103a q103c (g := (mkF m 255 #[.val (.int p0), .val (.int p1), .val (.int p2), .val (.int p3), .val (.int p4), .val (.int ((1 : Int32) + (p0 &&& (3 : Int32)))), .val (.int (own_freq_f p1)), .val (.int (own_freq_f p2)), .val (.int (own_freq_f p3)), .val (.int (own_freq_f p4)), .val (.ref b34), .val (.ref b52), .val (.long ((own_freq_f p1).toInt64)), .second, .val (.ref b75), .val (.long ((0 : Int64) + ((own_freq_f p1).toInt64))), .second, .unset, .unset] [(.ref b75)])) rfl (by rw [hml]; rfl) (Steps.refl _) (argsL := []) (rest := []) (lenOf own_pd3 rfl) rfl (by show 2 * 0 + _ ≤ _; exact Nat.le_of_eq rfl) (hb hby at_255) (fun _ _ => ⟨rfl, eh97, (by decide : 3 + 0 ≤ _), (by decide : 4 + 0 ≤ _)⟩)
    dsimp only [Pt.U, Pt.locs, Pt.cells, Pt.slots] at X103 l103 y103 z103 st103 hQ103
    subst l103 y103 z103
    obtain ⟨rfl, Nq103, eh103⟩ := hQ103
    have N104 := Fr.app N99 Nq103
    obtain ⟨fs, hr, hrun, hended, hW, hsame⟩ := X103.leave (v := some (.int (1 : Int32))) (fun h => by rw [Bd.returns] at h; cases h) (hlocks := BodyLoose.notSynchronized Bd)
    refine ⟨_, _, pre30 _ ?_, hrun, hended, _, _, rfl, ?_, ⟨_, rfl⟩, hW, hsame.mono (by decide) (by decide)⟩
    · show Steps p.tables e below (T24.setTop (mkF m 35 #[.val (.int p0), .val (.int p1), .val (.int p2), .val (.int p3), .val (.int p4), .val (.int ((1 : Int32) + (p0 &&& (3 : Int32)))), .val (.int (own_freq_f p1)), .val (.int (own_freq_f p2)), .val (.int (own_freq_f p3)), .val (.int (own_freq_f p4)), .unset, .unset, .unset, .unset, .unset, .unset, .unset, .unset, .unset] [(.int (1 : Int32)), (.int ((1 : Int32) + (p0 &&& (3 : Int32))))])) _
      refine XS.icmpNo X24.here hx rfl (hb hby at_35) rfl (teq hc35_31).2 ?_
      show Steps p.tables e below (T24.setTop (mkF m 38 #[.val (.int p0), .val (.int p1), .val (.int p2), .val (.int p3), .val (.int p4), .val (.int ((1 : Int32) + (p0 &&& (3 : Int32)))), .val (.int (own_freq_f p1)), .val (.int (own_freq_f p2)), .val (.int (own_freq_f p3)), .val (.int (own_freq_f p4)), .unset, .unset, .unset, .unset, .unset, .unset, .unset, .unset, .unset] [])) _
      refine XS.iconst X24.here hx rfl (hb hby at_38) ?_
      show Steps p.tables e below (T24.setTop (mkF m 39 #[.val (.int p0), .val (.int p1), .val (.int p2), .val (.int p3), .val (.int p4), .val (.int ((1 : Int32) + (p0 &&& (3 : Int32)))), .val (.int (own_freq_f p1)), .val (.int (own_freq_f p2)), .val (.int (own_freq_f p3)), .val (.int (own_freq_f p4)), .unset, .unset, .unset, .unset, .unset, .unset, .unset, .unset, .unset] [(.int (1 : Int32))])) _
      refine st34 _ ?_
      show Steps p.tables e below (T34.setTop (mkF m 41 #[.val (.int p0), .val (.int p1), .val (.int p2), .val (.int p3), .val (.int p4), .val (.int ((1 : Int32) + (p0 &&& (3 : Int32)))), .val (.int (own_freq_f p1)), .val (.int (own_freq_f p2)), .val (.int (own_freq_f p3)), .val (.int (own_freq_f p4)), .unset, .unset, .unset, .unset, .unset, .unset, .unset, .unset, .unset] [(.ref b34)])) _
      refine XS.dup X34.here hx rfl (hb hby at_41) rfl rfl ?_
      show Steps p.tables e below (T34.setTop (mkF m 42 #[.val (.int p0), .val (.int p1), .val (.int p2), .val (.int p3), .val (.int p4), .val (.int ((1 : Int32) + (p0 &&& (3 : Int32)))), .val (.int (own_freq_f p1)), .val (.int (own_freq_f p2)), .val (.int (own_freq_f p3)), .val (.int (own_freq_f p4)), .unset, .unset, .unset, .unset, .unset, .unset, .unset, .unset, .unset] [(.ref b34), (.ref b34)])) _
      refine XS.iconst X34.here hx rfl (hb hby at_42) ?_
      show Steps p.tables e below (T34.setTop (mkF m 43 #[.val (.int p0), .val (.int p1), .val (.int p2), .val (.int p3), .val (.int p4), .val (.int ((1 : Int32) + (p0 &&& (3 : Int32)))), .val (.int (own_freq_f p1)), .val (.int (own_freq_f p2)), .val (.int (own_freq_f p3)), .val (.int (own_freq_f p4)), .unset, .unset, .unset, .unset, .unset, .unset, .unset, .unset, .unset] [(.int (0 : Int32)), (.ref b34), (.ref b34)])) _
      refine XS.iconst X34.here hx rfl (hb hby at_43) ?_
      show Steps p.tables e below (T34.setTop (mkF m 44 #[.val (.int p0), .val (.int p1), .val (.int p2), .val (.int p3), .val (.int p4), .val (.int ((1 : Int32) + (p0 &&& (3 : Int32)))), .val (.int (own_freq_f p1)), .val (.int (own_freq_f p2)), .val (.int (own_freq_f p3)), .val (.int (own_freq_f p4)), .unset, .unset, .unset, .unset, .unset, .unset, .unset, .unset, .unset] [(.int (0 : Int32)), (.int (0 : Int32)), (.ref b34), (.ref b34)])) _
      refine st44 _ ?_
      show Steps p.tables e below (T44.setTop (mkF m 45 #[.val (.int p0), .val (.int p1), .val (.int p2), .val (.int p3), .val (.int p4), .val (.int ((1 : Int32) + (p0 &&& (3 : Int32)))), .val (.int (own_freq_f p1)), .val (.int (own_freq_f p2)), .val (.int (own_freq_f p3)), .val (.int (own_freq_f p4)), .unset, .unset, .unset, .unset, .unset, .unset, .unset, .unset, .unset] [(.ref b34)])) _
      refine XS.astore X44.here hx rfl (hb hby at_45) rfl rfl (l' := #[.val (.int p0), .val (.int p1), .val (.int p2), .val (.int p3), .val (.int p4), .val (.int ((1 : Int32) + (p0 &&& (3 : Int32)))), .val (.int (own_freq_f p1)), .val (.int (own_freq_f p2)), .val (.int (own_freq_f p3)), .val (.int (own_freq_f p4)), .val (.ref b34), .unset, .unset, .unset, .unset, .unset, .unset, .unset, .unset]) rfl ?_
      show Steps p.tables e below (T44.setTop (mkF m 47 #[.val (.int p0), .val (.int p1), .val (.int p2), .val (.int p3), .val (.int p4), .val (.int ((1 : Int32) + (p0 &&& (3 : Int32)))), .val (.int (own_freq_f p1)), .val (.int (own_freq_f p2)), .val (.int (own_freq_f p3)), .val (.int (own_freq_f p4)), .val (.ref b34), .unset, .unset, .unset, .unset, .unset, .unset, .unset, .unset] [])) _
      refine XS.iconst X44.here hx rfl (hb hby at_47) ?_
      show Steps p.tables e below (T44.setTop (mkF m 48 #[.val (.int p0), .val (.int p1), .val (.int p2), .val (.int p3), .val (.int p4), .val (.int ((1 : Int32) + (p0 &&& (3 : Int32)))), .val (.int (own_freq_f p1)), .val (.int (own_freq_f p2)), .val (.int (own_freq_f p3)), .val (.int (own_freq_f p4)), .val (.ref b34), .unset, .unset, .unset, .unset, .unset, .unset, .unset, .unset] [(.int (1 : Int32))])) _
      refine st52 _ ?_
      show Steps p.tables e below (T52.setTop (mkF m 50 #[.val (.int p0), .val (.int p1), .val (.int p2), .val (.int p3), .val (.int p4), .val (.int ((1 : Int32) + (p0 &&& (3 : Int32)))), .val (.int (own_freq_f p1)), .val (.int (own_freq_f p2)), .val (.int (own_freq_f p3)), .val (.int (own_freq_f p4)), .val (.ref b34), .unset, .unset, .unset, .unset, .unset, .unset, .unset, .unset] [(.ref b52)])) _
      refine XS.dup X52.here hx rfl (hb hby at_50) rfl rfl ?_
      show Steps p.tables e below (T52.setTop (mkF m 51 #[.val (.int p0), .val (.int p1), .val (.int p2), .val (.int p3), .val (.int p4), .val (.int ((1 : Int32) + (p0 &&& (3 : Int32)))), .val (.int (own_freq_f p1)), .val (.int (own_freq_f p2)), .val (.int (own_freq_f p3)), .val (.int (own_freq_f p4)), .val (.ref b34), .unset, .unset, .unset, .unset, .unset, .unset, .unset, .unset] [(.ref b52), (.ref b52)])) _
      refine XS.iconst X52.here hx rfl (hb hby at_51) ?_
      show Steps p.tables e below (T52.setTop (mkF m 52 #[.val (.int p0), .val (.int p1), .val (.int p2), .val (.int p3), .val (.int p4), .val (.int ((1 : Int32) + (p0 &&& (3 : Int32)))), .val (.int (own_freq_f p1)), .val (.int (own_freq_f p2)), .val (.int (own_freq_f p3)), .val (.int (own_freq_f p4)), .val (.ref b34), .unset, .unset, .unset, .unset, .unset, .unset, .unset, .unset] [(.int (0 : Int32)), (.ref b52), (.ref b52)])) _
      refine XS.iload X52.here hx rfl (hb hby at_52) rfl ?_
      show Steps p.tables e below (T52.setTop (mkF m 54 #[.val (.int p0), .val (.int p1), .val (.int p2), .val (.int p3), .val (.int p4), .val (.int ((1 : Int32) + (p0 &&& (3 : Int32)))), .val (.int (own_freq_f p1)), .val (.int (own_freq_f p2)), .val (.int (own_freq_f p3)), .val (.int (own_freq_f p4)), .val (.ref b34), .unset, .unset, .unset, .unset, .unset, .unset, .unset, .unset] [(.int (own_freq_f p1)), (.int (0 : Int32)), (.ref b52), (.ref b52)])) _
      refine st64 _ ?_
      show Steps p.tables e below (T64.setTop (mkF m 55 #[.val (.int p0), .val (.int p1), .val (.int p2), .val (.int p3), .val (.int p4), .val (.int ((1 : Int32) + (p0 &&& (3 : Int32)))), .val (.int (own_freq_f p1)), .val (.int (own_freq_f p2)), .val (.int (own_freq_f p3)), .val (.int (own_freq_f p4)), .val (.ref b34), .unset, .unset, .unset, .unset, .unset, .unset, .unset, .unset] [(.ref b52)])) _
      refine XS.astore X64.here hx rfl (hb hby at_55) rfl rfl (l' := #[.val (.int p0), .val (.int p1), .val (.int p2), .val (.int p3), .val (.int p4), .val (.int ((1 : Int32) + (p0 &&& (3 : Int32)))), .val (.int (own_freq_f p1)), .val (.int (own_freq_f p2)), .val (.int (own_freq_f p3)), .val (.int (own_freq_f p4)), .val (.ref b34), .val (.ref b52), .unset, .unset, .unset, .unset, .unset, .unset, .unset]) rfl ?_
      show Steps p.tables e below (T64.setTop (mkF m 57 #[.val (.int p0), .val (.int p1), .val (.int p2), .val (.int p3), .val (.int p4), .val (.int ((1 : Int32) + (p0 &&& (3 : Int32)))), .val (.int (own_freq_f p1)), .val (.int (own_freq_f p2)), .val (.int (own_freq_f p3)), .val (.int (own_freq_f p4)), .val (.ref b34), .val (.ref b52), .unset, .unset, .unset, .unset, .unset, .unset, .unset] [])) _
      refine XS.iload X64.here hx rfl (hb hby at_57) rfl ?_
      show Steps p.tables e below (T64.setTop (mkF m 59 #[.val (.int p0), .val (.int p1), .val (.int p2), .val (.int p3), .val (.int p4), .val (.int ((1 : Int32) + (p0 &&& (3 : Int32)))), .val (.int (own_freq_f p1)), .val (.int (own_freq_f p2)), .val (.int (own_freq_f p3)), .val (.int (own_freq_f p4)), .val (.ref b34), .val (.ref b52), .unset, .unset, .unset, .unset, .unset, .unset, .unset] [(.int (own_freq_f p1))])) _
      refine XS.i2l X64.here hx rfl (hb hby at_59) rfl ?_
      show Steps p.tables e below (T64.setTop (mkF m 60 #[.val (.int p0), .val (.int p1), .val (.int p2), .val (.int p3), .val (.int p4), .val (.int ((1 : Int32) + (p0 &&& (3 : Int32)))), .val (.int (own_freq_f p1)), .val (.int (own_freq_f p2)), .val (.int (own_freq_f p3)), .val (.int (own_freq_f p4)), .val (.ref b34), .val (.ref b52), .unset, .unset, .unset, .unset, .unset, .unset, .unset] [(.long ((own_freq_f p1).toInt64))])) _
      refine XS.lstore X64.here hx rfl (hb hby at_60) rfl (l' := #[.val (.int p0), .val (.int p1), .val (.int p2), .val (.int p3), .val (.int p4), .val (.int ((1 : Int32) + (p0 &&& (3 : Int32)))), .val (.int (own_freq_f p1)), .val (.int (own_freq_f p2)), .val (.int (own_freq_f p3)), .val (.int (own_freq_f p4)), .val (.ref b34), .val (.ref b52), .val (.long ((own_freq_f p1).toInt64)), .second, .unset, .unset, .unset, .unset, .unset]) rfl ?_
      show Steps p.tables e below (T64.setTop (mkF m 62 #[.val (.int p0), .val (.int p1), .val (.int p2), .val (.int p3), .val (.int p4), .val (.int ((1 : Int32) + (p0 &&& (3 : Int32)))), .val (.int (own_freq_f p1)), .val (.int (own_freq_f p2)), .val (.int (own_freq_f p3)), .val (.int (own_freq_f p4)), .val (.ref b34), .val (.ref b52), .val (.long ((own_freq_f p1).toInt64)), .second, .unset, .unset, .unset, .unset, .unset] [])) _
      refine XS.goto X64.here hx rfl (pc0 := 62) (pc' := 233) rfl (hb hby at_62) (by decide) (by decide) ?_
      show Steps p.tables e below (T64.setTop (mkF m 233 #[.val (.int p0), .val (.int p1), .val (.int p2), .val (.int p3), .val (.int p4), .val (.int ((1 : Int32) + (p0 &&& (3 : Int32)))), .val (.int (own_freq_f p1)), .val (.int (own_freq_f p2)), .val (.int (own_freq_f p3)), .val (.int (own_freq_f p4)), .val (.ref b34), .val (.ref b52), .val (.long ((own_freq_f p1).toInt64)), .second, .unset, .unset, .unset, .unset, .unset] [])) _
      refine st75 _ ?_
      show Steps p.tables e below (T75.setTop (mkF m 236 #[.val (.int p0), .val (.int p1), .val (.int p2), .val (.int p3), .val (.int p4), .val (.int ((1 : Int32) + (p0 &&& (3 : Int32)))), .val (.int (own_freq_f p1)), .val (.int (own_freq_f p2)), .val (.int (own_freq_f p3)), .val (.int (own_freq_f p4)), .val (.ref b34), .val (.ref b52), .val (.long ((own_freq_f p1).toInt64)), .second, .unset, .unset, .unset, .unset, .unset] [(.ref b75)])) _
      refine XS.dup X75.here hx rfl (hb hby at_236) rfl rfl ?_
      show Steps p.tables e below (T75.setTop (mkF m 237 #[.val (.int p0), .val (.int p1), .val (.int p2), .val (.int p3), .val (.int p4), .val (.int ((1 : Int32) + (p0 &&& (3 : Int32)))), .val (.int (own_freq_f p1)), .val (.int (own_freq_f p2)), .val (.int (own_freq_f p3)), .val (.int (own_freq_f p4)), .val (.ref b34), .val (.ref b52), .val (.long ((own_freq_f p1).toInt64)), .second, .unset, .unset, .unset, .unset, .unset] [(.ref b75), (.ref b75)])) _
      refine XS.aload X75.here hx rfl (hb hby at_237) rfl rfl ?_
      show Steps p.tables e below (T75.setTop (mkF m 239 #[.val (.int p0), .val (.int p1), .val (.int p2), .val (.int p3), .val (.int p4), .val (.int ((1 : Int32) + (p0 &&& (3 : Int32)))), .val (.int (own_freq_f p1)), .val (.int (own_freq_f p2)), .val (.int (own_freq_f p3)), .val (.int (own_freq_f p4)), .val (.ref b34), .val (.ref b52), .val (.long ((own_freq_f p1).toInt64)), .second, .unset, .unset, .unset, .unset, .unset] [(.ref b34), (.ref b75), (.ref b75)])) _
      refine XS.aload X75.here hx rfl (hb hby at_239) rfl rfl ?_
      show Steps p.tables e below (T75.setTop (mkF m 241 #[.val (.int p0), .val (.int p1), .val (.int p2), .val (.int p3), .val (.int p4), .val (.int ((1 : Int32) + (p0 &&& (3 : Int32)))), .val (.int (own_freq_f p1)), .val (.int (own_freq_f p2)), .val (.int (own_freq_f p3)), .val (.int (own_freq_f p4)), .val (.ref b34), .val (.ref b52), .val (.long ((own_freq_f p1).toInt64)), .second, .unset, .unset, .unset, .unset, .unset] [(.ref b52), (.ref b34), (.ref b75), (.ref b75)])) _
      refine st88.trans ?_
      show Steps p.tables e below (T88.setTop (mkF m 244 #[.val (.int p0), .val (.int p1), .val (.int p2), .val (.int p3), .val (.int p4), .val (.int ((1 : Int32) + (p0 &&& (3 : Int32)))), .val (.int (own_freq_f p1)), .val (.int (own_freq_f p2)), .val (.int (own_freq_f p3)), .val (.int (own_freq_f p4)), .val (.ref b34), .val (.ref b52), .val (.long ((own_freq_f p1).toInt64)), .second, .unset, .unset, .unset, .unset, .unset] [(.ref b75)])) _
      refine XS.astore X88.here hx rfl (hb hby at_244) rfl rfl (l' := #[.val (.int p0), .val (.int p1), .val (.int p2), .val (.int p3), .val (.int p4), .val (.int ((1 : Int32) + (p0 &&& (3 : Int32)))), .val (.int (own_freq_f p1)), .val (.int (own_freq_f p2)), .val (.int (own_freq_f p3)), .val (.int (own_freq_f p4)), .val (.ref b34), .val (.ref b52), .val (.long ((own_freq_f p1).toInt64)), .second, .val (.ref b75), .unset, .unset, .unset, .unset]) rfl ?_
      show Steps p.tables e below (T88.setTop (mkF m 246 #[.val (.int p0), .val (.int p1), .val (.int p2), .val (.int p3), .val (.int p4), .val (.int ((1 : Int32) + (p0 &&& (3 : Int32)))), .val (.int (own_freq_f p1)), .val (.int (own_freq_f p2)), .val (.int (own_freq_f p3)), .val (.int (own_freq_f p4)), .val (.ref b34), .val (.ref b52), .val (.long ((own_freq_f p1).toInt64)), .second, .val (.ref b75), .unset, .unset, .unset, .unset] [])) _
      refine XS.aload X88.here hx rfl (hb hby at_246) rfl rfl ?_
      show Steps p.tables e below (T88.setTop (mkF m 248 #[.val (.int p0), .val (.int p1), .val (.int p2), .val (.int p3), .val (.int p4), .val (.int ((1 : Int32) + (p0 &&& (3 : Int32)))), .val (.int (own_freq_f p1)), .val (.int (own_freq_f p2)), .val (.int (own_freq_f p3)), .val (.int (own_freq_f p4)), .val (.ref b34), .val (.ref b52), .val (.long ((own_freq_f p1).toInt64)), .second, .val (.ref b75), .unset, .unset, .unset, .unset] [(.ref b75)])) _
      refine st97.trans ?_
      show Steps p.tables e below (T97.setTop (mkF m 251 #[.val (.int p0), .val (.int p1), .val (.int p2), .val (.int p3), .val (.int p4), .val (.int ((1 : Int32) + (p0 &&& (3 : Int32)))), .val (.int (own_freq_f p1)), .val (.int (own_freq_f p2)), .val (.int (own_freq_f p3)), .val (.int (own_freq_f p4)), .val (.ref b34), .val (.ref b52), .val (.long ((own_freq_f p1).toInt64)), .second, .val (.ref b75), .unset, .unset, .unset, .unset] [(.long ((0 : Int64) + ((own_freq_f p1).toInt64)))])) _
      refine XS.lstore X97.here hx rfl (hb hby at_251) rfl (l' := #[.val (.int p0), .val (.int p1), .val (.int p2), .val (.int p3), .val (.int p4), .val (.int ((1 : Int32) + (p0 &&& (3 : Int32)))), .val (.int (own_freq_f p1)), .val (.int (own_freq_f p2)), .val (.int (own_freq_f p3)), .val (.int (own_freq_f p4)), .val (.ref b34), .val (.ref b52), .val (.long ((own_freq_f p1).toInt64)), .second, .val (.ref b75), .val (.long ((0 : Int64) + ((own_freq_f p1).toInt64))), .second, .unset, .unset]) rfl ?_
      show Steps p.tables e below (T97.setTop (mkF m 253 #[.val (.int p0), .val (.int p1), .val (.int p2), .val (.int p3), .val (.int p4), .val (.int ((1 : Int32) + (p0 &&& (3 : Int32)))), .val (.int (own_freq_f p1)), .val (.int (own_freq_f p2)), .val (.int (own_freq_f p3)), .val (.int (own_freq_f p4)), .val (.ref b34), .val (.ref b52), .val (.long ((own_freq_f p1).toInt64)), .second, .val (.ref b75), .val (.long ((0 : Int64) + ((own_freq_f p1).toInt64))), .second, .unset, .unset] [])) _
      refine XS.aload X97.here hx rfl (hb hby at_253) rfl rfl ?_
      show Steps p.tables e below (T97.setTop (mkF m 255 #[.val (.int p0), .val (.int p1), .val (.int p2), .val (.int p3), .val (.int p4), .val (.int ((1 : Int32) + (p0 &&& (3 : Int32)))), .val (.int (own_freq_f p1)), .val (.int (own_freq_f p2)), .val (.int (own_freq_f p3)), .val (.int (own_freq_f p4)), .val (.ref b34), .val (.ref b52), .val (.long ((own_freq_f p1).toInt64)), .second, .val (.ref b75), .val (.long ((0 : Int64) + ((own_freq_f p1).toInt64))), .second, .unset, .unset] [(.ref b75)])) _
      refine st103.trans ?_
      show Steps p.tables e below (T103.setTop (mkF m 258 #[.val (.int p0), .val (.int p1), .val (.int p2), .val (.int p3), .val (.int p4), .val (.int ((1 : Int32) + (p0 &&& (3 : Int32)))), .val (.int (own_freq_f p1)), .val (.int (own_freq_f p2)), .val (.int (own_freq_f p3)), .val (.int (own_freq_f p4)), .val (.ref b34), .val (.ref b52), .val (.long ((own_freq_f p1).toInt64)), .second, .val (.ref b75), .val (.long ((0 : Int64) + ((own_freq_f p1).toInt64))), .second, .unset, .unset] [(.long ((0 : Int64) + ((own_freq_f p1).toInt64)))])) _
      refine XS.lstore X103.here hx rfl (hb hby at_258) rfl (l' := #[.val (.int p0), .val (.int p1), .val (.int p2), .val (.int p3), .val (.int p4), .val (.int ((1 : Int32) + (p0 &&& (3 : Int32)))), .val (.int (own_freq_f p1)), .val (.int (own_freq_f p2)), .val (.int (own_freq_f p3)), .val (.int (own_freq_f p4)), .val (.ref b34), .val (.ref b52), .val (.long ((own_freq_f p1).toInt64)), .second, .val (.ref b75), .val (.long ((0 : Int64) + ((own_freq_f p1).toInt64))), .second, .val (.long ((0 : Int64) + ((own_freq_f p1).toInt64))), .second]) rfl ?_
      show Steps p.tables e below (T103.setTop (mkF m 260 #[.val (.int p0), .val (.int p1), .val (.int p2), .val (.int p3), .val (.int p4), .val (.int ((1 : Int32) + (p0 &&& (3 : Int32)))), .val (.int (own_freq_f p1)), .val (.int (own_freq_f p2)), .val (.int (own_freq_f p3)), .val (.int (own_freq_f p4)), .val (.ref b34), .val (.ref b52), .val (.long ((own_freq_f p1).toInt64)), .second, .val (.ref b75), .val (.long ((0 : Int64) + ((own_freq_f p1).toInt64))), .second, .val (.long ((0 : Int64) + ((own_freq_f p1).toInt64))), .second] [])) _
      refine XS.lload X103.here hx rfl (hb hby at_260) rfl ?_
      show Steps p.tables e below (T103.setTop (mkF m 262 #[.val (.int p0), .val (.int p1), .val (.int p2), .val (.int p3), .val (.int p4), .val (.int ((1 : Int32) + (p0 &&& (3 : Int32)))), .val (.int (own_freq_f p1)), .val (.int (own_freq_f p2)), .val (.int (own_freq_f p3)), .val (.int (own_freq_f p4)), .val (.ref b34), .val (.ref b52), .val (.long ((own_freq_f p1).toInt64)), .second, .val (.ref b75), .val (.long ((0 : Int64) + ((own_freq_f p1).toInt64))), .second, .val (.long ((0 : Int64) + ((own_freq_f p1).toInt64))), .second] [(.long ((0 : Int64) + ((own_freq_f p1).toInt64)))])) _
      refine XS.lload X103.here hx rfl (hb hby at_262) rfl ?_
      show Steps p.tables e below (T103.setTop (mkF m 264 #[.val (.int p0), .val (.int p1), .val (.int p2), .val (.int p3), .val (.int p4), .val (.int ((1 : Int32) + (p0 &&& (3 : Int32)))), .val (.int (own_freq_f p1)), .val (.int (own_freq_f p2)), .val (.int (own_freq_f p3)), .val (.int (own_freq_f p4)), .val (.ref b34), .val (.ref b52), .val (.long ((own_freq_f p1).toInt64)), .second, .val (.ref b75), .val (.long ((0 : Int64) + ((own_freq_f p1).toInt64))), .second, .val (.long ((0 : Int64) + ((own_freq_f p1).toInt64))), .second] [(.long ((own_freq_f p1).toInt64)), (.long ((0 : Int64) + ((own_freq_f p1).toInt64)))])) _
      refine XS.lcmp X103.here hx rfl (hb hby at_264) rfl ?_
      show Steps p.tables e below (T103.setTop (mkF m 265 #[.val (.int p0), .val (.int p1), .val (.int p2), .val (.int p3), .val (.int p4), .val (.int ((1 : Int32) + (p0 &&& (3 : Int32)))), .val (.int (own_freq_f p1)), .val (.int (own_freq_f p2)), .val (.int (own_freq_f p3)), .val (.int (own_freq_f p4)), .val (.ref b34), .val (.ref b52), .val (.long ((own_freq_f p1).toInt64)), .second, .val (.ref b75), .val (.long ((0 : Int64) + ((own_freq_f p1).toInt64))), .second, .val (.long ((0 : Int64) + ((own_freq_f p1).toInt64))), .second] [(.int (lcmpW ((0 : Int64) + ((own_freq_f p1).toInt64)) ((own_freq_f p1).toInt64)))])) _
      refine XS.ifNo X103.here hx rfl (hb hby at_265) rfl ((if0 _ _).trans (teq (own_lcEq.mpr (by rw [Int64.zero_add] : ((0 : Int64) + ((own_freq_f p1).toInt64)) = ((own_freq_f p1).toInt64)))).2) ?_
      show Steps p.tables e below (T103.setTop (mkF m 268 #[.val (.int p0), .val (.int p1), .val (.int p2), .val (.int p3), .val (.int p4), .val (.int ((1 : Int32) + (p0 &&& (3 : Int32)))), .val (.int (own_freq_f p1)), .val (.int (own_freq_f p2)), .val (.int (own_freq_f p3)), .val (.int (own_freq_f p4)), .val (.ref b34), .val (.ref b52), .val (.long ((own_freq_f p1).toInt64)), .second, .val (.ref b75), .val (.long ((0 : Int64) + ((own_freq_f p1).toInt64))), .second, .val (.long ((0 : Int64) + ((own_freq_f p1).toInt64))), .second] [])) _
      refine XS.lload X103.here hx rfl (hb hby at_268) rfl ?_
      show Steps p.tables e below (T103.setTop (mkF m 270 #[.val (.int p0), .val (.int p1), .val (.int p2), .val (.int p3), .val (.int p4), .val (.int ((1 : Int32) + (p0 &&& (3 : Int32)))), .val (.int (own_freq_f p1)), .val (.int (own_freq_f p2)), .val (.int (own_freq_f p3)), .val (.int (own_freq_f p4)), .val (.ref b34), .val (.ref b52), .val (.long ((own_freq_f p1).toInt64)), .second, .val (.ref b75), .val (.long ((0 : Int64) + ((own_freq_f p1).toInt64))), .second, .val (.long ((0 : Int64) + ((own_freq_f p1).toInt64))), .second] [(.long ((0 : Int64) + ((own_freq_f p1).toInt64)))])) _
      refine XS.lload X103.here hx rfl (hb hby at_270) rfl ?_
      show Steps p.tables e below (T103.setTop (mkF m 272 #[.val (.int p0), .val (.int p1), .val (.int p2), .val (.int p3), .val (.int p4), .val (.int ((1 : Int32) + (p0 &&& (3 : Int32)))), .val (.int (own_freq_f p1)), .val (.int (own_freq_f p2)), .val (.int (own_freq_f p3)), .val (.int (own_freq_f p4)), .val (.ref b34), .val (.ref b52), .val (.long ((own_freq_f p1).toInt64)), .second, .val (.ref b75), .val (.long ((0 : Int64) + ((own_freq_f p1).toInt64))), .second, .val (.long ((0 : Int64) + ((own_freq_f p1).toInt64))), .second] [(.long ((own_freq_f p1).toInt64)), (.long ((0 : Int64) + ((own_freq_f p1).toInt64)))])) _
      refine XS.lcmp X103.here hx rfl (hb hby at_272) rfl ?_
      show Steps p.tables e below (T103.setTop (mkF m 273 #[.val (.int p0), .val (.int p1), .val (.int p2), .val (.int p3), .val (.int p4), .val (.int ((1 : Int32) + (p0 &&& (3 : Int32)))), .val (.int (own_freq_f p1)), .val (.int (own_freq_f p2)), .val (.int (own_freq_f p3)), .val (.int (own_freq_f p4)), .val (.ref b34), .val (.ref b52), .val (.long ((own_freq_f p1).toInt64)), .second, .val (.ref b75), .val (.long ((0 : Int64) + ((own_freq_f p1).toInt64))), .second, .val (.long ((0 : Int64) + ((own_freq_f p1).toInt64))), .second] [(.int (lcmpW ((0 : Int64) + ((own_freq_f p1).toInt64)) ((own_freq_f p1).toInt64)))])) _
      refine XS.ifNo X103.here hx rfl (hb hby at_273) rfl ((if0 _ _).trans (teq (own_lcEq.mpr (by rw [Int64.zero_add] : ((0 : Int64) + ((own_freq_f p1).toInt64)) = ((own_freq_f p1).toInt64)))).2) ?_
      show Steps p.tables e below (T103.setTop (mkF m 276 #[.val (.int p0), .val (.int p1), .val (.int p2), .val (.int p3), .val (.int p4), .val (.int ((1 : Int32) + (p0 &&& (3 : Int32)))), .val (.int (own_freq_f p1)), .val (.int (own_freq_f p2)), .val (.int (own_freq_f p3)), .val (.int (own_freq_f p4)), .val (.ref b34), .val (.ref b52), .val (.long ((own_freq_f p1).toInt64)), .second, .val (.ref b75), .val (.long ((0 : Int64) + ((own_freq_f p1).toInt64))), .second, .val (.long ((0 : Int64) + ((own_freq_f p1).toInt64))), .second] [])) _
      refine XS.iconst X103.here hx rfl (hb hby at_276) ?_
      show Steps p.tables e below (T103.setTop (mkF m 277 #[.val (.int p0), .val (.int p1), .val (.int p2), .val (.int p3), .val (.int p4), .val (.int ((1 : Int32) + (p0 &&& (3 : Int32)))), .val (.int (own_freq_f p1)), .val (.int (own_freq_f p2)), .val (.int (own_freq_f p3)), .val (.int (own_freq_f p4)), .val (.ref b34), .val (.ref b52), .val (.long ((own_freq_f p1).toInt64)), .second, .val (.ref b75), .val (.long ((0 : Int64) + ((own_freq_f p1).toInt64))), .second, .val (.long ((0 : Int64) + ((own_freq_f p1).toInt64))), .second] [(.int (1 : Int32))])) _
      refine XS.goto X103.here hx rfl (pc0 := 277) (pc' := 281) rfl (hb hby at_277) (by decide) (by decide) ?_
      show Steps p.tables e below (T103.setTop (mkF m 281 #[.val (.int p0), .val (.int p1), .val (.int p2), .val (.int p3), .val (.int p4), .val (.int ((1 : Int32) + (p0 &&& (3 : Int32)))), .val (.int (own_freq_f p1)), .val (.int (own_freq_f p2)), .val (.int (own_freq_f p3)), .val (.int (own_freq_f p4)), .val (.ref b34), .val (.ref b52), .val (.long ((own_freq_f p1).toInt64)), .second, .val (.ref b75), .val (.long ((0 : Int64) + ((own_freq_f p1).toInt64))), .second, .val (.long ((0 : Int64) + ((own_freq_f p1).toInt64))), .second] [(.int (1 : Int32))])) _
      exact retN X103 hx (t := .boolean) Bd.returns (by simp) (hb hby at_281) hr
    · show Qown_law Z p0 p1 p2 p3 p4 h0 n0 _ T103.heap _
      rw [eh103]
      exact ⟨rfl, N104⟩
  · have pre120 : ∀ t, Steps p.tables e below (T24.setTop (mkF m 68 #[.val (.int p0), .val (.int p1), .val (.int p2), .val (.int p3), .val (.int p4), .val (.int ((1 : Int32) + (p0 &&& (3 : Int32)))), .val (.int (own_freq_f p1)), .val (.int (own_freq_f p2)), .val (.int (own_freq_f p3)), .val (.int (own_freq_f p4)), .unset, .unset, .unset, .unset, .unset, .unset, .unset, .unset, .unset] [(.int (2 : Int32)), (.int ((1 : Int32) + (p0 &&& (3 : Int32))))])) t → Steps p.tables e below (s₁.setTop (entryFrame m #[(.int p0), (.int p1), (.int p2), (.int p3), (.int p4)] maxLocals)) t := by
      intro t kt
      refine pre30 _ ?_
      show Steps p.tables e below (T24.setTop (mkF m 35 #[.val (.int p0), .val (.int p1), .val (.int p2), .val (.int p3), .val (.int p4), .val (.int ((1 : Int32) + (p0 &&& (3 : Int32)))), .val (.int (own_freq_f p1)), .val (.int (own_freq_f p2)), .val (.int (own_freq_f p3)), .val (.int (own_freq_f p4)), .unset, .unset, .unset, .unset, .unset, .unset, .unset, .unset, .unset] [(.int (1 : Int32)), (.int ((1 : Int32) + (p0 &&& (3 : Int32))))])) _
      refine XS.icmpYes X24.here hx rfl (pc0 := 35) (pc' := 65) rfl (hb hby at_35) rfl (feq hc35_31).2 (by decide) (by decide) ?_
      show Steps p.tables e below (T24.setTop (mkF m 65 #[.val (.int p0), .val (.int p1), .val (.int p2), .val (.int p3), .val (.int p4), .val (.int ((1 : Int32) + (p0 &&& (3 : Int32)))), .val (.int (own_freq_f p1)), .val (.int (own_freq_f p2)), .val (.int (own_freq_f p3)), .val (.int (own_freq_f p4)), .unset, .unset, .unset, .unset, .unset, .unset, .unset, .unset, .unset] [])) _
      refine XS.iload X24.here hx rfl (hb hby at_65) rfl ?_
      show Steps p.tables e below (T24.setTop (mkF m 67 #[.val (.int p0), .val (.int p1), .val (.int p2), .val (.int p3), .val (.int p4), .val (.int ((1 : Int32) + (p0 &&& (3 : Int32)))), .val (.int (own_freq_f p1)), .val (.int (own_freq_f p2)), .val (.int (own_freq_f p3)), .val (.int (own_freq_f p4)), .unset, .unset, .unset, .unset, .unset, .unset, .unset, .unset, .unset] [(.int ((1 : Int32) + (p0 &&& (3 : Int32))))])) _
      refine XS.iconst X24.here hx rfl (hb hby at_67) ?_
      exact kt
    by_cases hc68_121 : ((1 : Int32) + (p0 &&& (3 : Int32))) = (2 : Int32)
    · obtain ⟨T124, h124, k124, X124, e124, E124, A124, Y124, st124⟩ := newPE X24 hx hZ (hw _ (List.mem_of_getElem? (i := 9) rfl)) eh24 (g := (mkF m 72 #[.val (.int p0), .val (.int p1), .val (.int p2), .val (.int p3), .val (.int p4), .val (.int ((1 : Int32) + (p0 &&& (3 : Int32)))), .val (.int (own_freq_f p1)), .val (.int (own_freq_f p2)), .val (.int (own_freq_f p3)), .val (.int (own_freq_f p4)), .unset, .unset, .unset, .unset, .unset, .unset, .unset, .unset, .unset] [(.int (2 : Int32))])) rfl (hb hby at_72) rfl (by decide) (cap := 2) (by decide) (by decide) (by decide) (by decide) (ad := "[I") (by first | rfl | decide)
      obtain ⟨b124, g124⟩ : ∃ z, z = h0.size := ⟨_, rfl⟩
      rw [← g124] at A124 Y124 st124
      have Ge125 : n0 ≤ b124 := Nat.le_trans Z0 (Nat.le_of_eq g124.symm)
      have Sz126 : h0.size ≤ b124 := Nat.le_trans (Keep.refl h0 []).1 (Nat.le_of_eq g124.symm)
      have Kc127 : Keep h0 h124 [] := (Keep.refl h0 []).ext E124
      have Zs128 : n0 ≤ h124.size := (Nat.le_trans Z0 E124.1)
      have V124 : Arv Z h124 b124 k124 .int (2 : Int32) [(.int (0 : Int32)), (.int (0 : Int32))] (.int (0 : Int32)) := (Arv.new A124 (by decide)).pad (pad_rep [] (.int (0 : Int32)) 2)
      obtain ⟨cl133, Ar133, q133, S133, M133, H133, G133⟩ := id V124
      have hin133 : ¬ ((0 : Int32) < 0 ∨ cl133.slots.size ≤ ((0 : Int32)).toNatClampNeg) := inb_of S133 ⟨by decide, by decide⟩
      obtain ⟨T134, h134, X134, e134, W134, st134⟩ := stI X124 hx hZ e124 Ar133 (j := (0 : Int32)) hin133 (g := (mkF m 77 #[.val (.int p0), .val (.int p1), .val (.int p2), .val (.int p3), .val (.int p4), .val (.int ((1 : Int32) + (p0 &&& (3 : Int32)))), .val (.int (own_freq_f p1)), .val (.int (own_freq_f p2)), .val (.int (own_freq_f p3)), .val (.int (own_freq_f p4)), .unset, .unset, .unset, .unset, .unset, .unset, .unset, .unset, .unset] [(.int (0 : Int32)), (.int (0 : Int32)), (.ref b124), (.ref b124)])) rfl rfl (hb hby at_77)
      have Kc136 : Keep h0 h134 [] := Kc127.wr W134 (Or.inr Sz126)
      have Zs137 : n0 ≤ h134.size := Nat.le_trans Zs128 (Keep.of_wr W134).1
      have N138 := Fr.snoc X134 N25 Ge125
      have Vm135 : Arv Z h134 b124 k124 .int (2 : Int32) [(.int (0 : Int32)), (.int (0 : Int32))] (.int (0 : Int32)) := Arv.set Ar133 q133 S133 M133 H133 G133 rfl W134 0 rfl (Nat.le_of_ble_eq_true rfl)
      obtain ⟨cl143, Ar143, q143, S143, M143, H143, G143⟩ := id Vm135
      have hin143 : ¬ ((1 : Int32) < 0 ∨ cl143.slots.size ≤ ((1 : Int32)).toNatClampNeg) := inb_of S143 ⟨by decide, by decide⟩
      obtain ⟨T144, h144, X144, e144, W144, st144⟩ := stI X134 hx hZ e134 Ar143 (j := (1 : Int32)) hin143 (g := (mkF m 81 #[.val (.int p0), .val (.int p1), .val (.int p2), .val (.int p3), .val (.int p4), .val (.int ((1 : Int32) + (p0 &&& (3 : Int32)))), .val (.int (own_freq_f p1)), .val (.int (own_freq_f p2)), .val (.int (own_freq_f p3)), .val (.int (own_freq_f p4)), .unset, .unset, .unset, .unset, .unset, .unset, .unset, .unset, .unset] [(.int (1 : Int32)), (.int (1 : Int32)), (.ref b124), (.ref b124)])) rfl rfl (hb hby at_81)
      have Kc146 : Keep h0 h144 [] := Kc136.wr W144 (Or.inr Sz126)
      have Zs147 : n0 ≤ h144.size := Nat.le_trans Zs137 (Keep.of_wr W144).1
      have N148 := Fr.snoc X144 N138 Ge125
      have Vm145 : Arv Z h144 b124 k124 .int (2 : Int32) [(.int (0 : Int32)), (.int (1 : Int32))] (.int (0 : Int32)) := Arv.set Ar143 q143 S143 M143 H143 G143 rfl W144 1 rfl (Nat.le_of_ble_eq_true rfl)
      obtain ⟨T152, h152, k152, X152, e152, E152, A152, Y152, st152⟩ := newPE X144 hx hZ (hw _ (List.mem_of_getElem? (i := 9) rfl)) e144 (g := (mkF m 85 #[.val (.int p0), .val (.int p1), .val (.int p2), .val (.int p3), .val (.int p4), .val (.int ((1 : Int32) + (p0 &&& (3 : Int32)))), .val (.int (own_freq_f p1)), .val (.int (own_freq_f p2)), .val (.int (own_freq_f p3)), .val (.int (own_freq_f p4)), .val (.ref b124), .unset, .unset, .unset, .unset, .unset, .unset, .unset, .unset] [(.int (2 : Int32))])) rfl (hb hby at_85) rfl (by decide) (cap := 2) (by decide) (by decide) (by decide) (by decide) (ad := "[I") (by first | rfl | decide)
      obtain ⟨b152, g152⟩ : ∃ z, z = h144.size := ⟨_, rfl⟩
      rw [← g152] at A152 Y152 st152
      have Fq154 : Exa Z h144 b124 "[I" := ((Y124.wr W134).wr W144)
      have Ne153 : b124 ≠ b152 := Nat.ne_of_lt (Nat.lt_of_lt_of_le Fq154.lt (Nat.le_of_eq g152.symm))
      have Ge155 : n0 ≤ b152 := Nat.le_trans Zs147 (Nat.le_of_eq g152.symm)
      have Sz156 : h0.size ≤ b152 := Nat.le_trans Kc146.1 (Nat.le_of_eq g152.symm)
      have Kc157 : Keep h0 h152 [] := Kc146.ext E152
      have Zs158 : n0 ≤ h152.size := (Nat.le_trans Zs147 E152.1)
      have V152 : Arv Z h152 b152 k152 .int (2 : Int32) [(.int (0 : Int32)), (.int (0 : Int32))] (.int (0 : Int32)) := (Arv.new A152 (by decide)).pad (pad_rep [] (.int (0 : Int32)) 2)
      obtain ⟨cl163, Ar163, q163, S163, M163, H163, G163⟩ := id V152
      have hin163 : ¬ ((0 : Int32) < 0 ∨ cl163.slots.size ≤ ((0 : Int32)).toNatClampNeg) := inb_of S163 ⟨by decide, by decide⟩
      obtain ⟨T164, h164, X164, e164, W164, st164⟩ := stI X152 hx hZ e152 Ar163 (j := (0 : Int32)) hin163 (g := (mkF m 91 #[.val (.int p0), .val (.int p1), .val (.int p2), .val (.int p3), .val (.int p4), .val (.int ((1 : Int32) + (p0 &&& (3 : Int32)))), .val (.int (own_freq_f p1)), .val (.int (own_freq_f p2)), .val (.int (own_freq_f p3)), .val (.int (own_freq_f p4)), .val (.ref b124), .unset, .unset, .unset, .unset, .unset, .unset, .unset, .unset] [(.int (own_freq_f p1)), (.int (0 : Int32)), (.ref b152), (.ref b152)])) rfl rfl (hb hby at_91)
      have Kc166 : Keep h0 h164 [] := Kc157.wr W164 (Or.inr Sz156)
      have Zs167 : n0 ≤ h164.size := Nat.le_trans Zs158 (Keep.of_wr W164).1
      have N168 := Fr.snoc X164 N148 Ge155
      have Vm165 : Arv Z h164 b152 k152 .int (2 : Int32) [(.int (own_freq_f p1)), (.int (0 : Int32))] (.int (0 : Int32)) := Arv.set Ar163 q163 S163 M163 H163 G163 rfl W164 0 rfl (Nat.le_of_ble_eq_true rfl)
      obtain ⟨cl173, Ar173, q173, S173, M173, H173, G173⟩ := id Vm165
      have hin173 : ¬ ((1 : Int32) < 0 ∨ cl173.slots.size ≤ ((1 : Int32)).toNatClampNeg) := inb_of S173 ⟨by decide, by decide⟩
      obtain ⟨T174, h174, X174, e174, W174, st174⟩ := stI X164 hx hZ e164 Ar173 (j := (1 : Int32)) hin173 (g := (mkF m 96 #[.val (.int p0), .val (.int p1), .val (.int p2), .val (.int p3), .val (.int p4), .val (.int ((1 : Int32) + (p0 &&& (3 : Int32)))), .val (.int (own_freq_f p1)), .val (.int (own_freq_f p2)), .val (.int (own_freq_f p3)), .val (.int (own_freq_f p4)), .val (.ref b124), .unset, .unset, .unset, .unset, .unset, .unset, .unset, .unset] [(.int (own_freq_f p2)), (.int (1 : Int32)), (.ref b152), (.ref b152)])) rfl rfl (hb hby at_96)
      have Kc176 : Keep h0 h174 [] := Kc166.wr W174 (Or.inr Sz156)
      have Zs177 : n0 ≤ h174.size := Nat.le_trans Zs167 (Keep.of_wr W174).1
      have N178 := Fr.snoc X174 N168 Ge155
      have Vm175 : Arv Z h174 b152 k152 .int (2 : Int32) [(.int (own_freq_f p1)), (.int (own_freq_f p2))] (.int (0 : Int32)) := Arv.set Ar173 q173 S173 M173 H173 G173 rfl W174 1 rfl (Nat.le_of_ble_eq_true rfl)
      obtain ⟨T188, h188, X188, e188, E188, A188, D188, -, st188⟩ := newO X174 hx hZ hown (hw _ (List.mem_of_getElem? (i := 10) rfl)) (hw _ (List.mem_of_getElem? (i := 11) rfl)) (hw _ (List.mem_of_getElem? (i := 12) rfl)) e174 (g := (mkF m 233 #[.val (.int p0), .val (.int p1), .val (.int p2), .val (.int p3), .val (.int p4), .val (.int ((1 : Int32) + (p0 &&& (3 : Int32)))), .val (.int (own_freq_f p1)), .val (.int (own_freq_f p2)), .val (.int (own_freq_f p3)), .val (.int (own_freq_f p4)), .val (.ref b124), .val (.ref b152), .val (.long (((own_freq_f p1).toInt64) + ((own_freq_f p2).toInt64))), .second, .unset, .unset, .unset, .unset, .unset] [])) rfl (hb hby at_233) (by decide) (by decide)
      obtain ⟨b188, g188⟩ : ∃ z, z = h174.size := ⟨_, rfl⟩
      rw [← g188] at A188 D188 st188
      have Fq190 : Exa Z h174 b124 "[I" := (((Fq154.ext E152).wr W164).wr W174)
      have Ne189 : b124 ≠ b188 := Nat.ne_of_lt (Nat.lt_of_lt_of_le Fq190.lt (Nat.le_of_eq g188.symm))
      have Fq192 : Exa Z h174 b152 "[I" := ((Y152.wr W164).wr W174)
      have Ne191 : b152 ≠ b188 := Nat.ne_of_lt (Nat.lt_of_lt_of_le Fq192.lt (Nat.le_of_eq g188.symm))
      have Ge193 : n0 ≤ b188 := Nat.le_trans Zs177 (Nat.le_of_eq g188.symm)
      have Sz194 : h0.size ≤ b188 := Nat.le_trans Kc176.1 (Nat.le_of_eq g188.symm)
      have Kc195 : Keep h0 h188 [] := Kc176.ext E188
      have Zs196 : n0 ≤ h188.size := (Nat.le_trans Zs177 E188.1)
      have F188_documents : Fld Z h188 b188 "com/example/merit/merit/Postings" "documents" "[I" .null := D188 (Or.inr (hw _ (List.mem_of_getElem? (i := 20) rfl))) (ty := (.array .int)) (by decide)
      have F188_frequencies : Fld Z h188 b188 "com/example/merit/merit/Postings" "frequencies" "[I" .null := D188 (Or.inr (hw _ (List.mem_of_getElem? (i := 22) rfl))) (ty := (.array .int)) (by decide)
      have Fq202 : Arv Z h188 b124 k124 .int (2 : Int32) [(.int (0 : Int32)), (.int (1 : Int32))] (.int (0 : Int32)) := ((((Vm145.ext E152).other W164 Ne153).other W174 Ne153).ext E188)
      have Fq203 : Arv Z h188 b152 k152 .int (2 : Int32) [(.int (own_freq_f p1)), (.int (own_freq_f p2))] (.int (0 : Int32)) := (Vm175.ext E188)
      obtain ⟨_, _, ⟨T201, L201, k201, n201⟩, -, X201, ⟨Lc201, hQ201, l201, y201, z201⟩, st201⟩ := X188.specialBack hx (y := (⟨"com/example/merit/merit/Postings", "<init>", "([I[I)V"⟩ : MethodName)) rfl hown (mvT hZ (hw _ (List.mem_of_getElem? (i := 13) rfl))) (mvT hZ (hw _ (List.mem_of_getElem? (i := 14) rfl))) (mvT hZ (hw _ (List.mem_of_getElem? (i := 15) rfl))) (by decide) (backOf (W := 1) (own_rmI l Z a0 hw [] b188 b124 b152 k124 k152 (2 : Int32) [(.int (0 : Int32)), (.int (1 : Int32))] [(.int (own_freq_f p1)), (.int (own_freq_f p2))] h188 n0 Zs196 A188 F188_documents F188_frequencies Fq202 Fq203 Ge193) hZ (hw _ (List.mem_of_getElem? (i := 15) rfl)) (hw _ (List.mem_of_getElem? (i := 12) rfl)) (by decide) (by decide)) (g := (mkF m 241 #[.val (.int p0), .val (.int p1), .val (.int p2), .val (.int p3), .val (.int p4), .val (.int ((1 : Int32) + (p0 &&& (3 : Int32)))), .val (.int (own_freq_f p1)), .val (.int (own_freq_f p2)), .val (.int (own_freq_f p3)), .val (.int (own_freq_f p4)), .val (.ref b124), .val (.ref b152), .val (.long (((own_freq_f p1).toInt64) + ((own_freq_f p2).toInt64))), .second, .unset, .unset, .unset, .unset, .unset] [(.ref b152), (.ref b124), (.ref b188), (.ref b188)])) rfl (by rw [hml]; rfl) (Steps.refl _) (a := b188) (argsL := [(.ref b124), (.ref b152)]) (rest := [(.ref b188)]) (lenOf own_pd2 rfl) rfl (by show 2 * 0 + _ ≤ _; exact Nat.le_of_eq rfl) (hb hby at_241) (fun _ _ => ⟨rfl, e188, (by decide : 3 + 0 ≤ _), (by decide : 6 + 0 ≤ _)⟩)
      dsimp only [Pt.U, Pt.locs, Pt.cells, Pt.slots] at X201 l201 y201 z201 st201 hQ201
      subst l201 y201 z201
      obtain ⟨rfl, Nq201, K201, Pf201_0, Pf201_1, Pf201_2⟩ := hQ201
      have N204 := Fr.app N178 Nq201
      have Kc205 : Keep h0 T201.heap [] := Kc195.trans K201 (allS (Or.inr Sz194) all0)
      have Zs206 : n0 ≤ T201.heap.size := Nat.le_trans Zs196 K201.1
      have Fq211 : Arv Z T201.heap b152 k152 .int (2 : Int32) [(.int (own_freq_f p1)), (.int (own_freq_f p2))] (.int (0 : Int32)) := (Fq203.keep K201 (ninS Ne191 nin0))
      obtain ⟨cq210, kq210, q210a, q210b, q210c⟩ := isOf hZ rfl Pf201_0
      obtain ⟨_, _, ⟨T210, L210, k210, n210⟩, -, X210, ⟨Lc210, hQ210, l210, y210, z210⟩, st210⟩ := X201.virtualBack hx (y := (⟨"com/example/merit/merit/Postings", "collectionFrequency", "()J"⟩ : MethodName)) (z := (⟨"com/example/merit/merit/Postings", "collectionFrequency", "()J"⟩ : MethodName)) hown (mvT hZ (hw _ (List.mem_of_getElem? (i := 23) rfl))) (mvT hZ (hw _ (List.mem_of_getElem? (i := 24) rfl))) (notFace_of_selects (args := #[]) (mvT hZ (hw _ (List.mem_of_getElem? (i := 26) rfl)))) (mvT hZ (hw _ (List.mem_of_getElem? (i := 26) rfl))) (mvT hZ (hw _ (List.mem_of_getElem? (i := 25) rfl))) (by decide) (backOf (W := 0) (own_cf2 l Z a0 hw [] b188 b152 k152 (own_freq_f p1) (own_freq_f p2) T201.heap n0 Zs206 Pf201_2 Fq211) hZ (hw _ (List.mem_of_getElem? (i := 27) rfl)) (hw _ (List.mem_of_getElem? (i := 12) rfl)) (by decide) (by decide)) q210a q210c (g := (mkF m 248 #[.val (.int p0), .val (.int p1), .val (.int p2), .val (.int p3), .val (.int p4), .val (.int ((1 : Int32) + (p0 &&& (3 : Int32)))), .val (.int (own_freq_f p1)), .val (.int (own_freq_f p2)), .val (.int (own_freq_f p3)), .val (.int (own_freq_f p4)), .val (.ref b124), .val (.ref b152), .val (.long (((own_freq_f p1).toInt64) + ((own_freq_f p2).toInt64))), .second, .val (.ref b188), .unset, .unset, .unset, .unset] [(.ref b188)])) rfl (by rw [hml]; rfl) (Steps.refl _) (argsL := []) (rest := []) (lenOf own_pd3 rfl) rfl (by show 2 * 0 + _ ≤ _; exact Nat.le_of_eq rfl) (hb hby at_248) (fun _ _ => ⟨rfl, rfl, (by decide : 3 + 0 ≤ _), (by decide : 6 + 0 ≤ _)⟩)
      dsimp only [Pt.U, Pt.locs, Pt.cells, Pt.slots] at X210 l210 y210 z210 st210 hQ210
      subst l210 y210 z210
      obtain ⟨rfl, Nq210, eh210⟩ := hQ210
      have N212 := Fr.app N204 Nq210
      obtain ⟨cq216, kq216, q216a, q216b, q216c⟩ := isOf hZ eh210 Pf201_0
      obtain ⟨_, _, ⟨T216, L216, k216, n216⟩, -, X216, ⟨Lc216, hQ216, l216, y216, z216⟩, st216⟩ := X210.virtualBack hx (y := (⟨"com/example/merit/merit/Postings", "collectionFrequency", "()J"⟩ : MethodName)) (z := (⟨"com/example/merit/merit/Postings", "collectionFrequency", "()J"⟩ : MethodName)) hown (mvT hZ (hw _ (List.mem_of_getElem? (i := 23) rfl))) (mvT hZ (hw _ (List.mem_of_getElem? (i := 24) rfl))) (notFace_of_selects (args := #[]) (mvT hZ (hw _ (List.mem_of_getElem? (i := 26) rfl)))) (mvT hZ (hw _ (List.mem_of_getElem? (i := 26) rfl))) (mvT hZ (hw _ (List.mem_of_getElem? (i := 25) rfl))) (by decide) (backOf (W := 0) (own_cf2 l Z a0 hw [] b188 b152 k152 (own_freq_f p1) (own_freq_f p2) T201.heap n0 Zs206 Pf201_2 Fq211) hZ (hw _ (List.mem_of_getElem? (i := 27) rfl)) (hw _ (List.mem_of_getElem? (i := 12) rfl)) (by decide) (by decide)) q216a q216c (g := (mkF m 255 #[.val (.int p0), .val (.int p1), .val (.int p2), .val (.int p3), .val (.int p4), .val (.int ((1 : Int32) + (p0 &&& (3 : Int32)))), .val (.int (own_freq_f p1)), .val (.int (own_freq_f p2)), .val (.int (own_freq_f p3)), .val (.int (own_freq_f p4)), .val (.ref b124), .val (.ref b152), .val (.long (((own_freq_f p1).toInt64) + ((own_freq_f p2).toInt64))), .second, .val (.ref b188), .val (.long (((0 : Int64) + ((own_freq_f p1).toInt64)) + ((own_freq_f p2).toInt64))), .second, .unset, .unset] [(.ref b188)])) rfl (by rw [hml]; rfl) (Steps.refl _) (argsL := []) (rest := []) (lenOf own_pd3 rfl) rfl (by show 2 * 0 + _ ≤ _; exact Nat.le_of_eq rfl) (hb hby at_255) (fun _ _ => ⟨rfl, eh210, (by decide : 3 + 0 ≤ _), (by decide : 6 + 0 ≤ _)⟩)
      dsimp only [Pt.U, Pt.locs, Pt.cells, Pt.slots] at X216 l216 y216 z216 st216 hQ216
      subst l216 y216 z216
      obtain ⟨rfl, Nq216, eh216⟩ := hQ216
      have N217 := Fr.app N212 Nq216
      obtain ⟨fs, hr, hrun, hended, hW, hsame⟩ := X216.leave (v := some (.int (1 : Int32))) (fun h => by rw [Bd.returns] at h; cases h) (hlocks := BodyLoose.notSynchronized Bd)
      refine ⟨_, _, pre120 _ ?_, hrun, hended, _, _, rfl, ?_, ⟨_, rfl⟩, hW, hsame.mono (by decide) (by decide)⟩
      · show Steps p.tables e below (T24.setTop (mkF m 68 #[.val (.int p0), .val (.int p1), .val (.int p2), .val (.int p3), .val (.int p4), .val (.int ((1 : Int32) + (p0 &&& (3 : Int32)))), .val (.int (own_freq_f p1)), .val (.int (own_freq_f p2)), .val (.int (own_freq_f p3)), .val (.int (own_freq_f p4)), .unset, .unset, .unset, .unset, .unset, .unset, .unset, .unset, .unset] [(.int (2 : Int32)), (.int ((1 : Int32) + (p0 &&& (3 : Int32))))])) _
        refine XS.icmpNo X24.here hx rfl (hb hby at_68) rfl (teq hc68_121).2 ?_
        show Steps p.tables e below (T24.setTop (mkF m 71 #[.val (.int p0), .val (.int p1), .val (.int p2), .val (.int p3), .val (.int p4), .val (.int ((1 : Int32) + (p0 &&& (3 : Int32)))), .val (.int (own_freq_f p1)), .val (.int (own_freq_f p2)), .val (.int (own_freq_f p3)), .val (.int (own_freq_f p4)), .unset, .unset, .unset, .unset, .unset, .unset, .unset, .unset, .unset] [])) _
        refine XS.iconst X24.here hx rfl (hb hby at_71) ?_
        show Steps p.tables e below (T24.setTop (mkF m 72 #[.val (.int p0), .val (.int p1), .val (.int p2), .val (.int p3), .val (.int p4), .val (.int ((1 : Int32) + (p0 &&& (3 : Int32)))), .val (.int (own_freq_f p1)), .val (.int (own_freq_f p2)), .val (.int (own_freq_f p3)), .val (.int (own_freq_f p4)), .unset, .unset, .unset, .unset, .unset, .unset, .unset, .unset, .unset] [(.int (2 : Int32))])) _
        refine st124 _ ?_
        show Steps p.tables e below (T124.setTop (mkF m 74 #[.val (.int p0), .val (.int p1), .val (.int p2), .val (.int p3), .val (.int p4), .val (.int ((1 : Int32) + (p0 &&& (3 : Int32)))), .val (.int (own_freq_f p1)), .val (.int (own_freq_f p2)), .val (.int (own_freq_f p3)), .val (.int (own_freq_f p4)), .unset, .unset, .unset, .unset, .unset, .unset, .unset, .unset, .unset] [(.ref b124)])) _
        refine XS.dup X124.here hx rfl (hb hby at_74) rfl rfl ?_
        show Steps p.tables e below (T124.setTop (mkF m 75 #[.val (.int p0), .val (.int p1), .val (.int p2), .val (.int p3), .val (.int p4), .val (.int ((1 : Int32) + (p0 &&& (3 : Int32)))), .val (.int (own_freq_f p1)), .val (.int (own_freq_f p2)), .val (.int (own_freq_f p3)), .val (.int (own_freq_f p4)), .unset, .unset, .unset, .unset, .unset, .unset, .unset, .unset, .unset] [(.ref b124), (.ref b124)])) _
        refine XS.iconst X124.here hx rfl (hb hby at_75) ?_
        show Steps p.tables e below (T124.setTop (mkF m 76 #[.val (.int p0), .val (.int p1), .val (.int p2), .val (.int p3), .val (.int p4), .val (.int ((1 : Int32) + (p0 &&& (3 : Int32)))), .val (.int (own_freq_f p1)), .val (.int (own_freq_f p2)), .val (.int (own_freq_f p3)), .val (.int (own_freq_f p4)), .unset, .unset, .unset, .unset, .unset, .unset, .unset, .unset, .unset] [(.int (0 : Int32)), (.ref b124), (.ref b124)])) _
        refine XS.iconst X124.here hx rfl (hb hby at_76) ?_
        show Steps p.tables e below (T124.setTop (mkF m 77 #[.val (.int p0), .val (.int p1), .val (.int p2), .val (.int p3), .val (.int p4), .val (.int ((1 : Int32) + (p0 &&& (3 : Int32)))), .val (.int (own_freq_f p1)), .val (.int (own_freq_f p2)), .val (.int (own_freq_f p3)), .val (.int (own_freq_f p4)), .unset, .unset, .unset, .unset, .unset, .unset, .unset, .unset, .unset] [(.int (0 : Int32)), (.int (0 : Int32)), (.ref b124), (.ref b124)])) _
        refine st134 _ ?_
        show Steps p.tables e below (T134.setTop (mkF m 78 #[.val (.int p0), .val (.int p1), .val (.int p2), .val (.int p3), .val (.int p4), .val (.int ((1 : Int32) + (p0 &&& (3 : Int32)))), .val (.int (own_freq_f p1)), .val (.int (own_freq_f p2)), .val (.int (own_freq_f p3)), .val (.int (own_freq_f p4)), .unset, .unset, .unset, .unset, .unset, .unset, .unset, .unset, .unset] [(.ref b124)])) _
        refine XS.dup X134.here hx rfl (hb hby at_78) rfl rfl ?_
        show Steps p.tables e below (T134.setTop (mkF m 79 #[.val (.int p0), .val (.int p1), .val (.int p2), .val (.int p3), .val (.int p4), .val (.int ((1 : Int32) + (p0 &&& (3 : Int32)))), .val (.int (own_freq_f p1)), .val (.int (own_freq_f p2)), .val (.int (own_freq_f p3)), .val (.int (own_freq_f p4)), .unset, .unset, .unset, .unset, .unset, .unset, .unset, .unset, .unset] [(.ref b124), (.ref b124)])) _
        refine XS.iconst X134.here hx rfl (hb hby at_79) ?_
        show Steps p.tables e below (T134.setTop (mkF m 80 #[.val (.int p0), .val (.int p1), .val (.int p2), .val (.int p3), .val (.int p4), .val (.int ((1 : Int32) + (p0 &&& (3 : Int32)))), .val (.int (own_freq_f p1)), .val (.int (own_freq_f p2)), .val (.int (own_freq_f p3)), .val (.int (own_freq_f p4)), .unset, .unset, .unset, .unset, .unset, .unset, .unset, .unset, .unset] [(.int (1 : Int32)), (.ref b124), (.ref b124)])) _
        refine XS.iconst X134.here hx rfl (hb hby at_80) ?_
        show Steps p.tables e below (T134.setTop (mkF m 81 #[.val (.int p0), .val (.int p1), .val (.int p2), .val (.int p3), .val (.int p4), .val (.int ((1 : Int32) + (p0 &&& (3 : Int32)))), .val (.int (own_freq_f p1)), .val (.int (own_freq_f p2)), .val (.int (own_freq_f p3)), .val (.int (own_freq_f p4)), .unset, .unset, .unset, .unset, .unset, .unset, .unset, .unset, .unset] [(.int (1 : Int32)), (.int (1 : Int32)), (.ref b124), (.ref b124)])) _
        refine st144 _ ?_
        show Steps p.tables e below (T144.setTop (mkF m 82 #[.val (.int p0), .val (.int p1), .val (.int p2), .val (.int p3), .val (.int p4), .val (.int ((1 : Int32) + (p0 &&& (3 : Int32)))), .val (.int (own_freq_f p1)), .val (.int (own_freq_f p2)), .val (.int (own_freq_f p3)), .val (.int (own_freq_f p4)), .unset, .unset, .unset, .unset, .unset, .unset, .unset, .unset, .unset] [(.ref b124)])) _
        refine XS.astore X144.here hx rfl (hb hby at_82) rfl rfl (l' := #[.val (.int p0), .val (.int p1), .val (.int p2), .val (.int p3), .val (.int p4), .val (.int ((1 : Int32) + (p0 &&& (3 : Int32)))), .val (.int (own_freq_f p1)), .val (.int (own_freq_f p2)), .val (.int (own_freq_f p3)), .val (.int (own_freq_f p4)), .val (.ref b124), .unset, .unset, .unset, .unset, .unset, .unset, .unset, .unset]) rfl ?_
        show Steps p.tables e below (T144.setTop (mkF m 84 #[.val (.int p0), .val (.int p1), .val (.int p2), .val (.int p3), .val (.int p4), .val (.int ((1 : Int32) + (p0 &&& (3 : Int32)))), .val (.int (own_freq_f p1)), .val (.int (own_freq_f p2)), .val (.int (own_freq_f p3)), .val (.int (own_freq_f p4)), .val (.ref b124), .unset, .unset, .unset, .unset, .unset, .unset, .unset, .unset] [])) _
        refine XS.iconst X144.here hx rfl (hb hby at_84) ?_
        show Steps p.tables e below (T144.setTop (mkF m 85 #[.val (.int p0), .val (.int p1), .val (.int p2), .val (.int p3), .val (.int p4), .val (.int ((1 : Int32) + (p0 &&& (3 : Int32)))), .val (.int (own_freq_f p1)), .val (.int (own_freq_f p2)), .val (.int (own_freq_f p3)), .val (.int (own_freq_f p4)), .val (.ref b124), .unset, .unset, .unset, .unset, .unset, .unset, .unset, .unset] [(.int (2 : Int32))])) _
        refine st152 _ ?_
        show Steps p.tables e below (T152.setTop (mkF m 87 #[.val (.int p0), .val (.int p1), .val (.int p2), .val (.int p3), .val (.int p4), .val (.int ((1 : Int32) + (p0 &&& (3 : Int32)))), .val (.int (own_freq_f p1)), .val (.int (own_freq_f p2)), .val (.int (own_freq_f p3)), .val (.int (own_freq_f p4)), .val (.ref b124), .unset, .unset, .unset, .unset, .unset, .unset, .unset, .unset] [(.ref b152)])) _
        refine XS.dup X152.here hx rfl (hb hby at_87) rfl rfl ?_
        show Steps p.tables e below (T152.setTop (mkF m 88 #[.val (.int p0), .val (.int p1), .val (.int p2), .val (.int p3), .val (.int p4), .val (.int ((1 : Int32) + (p0 &&& (3 : Int32)))), .val (.int (own_freq_f p1)), .val (.int (own_freq_f p2)), .val (.int (own_freq_f p3)), .val (.int (own_freq_f p4)), .val (.ref b124), .unset, .unset, .unset, .unset, .unset, .unset, .unset, .unset] [(.ref b152), (.ref b152)])) _
        refine XS.iconst X152.here hx rfl (hb hby at_88) ?_
        show Steps p.tables e below (T152.setTop (mkF m 89 #[.val (.int p0), .val (.int p1), .val (.int p2), .val (.int p3), .val (.int p4), .val (.int ((1 : Int32) + (p0 &&& (3 : Int32)))), .val (.int (own_freq_f p1)), .val (.int (own_freq_f p2)), .val (.int (own_freq_f p3)), .val (.int (own_freq_f p4)), .val (.ref b124), .unset, .unset, .unset, .unset, .unset, .unset, .unset, .unset] [(.int (0 : Int32)), (.ref b152), (.ref b152)])) _
        refine XS.iload X152.here hx rfl (hb hby at_89) rfl ?_
        show Steps p.tables e below (T152.setTop (mkF m 91 #[.val (.int p0), .val (.int p1), .val (.int p2), .val (.int p3), .val (.int p4), .val (.int ((1 : Int32) + (p0 &&& (3 : Int32)))), .val (.int (own_freq_f p1)), .val (.int (own_freq_f p2)), .val (.int (own_freq_f p3)), .val (.int (own_freq_f p4)), .val (.ref b124), .unset, .unset, .unset, .unset, .unset, .unset, .unset, .unset] [(.int (own_freq_f p1)), (.int (0 : Int32)), (.ref b152), (.ref b152)])) _
        refine st164 _ ?_
        show Steps p.tables e below (T164.setTop (mkF m 92 #[.val (.int p0), .val (.int p1), .val (.int p2), .val (.int p3), .val (.int p4), .val (.int ((1 : Int32) + (p0 &&& (3 : Int32)))), .val (.int (own_freq_f p1)), .val (.int (own_freq_f p2)), .val (.int (own_freq_f p3)), .val (.int (own_freq_f p4)), .val (.ref b124), .unset, .unset, .unset, .unset, .unset, .unset, .unset, .unset] [(.ref b152)])) _
        refine XS.dup X164.here hx rfl (hb hby at_92) rfl rfl ?_
        show Steps p.tables e below (T164.setTop (mkF m 93 #[.val (.int p0), .val (.int p1), .val (.int p2), .val (.int p3), .val (.int p4), .val (.int ((1 : Int32) + (p0 &&& (3 : Int32)))), .val (.int (own_freq_f p1)), .val (.int (own_freq_f p2)), .val (.int (own_freq_f p3)), .val (.int (own_freq_f p4)), .val (.ref b124), .unset, .unset, .unset, .unset, .unset, .unset, .unset, .unset] [(.ref b152), (.ref b152)])) _
        refine XS.iconst X164.here hx rfl (hb hby at_93) ?_
        show Steps p.tables e below (T164.setTop (mkF m 94 #[.val (.int p0), .val (.int p1), .val (.int p2), .val (.int p3), .val (.int p4), .val (.int ((1 : Int32) + (p0 &&& (3 : Int32)))), .val (.int (own_freq_f p1)), .val (.int (own_freq_f p2)), .val (.int (own_freq_f p3)), .val (.int (own_freq_f p4)), .val (.ref b124), .unset, .unset, .unset, .unset, .unset, .unset, .unset, .unset] [(.int (1 : Int32)), (.ref b152), (.ref b152)])) _
        refine XS.iload X164.here hx rfl (hb hby at_94) rfl ?_
        show Steps p.tables e below (T164.setTop (mkF m 96 #[.val (.int p0), .val (.int p1), .val (.int p2), .val (.int p3), .val (.int p4), .val (.int ((1 : Int32) + (p0 &&& (3 : Int32)))), .val (.int (own_freq_f p1)), .val (.int (own_freq_f p2)), .val (.int (own_freq_f p3)), .val (.int (own_freq_f p4)), .val (.ref b124), .unset, .unset, .unset, .unset, .unset, .unset, .unset, .unset] [(.int (own_freq_f p2)), (.int (1 : Int32)), (.ref b152), (.ref b152)])) _
        refine st174 _ ?_
        show Steps p.tables e below (T174.setTop (mkF m 97 #[.val (.int p0), .val (.int p1), .val (.int p2), .val (.int p3), .val (.int p4), .val (.int ((1 : Int32) + (p0 &&& (3 : Int32)))), .val (.int (own_freq_f p1)), .val (.int (own_freq_f p2)), .val (.int (own_freq_f p3)), .val (.int (own_freq_f p4)), .val (.ref b124), .unset, .unset, .unset, .unset, .unset, .unset, .unset, .unset] [(.ref b152)])) _
        refine XS.astore X174.here hx rfl (hb hby at_97) rfl rfl (l' := #[.val (.int p0), .val (.int p1), .val (.int p2), .val (.int p3), .val (.int p4), .val (.int ((1 : Int32) + (p0 &&& (3 : Int32)))), .val (.int (own_freq_f p1)), .val (.int (own_freq_f p2)), .val (.int (own_freq_f p3)), .val (.int (own_freq_f p4)), .val (.ref b124), .val (.ref b152), .unset, .unset, .unset, .unset, .unset, .unset, .unset]) rfl ?_
        show Steps p.tables e below (T174.setTop (mkF m 99 #[.val (.int p0), .val (.int p1), .val (.int p2), .val (.int p3), .val (.int p4), .val (.int ((1 : Int32) + (p0 &&& (3 : Int32)))), .val (.int (own_freq_f p1)), .val (.int (own_freq_f p2)), .val (.int (own_freq_f p3)), .val (.int (own_freq_f p4)), .val (.ref b124), .val (.ref b152), .unset, .unset, .unset, .unset, .unset, .unset, .unset] [])) _
        refine XS.iload X174.here hx rfl (hb hby at_99) rfl ?_
        show Steps p.tables e below (T174.setTop (mkF m 101 #[.val (.int p0), .val (.int p1), .val (.int p2), .val (.int p3), .val (.int p4), .val (.int ((1 : Int32) + (p0 &&& (3 : Int32)))), .val (.int (own_freq_f p1)), .val (.int (own_freq_f p2)), .val (.int (own_freq_f p3)), .val (.int (own_freq_f p4)), .val (.ref b124), .val (.ref b152), .unset, .unset, .unset, .unset, .unset, .unset, .unset] [(.int (own_freq_f p1))])) _
        refine XS.i2l X174.here hx rfl (hb hby at_101) rfl ?_
        show Steps p.tables e below (T174.setTop (mkF m 102 #[.val (.int p0), .val (.int p1), .val (.int p2), .val (.int p3), .val (.int p4), .val (.int ((1 : Int32) + (p0 &&& (3 : Int32)))), .val (.int (own_freq_f p1)), .val (.int (own_freq_f p2)), .val (.int (own_freq_f p3)), .val (.int (own_freq_f p4)), .val (.ref b124), .val (.ref b152), .unset, .unset, .unset, .unset, .unset, .unset, .unset] [(.long ((own_freq_f p1).toInt64))])) _
        refine XS.iload X174.here hx rfl (hb hby at_102) rfl ?_
        show Steps p.tables e below (T174.setTop (mkF m 104 #[.val (.int p0), .val (.int p1), .val (.int p2), .val (.int p3), .val (.int p4), .val (.int ((1 : Int32) + (p0 &&& (3 : Int32)))), .val (.int (own_freq_f p1)), .val (.int (own_freq_f p2)), .val (.int (own_freq_f p3)), .val (.int (own_freq_f p4)), .val (.ref b124), .val (.ref b152), .unset, .unset, .unset, .unset, .unset, .unset, .unset] [(.int (own_freq_f p2)), (.long ((own_freq_f p1).toInt64))])) _
        refine XS.i2l X174.here hx rfl (hb hby at_104) rfl ?_
        show Steps p.tables e below (T174.setTop (mkF m 105 #[.val (.int p0), .val (.int p1), .val (.int p2), .val (.int p3), .val (.int p4), .val (.int ((1 : Int32) + (p0 &&& (3 : Int32)))), .val (.int (own_freq_f p1)), .val (.int (own_freq_f p2)), .val (.int (own_freq_f p3)), .val (.int (own_freq_f p4)), .val (.ref b124), .val (.ref b152), .unset, .unset, .unset, .unset, .unset, .unset, .unset] [(.long ((own_freq_f p2).toInt64)), (.long ((own_freq_f p1).toInt64))])) _
        refine XS.ladd X174.here hx rfl (hb hby at_105) rfl ?_
        show Steps p.tables e below (T174.setTop (mkF m 106 #[.val (.int p0), .val (.int p1), .val (.int p2), .val (.int p3), .val (.int p4), .val (.int ((1 : Int32) + (p0 &&& (3 : Int32)))), .val (.int (own_freq_f p1)), .val (.int (own_freq_f p2)), .val (.int (own_freq_f p3)), .val (.int (own_freq_f p4)), .val (.ref b124), .val (.ref b152), .unset, .unset, .unset, .unset, .unset, .unset, .unset] [(.long (((own_freq_f p1).toInt64) + ((own_freq_f p2).toInt64)))])) _
        refine XS.lstore X174.here hx rfl (hb hby at_106) rfl (l' := #[.val (.int p0), .val (.int p1), .val (.int p2), .val (.int p3), .val (.int p4), .val (.int ((1 : Int32) + (p0 &&& (3 : Int32)))), .val (.int (own_freq_f p1)), .val (.int (own_freq_f p2)), .val (.int (own_freq_f p3)), .val (.int (own_freq_f p4)), .val (.ref b124), .val (.ref b152), .val (.long (((own_freq_f p1).toInt64) + ((own_freq_f p2).toInt64))), .second, .unset, .unset, .unset, .unset, .unset]) rfl ?_
        show Steps p.tables e below (T174.setTop (mkF m 108 #[.val (.int p0), .val (.int p1), .val (.int p2), .val (.int p3), .val (.int p4), .val (.int ((1 : Int32) + (p0 &&& (3 : Int32)))), .val (.int (own_freq_f p1)), .val (.int (own_freq_f p2)), .val (.int (own_freq_f p3)), .val (.int (own_freq_f p4)), .val (.ref b124), .val (.ref b152), .val (.long (((own_freq_f p1).toInt64) + ((own_freq_f p2).toInt64))), .second, .unset, .unset, .unset, .unset, .unset] [])) _
        refine XS.goto X174.here hx rfl (pc0 := 108) (pc' := 233) rfl (hb hby at_108) (by decide) (by decide) ?_
        show Steps p.tables e below (T174.setTop (mkF m 233 #[.val (.int p0), .val (.int p1), .val (.int p2), .val (.int p3), .val (.int p4), .val (.int ((1 : Int32) + (p0 &&& (3 : Int32)))), .val (.int (own_freq_f p1)), .val (.int (own_freq_f p2)), .val (.int (own_freq_f p3)), .val (.int (own_freq_f p4)), .val (.ref b124), .val (.ref b152), .val (.long (((own_freq_f p1).toInt64) + ((own_freq_f p2).toInt64))), .second, .unset, .unset, .unset, .unset, .unset] [])) _
        refine st188 _ ?_
        show Steps p.tables e below (T188.setTop (mkF m 236 #[.val (.int p0), .val (.int p1), .val (.int p2), .val (.int p3), .val (.int p4), .val (.int ((1 : Int32) + (p0 &&& (3 : Int32)))), .val (.int (own_freq_f p1)), .val (.int (own_freq_f p2)), .val (.int (own_freq_f p3)), .val (.int (own_freq_f p4)), .val (.ref b124), .val (.ref b152), .val (.long (((own_freq_f p1).toInt64) + ((own_freq_f p2).toInt64))), .second, .unset, .unset, .unset, .unset, .unset] [(.ref b188)])) _
        refine XS.dup X188.here hx rfl (hb hby at_236) rfl rfl ?_
        show Steps p.tables e below (T188.setTop (mkF m 237 #[.val (.int p0), .val (.int p1), .val (.int p2), .val (.int p3), .val (.int p4), .val (.int ((1 : Int32) + (p0 &&& (3 : Int32)))), .val (.int (own_freq_f p1)), .val (.int (own_freq_f p2)), .val (.int (own_freq_f p3)), .val (.int (own_freq_f p4)), .val (.ref b124), .val (.ref b152), .val (.long (((own_freq_f p1).toInt64) + ((own_freq_f p2).toInt64))), .second, .unset, .unset, .unset, .unset, .unset] [(.ref b188), (.ref b188)])) _
        refine XS.aload X188.here hx rfl (hb hby at_237) rfl rfl ?_
        show Steps p.tables e below (T188.setTop (mkF m 239 #[.val (.int p0), .val (.int p1), .val (.int p2), .val (.int p3), .val (.int p4), .val (.int ((1 : Int32) + (p0 &&& (3 : Int32)))), .val (.int (own_freq_f p1)), .val (.int (own_freq_f p2)), .val (.int (own_freq_f p3)), .val (.int (own_freq_f p4)), .val (.ref b124), .val (.ref b152), .val (.long (((own_freq_f p1).toInt64) + ((own_freq_f p2).toInt64))), .second, .unset, .unset, .unset, .unset, .unset] [(.ref b124), (.ref b188), (.ref b188)])) _
        refine XS.aload X188.here hx rfl (hb hby at_239) rfl rfl ?_
        show Steps p.tables e below (T188.setTop (mkF m 241 #[.val (.int p0), .val (.int p1), .val (.int p2), .val (.int p3), .val (.int p4), .val (.int ((1 : Int32) + (p0 &&& (3 : Int32)))), .val (.int (own_freq_f p1)), .val (.int (own_freq_f p2)), .val (.int (own_freq_f p3)), .val (.int (own_freq_f p4)), .val (.ref b124), .val (.ref b152), .val (.long (((own_freq_f p1).toInt64) + ((own_freq_f p2).toInt64))), .second, .unset, .unset, .unset, .unset, .unset] [(.ref b152), (.ref b124), (.ref b188), (.ref b188)])) _
        refine st201.trans ?_
        show Steps p.tables e below (T201.setTop (mkF m 244 #[.val (.int p0), .val (.int p1), .val (.int p2), .val (.int p3), .val (.int p4), .val (.int ((1 : Int32) + (p0 &&& (3 : Int32)))), .val (.int (own_freq_f p1)), .val (.int (own_freq_f p2)), .val (.int (own_freq_f p3)), .val (.int (own_freq_f p4)), .val (.ref b124), .val (.ref b152), .val (.long (((own_freq_f p1).toInt64) + ((own_freq_f p2).toInt64))), .second, .unset, .unset, .unset, .unset, .unset] [(.ref b188)])) _
        refine XS.astore X201.here hx rfl (hb hby at_244) rfl rfl (l' := #[.val (.int p0), .val (.int p1), .val (.int p2), .val (.int p3), .val (.int p4), .val (.int ((1 : Int32) + (p0 &&& (3 : Int32)))), .val (.int (own_freq_f p1)), .val (.int (own_freq_f p2)), .val (.int (own_freq_f p3)), .val (.int (own_freq_f p4)), .val (.ref b124), .val (.ref b152), .val (.long (((own_freq_f p1).toInt64) + ((own_freq_f p2).toInt64))), .second, .val (.ref b188), .unset, .unset, .unset, .unset]) rfl ?_
        show Steps p.tables e below (T201.setTop (mkF m 246 #[.val (.int p0), .val (.int p1), .val (.int p2), .val (.int p3), .val (.int p4), .val (.int ((1 : Int32) + (p0 &&& (3 : Int32)))), .val (.int (own_freq_f p1)), .val (.int (own_freq_f p2)), .val (.int (own_freq_f p3)), .val (.int (own_freq_f p4)), .val (.ref b124), .val (.ref b152), .val (.long (((own_freq_f p1).toInt64) + ((own_freq_f p2).toInt64))), .second, .val (.ref b188), .unset, .unset, .unset, .unset] [])) _
        refine XS.aload X201.here hx rfl (hb hby at_246) rfl rfl ?_
        show Steps p.tables e below (T201.setTop (mkF m 248 #[.val (.int p0), .val (.int p1), .val (.int p2), .val (.int p3), .val (.int p4), .val (.int ((1 : Int32) + (p0 &&& (3 : Int32)))), .val (.int (own_freq_f p1)), .val (.int (own_freq_f p2)), .val (.int (own_freq_f p3)), .val (.int (own_freq_f p4)), .val (.ref b124), .val (.ref b152), .val (.long (((own_freq_f p1).toInt64) + ((own_freq_f p2).toInt64))), .second, .val (.ref b188), .unset, .unset, .unset, .unset] [(.ref b188)])) _
        refine st210.trans ?_
        show Steps p.tables e below (T210.setTop (mkF m 251 #[.val (.int p0), .val (.int p1), .val (.int p2), .val (.int p3), .val (.int p4), .val (.int ((1 : Int32) + (p0 &&& (3 : Int32)))), .val (.int (own_freq_f p1)), .val (.int (own_freq_f p2)), .val (.int (own_freq_f p3)), .val (.int (own_freq_f p4)), .val (.ref b124), .val (.ref b152), .val (.long (((own_freq_f p1).toInt64) + ((own_freq_f p2).toInt64))), .second, .val (.ref b188), .unset, .unset, .unset, .unset] [(.long (((0 : Int64) + ((own_freq_f p1).toInt64)) + ((own_freq_f p2).toInt64)))])) _
        refine XS.lstore X210.here hx rfl (hb hby at_251) rfl (l' := #[.val (.int p0), .val (.int p1), .val (.int p2), .val (.int p3), .val (.int p4), .val (.int ((1 : Int32) + (p0 &&& (3 : Int32)))), .val (.int (own_freq_f p1)), .val (.int (own_freq_f p2)), .val (.int (own_freq_f p3)), .val (.int (own_freq_f p4)), .val (.ref b124), .val (.ref b152), .val (.long (((own_freq_f p1).toInt64) + ((own_freq_f p2).toInt64))), .second, .val (.ref b188), .val (.long (((0 : Int64) + ((own_freq_f p1).toInt64)) + ((own_freq_f p2).toInt64))), .second, .unset, .unset]) rfl ?_
        show Steps p.tables e below (T210.setTop (mkF m 253 #[.val (.int p0), .val (.int p1), .val (.int p2), .val (.int p3), .val (.int p4), .val (.int ((1 : Int32) + (p0 &&& (3 : Int32)))), .val (.int (own_freq_f p1)), .val (.int (own_freq_f p2)), .val (.int (own_freq_f p3)), .val (.int (own_freq_f p4)), .val (.ref b124), .val (.ref b152), .val (.long (((own_freq_f p1).toInt64) + ((own_freq_f p2).toInt64))), .second, .val (.ref b188), .val (.long (((0 : Int64) + ((own_freq_f p1).toInt64)) + ((own_freq_f p2).toInt64))), .second, .unset, .unset] [])) _
        refine XS.aload X210.here hx rfl (hb hby at_253) rfl rfl ?_
        show Steps p.tables e below (T210.setTop (mkF m 255 #[.val (.int p0), .val (.int p1), .val (.int p2), .val (.int p3), .val (.int p4), .val (.int ((1 : Int32) + (p0 &&& (3 : Int32)))), .val (.int (own_freq_f p1)), .val (.int (own_freq_f p2)), .val (.int (own_freq_f p3)), .val (.int (own_freq_f p4)), .val (.ref b124), .val (.ref b152), .val (.long (((own_freq_f p1).toInt64) + ((own_freq_f p2).toInt64))), .second, .val (.ref b188), .val (.long (((0 : Int64) + ((own_freq_f p1).toInt64)) + ((own_freq_f p2).toInt64))), .second, .unset, .unset] [(.ref b188)])) _
        refine st216.trans ?_
        show Steps p.tables e below (T216.setTop (mkF m 258 #[.val (.int p0), .val (.int p1), .val (.int p2), .val (.int p3), .val (.int p4), .val (.int ((1 : Int32) + (p0 &&& (3 : Int32)))), .val (.int (own_freq_f p1)), .val (.int (own_freq_f p2)), .val (.int (own_freq_f p3)), .val (.int (own_freq_f p4)), .val (.ref b124), .val (.ref b152), .val (.long (((own_freq_f p1).toInt64) + ((own_freq_f p2).toInt64))), .second, .val (.ref b188), .val (.long (((0 : Int64) + ((own_freq_f p1).toInt64)) + ((own_freq_f p2).toInt64))), .second, .unset, .unset] [(.long (((0 : Int64) + ((own_freq_f p1).toInt64)) + ((own_freq_f p2).toInt64)))])) _
        refine XS.lstore X216.here hx rfl (hb hby at_258) rfl (l' := #[.val (.int p0), .val (.int p1), .val (.int p2), .val (.int p3), .val (.int p4), .val (.int ((1 : Int32) + (p0 &&& (3 : Int32)))), .val (.int (own_freq_f p1)), .val (.int (own_freq_f p2)), .val (.int (own_freq_f p3)), .val (.int (own_freq_f p4)), .val (.ref b124), .val (.ref b152), .val (.long (((own_freq_f p1).toInt64) + ((own_freq_f p2).toInt64))), .second, .val (.ref b188), .val (.long (((0 : Int64) + ((own_freq_f p1).toInt64)) + ((own_freq_f p2).toInt64))), .second, .val (.long (((0 : Int64) + ((own_freq_f p1).toInt64)) + ((own_freq_f p2).toInt64))), .second]) rfl ?_
        show Steps p.tables e below (T216.setTop (mkF m 260 #[.val (.int p0), .val (.int p1), .val (.int p2), .val (.int p3), .val (.int p4), .val (.int ((1 : Int32) + (p0 &&& (3 : Int32)))), .val (.int (own_freq_f p1)), .val (.int (own_freq_f p2)), .val (.int (own_freq_f p3)), .val (.int (own_freq_f p4)), .val (.ref b124), .val (.ref b152), .val (.long (((own_freq_f p1).toInt64) + ((own_freq_f p2).toInt64))), .second, .val (.ref b188), .val (.long (((0 : Int64) + ((own_freq_f p1).toInt64)) + ((own_freq_f p2).toInt64))), .second, .val (.long (((0 : Int64) + ((own_freq_f p1).toInt64)) + ((own_freq_f p2).toInt64))), .second] [])) _
        refine XS.lload X216.here hx rfl (hb hby at_260) rfl ?_
        show Steps p.tables e below (T216.setTop (mkF m 262 #[.val (.int p0), .val (.int p1), .val (.int p2), .val (.int p3), .val (.int p4), .val (.int ((1 : Int32) + (p0 &&& (3 : Int32)))), .val (.int (own_freq_f p1)), .val (.int (own_freq_f p2)), .val (.int (own_freq_f p3)), .val (.int (own_freq_f p4)), .val (.ref b124), .val (.ref b152), .val (.long (((own_freq_f p1).toInt64) + ((own_freq_f p2).toInt64))), .second, .val (.ref b188), .val (.long (((0 : Int64) + ((own_freq_f p1).toInt64)) + ((own_freq_f p2).toInt64))), .second, .val (.long (((0 : Int64) + ((own_freq_f p1).toInt64)) + ((own_freq_f p2).toInt64))), .second] [(.long (((0 : Int64) + ((own_freq_f p1).toInt64)) + ((own_freq_f p2).toInt64)))])) _
        refine XS.lload X216.here hx rfl (hb hby at_262) rfl ?_
        show Steps p.tables e below (T216.setTop (mkF m 264 #[.val (.int p0), .val (.int p1), .val (.int p2), .val (.int p3), .val (.int p4), .val (.int ((1 : Int32) + (p0 &&& (3 : Int32)))), .val (.int (own_freq_f p1)), .val (.int (own_freq_f p2)), .val (.int (own_freq_f p3)), .val (.int (own_freq_f p4)), .val (.ref b124), .val (.ref b152), .val (.long (((own_freq_f p1).toInt64) + ((own_freq_f p2).toInt64))), .second, .val (.ref b188), .val (.long (((0 : Int64) + ((own_freq_f p1).toInt64)) + ((own_freq_f p2).toInt64))), .second, .val (.long (((0 : Int64) + ((own_freq_f p1).toInt64)) + ((own_freq_f p2).toInt64))), .second] [(.long (((own_freq_f p1).toInt64) + ((own_freq_f p2).toInt64))), (.long (((0 : Int64) + ((own_freq_f p1).toInt64)) + ((own_freq_f p2).toInt64)))])) _
        refine XS.lcmp X216.here hx rfl (hb hby at_264) rfl ?_
        show Steps p.tables e below (T216.setTop (mkF m 265 #[.val (.int p0), .val (.int p1), .val (.int p2), .val (.int p3), .val (.int p4), .val (.int ((1 : Int32) + (p0 &&& (3 : Int32)))), .val (.int (own_freq_f p1)), .val (.int (own_freq_f p2)), .val (.int (own_freq_f p3)), .val (.int (own_freq_f p4)), .val (.ref b124), .val (.ref b152), .val (.long (((own_freq_f p1).toInt64) + ((own_freq_f p2).toInt64))), .second, .val (.ref b188), .val (.long (((0 : Int64) + ((own_freq_f p1).toInt64)) + ((own_freq_f p2).toInt64))), .second, .val (.long (((0 : Int64) + ((own_freq_f p1).toInt64)) + ((own_freq_f p2).toInt64))), .second] [(.int (lcmpW (((0 : Int64) + ((own_freq_f p1).toInt64)) + ((own_freq_f p2).toInt64)) (((own_freq_f p1).toInt64) + ((own_freq_f p2).toInt64))))])) _
        refine XS.ifNo X216.here hx rfl (hb hby at_265) rfl ((if0 _ _).trans (teq (own_lcEq.mpr (by rw [Int64.zero_add] : (((0 : Int64) + ((own_freq_f p1).toInt64)) + ((own_freq_f p2).toInt64)) = (((own_freq_f p1).toInt64) + ((own_freq_f p2).toInt64))))).2) ?_
        show Steps p.tables e below (T216.setTop (mkF m 268 #[.val (.int p0), .val (.int p1), .val (.int p2), .val (.int p3), .val (.int p4), .val (.int ((1 : Int32) + (p0 &&& (3 : Int32)))), .val (.int (own_freq_f p1)), .val (.int (own_freq_f p2)), .val (.int (own_freq_f p3)), .val (.int (own_freq_f p4)), .val (.ref b124), .val (.ref b152), .val (.long (((own_freq_f p1).toInt64) + ((own_freq_f p2).toInt64))), .second, .val (.ref b188), .val (.long (((0 : Int64) + ((own_freq_f p1).toInt64)) + ((own_freq_f p2).toInt64))), .second, .val (.long (((0 : Int64) + ((own_freq_f p1).toInt64)) + ((own_freq_f p2).toInt64))), .second] [])) _
        refine XS.lload X216.here hx rfl (hb hby at_268) rfl ?_
        show Steps p.tables e below (T216.setTop (mkF m 270 #[.val (.int p0), .val (.int p1), .val (.int p2), .val (.int p3), .val (.int p4), .val (.int ((1 : Int32) + (p0 &&& (3 : Int32)))), .val (.int (own_freq_f p1)), .val (.int (own_freq_f p2)), .val (.int (own_freq_f p3)), .val (.int (own_freq_f p4)), .val (.ref b124), .val (.ref b152), .val (.long (((own_freq_f p1).toInt64) + ((own_freq_f p2).toInt64))), .second, .val (.ref b188), .val (.long (((0 : Int64) + ((own_freq_f p1).toInt64)) + ((own_freq_f p2).toInt64))), .second, .val (.long (((0 : Int64) + ((own_freq_f p1).toInt64)) + ((own_freq_f p2).toInt64))), .second] [(.long (((0 : Int64) + ((own_freq_f p1).toInt64)) + ((own_freq_f p2).toInt64)))])) _
        refine XS.lload X216.here hx rfl (hb hby at_270) rfl ?_
        show Steps p.tables e below (T216.setTop (mkF m 272 #[.val (.int p0), .val (.int p1), .val (.int p2), .val (.int p3), .val (.int p4), .val (.int ((1 : Int32) + (p0 &&& (3 : Int32)))), .val (.int (own_freq_f p1)), .val (.int (own_freq_f p2)), .val (.int (own_freq_f p3)), .val (.int (own_freq_f p4)), .val (.ref b124), .val (.ref b152), .val (.long (((own_freq_f p1).toInt64) + ((own_freq_f p2).toInt64))), .second, .val (.ref b188), .val (.long (((0 : Int64) + ((own_freq_f p1).toInt64)) + ((own_freq_f p2).toInt64))), .second, .val (.long (((0 : Int64) + ((own_freq_f p1).toInt64)) + ((own_freq_f p2).toInt64))), .second] [(.long (((own_freq_f p1).toInt64) + ((own_freq_f p2).toInt64))), (.long (((0 : Int64) + ((own_freq_f p1).toInt64)) + ((own_freq_f p2).toInt64)))])) _
        refine XS.lcmp X216.here hx rfl (hb hby at_272) rfl ?_
        show Steps p.tables e below (T216.setTop (mkF m 273 #[.val (.int p0), .val (.int p1), .val (.int p2), .val (.int p3), .val (.int p4), .val (.int ((1 : Int32) + (p0 &&& (3 : Int32)))), .val (.int (own_freq_f p1)), .val (.int (own_freq_f p2)), .val (.int (own_freq_f p3)), .val (.int (own_freq_f p4)), .val (.ref b124), .val (.ref b152), .val (.long (((own_freq_f p1).toInt64) + ((own_freq_f p2).toInt64))), .second, .val (.ref b188), .val (.long (((0 : Int64) + ((own_freq_f p1).toInt64)) + ((own_freq_f p2).toInt64))), .second, .val (.long (((0 : Int64) + ((own_freq_f p1).toInt64)) + ((own_freq_f p2).toInt64))), .second] [(.int (lcmpW (((0 : Int64) + ((own_freq_f p1).toInt64)) + ((own_freq_f p2).toInt64)) (((own_freq_f p1).toInt64) + ((own_freq_f p2).toInt64))))])) _
        refine XS.ifNo X216.here hx rfl (hb hby at_273) rfl ((if0 _ _).trans (teq (own_lcEq.mpr (by rw [Int64.zero_add] : (((0 : Int64) + ((own_freq_f p1).toInt64)) + ((own_freq_f p2).toInt64)) = (((own_freq_f p1).toInt64) + ((own_freq_f p2).toInt64))))).2) ?_
        show Steps p.tables e below (T216.setTop (mkF m 276 #[.val (.int p0), .val (.int p1), .val (.int p2), .val (.int p3), .val (.int p4), .val (.int ((1 : Int32) + (p0 &&& (3 : Int32)))), .val (.int (own_freq_f p1)), .val (.int (own_freq_f p2)), .val (.int (own_freq_f p3)), .val (.int (own_freq_f p4)), .val (.ref b124), .val (.ref b152), .val (.long (((own_freq_f p1).toInt64) + ((own_freq_f p2).toInt64))), .second, .val (.ref b188), .val (.long (((0 : Int64) + ((own_freq_f p1).toInt64)) + ((own_freq_f p2).toInt64))), .second, .val (.long (((0 : Int64) + ((own_freq_f p1).toInt64)) + ((own_freq_f p2).toInt64))), .second] [])) _
        refine XS.iconst X216.here hx rfl (hb hby at_276) ?_
        show Steps p.tables e below (T216.setTop (mkF m 277 #[.val (.int p0), .val (.int p1), .val (.int p2), .val (.int p3), .val (.int p4), .val (.int ((1 : Int32) + (p0 &&& (3 : Int32)))), .val (.int (own_freq_f p1)), .val (.int (own_freq_f p2)), .val (.int (own_freq_f p3)), .val (.int (own_freq_f p4)), .val (.ref b124), .val (.ref b152), .val (.long (((own_freq_f p1).toInt64) + ((own_freq_f p2).toInt64))), .second, .val (.ref b188), .val (.long (((0 : Int64) + ((own_freq_f p1).toInt64)) + ((own_freq_f p2).toInt64))), .second, .val (.long (((0 : Int64) + ((own_freq_f p1).toInt64)) + ((own_freq_f p2).toInt64))), .second] [(.int (1 : Int32))])) _
        refine XS.goto X216.here hx rfl (pc0 := 277) (pc' := 281) rfl (hb hby at_277) (by decide) (by decide) ?_
        show Steps p.tables e below (T216.setTop (mkF m 281 #[.val (.int p0), .val (.int p1), .val (.int p2), .val (.int p3), .val (.int p4), .val (.int ((1 : Int32) + (p0 &&& (3 : Int32)))), .val (.int (own_freq_f p1)), .val (.int (own_freq_f p2)), .val (.int (own_freq_f p3)), .val (.int (own_freq_f p4)), .val (.ref b124), .val (.ref b152), .val (.long (((own_freq_f p1).toInt64) + ((own_freq_f p2).toInt64))), .second, .val (.ref b188), .val (.long (((0 : Int64) + ((own_freq_f p1).toInt64)) + ((own_freq_f p2).toInt64))), .second, .val (.long (((0 : Int64) + ((own_freq_f p1).toInt64)) + ((own_freq_f p2).toInt64))), .second] [(.int (1 : Int32))])) _
        exact retN X216 hx (t := .boolean) Bd.returns (by simp) (hb hby at_281) hr
      · show Qown_law Z p0 p1 p2 p3 p4 h0 n0 _ T216.heap _
        rw [eh216]
        exact ⟨rfl, N217⟩
    · have pre233 : ∀ t, Steps p.tables e below (T24.setTop (mkF m 114 #[.val (.int p0), .val (.int p1), .val (.int p2), .val (.int p3), .val (.int p4), .val (.int ((1 : Int32) + (p0 &&& (3 : Int32)))), .val (.int (own_freq_f p1)), .val (.int (own_freq_f p2)), .val (.int (own_freq_f p3)), .val (.int (own_freq_f p4)), .unset, .unset, .unset, .unset, .unset, .unset, .unset, .unset, .unset] [(.int (3 : Int32)), (.int ((1 : Int32) + (p0 &&& (3 : Int32))))])) t → Steps p.tables e below (s₁.setTop (entryFrame m #[(.int p0), (.int p1), (.int p2), (.int p3), (.int p4)] maxLocals)) t := by
        intro t kt
        refine pre120 _ ?_
        show Steps p.tables e below (T24.setTop (mkF m 68 #[.val (.int p0), .val (.int p1), .val (.int p2), .val (.int p3), .val (.int p4), .val (.int ((1 : Int32) + (p0 &&& (3 : Int32)))), .val (.int (own_freq_f p1)), .val (.int (own_freq_f p2)), .val (.int (own_freq_f p3)), .val (.int (own_freq_f p4)), .unset, .unset, .unset, .unset, .unset, .unset, .unset, .unset, .unset] [(.int (2 : Int32)), (.int ((1 : Int32) + (p0 &&& (3 : Int32))))])) _
        refine XS.icmpYes X24.here hx rfl (pc0 := 68) (pc' := 111) rfl (hb hby at_68) rfl (feq hc68_121).2 (by decide) (by decide) ?_
        show Steps p.tables e below (T24.setTop (mkF m 111 #[.val (.int p0), .val (.int p1), .val (.int p2), .val (.int p3), .val (.int p4), .val (.int ((1 : Int32) + (p0 &&& (3 : Int32)))), .val (.int (own_freq_f p1)), .val (.int (own_freq_f p2)), .val (.int (own_freq_f p3)), .val (.int (own_freq_f p4)), .unset, .unset, .unset, .unset, .unset, .unset, .unset, .unset, .unset] [])) _
        refine XS.iload X24.here hx rfl (hb hby at_111) rfl ?_
        show Steps p.tables e below (T24.setTop (mkF m 113 #[.val (.int p0), .val (.int p1), .val (.int p2), .val (.int p3), .val (.int p4), .val (.int ((1 : Int32) + (p0 &&& (3 : Int32)))), .val (.int (own_freq_f p1)), .val (.int (own_freq_f p2)), .val (.int (own_freq_f p3)), .val (.int (own_freq_f p4)), .unset, .unset, .unset, .unset, .unset, .unset, .unset, .unset, .unset] [(.int ((1 : Int32) + (p0 &&& (3 : Int32))))])) _
        refine XS.iconst X24.here hx rfl (hb hby at_113) ?_
        exact kt
      by_cases hc114_234 : ((1 : Int32) + (p0 &&& (3 : Int32))) = (3 : Int32)
      · obtain ⟨T237, h237, k237, X237, e237, E237, A237, Y237, st237⟩ := newPE X24 hx hZ (hw _ (List.mem_of_getElem? (i := 9) rfl)) eh24 (g := (mkF m 118 #[.val (.int p0), .val (.int p1), .val (.int p2), .val (.int p3), .val (.int p4), .val (.int ((1 : Int32) + (p0 &&& (3 : Int32)))), .val (.int (own_freq_f p1)), .val (.int (own_freq_f p2)), .val (.int (own_freq_f p3)), .val (.int (own_freq_f p4)), .unset, .unset, .unset, .unset, .unset, .unset, .unset, .unset, .unset] [(.int (3 : Int32))])) rfl (hb hby at_118) rfl (by decide) (cap := 3) (by decide) (by decide) (by decide) (by decide) (ad := "[I") (by first | rfl | decide)
        obtain ⟨b237, g237⟩ : ∃ z, z = h0.size := ⟨_, rfl⟩
        rw [← g237] at A237 Y237 st237
        have Ge238 : n0 ≤ b237 := Nat.le_trans Z0 (Nat.le_of_eq g237.symm)
        have Sz239 : h0.size ≤ b237 := Nat.le_trans (Keep.refl h0 []).1 (Nat.le_of_eq g237.symm)
        have Kc240 : Keep h0 h237 [] := (Keep.refl h0 []).ext E237
        have Zs241 : n0 ≤ h237.size := (Nat.le_trans Z0 E237.1)
        have V237 : Arv Z h237 b237 k237 .int (3 : Int32) [(.int (0 : Int32)), (.int (0 : Int32)), (.int (0 : Int32))] (.int (0 : Int32)) := (Arv.new A237 (by decide)).pad (pad_rep [] (.int (0 : Int32)) 3)
        obtain ⟨cl246, Ar246, q246, S246, M246, H246, G246⟩ := id V237
        have hin246 : ¬ ((0 : Int32) < 0 ∨ cl246.slots.size ≤ ((0 : Int32)).toNatClampNeg) := inb_of S246 ⟨by decide, by decide⟩
        obtain ⟨T247, h247, X247, e247, W247, st247⟩ := stI X237 hx hZ e237 Ar246 (j := (0 : Int32)) hin246 (g := (mkF m 123 #[.val (.int p0), .val (.int p1), .val (.int p2), .val (.int p3), .val (.int p4), .val (.int ((1 : Int32) + (p0 &&& (3 : Int32)))), .val (.int (own_freq_f p1)), .val (.int (own_freq_f p2)), .val (.int (own_freq_f p3)), .val (.int (own_freq_f p4)), .unset, .unset, .unset, .unset, .unset, .unset, .unset, .unset, .unset] [(.int (0 : Int32)), (.int (0 : Int32)), (.ref b237), (.ref b237)])) rfl rfl (hb hby at_123)
        have Kc249 : Keep h0 h247 [] := Kc240.wr W247 (Or.inr Sz239)
        have Zs250 : n0 ≤ h247.size := Nat.le_trans Zs241 (Keep.of_wr W247).1
        have N251 := Fr.snoc X247 N25 Ge238
        have Vm248 : Arv Z h247 b237 k237 .int (3 : Int32) [(.int (0 : Int32)), (.int (0 : Int32)), (.int (0 : Int32))] (.int (0 : Int32)) := Arv.set Ar246 q246 S246 M246 H246 G246 rfl W247 0 rfl (Nat.le_of_ble_eq_true rfl)
        obtain ⟨cl256, Ar256, q256, S256, M256, H256, G256⟩ := id Vm248
        have hin256 : ¬ ((1 : Int32) < 0 ∨ cl256.slots.size ≤ ((1 : Int32)).toNatClampNeg) := inb_of S256 ⟨by decide, by decide⟩
        obtain ⟨T257, h257, X257, e257, W257, st257⟩ := stI X247 hx hZ e247 Ar256 (j := (1 : Int32)) hin256 (g := (mkF m 127 #[.val (.int p0), .val (.int p1), .val (.int p2), .val (.int p3), .val (.int p4), .val (.int ((1 : Int32) + (p0 &&& (3 : Int32)))), .val (.int (own_freq_f p1)), .val (.int (own_freq_f p2)), .val (.int (own_freq_f p3)), .val (.int (own_freq_f p4)), .unset, .unset, .unset, .unset, .unset, .unset, .unset, .unset, .unset] [(.int (1 : Int32)), (.int (1 : Int32)), (.ref b237), (.ref b237)])) rfl rfl (hb hby at_127)
        have Kc259 : Keep h0 h257 [] := Kc249.wr W257 (Or.inr Sz239)
        have Zs260 : n0 ≤ h257.size := Nat.le_trans Zs250 (Keep.of_wr W257).1
        have N261 := Fr.snoc X257 N251 Ge238
        have Vm258 : Arv Z h257 b237 k237 .int (3 : Int32) [(.int (0 : Int32)), (.int (1 : Int32)), (.int (0 : Int32))] (.int (0 : Int32)) := Arv.set Ar256 q256 S256 M256 H256 G256 rfl W257 1 rfl (Nat.le_of_ble_eq_true rfl)
        obtain ⟨cl266, Ar266, q266, S266, M266, H266, G266⟩ := id Vm258
        have hin266 : ¬ ((2 : Int32) < 0 ∨ cl266.slots.size ≤ ((2 : Int32)).toNatClampNeg) := inb_of S266 ⟨by decide, by decide⟩
        obtain ⟨T267, h267, X267, e267, W267, st267⟩ := stI X257 hx hZ e257 Ar266 (j := (2 : Int32)) hin266 (g := (mkF m 131 #[.val (.int p0), .val (.int p1), .val (.int p2), .val (.int p3), .val (.int p4), .val (.int ((1 : Int32) + (p0 &&& (3 : Int32)))), .val (.int (own_freq_f p1)), .val (.int (own_freq_f p2)), .val (.int (own_freq_f p3)), .val (.int (own_freq_f p4)), .unset, .unset, .unset, .unset, .unset, .unset, .unset, .unset, .unset] [(.int (2 : Int32)), (.int (2 : Int32)), (.ref b237), (.ref b237)])) rfl rfl (hb hby at_131)
        have Kc269 : Keep h0 h267 [] := Kc259.wr W267 (Or.inr Sz239)
        have Zs270 : n0 ≤ h267.size := Nat.le_trans Zs260 (Keep.of_wr W267).1
        have N271 := Fr.snoc X267 N261 Ge238
        have Vm268 : Arv Z h267 b237 k237 .int (3 : Int32) [(.int (0 : Int32)), (.int (1 : Int32)), (.int (2 : Int32))] (.int (0 : Int32)) := Arv.set Ar266 q266 S266 M266 H266 G266 rfl W267 2 rfl (Nat.le_of_ble_eq_true rfl)
        obtain ⟨T275, h275, k275, X275, e275, E275, A275, Y275, st275⟩ := newPE X267 hx hZ (hw _ (List.mem_of_getElem? (i := 9) rfl)) e267 (g := (mkF m 135 #[.val (.int p0), .val (.int p1), .val (.int p2), .val (.int p3), .val (.int p4), .val (.int ((1 : Int32) + (p0 &&& (3 : Int32)))), .val (.int (own_freq_f p1)), .val (.int (own_freq_f p2)), .val (.int (own_freq_f p3)), .val (.int (own_freq_f p4)), .val (.ref b237), .unset, .unset, .unset, .unset, .unset, .unset, .unset, .unset] [(.int (3 : Int32))])) rfl (hb hby at_135) rfl (by decide) (cap := 3) (by decide) (by decide) (by decide) (by decide) (ad := "[I") (by first | rfl | decide)
        obtain ⟨b275, g275⟩ : ∃ z, z = h267.size := ⟨_, rfl⟩
        rw [← g275] at A275 Y275 st275
        have Fq277 : Exa Z h267 b237 "[I" := (((Y237.wr W247).wr W257).wr W267)
        have Ne276 : b237 ≠ b275 := Nat.ne_of_lt (Nat.lt_of_lt_of_le Fq277.lt (Nat.le_of_eq g275.symm))
        have Ge278 : n0 ≤ b275 := Nat.le_trans Zs270 (Nat.le_of_eq g275.symm)
        have Sz279 : h0.size ≤ b275 := Nat.le_trans Kc269.1 (Nat.le_of_eq g275.symm)
        have Kc280 : Keep h0 h275 [] := Kc269.ext E275
        have Zs281 : n0 ≤ h275.size := (Nat.le_trans Zs270 E275.1)
        have V275 : Arv Z h275 b275 k275 .int (3 : Int32) [(.int (0 : Int32)), (.int (0 : Int32)), (.int (0 : Int32))] (.int (0 : Int32)) := (Arv.new A275 (by decide)).pad (pad_rep [] (.int (0 : Int32)) 3)
        obtain ⟨cl286, Ar286, q286, S286, M286, H286, G286⟩ := id V275
        have hin286 : ¬ ((0 : Int32) < 0 ∨ cl286.slots.size ≤ ((0 : Int32)).toNatClampNeg) := inb_of S286 ⟨by decide, by decide⟩
        obtain ⟨T287, h287, X287, e287, W287, st287⟩ := stI X275 hx hZ e275 Ar286 (j := (0 : Int32)) hin286 (g := (mkF m 141 #[.val (.int p0), .val (.int p1), .val (.int p2), .val (.int p3), .val (.int p4), .val (.int ((1 : Int32) + (p0 &&& (3 : Int32)))), .val (.int (own_freq_f p1)), .val (.int (own_freq_f p2)), .val (.int (own_freq_f p3)), .val (.int (own_freq_f p4)), .val (.ref b237), .unset, .unset, .unset, .unset, .unset, .unset, .unset, .unset] [(.int (own_freq_f p1)), (.int (0 : Int32)), (.ref b275), (.ref b275)])) rfl rfl (hb hby at_141)
        have Kc289 : Keep h0 h287 [] := Kc280.wr W287 (Or.inr Sz279)
        have Zs290 : n0 ≤ h287.size := Nat.le_trans Zs281 (Keep.of_wr W287).1
        have N291 := Fr.snoc X287 N271 Ge278
        have Vm288 : Arv Z h287 b275 k275 .int (3 : Int32) [(.int (own_freq_f p1)), (.int (0 : Int32)), (.int (0 : Int32))] (.int (0 : Int32)) := Arv.set Ar286 q286 S286 M286 H286 G286 rfl W287 0 rfl (Nat.le_of_ble_eq_true rfl)
        obtain ⟨cl296, Ar296, q296, S296, M296, H296, G296⟩ := id Vm288
        have hin296 : ¬ ((1 : Int32) < 0 ∨ cl296.slots.size ≤ ((1 : Int32)).toNatClampNeg) := inb_of S296 ⟨by decide, by decide⟩
        obtain ⟨T297, h297, X297, e297, W297, st297⟩ := stI X287 hx hZ e287 Ar296 (j := (1 : Int32)) hin296 (g := (mkF m 146 #[.val (.int p0), .val (.int p1), .val (.int p2), .val (.int p3), .val (.int p4), .val (.int ((1 : Int32) + (p0 &&& (3 : Int32)))), .val (.int (own_freq_f p1)), .val (.int (own_freq_f p2)), .val (.int (own_freq_f p3)), .val (.int (own_freq_f p4)), .val (.ref b237), .unset, .unset, .unset, .unset, .unset, .unset, .unset, .unset] [(.int (own_freq_f p2)), (.int (1 : Int32)), (.ref b275), (.ref b275)])) rfl rfl (hb hby at_146)
        have Kc299 : Keep h0 h297 [] := Kc289.wr W297 (Or.inr Sz279)
        have Zs300 : n0 ≤ h297.size := Nat.le_trans Zs290 (Keep.of_wr W297).1
        have N301 := Fr.snoc X297 N291 Ge278
        have Vm298 : Arv Z h297 b275 k275 .int (3 : Int32) [(.int (own_freq_f p1)), (.int (own_freq_f p2)), (.int (0 : Int32))] (.int (0 : Int32)) := Arv.set Ar296 q296 S296 M296 H296 G296 rfl W297 1 rfl (Nat.le_of_ble_eq_true rfl)
        obtain ⟨cl306, Ar306, q306, S306, M306, H306, G306⟩ := id Vm298
        have hin306 : ¬ ((2 : Int32) < 0 ∨ cl306.slots.size ≤ ((2 : Int32)).toNatClampNeg) := inb_of S306 ⟨by decide, by decide⟩
        obtain ⟨T307, h307, X307, e307, W307, st307⟩ := stI X297 hx hZ e297 Ar306 (j := (2 : Int32)) hin306 (g := (mkF m 151 #[.val (.int p0), .val (.int p1), .val (.int p2), .val (.int p3), .val (.int p4), .val (.int ((1 : Int32) + (p0 &&& (3 : Int32)))), .val (.int (own_freq_f p1)), .val (.int (own_freq_f p2)), .val (.int (own_freq_f p3)), .val (.int (own_freq_f p4)), .val (.ref b237), .unset, .unset, .unset, .unset, .unset, .unset, .unset, .unset] [(.int (own_freq_f p3)), (.int (2 : Int32)), (.ref b275), (.ref b275)])) rfl rfl (hb hby at_151)
        have Kc309 : Keep h0 h307 [] := Kc299.wr W307 (Or.inr Sz279)
        have Zs310 : n0 ≤ h307.size := Nat.le_trans Zs300 (Keep.of_wr W307).1
        have N311 := Fr.snoc X307 N301 Ge278
        have Vm308 : Arv Z h307 b275 k275 .int (3 : Int32) [(.int (own_freq_f p1)), (.int (own_freq_f p2)), (.int (own_freq_f p3))] (.int (0 : Int32)) := Arv.set Ar306 q306 S306 M306 H306 G306 rfl W307 2 rfl (Nat.le_of_ble_eq_true rfl)
        obtain ⟨T324, h324, X324, e324, E324, A324, D324, -, st324⟩ := newO X307 hx hZ hown (hw _ (List.mem_of_getElem? (i := 10) rfl)) (hw _ (List.mem_of_getElem? (i := 11) rfl)) (hw _ (List.mem_of_getElem? (i := 12) rfl)) e307 (g := (mkF m 233 #[.val (.int p0), .val (.int p1), .val (.int p2), .val (.int p3), .val (.int p4), .val (.int ((1 : Int32) + (p0 &&& (3 : Int32)))), .val (.int (own_freq_f p1)), .val (.int (own_freq_f p2)), .val (.int (own_freq_f p3)), .val (.int (own_freq_f p4)), .val (.ref b237), .val (.ref b275), .val (.long ((((own_freq_f p1).toInt64) + ((own_freq_f p2).toInt64)) + ((own_freq_f p3).toInt64))), .second, .unset, .unset, .unset, .unset, .unset] [])) rfl (hb hby at_233) (by decide) (by decide)
        obtain ⟨b324, g324⟩ : ∃ z, z = h307.size := ⟨_, rfl⟩
        rw [← g324] at A324 D324 st324
        have Fq326 : Exa Z h307 b237 "[I" := ((((Fq277.ext E275).wr W287).wr W297).wr W307)
        have Ne325 : b237 ≠ b324 := Nat.ne_of_lt (Nat.lt_of_lt_of_le Fq326.lt (Nat.le_of_eq g324.symm))
        have Fq328 : Exa Z h307 b275 "[I" := (((Y275.wr W287).wr W297).wr W307)
        have Ne327 : b275 ≠ b324 := Nat.ne_of_lt (Nat.lt_of_lt_of_le Fq328.lt (Nat.le_of_eq g324.symm))
        have Ge329 : n0 ≤ b324 := Nat.le_trans Zs310 (Nat.le_of_eq g324.symm)
        have Sz330 : h0.size ≤ b324 := Nat.le_trans Kc309.1 (Nat.le_of_eq g324.symm)
        have Kc331 : Keep h0 h324 [] := Kc309.ext E324
        have Zs332 : n0 ≤ h324.size := (Nat.le_trans Zs310 E324.1)
        have F324_documents : Fld Z h324 b324 "com/example/merit/merit/Postings" "documents" "[I" .null := D324 (Or.inr (hw _ (List.mem_of_getElem? (i := 20) rfl))) (ty := (.array .int)) (by decide)
        have F324_frequencies : Fld Z h324 b324 "com/example/merit/merit/Postings" "frequencies" "[I" .null := D324 (Or.inr (hw _ (List.mem_of_getElem? (i := 22) rfl))) (ty := (.array .int)) (by decide)
        have Fq338 : Arv Z h324 b237 k237 .int (3 : Int32) [(.int (0 : Int32)), (.int (1 : Int32)), (.int (2 : Int32))] (.int (0 : Int32)) := (((((Vm268.ext E275).other W287 Ne276).other W297 Ne276).other W307 Ne276).ext E324)
        have Fq339 : Arv Z h324 b275 k275 .int (3 : Int32) [(.int (own_freq_f p1)), (.int (own_freq_f p2)), (.int (own_freq_f p3))] (.int (0 : Int32)) := (Vm308.ext E324)
        obtain ⟨_, _, ⟨T337, L337, k337, n337⟩, -, X337, ⟨Lc337, hQ337, l337, y337, z337⟩, st337⟩ := X324.specialBack hx (y := (⟨"com/example/merit/merit/Postings", "<init>", "([I[I)V"⟩ : MethodName)) rfl hown (mvT hZ (hw _ (List.mem_of_getElem? (i := 13) rfl))) (mvT hZ (hw _ (List.mem_of_getElem? (i := 14) rfl))) (mvT hZ (hw _ (List.mem_of_getElem? (i := 15) rfl))) (by decide) (backOf (W := 1) (own_rmI l Z a0 hw [] b324 b237 b275 k237 k275 (3 : Int32) [(.int (0 : Int32)), (.int (1 : Int32)), (.int (2 : Int32))] [(.int (own_freq_f p1)), (.int (own_freq_f p2)), (.int (own_freq_f p3))] h324 n0 Zs332 A324 F324_documents F324_frequencies Fq338 Fq339 Ge329) hZ (hw _ (List.mem_of_getElem? (i := 15) rfl)) (hw _ (List.mem_of_getElem? (i := 12) rfl)) (by decide) (by decide)) (g := (mkF m 241 #[.val (.int p0), .val (.int p1), .val (.int p2), .val (.int p3), .val (.int p4), .val (.int ((1 : Int32) + (p0 &&& (3 : Int32)))), .val (.int (own_freq_f p1)), .val (.int (own_freq_f p2)), .val (.int (own_freq_f p3)), .val (.int (own_freq_f p4)), .val (.ref b237), .val (.ref b275), .val (.long ((((own_freq_f p1).toInt64) + ((own_freq_f p2).toInt64)) + ((own_freq_f p3).toInt64))), .second, .unset, .unset, .unset, .unset, .unset] [(.ref b275), (.ref b237), (.ref b324), (.ref b324)])) rfl (by rw [hml]; rfl) (Steps.refl _) (a := b324) (argsL := [(.ref b237), (.ref b275)]) (rest := [(.ref b324)]) (lenOf own_pd2 rfl) rfl (by show 2 * 0 + _ ≤ _; exact Nat.le_of_eq rfl) (hb hby at_241) (fun _ _ => ⟨rfl, e324, (by decide : 3 + 0 ≤ _), (by decide : 8 + 0 ≤ _)⟩)
        dsimp only [Pt.U, Pt.locs, Pt.cells, Pt.slots] at X337 l337 y337 z337 st337 hQ337
        subst l337 y337 z337
        obtain ⟨rfl, Nq337, K337, Pf337_0, Pf337_1, Pf337_2⟩ := hQ337
        have N340 := Fr.app N311 Nq337
        have Kc341 : Keep h0 T337.heap [] := Kc331.trans K337 (allS (Or.inr Sz330) all0)
        have Zs342 : n0 ≤ T337.heap.size := Nat.le_trans Zs332 K337.1
        have Fq347 : Arv Z T337.heap b275 k275 .int (3 : Int32) [(.int (own_freq_f p1)), (.int (own_freq_f p2)), (.int (own_freq_f p3))] (.int (0 : Int32)) := (Fq339.keep K337 (ninS Ne327 nin0))
        obtain ⟨cq346, kq346, q346a, q346b, q346c⟩ := isOf hZ rfl Pf337_0
        obtain ⟨_, _, ⟨T346, L346, k346, n346⟩, -, X346, ⟨Lc346, hQ346, l346, y346, z346⟩, st346⟩ := X337.virtualBack hx (y := (⟨"com/example/merit/merit/Postings", "collectionFrequency", "()J"⟩ : MethodName)) (z := (⟨"com/example/merit/merit/Postings", "collectionFrequency", "()J"⟩ : MethodName)) hown (mvT hZ (hw _ (List.mem_of_getElem? (i := 23) rfl))) (mvT hZ (hw _ (List.mem_of_getElem? (i := 24) rfl))) (notFace_of_selects (args := #[]) (mvT hZ (hw _ (List.mem_of_getElem? (i := 26) rfl)))) (mvT hZ (hw _ (List.mem_of_getElem? (i := 26) rfl))) (mvT hZ (hw _ (List.mem_of_getElem? (i := 25) rfl))) (by decide) (backOf (W := 0) (own_cf3 l Z a0 hw [] b324 b275 k275 (own_freq_f p1) (own_freq_f p2) (own_freq_f p3) T337.heap n0 Zs342 Pf337_2 Fq347) hZ (hw _ (List.mem_of_getElem? (i := 27) rfl)) (hw _ (List.mem_of_getElem? (i := 12) rfl)) (by decide) (by decide)) q346a q346c (g := (mkF m 248 #[.val (.int p0), .val (.int p1), .val (.int p2), .val (.int p3), .val (.int p4), .val (.int ((1 : Int32) + (p0 &&& (3 : Int32)))), .val (.int (own_freq_f p1)), .val (.int (own_freq_f p2)), .val (.int (own_freq_f p3)), .val (.int (own_freq_f p4)), .val (.ref b237), .val (.ref b275), .val (.long ((((own_freq_f p1).toInt64) + ((own_freq_f p2).toInt64)) + ((own_freq_f p3).toInt64))), .second, .val (.ref b324), .unset, .unset, .unset, .unset] [(.ref b324)])) rfl (by rw [hml]; rfl) (Steps.refl _) (argsL := []) (rest := []) (lenOf own_pd3 rfl) rfl (by show 2 * 0 + _ ≤ _; exact Nat.le_of_eq rfl) (hb hby at_248) (fun _ _ => ⟨rfl, rfl, (by decide : 3 + 0 ≤ _), (by decide : 8 + 0 ≤ _)⟩)
        dsimp only [Pt.U, Pt.locs, Pt.cells, Pt.slots] at X346 l346 y346 z346 st346 hQ346
        subst l346 y346 z346
        obtain ⟨rfl, Nq346, eh346⟩ := hQ346
        have N348 := Fr.app N340 Nq346
        obtain ⟨cq352, kq352, q352a, q352b, q352c⟩ := isOf hZ eh346 Pf337_0
        obtain ⟨_, _, ⟨T352, L352, k352, n352⟩, -, X352, ⟨Lc352, hQ352, l352, y352, z352⟩, st352⟩ := X346.virtualBack hx (y := (⟨"com/example/merit/merit/Postings", "collectionFrequency", "()J"⟩ : MethodName)) (z := (⟨"com/example/merit/merit/Postings", "collectionFrequency", "()J"⟩ : MethodName)) hown (mvT hZ (hw _ (List.mem_of_getElem? (i := 23) rfl))) (mvT hZ (hw _ (List.mem_of_getElem? (i := 24) rfl))) (notFace_of_selects (args := #[]) (mvT hZ (hw _ (List.mem_of_getElem? (i := 26) rfl)))) (mvT hZ (hw _ (List.mem_of_getElem? (i := 26) rfl))) (mvT hZ (hw _ (List.mem_of_getElem? (i := 25) rfl))) (by decide) (backOf (W := 0) (own_cf3 l Z a0 hw [] b324 b275 k275 (own_freq_f p1) (own_freq_f p2) (own_freq_f p3) T337.heap n0 Zs342 Pf337_2 Fq347) hZ (hw _ (List.mem_of_getElem? (i := 27) rfl)) (hw _ (List.mem_of_getElem? (i := 12) rfl)) (by decide) (by decide)) q352a q352c (g := (mkF m 255 #[.val (.int p0), .val (.int p1), .val (.int p2), .val (.int p3), .val (.int p4), .val (.int ((1 : Int32) + (p0 &&& (3 : Int32)))), .val (.int (own_freq_f p1)), .val (.int (own_freq_f p2)), .val (.int (own_freq_f p3)), .val (.int (own_freq_f p4)), .val (.ref b237), .val (.ref b275), .val (.long ((((own_freq_f p1).toInt64) + ((own_freq_f p2).toInt64)) + ((own_freq_f p3).toInt64))), .second, .val (.ref b324), .val (.long ((((0 : Int64) + ((own_freq_f p1).toInt64)) + ((own_freq_f p2).toInt64)) + ((own_freq_f p3).toInt64))), .second, .unset, .unset] [(.ref b324)])) rfl (by rw [hml]; rfl) (Steps.refl _) (argsL := []) (rest := []) (lenOf own_pd3 rfl) rfl (by show 2 * 0 + _ ≤ _; exact Nat.le_of_eq rfl) (hb hby at_255) (fun _ _ => ⟨rfl, eh346, (by decide : 3 + 0 ≤ _), (by decide : 8 + 0 ≤ _)⟩)
        dsimp only [Pt.U, Pt.locs, Pt.cells, Pt.slots] at X352 l352 y352 z352 st352 hQ352
        subst l352 y352 z352
        obtain ⟨rfl, Nq352, eh352⟩ := hQ352
        have N353 := Fr.app N348 Nq352
        obtain ⟨fs, hr, hrun, hended, hW, hsame⟩ := X352.leave (v := some (.int (1 : Int32))) (fun h => by rw [Bd.returns] at h; cases h) (hlocks := BodyLoose.notSynchronized Bd)
        refine ⟨_, _, pre233 _ ?_, hrun, hended, _, _, rfl, ?_, ⟨_, rfl⟩, hW, hsame.mono (by decide) (by decide)⟩
        · show Steps p.tables e below (T24.setTop (mkF m 114 #[.val (.int p0), .val (.int p1), .val (.int p2), .val (.int p3), .val (.int p4), .val (.int ((1 : Int32) + (p0 &&& (3 : Int32)))), .val (.int (own_freq_f p1)), .val (.int (own_freq_f p2)), .val (.int (own_freq_f p3)), .val (.int (own_freq_f p4)), .unset, .unset, .unset, .unset, .unset, .unset, .unset, .unset, .unset] [(.int (3 : Int32)), (.int ((1 : Int32) + (p0 &&& (3 : Int32))))])) _
          refine XS.icmpNo X24.here hx rfl (hb hby at_114) rfl (teq hc114_234).2 ?_
          show Steps p.tables e below (T24.setTop (mkF m 117 #[.val (.int p0), .val (.int p1), .val (.int p2), .val (.int p3), .val (.int p4), .val (.int ((1 : Int32) + (p0 &&& (3 : Int32)))), .val (.int (own_freq_f p1)), .val (.int (own_freq_f p2)), .val (.int (own_freq_f p3)), .val (.int (own_freq_f p4)), .unset, .unset, .unset, .unset, .unset, .unset, .unset, .unset, .unset] [])) _
          refine XS.iconst X24.here hx rfl (hb hby at_117) ?_
          show Steps p.tables e below (T24.setTop (mkF m 118 #[.val (.int p0), .val (.int p1), .val (.int p2), .val (.int p3), .val (.int p4), .val (.int ((1 : Int32) + (p0 &&& (3 : Int32)))), .val (.int (own_freq_f p1)), .val (.int (own_freq_f p2)), .val (.int (own_freq_f p3)), .val (.int (own_freq_f p4)), .unset, .unset, .unset, .unset, .unset, .unset, .unset, .unset, .unset] [(.int (3 : Int32))])) _
          refine st237 _ ?_
          show Steps p.tables e below (T237.setTop (mkF m 120 #[.val (.int p0), .val (.int p1), .val (.int p2), .val (.int p3), .val (.int p4), .val (.int ((1 : Int32) + (p0 &&& (3 : Int32)))), .val (.int (own_freq_f p1)), .val (.int (own_freq_f p2)), .val (.int (own_freq_f p3)), .val (.int (own_freq_f p4)), .unset, .unset, .unset, .unset, .unset, .unset, .unset, .unset, .unset] [(.ref b237)])) _
          refine XS.dup X237.here hx rfl (hb hby at_120) rfl rfl ?_
          show Steps p.tables e below (T237.setTop (mkF m 121 #[.val (.int p0), .val (.int p1), .val (.int p2), .val (.int p3), .val (.int p4), .val (.int ((1 : Int32) + (p0 &&& (3 : Int32)))), .val (.int (own_freq_f p1)), .val (.int (own_freq_f p2)), .val (.int (own_freq_f p3)), .val (.int (own_freq_f p4)), .unset, .unset, .unset, .unset, .unset, .unset, .unset, .unset, .unset] [(.ref b237), (.ref b237)])) _
          refine XS.iconst X237.here hx rfl (hb hby at_121) ?_
          show Steps p.tables e below (T237.setTop (mkF m 122 #[.val (.int p0), .val (.int p1), .val (.int p2), .val (.int p3), .val (.int p4), .val (.int ((1 : Int32) + (p0 &&& (3 : Int32)))), .val (.int (own_freq_f p1)), .val (.int (own_freq_f p2)), .val (.int (own_freq_f p3)), .val (.int (own_freq_f p4)), .unset, .unset, .unset, .unset, .unset, .unset, .unset, .unset, .unset] [(.int (0 : Int32)), (.ref b237), (.ref b237)])) _
          refine XS.iconst X237.here hx rfl (hb hby at_122) ?_
          show Steps p.tables e below (T237.setTop (mkF m 123 #[.val (.int p0), .val (.int p1), .val (.int p2), .val (.int p3), .val (.int p4), .val (.int ((1 : Int32) + (p0 &&& (3 : Int32)))), .val (.int (own_freq_f p1)), .val (.int (own_freq_f p2)), .val (.int (own_freq_f p3)), .val (.int (own_freq_f p4)), .unset, .unset, .unset, .unset, .unset, .unset, .unset, .unset, .unset] [(.int (0 : Int32)), (.int (0 : Int32)), (.ref b237), (.ref b237)])) _
          refine st247 _ ?_
          show Steps p.tables e below (T247.setTop (mkF m 124 #[.val (.int p0), .val (.int p1), .val (.int p2), .val (.int p3), .val (.int p4), .val (.int ((1 : Int32) + (p0 &&& (3 : Int32)))), .val (.int (own_freq_f p1)), .val (.int (own_freq_f p2)), .val (.int (own_freq_f p3)), .val (.int (own_freq_f p4)), .unset, .unset, .unset, .unset, .unset, .unset, .unset, .unset, .unset] [(.ref b237)])) _
          refine XS.dup X247.here hx rfl (hb hby at_124) rfl rfl ?_
          show Steps p.tables e below (T247.setTop (mkF m 125 #[.val (.int p0), .val (.int p1), .val (.int p2), .val (.int p3), .val (.int p4), .val (.int ((1 : Int32) + (p0 &&& (3 : Int32)))), .val (.int (own_freq_f p1)), .val (.int (own_freq_f p2)), .val (.int (own_freq_f p3)), .val (.int (own_freq_f p4)), .unset, .unset, .unset, .unset, .unset, .unset, .unset, .unset, .unset] [(.ref b237), (.ref b237)])) _
          refine XS.iconst X247.here hx rfl (hb hby at_125) ?_
          show Steps p.tables e below (T247.setTop (mkF m 126 #[.val (.int p0), .val (.int p1), .val (.int p2), .val (.int p3), .val (.int p4), .val (.int ((1 : Int32) + (p0 &&& (3 : Int32)))), .val (.int (own_freq_f p1)), .val (.int (own_freq_f p2)), .val (.int (own_freq_f p3)), .val (.int (own_freq_f p4)), .unset, .unset, .unset, .unset, .unset, .unset, .unset, .unset, .unset] [(.int (1 : Int32)), (.ref b237), (.ref b237)])) _
          refine XS.iconst X247.here hx rfl (hb hby at_126) ?_
          show Steps p.tables e below (T247.setTop (mkF m 127 #[.val (.int p0), .val (.int p1), .val (.int p2), .val (.int p3), .val (.int p4), .val (.int ((1 : Int32) + (p0 &&& (3 : Int32)))), .val (.int (own_freq_f p1)), .val (.int (own_freq_f p2)), .val (.int (own_freq_f p3)), .val (.int (own_freq_f p4)), .unset, .unset, .unset, .unset, .unset, .unset, .unset, .unset, .unset] [(.int (1 : Int32)), (.int (1 : Int32)), (.ref b237), (.ref b237)])) _
          refine st257 _ ?_
          show Steps p.tables e below (T257.setTop (mkF m 128 #[.val (.int p0), .val (.int p1), .val (.int p2), .val (.int p3), .val (.int p4), .val (.int ((1 : Int32) + (p0 &&& (3 : Int32)))), .val (.int (own_freq_f p1)), .val (.int (own_freq_f p2)), .val (.int (own_freq_f p3)), .val (.int (own_freq_f p4)), .unset, .unset, .unset, .unset, .unset, .unset, .unset, .unset, .unset] [(.ref b237)])) _
          refine XS.dup X257.here hx rfl (hb hby at_128) rfl rfl ?_
          show Steps p.tables e below (T257.setTop (mkF m 129 #[.val (.int p0), .val (.int p1), .val (.int p2), .val (.int p3), .val (.int p4), .val (.int ((1 : Int32) + (p0 &&& (3 : Int32)))), .val (.int (own_freq_f p1)), .val (.int (own_freq_f p2)), .val (.int (own_freq_f p3)), .val (.int (own_freq_f p4)), .unset, .unset, .unset, .unset, .unset, .unset, .unset, .unset, .unset] [(.ref b237), (.ref b237)])) _
          refine XS.iconst X257.here hx rfl (hb hby at_129) ?_
          show Steps p.tables e below (T257.setTop (mkF m 130 #[.val (.int p0), .val (.int p1), .val (.int p2), .val (.int p3), .val (.int p4), .val (.int ((1 : Int32) + (p0 &&& (3 : Int32)))), .val (.int (own_freq_f p1)), .val (.int (own_freq_f p2)), .val (.int (own_freq_f p3)), .val (.int (own_freq_f p4)), .unset, .unset, .unset, .unset, .unset, .unset, .unset, .unset, .unset] [(.int (2 : Int32)), (.ref b237), (.ref b237)])) _
          refine XS.iconst X257.here hx rfl (hb hby at_130) ?_
          show Steps p.tables e below (T257.setTop (mkF m 131 #[.val (.int p0), .val (.int p1), .val (.int p2), .val (.int p3), .val (.int p4), .val (.int ((1 : Int32) + (p0 &&& (3 : Int32)))), .val (.int (own_freq_f p1)), .val (.int (own_freq_f p2)), .val (.int (own_freq_f p3)), .val (.int (own_freq_f p4)), .unset, .unset, .unset, .unset, .unset, .unset, .unset, .unset, .unset] [(.int (2 : Int32)), (.int (2 : Int32)), (.ref b237), (.ref b237)])) _
          refine st267 _ ?_
          show Steps p.tables e below (T267.setTop (mkF m 132 #[.val (.int p0), .val (.int p1), .val (.int p2), .val (.int p3), .val (.int p4), .val (.int ((1 : Int32) + (p0 &&& (3 : Int32)))), .val (.int (own_freq_f p1)), .val (.int (own_freq_f p2)), .val (.int (own_freq_f p3)), .val (.int (own_freq_f p4)), .unset, .unset, .unset, .unset, .unset, .unset, .unset, .unset, .unset] [(.ref b237)])) _
          refine XS.astore X267.here hx rfl (hb hby at_132) rfl rfl (l' := #[.val (.int p0), .val (.int p1), .val (.int p2), .val (.int p3), .val (.int p4), .val (.int ((1 : Int32) + (p0 &&& (3 : Int32)))), .val (.int (own_freq_f p1)), .val (.int (own_freq_f p2)), .val (.int (own_freq_f p3)), .val (.int (own_freq_f p4)), .val (.ref b237), .unset, .unset, .unset, .unset, .unset, .unset, .unset, .unset]) rfl ?_
          show Steps p.tables e below (T267.setTop (mkF m 134 #[.val (.int p0), .val (.int p1), .val (.int p2), .val (.int p3), .val (.int p4), .val (.int ((1 : Int32) + (p0 &&& (3 : Int32)))), .val (.int (own_freq_f p1)), .val (.int (own_freq_f p2)), .val (.int (own_freq_f p3)), .val (.int (own_freq_f p4)), .val (.ref b237), .unset, .unset, .unset, .unset, .unset, .unset, .unset, .unset] [])) _
          refine XS.iconst X267.here hx rfl (hb hby at_134) ?_
          show Steps p.tables e below (T267.setTop (mkF m 135 #[.val (.int p0), .val (.int p1), .val (.int p2), .val (.int p3), .val (.int p4), .val (.int ((1 : Int32) + (p0 &&& (3 : Int32)))), .val (.int (own_freq_f p1)), .val (.int (own_freq_f p2)), .val (.int (own_freq_f p3)), .val (.int (own_freq_f p4)), .val (.ref b237), .unset, .unset, .unset, .unset, .unset, .unset, .unset, .unset] [(.int (3 : Int32))])) _
          refine st275 _ ?_
          show Steps p.tables e below (T275.setTop (mkF m 137 #[.val (.int p0), .val (.int p1), .val (.int p2), .val (.int p3), .val (.int p4), .val (.int ((1 : Int32) + (p0 &&& (3 : Int32)))), .val (.int (own_freq_f p1)), .val (.int (own_freq_f p2)), .val (.int (own_freq_f p3)), .val (.int (own_freq_f p4)), .val (.ref b237), .unset, .unset, .unset, .unset, .unset, .unset, .unset, .unset] [(.ref b275)])) _
          refine XS.dup X275.here hx rfl (hb hby at_137) rfl rfl ?_
          show Steps p.tables e below (T275.setTop (mkF m 138 #[.val (.int p0), .val (.int p1), .val (.int p2), .val (.int p3), .val (.int p4), .val (.int ((1 : Int32) + (p0 &&& (3 : Int32)))), .val (.int (own_freq_f p1)), .val (.int (own_freq_f p2)), .val (.int (own_freq_f p3)), .val (.int (own_freq_f p4)), .val (.ref b237), .unset, .unset, .unset, .unset, .unset, .unset, .unset, .unset] [(.ref b275), (.ref b275)])) _
          refine XS.iconst X275.here hx rfl (hb hby at_138) ?_
          show Steps p.tables e below (T275.setTop (mkF m 139 #[.val (.int p0), .val (.int p1), .val (.int p2), .val (.int p3), .val (.int p4), .val (.int ((1 : Int32) + (p0 &&& (3 : Int32)))), .val (.int (own_freq_f p1)), .val (.int (own_freq_f p2)), .val (.int (own_freq_f p3)), .val (.int (own_freq_f p4)), .val (.ref b237), .unset, .unset, .unset, .unset, .unset, .unset, .unset, .unset] [(.int (0 : Int32)), (.ref b275), (.ref b275)])) _
          refine XS.iload X275.here hx rfl (hb hby at_139) rfl ?_
          show Steps p.tables e below (T275.setTop (mkF m 141 #[.val (.int p0), .val (.int p1), .val (.int p2), .val (.int p3), .val (.int p4), .val (.int ((1 : Int32) + (p0 &&& (3 : Int32)))), .val (.int (own_freq_f p1)), .val (.int (own_freq_f p2)), .val (.int (own_freq_f p3)), .val (.int (own_freq_f p4)), .val (.ref b237), .unset, .unset, .unset, .unset, .unset, .unset, .unset, .unset] [(.int (own_freq_f p1)), (.int (0 : Int32)), (.ref b275), (.ref b275)])) _
          refine st287 _ ?_
          show Steps p.tables e below (T287.setTop (mkF m 142 #[.val (.int p0), .val (.int p1), .val (.int p2), .val (.int p3), .val (.int p4), .val (.int ((1 : Int32) + (p0 &&& (3 : Int32)))), .val (.int (own_freq_f p1)), .val (.int (own_freq_f p2)), .val (.int (own_freq_f p3)), .val (.int (own_freq_f p4)), .val (.ref b237), .unset, .unset, .unset, .unset, .unset, .unset, .unset, .unset] [(.ref b275)])) _
          refine XS.dup X287.here hx rfl (hb hby at_142) rfl rfl ?_
          show Steps p.tables e below (T287.setTop (mkF m 143 #[.val (.int p0), .val (.int p1), .val (.int p2), .val (.int p3), .val (.int p4), .val (.int ((1 : Int32) + (p0 &&& (3 : Int32)))), .val (.int (own_freq_f p1)), .val (.int (own_freq_f p2)), .val (.int (own_freq_f p3)), .val (.int (own_freq_f p4)), .val (.ref b237), .unset, .unset, .unset, .unset, .unset, .unset, .unset, .unset] [(.ref b275), (.ref b275)])) _
          refine XS.iconst X287.here hx rfl (hb hby at_143) ?_
          show Steps p.tables e below (T287.setTop (mkF m 144 #[.val (.int p0), .val (.int p1), .val (.int p2), .val (.int p3), .val (.int p4), .val (.int ((1 : Int32) + (p0 &&& (3 : Int32)))), .val (.int (own_freq_f p1)), .val (.int (own_freq_f p2)), .val (.int (own_freq_f p3)), .val (.int (own_freq_f p4)), .val (.ref b237), .unset, .unset, .unset, .unset, .unset, .unset, .unset, .unset] [(.int (1 : Int32)), (.ref b275), (.ref b275)])) _
          refine XS.iload X287.here hx rfl (hb hby at_144) rfl ?_
          show Steps p.tables e below (T287.setTop (mkF m 146 #[.val (.int p0), .val (.int p1), .val (.int p2), .val (.int p3), .val (.int p4), .val (.int ((1 : Int32) + (p0 &&& (3 : Int32)))), .val (.int (own_freq_f p1)), .val (.int (own_freq_f p2)), .val (.int (own_freq_f p3)), .val (.int (own_freq_f p4)), .val (.ref b237), .unset, .unset, .unset, .unset, .unset, .unset, .unset, .unset] [(.int (own_freq_f p2)), (.int (1 : Int32)), (.ref b275), (.ref b275)])) _
          refine st297 _ ?_
          show Steps p.tables e below (T297.setTop (mkF m 147 #[.val (.int p0), .val (.int p1), .val (.int p2), .val (.int p3), .val (.int p4), .val (.int ((1 : Int32) + (p0 &&& (3 : Int32)))), .val (.int (own_freq_f p1)), .val (.int (own_freq_f p2)), .val (.int (own_freq_f p3)), .val (.int (own_freq_f p4)), .val (.ref b237), .unset, .unset, .unset, .unset, .unset, .unset, .unset, .unset] [(.ref b275)])) _
          refine XS.dup X297.here hx rfl (hb hby at_147) rfl rfl ?_
          show Steps p.tables e below (T297.setTop (mkF m 148 #[.val (.int p0), .val (.int p1), .val (.int p2), .val (.int p3), .val (.int p4), .val (.int ((1 : Int32) + (p0 &&& (3 : Int32)))), .val (.int (own_freq_f p1)), .val (.int (own_freq_f p2)), .val (.int (own_freq_f p3)), .val (.int (own_freq_f p4)), .val (.ref b237), .unset, .unset, .unset, .unset, .unset, .unset, .unset, .unset] [(.ref b275), (.ref b275)])) _
          refine XS.iconst X297.here hx rfl (hb hby at_148) ?_
          show Steps p.tables e below (T297.setTop (mkF m 149 #[.val (.int p0), .val (.int p1), .val (.int p2), .val (.int p3), .val (.int p4), .val (.int ((1 : Int32) + (p0 &&& (3 : Int32)))), .val (.int (own_freq_f p1)), .val (.int (own_freq_f p2)), .val (.int (own_freq_f p3)), .val (.int (own_freq_f p4)), .val (.ref b237), .unset, .unset, .unset, .unset, .unset, .unset, .unset, .unset] [(.int (2 : Int32)), (.ref b275), (.ref b275)])) _
          refine XS.iload X297.here hx rfl (hb hby at_149) rfl ?_
          show Steps p.tables e below (T297.setTop (mkF m 151 #[.val (.int p0), .val (.int p1), .val (.int p2), .val (.int p3), .val (.int p4), .val (.int ((1 : Int32) + (p0 &&& (3 : Int32)))), .val (.int (own_freq_f p1)), .val (.int (own_freq_f p2)), .val (.int (own_freq_f p3)), .val (.int (own_freq_f p4)), .val (.ref b237), .unset, .unset, .unset, .unset, .unset, .unset, .unset, .unset] [(.int (own_freq_f p3)), (.int (2 : Int32)), (.ref b275), (.ref b275)])) _
          refine st307 _ ?_
          show Steps p.tables e below (T307.setTop (mkF m 152 #[.val (.int p0), .val (.int p1), .val (.int p2), .val (.int p3), .val (.int p4), .val (.int ((1 : Int32) + (p0 &&& (3 : Int32)))), .val (.int (own_freq_f p1)), .val (.int (own_freq_f p2)), .val (.int (own_freq_f p3)), .val (.int (own_freq_f p4)), .val (.ref b237), .unset, .unset, .unset, .unset, .unset, .unset, .unset, .unset] [(.ref b275)])) _
          refine XS.astore X307.here hx rfl (hb hby at_152) rfl rfl (l' := #[.val (.int p0), .val (.int p1), .val (.int p2), .val (.int p3), .val (.int p4), .val (.int ((1 : Int32) + (p0 &&& (3 : Int32)))), .val (.int (own_freq_f p1)), .val (.int (own_freq_f p2)), .val (.int (own_freq_f p3)), .val (.int (own_freq_f p4)), .val (.ref b237), .val (.ref b275), .unset, .unset, .unset, .unset, .unset, .unset, .unset]) rfl ?_
          show Steps p.tables e below (T307.setTop (mkF m 154 #[.val (.int p0), .val (.int p1), .val (.int p2), .val (.int p3), .val (.int p4), .val (.int ((1 : Int32) + (p0 &&& (3 : Int32)))), .val (.int (own_freq_f p1)), .val (.int (own_freq_f p2)), .val (.int (own_freq_f p3)), .val (.int (own_freq_f p4)), .val (.ref b237), .val (.ref b275), .unset, .unset, .unset, .unset, .unset, .unset, .unset] [])) _
          refine XS.iload X307.here hx rfl (hb hby at_154) rfl ?_
          show Steps p.tables e below (T307.setTop (mkF m 156 #[.val (.int p0), .val (.int p1), .val (.int p2), .val (.int p3), .val (.int p4), .val (.int ((1 : Int32) + (p0 &&& (3 : Int32)))), .val (.int (own_freq_f p1)), .val (.int (own_freq_f p2)), .val (.int (own_freq_f p3)), .val (.int (own_freq_f p4)), .val (.ref b237), .val (.ref b275), .unset, .unset, .unset, .unset, .unset, .unset, .unset] [(.int (own_freq_f p1))])) _
          refine XS.i2l X307.here hx rfl (hb hby at_156) rfl ?_
          show Steps p.tables e below (T307.setTop (mkF m 157 #[.val (.int p0), .val (.int p1), .val (.int p2), .val (.int p3), .val (.int p4), .val (.int ((1 : Int32) + (p0 &&& (3 : Int32)))), .val (.int (own_freq_f p1)), .val (.int (own_freq_f p2)), .val (.int (own_freq_f p3)), .val (.int (own_freq_f p4)), .val (.ref b237), .val (.ref b275), .unset, .unset, .unset, .unset, .unset, .unset, .unset] [(.long ((own_freq_f p1).toInt64))])) _
          refine XS.iload X307.here hx rfl (hb hby at_157) rfl ?_
          show Steps p.tables e below (T307.setTop (mkF m 159 #[.val (.int p0), .val (.int p1), .val (.int p2), .val (.int p3), .val (.int p4), .val (.int ((1 : Int32) + (p0 &&& (3 : Int32)))), .val (.int (own_freq_f p1)), .val (.int (own_freq_f p2)), .val (.int (own_freq_f p3)), .val (.int (own_freq_f p4)), .val (.ref b237), .val (.ref b275), .unset, .unset, .unset, .unset, .unset, .unset, .unset] [(.int (own_freq_f p2)), (.long ((own_freq_f p1).toInt64))])) _
          refine XS.i2l X307.here hx rfl (hb hby at_159) rfl ?_
          show Steps p.tables e below (T307.setTop (mkF m 160 #[.val (.int p0), .val (.int p1), .val (.int p2), .val (.int p3), .val (.int p4), .val (.int ((1 : Int32) + (p0 &&& (3 : Int32)))), .val (.int (own_freq_f p1)), .val (.int (own_freq_f p2)), .val (.int (own_freq_f p3)), .val (.int (own_freq_f p4)), .val (.ref b237), .val (.ref b275), .unset, .unset, .unset, .unset, .unset, .unset, .unset] [(.long ((own_freq_f p2).toInt64)), (.long ((own_freq_f p1).toInt64))])) _
          refine XS.ladd X307.here hx rfl (hb hby at_160) rfl ?_
          show Steps p.tables e below (T307.setTop (mkF m 161 #[.val (.int p0), .val (.int p1), .val (.int p2), .val (.int p3), .val (.int p4), .val (.int ((1 : Int32) + (p0 &&& (3 : Int32)))), .val (.int (own_freq_f p1)), .val (.int (own_freq_f p2)), .val (.int (own_freq_f p3)), .val (.int (own_freq_f p4)), .val (.ref b237), .val (.ref b275), .unset, .unset, .unset, .unset, .unset, .unset, .unset] [(.long (((own_freq_f p1).toInt64) + ((own_freq_f p2).toInt64)))])) _
          refine XS.iload X307.here hx rfl (hb hby at_161) rfl ?_
          show Steps p.tables e below (T307.setTop (mkF m 163 #[.val (.int p0), .val (.int p1), .val (.int p2), .val (.int p3), .val (.int p4), .val (.int ((1 : Int32) + (p0 &&& (3 : Int32)))), .val (.int (own_freq_f p1)), .val (.int (own_freq_f p2)), .val (.int (own_freq_f p3)), .val (.int (own_freq_f p4)), .val (.ref b237), .val (.ref b275), .unset, .unset, .unset, .unset, .unset, .unset, .unset] [(.int (own_freq_f p3)), (.long (((own_freq_f p1).toInt64) + ((own_freq_f p2).toInt64)))])) _
          refine XS.i2l X307.here hx rfl (hb hby at_163) rfl ?_
          show Steps p.tables e below (T307.setTop (mkF m 164 #[.val (.int p0), .val (.int p1), .val (.int p2), .val (.int p3), .val (.int p4), .val (.int ((1 : Int32) + (p0 &&& (3 : Int32)))), .val (.int (own_freq_f p1)), .val (.int (own_freq_f p2)), .val (.int (own_freq_f p3)), .val (.int (own_freq_f p4)), .val (.ref b237), .val (.ref b275), .unset, .unset, .unset, .unset, .unset, .unset, .unset] [(.long ((own_freq_f p3).toInt64)), (.long (((own_freq_f p1).toInt64) + ((own_freq_f p2).toInt64)))])) _
          refine XS.ladd X307.here hx rfl (hb hby at_164) rfl ?_
          show Steps p.tables e below (T307.setTop (mkF m 165 #[.val (.int p0), .val (.int p1), .val (.int p2), .val (.int p3), .val (.int p4), .val (.int ((1 : Int32) + (p0 &&& (3 : Int32)))), .val (.int (own_freq_f p1)), .val (.int (own_freq_f p2)), .val (.int (own_freq_f p3)), .val (.int (own_freq_f p4)), .val (.ref b237), .val (.ref b275), .unset, .unset, .unset, .unset, .unset, .unset, .unset] [(.long ((((own_freq_f p1).toInt64) + ((own_freq_f p2).toInt64)) + ((own_freq_f p3).toInt64)))])) _
          refine XS.lstore X307.here hx rfl (hb hby at_165) rfl (l' := #[.val (.int p0), .val (.int p1), .val (.int p2), .val (.int p3), .val (.int p4), .val (.int ((1 : Int32) + (p0 &&& (3 : Int32)))), .val (.int (own_freq_f p1)), .val (.int (own_freq_f p2)), .val (.int (own_freq_f p3)), .val (.int (own_freq_f p4)), .val (.ref b237), .val (.ref b275), .val (.long ((((own_freq_f p1).toInt64) + ((own_freq_f p2).toInt64)) + ((own_freq_f p3).toInt64))), .second, .unset, .unset, .unset, .unset, .unset]) rfl ?_
          show Steps p.tables e below (T307.setTop (mkF m 167 #[.val (.int p0), .val (.int p1), .val (.int p2), .val (.int p3), .val (.int p4), .val (.int ((1 : Int32) + (p0 &&& (3 : Int32)))), .val (.int (own_freq_f p1)), .val (.int (own_freq_f p2)), .val (.int (own_freq_f p3)), .val (.int (own_freq_f p4)), .val (.ref b237), .val (.ref b275), .val (.long ((((own_freq_f p1).toInt64) + ((own_freq_f p2).toInt64)) + ((own_freq_f p3).toInt64))), .second, .unset, .unset, .unset, .unset, .unset] [])) _
          refine XS.goto X307.here hx rfl (pc0 := 167) (pc' := 233) rfl (hb hby at_167) (by decide) (by decide) ?_
          show Steps p.tables e below (T307.setTop (mkF m 233 #[.val (.int p0), .val (.int p1), .val (.int p2), .val (.int p3), .val (.int p4), .val (.int ((1 : Int32) + (p0 &&& (3 : Int32)))), .val (.int (own_freq_f p1)), .val (.int (own_freq_f p2)), .val (.int (own_freq_f p3)), .val (.int (own_freq_f p4)), .val (.ref b237), .val (.ref b275), .val (.long ((((own_freq_f p1).toInt64) + ((own_freq_f p2).toInt64)) + ((own_freq_f p3).toInt64))), .second, .unset, .unset, .unset, .unset, .unset] [])) _
          refine st324 _ ?_
          show Steps p.tables e below (T324.setTop (mkF m 236 #[.val (.int p0), .val (.int p1), .val (.int p2), .val (.int p3), .val (.int p4), .val (.int ((1 : Int32) + (p0 &&& (3 : Int32)))), .val (.int (own_freq_f p1)), .val (.int (own_freq_f p2)), .val (.int (own_freq_f p3)), .val (.int (own_freq_f p4)), .val (.ref b237), .val (.ref b275), .val (.long ((((own_freq_f p1).toInt64) + ((own_freq_f p2).toInt64)) + ((own_freq_f p3).toInt64))), .second, .unset, .unset, .unset, .unset, .unset] [(.ref b324)])) _
          refine XS.dup X324.here hx rfl (hb hby at_236) rfl rfl ?_
          show Steps p.tables e below (T324.setTop (mkF m 237 #[.val (.int p0), .val (.int p1), .val (.int p2), .val (.int p3), .val (.int p4), .val (.int ((1 : Int32) + (p0 &&& (3 : Int32)))), .val (.int (own_freq_f p1)), .val (.int (own_freq_f p2)), .val (.int (own_freq_f p3)), .val (.int (own_freq_f p4)), .val (.ref b237), .val (.ref b275), .val (.long ((((own_freq_f p1).toInt64) + ((own_freq_f p2).toInt64)) + ((own_freq_f p3).toInt64))), .second, .unset, .unset, .unset, .unset, .unset] [(.ref b324), (.ref b324)])) _
          refine XS.aload X324.here hx rfl (hb hby at_237) rfl rfl ?_
          show Steps p.tables e below (T324.setTop (mkF m 239 #[.val (.int p0), .val (.int p1), .val (.int p2), .val (.int p3), .val (.int p4), .val (.int ((1 : Int32) + (p0 &&& (3 : Int32)))), .val (.int (own_freq_f p1)), .val (.int (own_freq_f p2)), .val (.int (own_freq_f p3)), .val (.int (own_freq_f p4)), .val (.ref b237), .val (.ref b275), .val (.long ((((own_freq_f p1).toInt64) + ((own_freq_f p2).toInt64)) + ((own_freq_f p3).toInt64))), .second, .unset, .unset, .unset, .unset, .unset] [(.ref b237), (.ref b324), (.ref b324)])) _
          refine XS.aload X324.here hx rfl (hb hby at_239) rfl rfl ?_
          show Steps p.tables e below (T324.setTop (mkF m 241 #[.val (.int p0), .val (.int p1), .val (.int p2), .val (.int p3), .val (.int p4), .val (.int ((1 : Int32) + (p0 &&& (3 : Int32)))), .val (.int (own_freq_f p1)), .val (.int (own_freq_f p2)), .val (.int (own_freq_f p3)), .val (.int (own_freq_f p4)), .val (.ref b237), .val (.ref b275), .val (.long ((((own_freq_f p1).toInt64) + ((own_freq_f p2).toInt64)) + ((own_freq_f p3).toInt64))), .second, .unset, .unset, .unset, .unset, .unset] [(.ref b275), (.ref b237), (.ref b324), (.ref b324)])) _
          refine st337.trans ?_
          show Steps p.tables e below (T337.setTop (mkF m 244 #[.val (.int p0), .val (.int p1), .val (.int p2), .val (.int p3), .val (.int p4), .val (.int ((1 : Int32) + (p0 &&& (3 : Int32)))), .val (.int (own_freq_f p1)), .val (.int (own_freq_f p2)), .val (.int (own_freq_f p3)), .val (.int (own_freq_f p4)), .val (.ref b237), .val (.ref b275), .val (.long ((((own_freq_f p1).toInt64) + ((own_freq_f p2).toInt64)) + ((own_freq_f p3).toInt64))), .second, .unset, .unset, .unset, .unset, .unset] [(.ref b324)])) _
          refine XS.astore X337.here hx rfl (hb hby at_244) rfl rfl (l' := #[.val (.int p0), .val (.int p1), .val (.int p2), .val (.int p3), .val (.int p4), .val (.int ((1 : Int32) + (p0 &&& (3 : Int32)))), .val (.int (own_freq_f p1)), .val (.int (own_freq_f p2)), .val (.int (own_freq_f p3)), .val (.int (own_freq_f p4)), .val (.ref b237), .val (.ref b275), .val (.long ((((own_freq_f p1).toInt64) + ((own_freq_f p2).toInt64)) + ((own_freq_f p3).toInt64))), .second, .val (.ref b324), .unset, .unset, .unset, .unset]) rfl ?_
          show Steps p.tables e below (T337.setTop (mkF m 246 #[.val (.int p0), .val (.int p1), .val (.int p2), .val (.int p3), .val (.int p4), .val (.int ((1 : Int32) + (p0 &&& (3 : Int32)))), .val (.int (own_freq_f p1)), .val (.int (own_freq_f p2)), .val (.int (own_freq_f p3)), .val (.int (own_freq_f p4)), .val (.ref b237), .val (.ref b275), .val (.long ((((own_freq_f p1).toInt64) + ((own_freq_f p2).toInt64)) + ((own_freq_f p3).toInt64))), .second, .val (.ref b324), .unset, .unset, .unset, .unset] [])) _
          refine XS.aload X337.here hx rfl (hb hby at_246) rfl rfl ?_
          show Steps p.tables e below (T337.setTop (mkF m 248 #[.val (.int p0), .val (.int p1), .val (.int p2), .val (.int p3), .val (.int p4), .val (.int ((1 : Int32) + (p0 &&& (3 : Int32)))), .val (.int (own_freq_f p1)), .val (.int (own_freq_f p2)), .val (.int (own_freq_f p3)), .val (.int (own_freq_f p4)), .val (.ref b237), .val (.ref b275), .val (.long ((((own_freq_f p1).toInt64) + ((own_freq_f p2).toInt64)) + ((own_freq_f p3).toInt64))), .second, .val (.ref b324), .unset, .unset, .unset, .unset] [(.ref b324)])) _
          refine st346.trans ?_
          show Steps p.tables e below (T346.setTop (mkF m 251 #[.val (.int p0), .val (.int p1), .val (.int p2), .val (.int p3), .val (.int p4), .val (.int ((1 : Int32) + (p0 &&& (3 : Int32)))), .val (.int (own_freq_f p1)), .val (.int (own_freq_f p2)), .val (.int (own_freq_f p3)), .val (.int (own_freq_f p4)), .val (.ref b237), .val (.ref b275), .val (.long ((((own_freq_f p1).toInt64) + ((own_freq_f p2).toInt64)) + ((own_freq_f p3).toInt64))), .second, .val (.ref b324), .unset, .unset, .unset, .unset] [(.long ((((0 : Int64) + ((own_freq_f p1).toInt64)) + ((own_freq_f p2).toInt64)) + ((own_freq_f p3).toInt64)))])) _
          refine XS.lstore X346.here hx rfl (hb hby at_251) rfl (l' := #[.val (.int p0), .val (.int p1), .val (.int p2), .val (.int p3), .val (.int p4), .val (.int ((1 : Int32) + (p0 &&& (3 : Int32)))), .val (.int (own_freq_f p1)), .val (.int (own_freq_f p2)), .val (.int (own_freq_f p3)), .val (.int (own_freq_f p4)), .val (.ref b237), .val (.ref b275), .val (.long ((((own_freq_f p1).toInt64) + ((own_freq_f p2).toInt64)) + ((own_freq_f p3).toInt64))), .second, .val (.ref b324), .val (.long ((((0 : Int64) + ((own_freq_f p1).toInt64)) + ((own_freq_f p2).toInt64)) + ((own_freq_f p3).toInt64))), .second, .unset, .unset]) rfl ?_
          show Steps p.tables e below (T346.setTop (mkF m 253 #[.val (.int p0), .val (.int p1), .val (.int p2), .val (.int p3), .val (.int p4), .val (.int ((1 : Int32) + (p0 &&& (3 : Int32)))), .val (.int (own_freq_f p1)), .val (.int (own_freq_f p2)), .val (.int (own_freq_f p3)), .val (.int (own_freq_f p4)), .val (.ref b237), .val (.ref b275), .val (.long ((((own_freq_f p1).toInt64) + ((own_freq_f p2).toInt64)) + ((own_freq_f p3).toInt64))), .second, .val (.ref b324), .val (.long ((((0 : Int64) + ((own_freq_f p1).toInt64)) + ((own_freq_f p2).toInt64)) + ((own_freq_f p3).toInt64))), .second, .unset, .unset] [])) _
          refine XS.aload X346.here hx rfl (hb hby at_253) rfl rfl ?_
          show Steps p.tables e below (T346.setTop (mkF m 255 #[.val (.int p0), .val (.int p1), .val (.int p2), .val (.int p3), .val (.int p4), .val (.int ((1 : Int32) + (p0 &&& (3 : Int32)))), .val (.int (own_freq_f p1)), .val (.int (own_freq_f p2)), .val (.int (own_freq_f p3)), .val (.int (own_freq_f p4)), .val (.ref b237), .val (.ref b275), .val (.long ((((own_freq_f p1).toInt64) + ((own_freq_f p2).toInt64)) + ((own_freq_f p3).toInt64))), .second, .val (.ref b324), .val (.long ((((0 : Int64) + ((own_freq_f p1).toInt64)) + ((own_freq_f p2).toInt64)) + ((own_freq_f p3).toInt64))), .second, .unset, .unset] [(.ref b324)])) _
          refine st352.trans ?_
          show Steps p.tables e below (T352.setTop (mkF m 258 #[.val (.int p0), .val (.int p1), .val (.int p2), .val (.int p3), .val (.int p4), .val (.int ((1 : Int32) + (p0 &&& (3 : Int32)))), .val (.int (own_freq_f p1)), .val (.int (own_freq_f p2)), .val (.int (own_freq_f p3)), .val (.int (own_freq_f p4)), .val (.ref b237), .val (.ref b275), .val (.long ((((own_freq_f p1).toInt64) + ((own_freq_f p2).toInt64)) + ((own_freq_f p3).toInt64))), .second, .val (.ref b324), .val (.long ((((0 : Int64) + ((own_freq_f p1).toInt64)) + ((own_freq_f p2).toInt64)) + ((own_freq_f p3).toInt64))), .second, .unset, .unset] [(.long ((((0 : Int64) + ((own_freq_f p1).toInt64)) + ((own_freq_f p2).toInt64)) + ((own_freq_f p3).toInt64)))])) _
          refine XS.lstore X352.here hx rfl (hb hby at_258) rfl (l' := #[.val (.int p0), .val (.int p1), .val (.int p2), .val (.int p3), .val (.int p4), .val (.int ((1 : Int32) + (p0 &&& (3 : Int32)))), .val (.int (own_freq_f p1)), .val (.int (own_freq_f p2)), .val (.int (own_freq_f p3)), .val (.int (own_freq_f p4)), .val (.ref b237), .val (.ref b275), .val (.long ((((own_freq_f p1).toInt64) + ((own_freq_f p2).toInt64)) + ((own_freq_f p3).toInt64))), .second, .val (.ref b324), .val (.long ((((0 : Int64) + ((own_freq_f p1).toInt64)) + ((own_freq_f p2).toInt64)) + ((own_freq_f p3).toInt64))), .second, .val (.long ((((0 : Int64) + ((own_freq_f p1).toInt64)) + ((own_freq_f p2).toInt64)) + ((own_freq_f p3).toInt64))), .second]) rfl ?_
          show Steps p.tables e below (T352.setTop (mkF m 260 #[.val (.int p0), .val (.int p1), .val (.int p2), .val (.int p3), .val (.int p4), .val (.int ((1 : Int32) + (p0 &&& (3 : Int32)))), .val (.int (own_freq_f p1)), .val (.int (own_freq_f p2)), .val (.int (own_freq_f p3)), .val (.int (own_freq_f p4)), .val (.ref b237), .val (.ref b275), .val (.long ((((own_freq_f p1).toInt64) + ((own_freq_f p2).toInt64)) + ((own_freq_f p3).toInt64))), .second, .val (.ref b324), .val (.long ((((0 : Int64) + ((own_freq_f p1).toInt64)) + ((own_freq_f p2).toInt64)) + ((own_freq_f p3).toInt64))), .second, .val (.long ((((0 : Int64) + ((own_freq_f p1).toInt64)) + ((own_freq_f p2).toInt64)) + ((own_freq_f p3).toInt64))), .second] [])) _
          refine XS.lload X352.here hx rfl (hb hby at_260) rfl ?_
          show Steps p.tables e below (T352.setTop (mkF m 262 #[.val (.int p0), .val (.int p1), .val (.int p2), .val (.int p3), .val (.int p4), .val (.int ((1 : Int32) + (p0 &&& (3 : Int32)))), .val (.int (own_freq_f p1)), .val (.int (own_freq_f p2)), .val (.int (own_freq_f p3)), .val (.int (own_freq_f p4)), .val (.ref b237), .val (.ref b275), .val (.long ((((own_freq_f p1).toInt64) + ((own_freq_f p2).toInt64)) + ((own_freq_f p3).toInt64))), .second, .val (.ref b324), .val (.long ((((0 : Int64) + ((own_freq_f p1).toInt64)) + ((own_freq_f p2).toInt64)) + ((own_freq_f p3).toInt64))), .second, .val (.long ((((0 : Int64) + ((own_freq_f p1).toInt64)) + ((own_freq_f p2).toInt64)) + ((own_freq_f p3).toInt64))), .second] [(.long ((((0 : Int64) + ((own_freq_f p1).toInt64)) + ((own_freq_f p2).toInt64)) + ((own_freq_f p3).toInt64)))])) _
          refine XS.lload X352.here hx rfl (hb hby at_262) rfl ?_
          show Steps p.tables e below (T352.setTop (mkF m 264 #[.val (.int p0), .val (.int p1), .val (.int p2), .val (.int p3), .val (.int p4), .val (.int ((1 : Int32) + (p0 &&& (3 : Int32)))), .val (.int (own_freq_f p1)), .val (.int (own_freq_f p2)), .val (.int (own_freq_f p3)), .val (.int (own_freq_f p4)), .val (.ref b237), .val (.ref b275), .val (.long ((((own_freq_f p1).toInt64) + ((own_freq_f p2).toInt64)) + ((own_freq_f p3).toInt64))), .second, .val (.ref b324), .val (.long ((((0 : Int64) + ((own_freq_f p1).toInt64)) + ((own_freq_f p2).toInt64)) + ((own_freq_f p3).toInt64))), .second, .val (.long ((((0 : Int64) + ((own_freq_f p1).toInt64)) + ((own_freq_f p2).toInt64)) + ((own_freq_f p3).toInt64))), .second] [(.long ((((own_freq_f p1).toInt64) + ((own_freq_f p2).toInt64)) + ((own_freq_f p3).toInt64))), (.long ((((0 : Int64) + ((own_freq_f p1).toInt64)) + ((own_freq_f p2).toInt64)) + ((own_freq_f p3).toInt64)))])) _
          refine XS.lcmp X352.here hx rfl (hb hby at_264) rfl ?_
          show Steps p.tables e below (T352.setTop (mkF m 265 #[.val (.int p0), .val (.int p1), .val (.int p2), .val (.int p3), .val (.int p4), .val (.int ((1 : Int32) + (p0 &&& (3 : Int32)))), .val (.int (own_freq_f p1)), .val (.int (own_freq_f p2)), .val (.int (own_freq_f p3)), .val (.int (own_freq_f p4)), .val (.ref b237), .val (.ref b275), .val (.long ((((own_freq_f p1).toInt64) + ((own_freq_f p2).toInt64)) + ((own_freq_f p3).toInt64))), .second, .val (.ref b324), .val (.long ((((0 : Int64) + ((own_freq_f p1).toInt64)) + ((own_freq_f p2).toInt64)) + ((own_freq_f p3).toInt64))), .second, .val (.long ((((0 : Int64) + ((own_freq_f p1).toInt64)) + ((own_freq_f p2).toInt64)) + ((own_freq_f p3).toInt64))), .second] [(.int (lcmpW ((((0 : Int64) + ((own_freq_f p1).toInt64)) + ((own_freq_f p2).toInt64)) + ((own_freq_f p3).toInt64)) ((((own_freq_f p1).toInt64) + ((own_freq_f p2).toInt64)) + ((own_freq_f p3).toInt64))))])) _
          refine XS.ifNo X352.here hx rfl (hb hby at_265) rfl ((if0 _ _).trans (teq (own_lcEq.mpr (by rw [Int64.zero_add] : ((((0 : Int64) + ((own_freq_f p1).toInt64)) + ((own_freq_f p2).toInt64)) + ((own_freq_f p3).toInt64)) = ((((own_freq_f p1).toInt64) + ((own_freq_f p2).toInt64)) + ((own_freq_f p3).toInt64))))).2) ?_
          show Steps p.tables e below (T352.setTop (mkF m 268 #[.val (.int p0), .val (.int p1), .val (.int p2), .val (.int p3), .val (.int p4), .val (.int ((1 : Int32) + (p0 &&& (3 : Int32)))), .val (.int (own_freq_f p1)), .val (.int (own_freq_f p2)), .val (.int (own_freq_f p3)), .val (.int (own_freq_f p4)), .val (.ref b237), .val (.ref b275), .val (.long ((((own_freq_f p1).toInt64) + ((own_freq_f p2).toInt64)) + ((own_freq_f p3).toInt64))), .second, .val (.ref b324), .val (.long ((((0 : Int64) + ((own_freq_f p1).toInt64)) + ((own_freq_f p2).toInt64)) + ((own_freq_f p3).toInt64))), .second, .val (.long ((((0 : Int64) + ((own_freq_f p1).toInt64)) + ((own_freq_f p2).toInt64)) + ((own_freq_f p3).toInt64))), .second] [])) _
          refine XS.lload X352.here hx rfl (hb hby at_268) rfl ?_
          show Steps p.tables e below (T352.setTop (mkF m 270 #[.val (.int p0), .val (.int p1), .val (.int p2), .val (.int p3), .val (.int p4), .val (.int ((1 : Int32) + (p0 &&& (3 : Int32)))), .val (.int (own_freq_f p1)), .val (.int (own_freq_f p2)), .val (.int (own_freq_f p3)), .val (.int (own_freq_f p4)), .val (.ref b237), .val (.ref b275), .val (.long ((((own_freq_f p1).toInt64) + ((own_freq_f p2).toInt64)) + ((own_freq_f p3).toInt64))), .second, .val (.ref b324), .val (.long ((((0 : Int64) + ((own_freq_f p1).toInt64)) + ((own_freq_f p2).toInt64)) + ((own_freq_f p3).toInt64))), .second, .val (.long ((((0 : Int64) + ((own_freq_f p1).toInt64)) + ((own_freq_f p2).toInt64)) + ((own_freq_f p3).toInt64))), .second] [(.long ((((0 : Int64) + ((own_freq_f p1).toInt64)) + ((own_freq_f p2).toInt64)) + ((own_freq_f p3).toInt64)))])) _
          refine XS.lload X352.here hx rfl (hb hby at_270) rfl ?_
          show Steps p.tables e below (T352.setTop (mkF m 272 #[.val (.int p0), .val (.int p1), .val (.int p2), .val (.int p3), .val (.int p4), .val (.int ((1 : Int32) + (p0 &&& (3 : Int32)))), .val (.int (own_freq_f p1)), .val (.int (own_freq_f p2)), .val (.int (own_freq_f p3)), .val (.int (own_freq_f p4)), .val (.ref b237), .val (.ref b275), .val (.long ((((own_freq_f p1).toInt64) + ((own_freq_f p2).toInt64)) + ((own_freq_f p3).toInt64))), .second, .val (.ref b324), .val (.long ((((0 : Int64) + ((own_freq_f p1).toInt64)) + ((own_freq_f p2).toInt64)) + ((own_freq_f p3).toInt64))), .second, .val (.long ((((0 : Int64) + ((own_freq_f p1).toInt64)) + ((own_freq_f p2).toInt64)) + ((own_freq_f p3).toInt64))), .second] [(.long ((((own_freq_f p1).toInt64) + ((own_freq_f p2).toInt64)) + ((own_freq_f p3).toInt64))), (.long ((((0 : Int64) + ((own_freq_f p1).toInt64)) + ((own_freq_f p2).toInt64)) + ((own_freq_f p3).toInt64)))])) _
          refine XS.lcmp X352.here hx rfl (hb hby at_272) rfl ?_
          show Steps p.tables e below (T352.setTop (mkF m 273 #[.val (.int p0), .val (.int p1), .val (.int p2), .val (.int p3), .val (.int p4), .val (.int ((1 : Int32) + (p0 &&& (3 : Int32)))), .val (.int (own_freq_f p1)), .val (.int (own_freq_f p2)), .val (.int (own_freq_f p3)), .val (.int (own_freq_f p4)), .val (.ref b237), .val (.ref b275), .val (.long ((((own_freq_f p1).toInt64) + ((own_freq_f p2).toInt64)) + ((own_freq_f p3).toInt64))), .second, .val (.ref b324), .val (.long ((((0 : Int64) + ((own_freq_f p1).toInt64)) + ((own_freq_f p2).toInt64)) + ((own_freq_f p3).toInt64))), .second, .val (.long ((((0 : Int64) + ((own_freq_f p1).toInt64)) + ((own_freq_f p2).toInt64)) + ((own_freq_f p3).toInt64))), .second] [(.int (lcmpW ((((0 : Int64) + ((own_freq_f p1).toInt64)) + ((own_freq_f p2).toInt64)) + ((own_freq_f p3).toInt64)) ((((own_freq_f p1).toInt64) + ((own_freq_f p2).toInt64)) + ((own_freq_f p3).toInt64))))])) _
          refine XS.ifNo X352.here hx rfl (hb hby at_273) rfl ((if0 _ _).trans (teq (own_lcEq.mpr (by rw [Int64.zero_add] : ((((0 : Int64) + ((own_freq_f p1).toInt64)) + ((own_freq_f p2).toInt64)) + ((own_freq_f p3).toInt64)) = ((((own_freq_f p1).toInt64) + ((own_freq_f p2).toInt64)) + ((own_freq_f p3).toInt64))))).2) ?_
          show Steps p.tables e below (T352.setTop (mkF m 276 #[.val (.int p0), .val (.int p1), .val (.int p2), .val (.int p3), .val (.int p4), .val (.int ((1 : Int32) + (p0 &&& (3 : Int32)))), .val (.int (own_freq_f p1)), .val (.int (own_freq_f p2)), .val (.int (own_freq_f p3)), .val (.int (own_freq_f p4)), .val (.ref b237), .val (.ref b275), .val (.long ((((own_freq_f p1).toInt64) + ((own_freq_f p2).toInt64)) + ((own_freq_f p3).toInt64))), .second, .val (.ref b324), .val (.long ((((0 : Int64) + ((own_freq_f p1).toInt64)) + ((own_freq_f p2).toInt64)) + ((own_freq_f p3).toInt64))), .second, .val (.long ((((0 : Int64) + ((own_freq_f p1).toInt64)) + ((own_freq_f p2).toInt64)) + ((own_freq_f p3).toInt64))), .second] [])) _
          refine XS.iconst X352.here hx rfl (hb hby at_276) ?_
          show Steps p.tables e below (T352.setTop (mkF m 277 #[.val (.int p0), .val (.int p1), .val (.int p2), .val (.int p3), .val (.int p4), .val (.int ((1 : Int32) + (p0 &&& (3 : Int32)))), .val (.int (own_freq_f p1)), .val (.int (own_freq_f p2)), .val (.int (own_freq_f p3)), .val (.int (own_freq_f p4)), .val (.ref b237), .val (.ref b275), .val (.long ((((own_freq_f p1).toInt64) + ((own_freq_f p2).toInt64)) + ((own_freq_f p3).toInt64))), .second, .val (.ref b324), .val (.long ((((0 : Int64) + ((own_freq_f p1).toInt64)) + ((own_freq_f p2).toInt64)) + ((own_freq_f p3).toInt64))), .second, .val (.long ((((0 : Int64) + ((own_freq_f p1).toInt64)) + ((own_freq_f p2).toInt64)) + ((own_freq_f p3).toInt64))), .second] [(.int (1 : Int32))])) _
          refine XS.goto X352.here hx rfl (pc0 := 277) (pc' := 281) rfl (hb hby at_277) (by decide) (by decide) ?_
          show Steps p.tables e below (T352.setTop (mkF m 281 #[.val (.int p0), .val (.int p1), .val (.int p2), .val (.int p3), .val (.int p4), .val (.int ((1 : Int32) + (p0 &&& (3 : Int32)))), .val (.int (own_freq_f p1)), .val (.int (own_freq_f p2)), .val (.int (own_freq_f p3)), .val (.int (own_freq_f p4)), .val (.ref b237), .val (.ref b275), .val (.long ((((own_freq_f p1).toInt64) + ((own_freq_f p2).toInt64)) + ((own_freq_f p3).toInt64))), .second, .val (.ref b324), .val (.long ((((0 : Int64) + ((own_freq_f p1).toInt64)) + ((own_freq_f p2).toInt64)) + ((own_freq_f p3).toInt64))), .second, .val (.long ((((0 : Int64) + ((own_freq_f p1).toInt64)) + ((own_freq_f p2).toInt64)) + ((own_freq_f p3).toInt64))), .second] [(.int (1 : Int32))])) _
          exact retN X352 hx (t := .boolean) Bd.returns (by simp) (hb hby at_281) hr
        · show Qown_law Z p0 p1 p2 p3 p4 h0 n0 _ T352.heap _
          rw [eh352]
          exact ⟨rfl, N353⟩
      · obtain ⟨T368, h368, k368, X368, e368, E368, A368, Y368, st368⟩ := newPE X24 hx hZ (hw _ (List.mem_of_getElem? (i := 9) rfl)) eh24 (g := (mkF m 171 #[.val (.int p0), .val (.int p1), .val (.int p2), .val (.int p3), .val (.int p4), .val (.int ((1 : Int32) + (p0 &&& (3 : Int32)))), .val (.int (own_freq_f p1)), .val (.int (own_freq_f p2)), .val (.int (own_freq_f p3)), .val (.int (own_freq_f p4)), .unset, .unset, .unset, .unset, .unset, .unset, .unset, .unset, .unset] [(.int (4 : Int32))])) rfl (hb hby at_171) rfl (by decide) (cap := 4) (by decide) (by decide) (by decide) (by decide) (ad := "[I") (by first | rfl | decide)
        obtain ⟨b368, g368⟩ : ∃ z, z = h0.size := ⟨_, rfl⟩
        rw [← g368] at A368 Y368 st368
        have Ge369 : n0 ≤ b368 := Nat.le_trans Z0 (Nat.le_of_eq g368.symm)
        have Sz370 : h0.size ≤ b368 := Nat.le_trans (Keep.refl h0 []).1 (Nat.le_of_eq g368.symm)
        have Kc371 : Keep h0 h368 [] := (Keep.refl h0 []).ext E368
        have Zs372 : n0 ≤ h368.size := (Nat.le_trans Z0 E368.1)
        have V368 : Arv Z h368 b368 k368 .int (4 : Int32) [(.int (0 : Int32)), (.int (0 : Int32)), (.int (0 : Int32)), (.int (0 : Int32))] (.int (0 : Int32)) := (Arv.new A368 (by decide)).pad (pad_rep [] (.int (0 : Int32)) 4)
        obtain ⟨cl377, Ar377, q377, S377, M377, H377, G377⟩ := id V368
        have hin377 : ¬ ((0 : Int32) < 0 ∨ cl377.slots.size ≤ ((0 : Int32)).toNatClampNeg) := inb_of S377 ⟨by decide, by decide⟩
        obtain ⟨T378, h378, X378, e378, W378, st378⟩ := stI X368 hx hZ e368 Ar377 (j := (0 : Int32)) hin377 (g := (mkF m 176 #[.val (.int p0), .val (.int p1), .val (.int p2), .val (.int p3), .val (.int p4), .val (.int ((1 : Int32) + (p0 &&& (3 : Int32)))), .val (.int (own_freq_f p1)), .val (.int (own_freq_f p2)), .val (.int (own_freq_f p3)), .val (.int (own_freq_f p4)), .unset, .unset, .unset, .unset, .unset, .unset, .unset, .unset, .unset] [(.int (0 : Int32)), (.int (0 : Int32)), (.ref b368), (.ref b368)])) rfl rfl (hb hby at_176)
        have Kc380 : Keep h0 h378 [] := Kc371.wr W378 (Or.inr Sz370)
        have Zs381 : n0 ≤ h378.size := Nat.le_trans Zs372 (Keep.of_wr W378).1
        have N382 := Fr.snoc X378 N25 Ge369
        have Vm379 : Arv Z h378 b368 k368 .int (4 : Int32) [(.int (0 : Int32)), (.int (0 : Int32)), (.int (0 : Int32)), (.int (0 : Int32))] (.int (0 : Int32)) := Arv.set Ar377 q377 S377 M377 H377 G377 rfl W378 0 rfl (Nat.le_of_ble_eq_true rfl)
        obtain ⟨cl387, Ar387, q387, S387, M387, H387, G387⟩ := id Vm379
        have hin387 : ¬ ((1 : Int32) < 0 ∨ cl387.slots.size ≤ ((1 : Int32)).toNatClampNeg) := inb_of S387 ⟨by decide, by decide⟩
        obtain ⟨T388, h388, X388, e388, W388, st388⟩ := stI X378 hx hZ e378 Ar387 (j := (1 : Int32)) hin387 (g := (mkF m 180 #[.val (.int p0), .val (.int p1), .val (.int p2), .val (.int p3), .val (.int p4), .val (.int ((1 : Int32) + (p0 &&& (3 : Int32)))), .val (.int (own_freq_f p1)), .val (.int (own_freq_f p2)), .val (.int (own_freq_f p3)), .val (.int (own_freq_f p4)), .unset, .unset, .unset, .unset, .unset, .unset, .unset, .unset, .unset] [(.int (1 : Int32)), (.int (1 : Int32)), (.ref b368), (.ref b368)])) rfl rfl (hb hby at_180)
        have Kc390 : Keep h0 h388 [] := Kc380.wr W388 (Or.inr Sz370)
        have Zs391 : n0 ≤ h388.size := Nat.le_trans Zs381 (Keep.of_wr W388).1
        have N392 := Fr.snoc X388 N382 Ge369
        have Vm389 : Arv Z h388 b368 k368 .int (4 : Int32) [(.int (0 : Int32)), (.int (1 : Int32)), (.int (0 : Int32)), (.int (0 : Int32))] (.int (0 : Int32)) := Arv.set Ar387 q387 S387 M387 H387 G387 rfl W388 1 rfl (Nat.le_of_ble_eq_true rfl)
        obtain ⟨cl397, Ar397, q397, S397, M397, H397, G397⟩ := id Vm389
        have hin397 : ¬ ((2 : Int32) < 0 ∨ cl397.slots.size ≤ ((2 : Int32)).toNatClampNeg) := inb_of S397 ⟨by decide, by decide⟩
        obtain ⟨T398, h398, X398, e398, W398, st398⟩ := stI X388 hx hZ e388 Ar397 (j := (2 : Int32)) hin397 (g := (mkF m 184 #[.val (.int p0), .val (.int p1), .val (.int p2), .val (.int p3), .val (.int p4), .val (.int ((1 : Int32) + (p0 &&& (3 : Int32)))), .val (.int (own_freq_f p1)), .val (.int (own_freq_f p2)), .val (.int (own_freq_f p3)), .val (.int (own_freq_f p4)), .unset, .unset, .unset, .unset, .unset, .unset, .unset, .unset, .unset] [(.int (2 : Int32)), (.int (2 : Int32)), (.ref b368), (.ref b368)])) rfl rfl (hb hby at_184)
        have Kc400 : Keep h0 h398 [] := Kc390.wr W398 (Or.inr Sz370)
        have Zs401 : n0 ≤ h398.size := Nat.le_trans Zs391 (Keep.of_wr W398).1
        have N402 := Fr.snoc X398 N392 Ge369
        have Vm399 : Arv Z h398 b368 k368 .int (4 : Int32) [(.int (0 : Int32)), (.int (1 : Int32)), (.int (2 : Int32)), (.int (0 : Int32))] (.int (0 : Int32)) := Arv.set Ar397 q397 S397 M397 H397 G397 rfl W398 2 rfl (Nat.le_of_ble_eq_true rfl)
        obtain ⟨cl407, Ar407, q407, S407, M407, H407, G407⟩ := id Vm399
        have hin407 : ¬ ((3 : Int32) < 0 ∨ cl407.slots.size ≤ ((3 : Int32)).toNatClampNeg) := inb_of S407 ⟨by decide, by decide⟩
        obtain ⟨T408, h408, X408, e408, W408, st408⟩ := stI X398 hx hZ e398 Ar407 (j := (3 : Int32)) hin407 (g := (mkF m 188 #[.val (.int p0), .val (.int p1), .val (.int p2), .val (.int p3), .val (.int p4), .val (.int ((1 : Int32) + (p0 &&& (3 : Int32)))), .val (.int (own_freq_f p1)), .val (.int (own_freq_f p2)), .val (.int (own_freq_f p3)), .val (.int (own_freq_f p4)), .unset, .unset, .unset, .unset, .unset, .unset, .unset, .unset, .unset] [(.int (3 : Int32)), (.int (3 : Int32)), (.ref b368), (.ref b368)])) rfl rfl (hb hby at_188)
        have Kc410 : Keep h0 h408 [] := Kc400.wr W408 (Or.inr Sz370)
        have Zs411 : n0 ≤ h408.size := Nat.le_trans Zs401 (Keep.of_wr W408).1
        have N412 := Fr.snoc X408 N402 Ge369
        have Vm409 : Arv Z h408 b368 k368 .int (4 : Int32) [(.int (0 : Int32)), (.int (1 : Int32)), (.int (2 : Int32)), (.int (3 : Int32))] (.int (0 : Int32)) := Arv.set Ar407 q407 S407 M407 H407 G407 rfl W408 3 rfl (Nat.le_of_ble_eq_true rfl)
        obtain ⟨T416, h416, k416, X416, e416, E416, A416, Y416, st416⟩ := newPE X408 hx hZ (hw _ (List.mem_of_getElem? (i := 9) rfl)) e408 (g := (mkF m 192 #[.val (.int p0), .val (.int p1), .val (.int p2), .val (.int p3), .val (.int p4), .val (.int ((1 : Int32) + (p0 &&& (3 : Int32)))), .val (.int (own_freq_f p1)), .val (.int (own_freq_f p2)), .val (.int (own_freq_f p3)), .val (.int (own_freq_f p4)), .val (.ref b368), .unset, .unset, .unset, .unset, .unset, .unset, .unset, .unset] [(.int (4 : Int32))])) rfl (hb hby at_192) rfl (by decide) (cap := 4) (by decide) (by decide) (by decide) (by decide) (ad := "[I") (by first | rfl | decide)
        obtain ⟨b416, g416⟩ : ∃ z, z = h408.size := ⟨_, rfl⟩
        rw [← g416] at A416 Y416 st416
        have Fq418 : Exa Z h408 b368 "[I" := ((((Y368.wr W378).wr W388).wr W398).wr W408)
        have Ne417 : b368 ≠ b416 := Nat.ne_of_lt (Nat.lt_of_lt_of_le Fq418.lt (Nat.le_of_eq g416.symm))
        have Ge419 : n0 ≤ b416 := Nat.le_trans Zs411 (Nat.le_of_eq g416.symm)
        have Sz420 : h0.size ≤ b416 := Nat.le_trans Kc410.1 (Nat.le_of_eq g416.symm)
        have Kc421 : Keep h0 h416 [] := Kc410.ext E416
        have Zs422 : n0 ≤ h416.size := (Nat.le_trans Zs411 E416.1)
        have V416 : Arv Z h416 b416 k416 .int (4 : Int32) [(.int (0 : Int32)), (.int (0 : Int32)), (.int (0 : Int32)), (.int (0 : Int32))] (.int (0 : Int32)) := (Arv.new A416 (by decide)).pad (pad_rep [] (.int (0 : Int32)) 4)
        obtain ⟨cl427, Ar427, q427, S427, M427, H427, G427⟩ := id V416
        have hin427 : ¬ ((0 : Int32) < 0 ∨ cl427.slots.size ≤ ((0 : Int32)).toNatClampNeg) := inb_of S427 ⟨by decide, by decide⟩
        obtain ⟨T428, h428, X428, e428, W428, st428⟩ := stI X416 hx hZ e416 Ar427 (j := (0 : Int32)) hin427 (g := (mkF m 198 #[.val (.int p0), .val (.int p1), .val (.int p2), .val (.int p3), .val (.int p4), .val (.int ((1 : Int32) + (p0 &&& (3 : Int32)))), .val (.int (own_freq_f p1)), .val (.int (own_freq_f p2)), .val (.int (own_freq_f p3)), .val (.int (own_freq_f p4)), .val (.ref b368), .unset, .unset, .unset, .unset, .unset, .unset, .unset, .unset] [(.int (own_freq_f p1)), (.int (0 : Int32)), (.ref b416), (.ref b416)])) rfl rfl (hb hby at_198)
        have Kc430 : Keep h0 h428 [] := Kc421.wr W428 (Or.inr Sz420)
        have Zs431 : n0 ≤ h428.size := Nat.le_trans Zs422 (Keep.of_wr W428).1
        have N432 := Fr.snoc X428 N412 Ge419
        have Vm429 : Arv Z h428 b416 k416 .int (4 : Int32) [(.int (own_freq_f p1)), (.int (0 : Int32)), (.int (0 : Int32)), (.int (0 : Int32))] (.int (0 : Int32)) := Arv.set Ar427 q427 S427 M427 H427 G427 rfl W428 0 rfl (Nat.le_of_ble_eq_true rfl)
        obtain ⟨cl437, Ar437, q437, S437, M437, H437, G437⟩ := id Vm429
        have hin437 : ¬ ((1 : Int32) < 0 ∨ cl437.slots.size ≤ ((1 : Int32)).toNatClampNeg) := inb_of S437 ⟨by decide, by decide⟩
        obtain ⟨T438, h438, X438, e438, W438, st438⟩ := stI X428 hx hZ e428 Ar437 (j := (1 : Int32)) hin437 (g := (mkF m 203 #[.val (.int p0), .val (.int p1), .val (.int p2), .val (.int p3), .val (.int p4), .val (.int ((1 : Int32) + (p0 &&& (3 : Int32)))), .val (.int (own_freq_f p1)), .val (.int (own_freq_f p2)), .val (.int (own_freq_f p3)), .val (.int (own_freq_f p4)), .val (.ref b368), .unset, .unset, .unset, .unset, .unset, .unset, .unset, .unset] [(.int (own_freq_f p2)), (.int (1 : Int32)), (.ref b416), (.ref b416)])) rfl rfl (hb hby at_203)
        have Kc440 : Keep h0 h438 [] := Kc430.wr W438 (Or.inr Sz420)
        have Zs441 : n0 ≤ h438.size := Nat.le_trans Zs431 (Keep.of_wr W438).1
        have N442 := Fr.snoc X438 N432 Ge419
        have Vm439 : Arv Z h438 b416 k416 .int (4 : Int32) [(.int (own_freq_f p1)), (.int (own_freq_f p2)), (.int (0 : Int32)), (.int (0 : Int32))] (.int (0 : Int32)) := Arv.set Ar437 q437 S437 M437 H437 G437 rfl W438 1 rfl (Nat.le_of_ble_eq_true rfl)
        obtain ⟨cl447, Ar447, q447, S447, M447, H447, G447⟩ := id Vm439
        have hin447 : ¬ ((2 : Int32) < 0 ∨ cl447.slots.size ≤ ((2 : Int32)).toNatClampNeg) := inb_of S447 ⟨by decide, by decide⟩
        obtain ⟨T448, h448, X448, e448, W448, st448⟩ := stI X438 hx hZ e438 Ar447 (j := (2 : Int32)) hin447 (g := (mkF m 208 #[.val (.int p0), .val (.int p1), .val (.int p2), .val (.int p3), .val (.int p4), .val (.int ((1 : Int32) + (p0 &&& (3 : Int32)))), .val (.int (own_freq_f p1)), .val (.int (own_freq_f p2)), .val (.int (own_freq_f p3)), .val (.int (own_freq_f p4)), .val (.ref b368), .unset, .unset, .unset, .unset, .unset, .unset, .unset, .unset] [(.int (own_freq_f p3)), (.int (2 : Int32)), (.ref b416), (.ref b416)])) rfl rfl (hb hby at_208)
        have Kc450 : Keep h0 h448 [] := Kc440.wr W448 (Or.inr Sz420)
        have Zs451 : n0 ≤ h448.size := Nat.le_trans Zs441 (Keep.of_wr W448).1
        have N452 := Fr.snoc X448 N442 Ge419
        have Vm449 : Arv Z h448 b416 k416 .int (4 : Int32) [(.int (own_freq_f p1)), (.int (own_freq_f p2)), (.int (own_freq_f p3)), (.int (0 : Int32))] (.int (0 : Int32)) := Arv.set Ar447 q447 S447 M447 H447 G447 rfl W448 2 rfl (Nat.le_of_ble_eq_true rfl)
        obtain ⟨cl457, Ar457, q457, S457, M457, H457, G457⟩ := id Vm449
        have hin457 : ¬ ((3 : Int32) < 0 ∨ cl457.slots.size ≤ ((3 : Int32)).toNatClampNeg) := inb_of S457 ⟨by decide, by decide⟩
        obtain ⟨T458, h458, X458, e458, W458, st458⟩ := stI X448 hx hZ e448 Ar457 (j := (3 : Int32)) hin457 (g := (mkF m 213 #[.val (.int p0), .val (.int p1), .val (.int p2), .val (.int p3), .val (.int p4), .val (.int ((1 : Int32) + (p0 &&& (3 : Int32)))), .val (.int (own_freq_f p1)), .val (.int (own_freq_f p2)), .val (.int (own_freq_f p3)), .val (.int (own_freq_f p4)), .val (.ref b368), .unset, .unset, .unset, .unset, .unset, .unset, .unset, .unset] [(.int (own_freq_f p4)), (.int (3 : Int32)), (.ref b416), (.ref b416)])) rfl rfl (hb hby at_213)
        have Kc460 : Keep h0 h458 [] := Kc450.wr W458 (Or.inr Sz420)
        have Zs461 : n0 ≤ h458.size := Nat.le_trans Zs451 (Keep.of_wr W458).1
        have N462 := Fr.snoc X458 N452 Ge419
        have Vm459 : Arv Z h458 b416 k416 .int (4 : Int32) [(.int (own_freq_f p1)), (.int (own_freq_f p2)), (.int (own_freq_f p3)), (.int (own_freq_f p4))] (.int (0 : Int32)) := Arv.set Ar457 q457 S457 M457 H457 G457 rfl W458 3 rfl (Nat.le_of_ble_eq_true rfl)
        obtain ⟨T477, h477, X477, e477, E477, A477, D477, -, st477⟩ := newO X458 hx hZ hown (hw _ (List.mem_of_getElem? (i := 10) rfl)) (hw _ (List.mem_of_getElem? (i := 11) rfl)) (hw _ (List.mem_of_getElem? (i := 12) rfl)) e458 (g := (mkF m 233 #[.val (.int p0), .val (.int p1), .val (.int p2), .val (.int p3), .val (.int p4), .val (.int ((1 : Int32) + (p0 &&& (3 : Int32)))), .val (.int (own_freq_f p1)), .val (.int (own_freq_f p2)), .val (.int (own_freq_f p3)), .val (.int (own_freq_f p4)), .val (.ref b368), .val (.ref b416), .val (.long (((((own_freq_f p1).toInt64) + ((own_freq_f p2).toInt64)) + ((own_freq_f p3).toInt64)) + ((own_freq_f p4).toInt64))), .second, .unset, .unset, .unset, .unset, .unset] [])) rfl (hb hby at_233) (by decide) (by decide)
        obtain ⟨b477, g477⟩ : ∃ z, z = h458.size := ⟨_, rfl⟩
        rw [← g477] at A477 D477 st477
        have Fq479 : Exa Z h458 b368 "[I" := (((((Fq418.ext E416).wr W428).wr W438).wr W448).wr W458)
        have Ne478 : b368 ≠ b477 := Nat.ne_of_lt (Nat.lt_of_lt_of_le Fq479.lt (Nat.le_of_eq g477.symm))
        have Fq481 : Exa Z h458 b416 "[I" := ((((Y416.wr W428).wr W438).wr W448).wr W458)
        have Ne480 : b416 ≠ b477 := Nat.ne_of_lt (Nat.lt_of_lt_of_le Fq481.lt (Nat.le_of_eq g477.symm))
        have Ge482 : n0 ≤ b477 := Nat.le_trans Zs461 (Nat.le_of_eq g477.symm)
        have Sz483 : h0.size ≤ b477 := Nat.le_trans Kc460.1 (Nat.le_of_eq g477.symm)
        have Kc484 : Keep h0 h477 [] := Kc460.ext E477
        have Zs485 : n0 ≤ h477.size := (Nat.le_trans Zs461 E477.1)
        have F477_documents : Fld Z h477 b477 "com/example/merit/merit/Postings" "documents" "[I" .null := D477 (Or.inr (hw _ (List.mem_of_getElem? (i := 20) rfl))) (ty := (.array .int)) (by decide)
        have F477_frequencies : Fld Z h477 b477 "com/example/merit/merit/Postings" "frequencies" "[I" .null := D477 (Or.inr (hw _ (List.mem_of_getElem? (i := 22) rfl))) (ty := (.array .int)) (by decide)
        have Fq491 : Arv Z h477 b368 k368 .int (4 : Int32) [(.int (0 : Int32)), (.int (1 : Int32)), (.int (2 : Int32)), (.int (3 : Int32))] (.int (0 : Int32)) := ((((((Vm409.ext E416).other W428 Ne417).other W438 Ne417).other W448 Ne417).other W458 Ne417).ext E477)
        have Fq492 : Arv Z h477 b416 k416 .int (4 : Int32) [(.int (own_freq_f p1)), (.int (own_freq_f p2)), (.int (own_freq_f p3)), (.int (own_freq_f p4))] (.int (0 : Int32)) := (Vm459.ext E477)
        obtain ⟨_, _, ⟨T490, L490, k490, n490⟩, -, X490, ⟨Lc490, hQ490, l490, y490, z490⟩, st490⟩ := X477.specialBack hx (y := (⟨"com/example/merit/merit/Postings", "<init>", "([I[I)V"⟩ : MethodName)) rfl hown (mvT hZ (hw _ (List.mem_of_getElem? (i := 13) rfl))) (mvT hZ (hw _ (List.mem_of_getElem? (i := 14) rfl))) (mvT hZ (hw _ (List.mem_of_getElem? (i := 15) rfl))) (by decide) (backOf (W := 1) (own_rmI l Z a0 hw [] b477 b368 b416 k368 k416 (4 : Int32) [(.int (0 : Int32)), (.int (1 : Int32)), (.int (2 : Int32)), (.int (3 : Int32))] [(.int (own_freq_f p1)), (.int (own_freq_f p2)), (.int (own_freq_f p3)), (.int (own_freq_f p4))] h477 n0 Zs485 A477 F477_documents F477_frequencies Fq491 Fq492 Ge482) hZ (hw _ (List.mem_of_getElem? (i := 15) rfl)) (hw _ (List.mem_of_getElem? (i := 12) rfl)) (by decide) (by decide)) (g := (mkF m 241 #[.val (.int p0), .val (.int p1), .val (.int p2), .val (.int p3), .val (.int p4), .val (.int ((1 : Int32) + (p0 &&& (3 : Int32)))), .val (.int (own_freq_f p1)), .val (.int (own_freq_f p2)), .val (.int (own_freq_f p3)), .val (.int (own_freq_f p4)), .val (.ref b368), .val (.ref b416), .val (.long (((((own_freq_f p1).toInt64) + ((own_freq_f p2).toInt64)) + ((own_freq_f p3).toInt64)) + ((own_freq_f p4).toInt64))), .second, .unset, .unset, .unset, .unset, .unset] [(.ref b416), (.ref b368), (.ref b477), (.ref b477)])) rfl (by rw [hml]; rfl) (Steps.refl _) (a := b477) (argsL := [(.ref b368), (.ref b416)]) (rest := [(.ref b477)]) (lenOf own_pd2 rfl) rfl (by show 2 * 0 + _ ≤ _; exact Nat.le_of_eq rfl) (hb hby at_241) (fun _ _ => ⟨rfl, e477, (by decide : 3 + 0 ≤ _), (by decide : 10 + 0 ≤ _)⟩)
        dsimp only [Pt.U, Pt.locs, Pt.cells, Pt.slots] at X490 l490 y490 z490 st490 hQ490
        subst l490 y490 z490
        obtain ⟨rfl, Nq490, K490, Pf490_0, Pf490_1, Pf490_2⟩ := hQ490
        have N493 := Fr.app N462 Nq490
        have Kc494 : Keep h0 T490.heap [] := Kc484.trans K490 (allS (Or.inr Sz483) all0)
        have Zs495 : n0 ≤ T490.heap.size := Nat.le_trans Zs485 K490.1
        have Fq500 : Arv Z T490.heap b416 k416 .int (4 : Int32) [(.int (own_freq_f p1)), (.int (own_freq_f p2)), (.int (own_freq_f p3)), (.int (own_freq_f p4))] (.int (0 : Int32)) := (Fq492.keep K490 (ninS Ne480 nin0))
        obtain ⟨cq499, kq499, q499a, q499b, q499c⟩ := isOf hZ rfl Pf490_0
        obtain ⟨_, _, ⟨T499, L499, k499, n499⟩, -, X499, ⟨Lc499, hQ499, l499, y499, z499⟩, st499⟩ := X490.virtualBack hx (y := (⟨"com/example/merit/merit/Postings", "collectionFrequency", "()J"⟩ : MethodName)) (z := (⟨"com/example/merit/merit/Postings", "collectionFrequency", "()J"⟩ : MethodName)) hown (mvT hZ (hw _ (List.mem_of_getElem? (i := 23) rfl))) (mvT hZ (hw _ (List.mem_of_getElem? (i := 24) rfl))) (notFace_of_selects (args := #[]) (mvT hZ (hw _ (List.mem_of_getElem? (i := 26) rfl)))) (mvT hZ (hw _ (List.mem_of_getElem? (i := 26) rfl))) (mvT hZ (hw _ (List.mem_of_getElem? (i := 25) rfl))) (by decide) (backOf (W := 0) (own_cf4 l Z a0 hw [] b477 b416 k416 (own_freq_f p1) (own_freq_f p2) (own_freq_f p3) (own_freq_f p4) T490.heap n0 Zs495 Pf490_2 Fq500) hZ (hw _ (List.mem_of_getElem? (i := 27) rfl)) (hw _ (List.mem_of_getElem? (i := 12) rfl)) (by decide) (by decide)) q499a q499c (g := (mkF m 248 #[.val (.int p0), .val (.int p1), .val (.int p2), .val (.int p3), .val (.int p4), .val (.int ((1 : Int32) + (p0 &&& (3 : Int32)))), .val (.int (own_freq_f p1)), .val (.int (own_freq_f p2)), .val (.int (own_freq_f p3)), .val (.int (own_freq_f p4)), .val (.ref b368), .val (.ref b416), .val (.long (((((own_freq_f p1).toInt64) + ((own_freq_f p2).toInt64)) + ((own_freq_f p3).toInt64)) + ((own_freq_f p4).toInt64))), .second, .val (.ref b477), .unset, .unset, .unset, .unset] [(.ref b477)])) rfl (by rw [hml]; rfl) (Steps.refl _) (argsL := []) (rest := []) (lenOf own_pd3 rfl) rfl (by show 2 * 0 + _ ≤ _; exact Nat.le_of_eq rfl) (hb hby at_248) (fun _ _ => ⟨rfl, rfl, (by decide : 3 + 0 ≤ _), (by decide : 10 + 0 ≤ _)⟩)
        dsimp only [Pt.U, Pt.locs, Pt.cells, Pt.slots] at X499 l499 y499 z499 st499 hQ499
        subst l499 y499 z499
        obtain ⟨rfl, Nq499, eh499⟩ := hQ499
        have N501 := Fr.app N493 Nq499
        obtain ⟨cq505, kq505, q505a, q505b, q505c⟩ := isOf hZ eh499 Pf490_0
        obtain ⟨_, _, ⟨T505, L505, k505, n505⟩, -, X505, ⟨Lc505, hQ505, l505, y505, z505⟩, st505⟩ := X499.virtualBack hx (y := (⟨"com/example/merit/merit/Postings", "collectionFrequency", "()J"⟩ : MethodName)) (z := (⟨"com/example/merit/merit/Postings", "collectionFrequency", "()J"⟩ : MethodName)) hown (mvT hZ (hw _ (List.mem_of_getElem? (i := 23) rfl))) (mvT hZ (hw _ (List.mem_of_getElem? (i := 24) rfl))) (notFace_of_selects (args := #[]) (mvT hZ (hw _ (List.mem_of_getElem? (i := 26) rfl)))) (mvT hZ (hw _ (List.mem_of_getElem? (i := 26) rfl))) (mvT hZ (hw _ (List.mem_of_getElem? (i := 25) rfl))) (by decide) (backOf (W := 0) (own_cf4 l Z a0 hw [] b477 b416 k416 (own_freq_f p1) (own_freq_f p2) (own_freq_f p3) (own_freq_f p4) T490.heap n0 Zs495 Pf490_2 Fq500) hZ (hw _ (List.mem_of_getElem? (i := 27) rfl)) (hw _ (List.mem_of_getElem? (i := 12) rfl)) (by decide) (by decide)) q505a q505c (g := (mkF m 255 #[.val (.int p0), .val (.int p1), .val (.int p2), .val (.int p3), .val (.int p4), .val (.int ((1 : Int32) + (p0 &&& (3 : Int32)))), .val (.int (own_freq_f p1)), .val (.int (own_freq_f p2)), .val (.int (own_freq_f p3)), .val (.int (own_freq_f p4)), .val (.ref b368), .val (.ref b416), .val (.long (((((own_freq_f p1).toInt64) + ((own_freq_f p2).toInt64)) + ((own_freq_f p3).toInt64)) + ((own_freq_f p4).toInt64))), .second, .val (.ref b477), .val (.long (((((0 : Int64) + ((own_freq_f p1).toInt64)) + ((own_freq_f p2).toInt64)) + ((own_freq_f p3).toInt64)) + ((own_freq_f p4).toInt64))), .second, .unset, .unset] [(.ref b477)])) rfl (by rw [hml]; rfl) (Steps.refl _) (argsL := []) (rest := []) (lenOf own_pd3 rfl) rfl (by show 2 * 0 + _ ≤ _; exact Nat.le_of_eq rfl) (hb hby at_255) (fun _ _ => ⟨rfl, eh499, (by decide : 3 + 0 ≤ _), (by decide : 10 + 0 ≤ _)⟩)
        dsimp only [Pt.U, Pt.locs, Pt.cells, Pt.slots] at X505 l505 y505 z505 st505 hQ505
        subst l505 y505 z505
        obtain ⟨rfl, Nq505, eh505⟩ := hQ505
        have N506 := Fr.app N501 Nq505
        obtain ⟨fs, hr, hrun, hended, hW, hsame⟩ := X505.leave (v := some (.int (1 : Int32))) (fun h => by rw [Bd.returns] at h; cases h) (hlocks := BodyLoose.notSynchronized Bd)
        refine ⟨_, _, pre233 _ ?_, hrun, hended, _, _, rfl, ?_, ⟨_, rfl⟩, hW, hsame.mono (by decide) (by decide)⟩
        · show Steps p.tables e below (T24.setTop (mkF m 114 #[.val (.int p0), .val (.int p1), .val (.int p2), .val (.int p3), .val (.int p4), .val (.int ((1 : Int32) + (p0 &&& (3 : Int32)))), .val (.int (own_freq_f p1)), .val (.int (own_freq_f p2)), .val (.int (own_freq_f p3)), .val (.int (own_freq_f p4)), .unset, .unset, .unset, .unset, .unset, .unset, .unset, .unset, .unset] [(.int (3 : Int32)), (.int ((1 : Int32) + (p0 &&& (3 : Int32))))])) _
          refine XS.icmpYes X24.here hx rfl (pc0 := 114) (pc' := 170) rfl (hb hby at_114) rfl (feq hc114_234).2 (by decide) (by decide) ?_
          show Steps p.tables e below (T24.setTop (mkF m 170 #[.val (.int p0), .val (.int p1), .val (.int p2), .val (.int p3), .val (.int p4), .val (.int ((1 : Int32) + (p0 &&& (3 : Int32)))), .val (.int (own_freq_f p1)), .val (.int (own_freq_f p2)), .val (.int (own_freq_f p3)), .val (.int (own_freq_f p4)), .unset, .unset, .unset, .unset, .unset, .unset, .unset, .unset, .unset] [])) _
          refine XS.iconst X24.here hx rfl (hb hby at_170) ?_
          show Steps p.tables e below (T24.setTop (mkF m 171 #[.val (.int p0), .val (.int p1), .val (.int p2), .val (.int p3), .val (.int p4), .val (.int ((1 : Int32) + (p0 &&& (3 : Int32)))), .val (.int (own_freq_f p1)), .val (.int (own_freq_f p2)), .val (.int (own_freq_f p3)), .val (.int (own_freq_f p4)), .unset, .unset, .unset, .unset, .unset, .unset, .unset, .unset, .unset] [(.int (4 : Int32))])) _
          refine st368 _ ?_
          show Steps p.tables e below (T368.setTop (mkF m 173 #[.val (.int p0), .val (.int p1), .val (.int p2), .val (.int p3), .val (.int p4), .val (.int ((1 : Int32) + (p0 &&& (3 : Int32)))), .val (.int (own_freq_f p1)), .val (.int (own_freq_f p2)), .val (.int (own_freq_f p3)), .val (.int (own_freq_f p4)), .unset, .unset, .unset, .unset, .unset, .unset, .unset, .unset, .unset] [(.ref b368)])) _
          refine XS.dup X368.here hx rfl (hb hby at_173) rfl rfl ?_
          show Steps p.tables e below (T368.setTop (mkF m 174 #[.val (.int p0), .val (.int p1), .val (.int p2), .val (.int p3), .val (.int p4), .val (.int ((1 : Int32) + (p0 &&& (3 : Int32)))), .val (.int (own_freq_f p1)), .val (.int (own_freq_f p2)), .val (.int (own_freq_f p3)), .val (.int (own_freq_f p4)), .unset, .unset, .unset, .unset, .unset, .unset, .unset, .unset, .unset] [(.ref b368), (.ref b368)])) _
          refine XS.iconst X368.here hx rfl (hb hby at_174) ?_
          show Steps p.tables e below (T368.setTop (mkF m 175 #[.val (.int p0), .val (.int p1), .val (.int p2), .val (.int p3), .val (.int p4), .val (.int ((1 : Int32) + (p0 &&& (3 : Int32)))), .val (.int (own_freq_f p1)), .val (.int (own_freq_f p2)), .val (.int (own_freq_f p3)), .val (.int (own_freq_f p4)), .unset, .unset, .unset, .unset, .unset, .unset, .unset, .unset, .unset] [(.int (0 : Int32)), (.ref b368), (.ref b368)])) _
          refine XS.iconst X368.here hx rfl (hb hby at_175) ?_
          show Steps p.tables e below (T368.setTop (mkF m 176 #[.val (.int p0), .val (.int p1), .val (.int p2), .val (.int p3), .val (.int p4), .val (.int ((1 : Int32) + (p0 &&& (3 : Int32)))), .val (.int (own_freq_f p1)), .val (.int (own_freq_f p2)), .val (.int (own_freq_f p3)), .val (.int (own_freq_f p4)), .unset, .unset, .unset, .unset, .unset, .unset, .unset, .unset, .unset] [(.int (0 : Int32)), (.int (0 : Int32)), (.ref b368), (.ref b368)])) _
          refine st378 _ ?_
          show Steps p.tables e below (T378.setTop (mkF m 177 #[.val (.int p0), .val (.int p1), .val (.int p2), .val (.int p3), .val (.int p4), .val (.int ((1 : Int32) + (p0 &&& (3 : Int32)))), .val (.int (own_freq_f p1)), .val (.int (own_freq_f p2)), .val (.int (own_freq_f p3)), .val (.int (own_freq_f p4)), .unset, .unset, .unset, .unset, .unset, .unset, .unset, .unset, .unset] [(.ref b368)])) _
          refine XS.dup X378.here hx rfl (hb hby at_177) rfl rfl ?_
          show Steps p.tables e below (T378.setTop (mkF m 178 #[.val (.int p0), .val (.int p1), .val (.int p2), .val (.int p3), .val (.int p4), .val (.int ((1 : Int32) + (p0 &&& (3 : Int32)))), .val (.int (own_freq_f p1)), .val (.int (own_freq_f p2)), .val (.int (own_freq_f p3)), .val (.int (own_freq_f p4)), .unset, .unset, .unset, .unset, .unset, .unset, .unset, .unset, .unset] [(.ref b368), (.ref b368)])) _
          refine XS.iconst X378.here hx rfl (hb hby at_178) ?_
          show Steps p.tables e below (T378.setTop (mkF m 179 #[.val (.int p0), .val (.int p1), .val (.int p2), .val (.int p3), .val (.int p4), .val (.int ((1 : Int32) + (p0 &&& (3 : Int32)))), .val (.int (own_freq_f p1)), .val (.int (own_freq_f p2)), .val (.int (own_freq_f p3)), .val (.int (own_freq_f p4)), .unset, .unset, .unset, .unset, .unset, .unset, .unset, .unset, .unset] [(.int (1 : Int32)), (.ref b368), (.ref b368)])) _
          refine XS.iconst X378.here hx rfl (hb hby at_179) ?_
          show Steps p.tables e below (T378.setTop (mkF m 180 #[.val (.int p0), .val (.int p1), .val (.int p2), .val (.int p3), .val (.int p4), .val (.int ((1 : Int32) + (p0 &&& (3 : Int32)))), .val (.int (own_freq_f p1)), .val (.int (own_freq_f p2)), .val (.int (own_freq_f p3)), .val (.int (own_freq_f p4)), .unset, .unset, .unset, .unset, .unset, .unset, .unset, .unset, .unset] [(.int (1 : Int32)), (.int (1 : Int32)), (.ref b368), (.ref b368)])) _
          refine st388 _ ?_
          show Steps p.tables e below (T388.setTop (mkF m 181 #[.val (.int p0), .val (.int p1), .val (.int p2), .val (.int p3), .val (.int p4), .val (.int ((1 : Int32) + (p0 &&& (3 : Int32)))), .val (.int (own_freq_f p1)), .val (.int (own_freq_f p2)), .val (.int (own_freq_f p3)), .val (.int (own_freq_f p4)), .unset, .unset, .unset, .unset, .unset, .unset, .unset, .unset, .unset] [(.ref b368)])) _
          refine XS.dup X388.here hx rfl (hb hby at_181) rfl rfl ?_
          show Steps p.tables e below (T388.setTop (mkF m 182 #[.val (.int p0), .val (.int p1), .val (.int p2), .val (.int p3), .val (.int p4), .val (.int ((1 : Int32) + (p0 &&& (3 : Int32)))), .val (.int (own_freq_f p1)), .val (.int (own_freq_f p2)), .val (.int (own_freq_f p3)), .val (.int (own_freq_f p4)), .unset, .unset, .unset, .unset, .unset, .unset, .unset, .unset, .unset] [(.ref b368), (.ref b368)])) _
          refine XS.iconst X388.here hx rfl (hb hby at_182) ?_
          show Steps p.tables e below (T388.setTop (mkF m 183 #[.val (.int p0), .val (.int p1), .val (.int p2), .val (.int p3), .val (.int p4), .val (.int ((1 : Int32) + (p0 &&& (3 : Int32)))), .val (.int (own_freq_f p1)), .val (.int (own_freq_f p2)), .val (.int (own_freq_f p3)), .val (.int (own_freq_f p4)), .unset, .unset, .unset, .unset, .unset, .unset, .unset, .unset, .unset] [(.int (2 : Int32)), (.ref b368), (.ref b368)])) _
          refine XS.iconst X388.here hx rfl (hb hby at_183) ?_
          show Steps p.tables e below (T388.setTop (mkF m 184 #[.val (.int p0), .val (.int p1), .val (.int p2), .val (.int p3), .val (.int p4), .val (.int ((1 : Int32) + (p0 &&& (3 : Int32)))), .val (.int (own_freq_f p1)), .val (.int (own_freq_f p2)), .val (.int (own_freq_f p3)), .val (.int (own_freq_f p4)), .unset, .unset, .unset, .unset, .unset, .unset, .unset, .unset, .unset] [(.int (2 : Int32)), (.int (2 : Int32)), (.ref b368), (.ref b368)])) _
          refine st398 _ ?_
          show Steps p.tables e below (T398.setTop (mkF m 185 #[.val (.int p0), .val (.int p1), .val (.int p2), .val (.int p3), .val (.int p4), .val (.int ((1 : Int32) + (p0 &&& (3 : Int32)))), .val (.int (own_freq_f p1)), .val (.int (own_freq_f p2)), .val (.int (own_freq_f p3)), .val (.int (own_freq_f p4)), .unset, .unset, .unset, .unset, .unset, .unset, .unset, .unset, .unset] [(.ref b368)])) _
          refine XS.dup X398.here hx rfl (hb hby at_185) rfl rfl ?_
          show Steps p.tables e below (T398.setTop (mkF m 186 #[.val (.int p0), .val (.int p1), .val (.int p2), .val (.int p3), .val (.int p4), .val (.int ((1 : Int32) + (p0 &&& (3 : Int32)))), .val (.int (own_freq_f p1)), .val (.int (own_freq_f p2)), .val (.int (own_freq_f p3)), .val (.int (own_freq_f p4)), .unset, .unset, .unset, .unset, .unset, .unset, .unset, .unset, .unset] [(.ref b368), (.ref b368)])) _
          refine XS.iconst X398.here hx rfl (hb hby at_186) ?_
          show Steps p.tables e below (T398.setTop (mkF m 187 #[.val (.int p0), .val (.int p1), .val (.int p2), .val (.int p3), .val (.int p4), .val (.int ((1 : Int32) + (p0 &&& (3 : Int32)))), .val (.int (own_freq_f p1)), .val (.int (own_freq_f p2)), .val (.int (own_freq_f p3)), .val (.int (own_freq_f p4)), .unset, .unset, .unset, .unset, .unset, .unset, .unset, .unset, .unset] [(.int (3 : Int32)), (.ref b368), (.ref b368)])) _
          refine XS.iconst X398.here hx rfl (hb hby at_187) ?_
          show Steps p.tables e below (T398.setTop (mkF m 188 #[.val (.int p0), .val (.int p1), .val (.int p2), .val (.int p3), .val (.int p4), .val (.int ((1 : Int32) + (p0 &&& (3 : Int32)))), .val (.int (own_freq_f p1)), .val (.int (own_freq_f p2)), .val (.int (own_freq_f p3)), .val (.int (own_freq_f p4)), .unset, .unset, .unset, .unset, .unset, .unset, .unset, .unset, .unset] [(.int (3 : Int32)), (.int (3 : Int32)), (.ref b368), (.ref b368)])) _
          refine st408 _ ?_
          show Steps p.tables e below (T408.setTop (mkF m 189 #[.val (.int p0), .val (.int p1), .val (.int p2), .val (.int p3), .val (.int p4), .val (.int ((1 : Int32) + (p0 &&& (3 : Int32)))), .val (.int (own_freq_f p1)), .val (.int (own_freq_f p2)), .val (.int (own_freq_f p3)), .val (.int (own_freq_f p4)), .unset, .unset, .unset, .unset, .unset, .unset, .unset, .unset, .unset] [(.ref b368)])) _
          refine XS.astore X408.here hx rfl (hb hby at_189) rfl rfl (l' := #[.val (.int p0), .val (.int p1), .val (.int p2), .val (.int p3), .val (.int p4), .val (.int ((1 : Int32) + (p0 &&& (3 : Int32)))), .val (.int (own_freq_f p1)), .val (.int (own_freq_f p2)), .val (.int (own_freq_f p3)), .val (.int (own_freq_f p4)), .val (.ref b368), .unset, .unset, .unset, .unset, .unset, .unset, .unset, .unset]) rfl ?_
          show Steps p.tables e below (T408.setTop (mkF m 191 #[.val (.int p0), .val (.int p1), .val (.int p2), .val (.int p3), .val (.int p4), .val (.int ((1 : Int32) + (p0 &&& (3 : Int32)))), .val (.int (own_freq_f p1)), .val (.int (own_freq_f p2)), .val (.int (own_freq_f p3)), .val (.int (own_freq_f p4)), .val (.ref b368), .unset, .unset, .unset, .unset, .unset, .unset, .unset, .unset] [])) _
          refine XS.iconst X408.here hx rfl (hb hby at_191) ?_
          show Steps p.tables e below (T408.setTop (mkF m 192 #[.val (.int p0), .val (.int p1), .val (.int p2), .val (.int p3), .val (.int p4), .val (.int ((1 : Int32) + (p0 &&& (3 : Int32)))), .val (.int (own_freq_f p1)), .val (.int (own_freq_f p2)), .val (.int (own_freq_f p3)), .val (.int (own_freq_f p4)), .val (.ref b368), .unset, .unset, .unset, .unset, .unset, .unset, .unset, .unset] [(.int (4 : Int32))])) _
          refine st416 _ ?_
          show Steps p.tables e below (T416.setTop (mkF m 194 #[.val (.int p0), .val (.int p1), .val (.int p2), .val (.int p3), .val (.int p4), .val (.int ((1 : Int32) + (p0 &&& (3 : Int32)))), .val (.int (own_freq_f p1)), .val (.int (own_freq_f p2)), .val (.int (own_freq_f p3)), .val (.int (own_freq_f p4)), .val (.ref b368), .unset, .unset, .unset, .unset, .unset, .unset, .unset, .unset] [(.ref b416)])) _
          refine XS.dup X416.here hx rfl (hb hby at_194) rfl rfl ?_
          show Steps p.tables e below (T416.setTop (mkF m 195 #[.val (.int p0), .val (.int p1), .val (.int p2), .val (.int p3), .val (.int p4), .val (.int ((1 : Int32) + (p0 &&& (3 : Int32)))), .val (.int (own_freq_f p1)), .val (.int (own_freq_f p2)), .val (.int (own_freq_f p3)), .val (.int (own_freq_f p4)), .val (.ref b368), .unset, .unset, .unset, .unset, .unset, .unset, .unset, .unset] [(.ref b416), (.ref b416)])) _
          refine XS.iconst X416.here hx rfl (hb hby at_195) ?_
          show Steps p.tables e below (T416.setTop (mkF m 196 #[.val (.int p0), .val (.int p1), .val (.int p2), .val (.int p3), .val (.int p4), .val (.int ((1 : Int32) + (p0 &&& (3 : Int32)))), .val (.int (own_freq_f p1)), .val (.int (own_freq_f p2)), .val (.int (own_freq_f p3)), .val (.int (own_freq_f p4)), .val (.ref b368), .unset, .unset, .unset, .unset, .unset, .unset, .unset, .unset] [(.int (0 : Int32)), (.ref b416), (.ref b416)])) _
          refine XS.iload X416.here hx rfl (hb hby at_196) rfl ?_
          show Steps p.tables e below (T416.setTop (mkF m 198 #[.val (.int p0), .val (.int p1), .val (.int p2), .val (.int p3), .val (.int p4), .val (.int ((1 : Int32) + (p0 &&& (3 : Int32)))), .val (.int (own_freq_f p1)), .val (.int (own_freq_f p2)), .val (.int (own_freq_f p3)), .val (.int (own_freq_f p4)), .val (.ref b368), .unset, .unset, .unset, .unset, .unset, .unset, .unset, .unset] [(.int (own_freq_f p1)), (.int (0 : Int32)), (.ref b416), (.ref b416)])) _
          refine st428 _ ?_
          show Steps p.tables e below (T428.setTop (mkF m 199 #[.val (.int p0), .val (.int p1), .val (.int p2), .val (.int p3), .val (.int p4), .val (.int ((1 : Int32) + (p0 &&& (3 : Int32)))), .val (.int (own_freq_f p1)), .val (.int (own_freq_f p2)), .val (.int (own_freq_f p3)), .val (.int (own_freq_f p4)), .val (.ref b368), .unset, .unset, .unset, .unset, .unset, .unset, .unset, .unset] [(.ref b416)])) _
          refine XS.dup X428.here hx rfl (hb hby at_199) rfl rfl ?_
          show Steps p.tables e below (T428.setTop (mkF m 200 #[.val (.int p0), .val (.int p1), .val (.int p2), .val (.int p3), .val (.int p4), .val (.int ((1 : Int32) + (p0 &&& (3 : Int32)))), .val (.int (own_freq_f p1)), .val (.int (own_freq_f p2)), .val (.int (own_freq_f p3)), .val (.int (own_freq_f p4)), .val (.ref b368), .unset, .unset, .unset, .unset, .unset, .unset, .unset, .unset] [(.ref b416), (.ref b416)])) _
          refine XS.iconst X428.here hx rfl (hb hby at_200) ?_
          show Steps p.tables e below (T428.setTop (mkF m 201 #[.val (.int p0), .val (.int p1), .val (.int p2), .val (.int p3), .val (.int p4), .val (.int ((1 : Int32) + (p0 &&& (3 : Int32)))), .val (.int (own_freq_f p1)), .val (.int (own_freq_f p2)), .val (.int (own_freq_f p3)), .val (.int (own_freq_f p4)), .val (.ref b368), .unset, .unset, .unset, .unset, .unset, .unset, .unset, .unset] [(.int (1 : Int32)), (.ref b416), (.ref b416)])) _
          refine XS.iload X428.here hx rfl (hb hby at_201) rfl ?_
          show Steps p.tables e below (T428.setTop (mkF m 203 #[.val (.int p0), .val (.int p1), .val (.int p2), .val (.int p3), .val (.int p4), .val (.int ((1 : Int32) + (p0 &&& (3 : Int32)))), .val (.int (own_freq_f p1)), .val (.int (own_freq_f p2)), .val (.int (own_freq_f p3)), .val (.int (own_freq_f p4)), .val (.ref b368), .unset, .unset, .unset, .unset, .unset, .unset, .unset, .unset] [(.int (own_freq_f p2)), (.int (1 : Int32)), (.ref b416), (.ref b416)])) _
          refine st438 _ ?_
          show Steps p.tables e below (T438.setTop (mkF m 204 #[.val (.int p0), .val (.int p1), .val (.int p2), .val (.int p3), .val (.int p4), .val (.int ((1 : Int32) + (p0 &&& (3 : Int32)))), .val (.int (own_freq_f p1)), .val (.int (own_freq_f p2)), .val (.int (own_freq_f p3)), .val (.int (own_freq_f p4)), .val (.ref b368), .unset, .unset, .unset, .unset, .unset, .unset, .unset, .unset] [(.ref b416)])) _
          refine XS.dup X438.here hx rfl (hb hby at_204) rfl rfl ?_
          show Steps p.tables e below (T438.setTop (mkF m 205 #[.val (.int p0), .val (.int p1), .val (.int p2), .val (.int p3), .val (.int p4), .val (.int ((1 : Int32) + (p0 &&& (3 : Int32)))), .val (.int (own_freq_f p1)), .val (.int (own_freq_f p2)), .val (.int (own_freq_f p3)), .val (.int (own_freq_f p4)), .val (.ref b368), .unset, .unset, .unset, .unset, .unset, .unset, .unset, .unset] [(.ref b416), (.ref b416)])) _
          refine XS.iconst X438.here hx rfl (hb hby at_205) ?_
          show Steps p.tables e below (T438.setTop (mkF m 206 #[.val (.int p0), .val (.int p1), .val (.int p2), .val (.int p3), .val (.int p4), .val (.int ((1 : Int32) + (p0 &&& (3 : Int32)))), .val (.int (own_freq_f p1)), .val (.int (own_freq_f p2)), .val (.int (own_freq_f p3)), .val (.int (own_freq_f p4)), .val (.ref b368), .unset, .unset, .unset, .unset, .unset, .unset, .unset, .unset] [(.int (2 : Int32)), (.ref b416), (.ref b416)])) _
          refine XS.iload X438.here hx rfl (hb hby at_206) rfl ?_
          show Steps p.tables e below (T438.setTop (mkF m 208 #[.val (.int p0), .val (.int p1), .val (.int p2), .val (.int p3), .val (.int p4), .val (.int ((1 : Int32) + (p0 &&& (3 : Int32)))), .val (.int (own_freq_f p1)), .val (.int (own_freq_f p2)), .val (.int (own_freq_f p3)), .val (.int (own_freq_f p4)), .val (.ref b368), .unset, .unset, .unset, .unset, .unset, .unset, .unset, .unset] [(.int (own_freq_f p3)), (.int (2 : Int32)), (.ref b416), (.ref b416)])) _
          refine st448 _ ?_
          show Steps p.tables e below (T448.setTop (mkF m 209 #[.val (.int p0), .val (.int p1), .val (.int p2), .val (.int p3), .val (.int p4), .val (.int ((1 : Int32) + (p0 &&& (3 : Int32)))), .val (.int (own_freq_f p1)), .val (.int (own_freq_f p2)), .val (.int (own_freq_f p3)), .val (.int (own_freq_f p4)), .val (.ref b368), .unset, .unset, .unset, .unset, .unset, .unset, .unset, .unset] [(.ref b416)])) _
          refine XS.dup X448.here hx rfl (hb hby at_209) rfl rfl ?_
          show Steps p.tables e below (T448.setTop (mkF m 210 #[.val (.int p0), .val (.int p1), .val (.int p2), .val (.int p3), .val (.int p4), .val (.int ((1 : Int32) + (p0 &&& (3 : Int32)))), .val (.int (own_freq_f p1)), .val (.int (own_freq_f p2)), .val (.int (own_freq_f p3)), .val (.int (own_freq_f p4)), .val (.ref b368), .unset, .unset, .unset, .unset, .unset, .unset, .unset, .unset] [(.ref b416), (.ref b416)])) _
          refine XS.iconst X448.here hx rfl (hb hby at_210) ?_
          show Steps p.tables e below (T448.setTop (mkF m 211 #[.val (.int p0), .val (.int p1), .val (.int p2), .val (.int p3), .val (.int p4), .val (.int ((1 : Int32) + (p0 &&& (3 : Int32)))), .val (.int (own_freq_f p1)), .val (.int (own_freq_f p2)), .val (.int (own_freq_f p3)), .val (.int (own_freq_f p4)), .val (.ref b368), .unset, .unset, .unset, .unset, .unset, .unset, .unset, .unset] [(.int (3 : Int32)), (.ref b416), (.ref b416)])) _
          refine XS.iload X448.here hx rfl (hb hby at_211) rfl ?_
          show Steps p.tables e below (T448.setTop (mkF m 213 #[.val (.int p0), .val (.int p1), .val (.int p2), .val (.int p3), .val (.int p4), .val (.int ((1 : Int32) + (p0 &&& (3 : Int32)))), .val (.int (own_freq_f p1)), .val (.int (own_freq_f p2)), .val (.int (own_freq_f p3)), .val (.int (own_freq_f p4)), .val (.ref b368), .unset, .unset, .unset, .unset, .unset, .unset, .unset, .unset] [(.int (own_freq_f p4)), (.int (3 : Int32)), (.ref b416), (.ref b416)])) _
          refine st458 _ ?_
          show Steps p.tables e below (T458.setTop (mkF m 214 #[.val (.int p0), .val (.int p1), .val (.int p2), .val (.int p3), .val (.int p4), .val (.int ((1 : Int32) + (p0 &&& (3 : Int32)))), .val (.int (own_freq_f p1)), .val (.int (own_freq_f p2)), .val (.int (own_freq_f p3)), .val (.int (own_freq_f p4)), .val (.ref b368), .unset, .unset, .unset, .unset, .unset, .unset, .unset, .unset] [(.ref b416)])) _
          refine XS.astore X458.here hx rfl (hb hby at_214) rfl rfl (l' := #[.val (.int p0), .val (.int p1), .val (.int p2), .val (.int p3), .val (.int p4), .val (.int ((1 : Int32) + (p0 &&& (3 : Int32)))), .val (.int (own_freq_f p1)), .val (.int (own_freq_f p2)), .val (.int (own_freq_f p3)), .val (.int (own_freq_f p4)), .val (.ref b368), .val (.ref b416), .unset, .unset, .unset, .unset, .unset, .unset, .unset]) rfl ?_
          show Steps p.tables e below (T458.setTop (mkF m 216 #[.val (.int p0), .val (.int p1), .val (.int p2), .val (.int p3), .val (.int p4), .val (.int ((1 : Int32) + (p0 &&& (3 : Int32)))), .val (.int (own_freq_f p1)), .val (.int (own_freq_f p2)), .val (.int (own_freq_f p3)), .val (.int (own_freq_f p4)), .val (.ref b368), .val (.ref b416), .unset, .unset, .unset, .unset, .unset, .unset, .unset] [])) _
          refine XS.iload X458.here hx rfl (hb hby at_216) rfl ?_
          show Steps p.tables e below (T458.setTop (mkF m 218 #[.val (.int p0), .val (.int p1), .val (.int p2), .val (.int p3), .val (.int p4), .val (.int ((1 : Int32) + (p0 &&& (3 : Int32)))), .val (.int (own_freq_f p1)), .val (.int (own_freq_f p2)), .val (.int (own_freq_f p3)), .val (.int (own_freq_f p4)), .val (.ref b368), .val (.ref b416), .unset, .unset, .unset, .unset, .unset, .unset, .unset] [(.int (own_freq_f p1))])) _
          refine XS.i2l X458.here hx rfl (hb hby at_218) rfl ?_
          show Steps p.tables e below (T458.setTop (mkF m 219 #[.val (.int p0), .val (.int p1), .val (.int p2), .val (.int p3), .val (.int p4), .val (.int ((1 : Int32) + (p0 &&& (3 : Int32)))), .val (.int (own_freq_f p1)), .val (.int (own_freq_f p2)), .val (.int (own_freq_f p3)), .val (.int (own_freq_f p4)), .val (.ref b368), .val (.ref b416), .unset, .unset, .unset, .unset, .unset, .unset, .unset] [(.long ((own_freq_f p1).toInt64))])) _
          refine XS.iload X458.here hx rfl (hb hby at_219) rfl ?_
          show Steps p.tables e below (T458.setTop (mkF m 221 #[.val (.int p0), .val (.int p1), .val (.int p2), .val (.int p3), .val (.int p4), .val (.int ((1 : Int32) + (p0 &&& (3 : Int32)))), .val (.int (own_freq_f p1)), .val (.int (own_freq_f p2)), .val (.int (own_freq_f p3)), .val (.int (own_freq_f p4)), .val (.ref b368), .val (.ref b416), .unset, .unset, .unset, .unset, .unset, .unset, .unset] [(.int (own_freq_f p2)), (.long ((own_freq_f p1).toInt64))])) _
          refine XS.i2l X458.here hx rfl (hb hby at_221) rfl ?_
          show Steps p.tables e below (T458.setTop (mkF m 222 #[.val (.int p0), .val (.int p1), .val (.int p2), .val (.int p3), .val (.int p4), .val (.int ((1 : Int32) + (p0 &&& (3 : Int32)))), .val (.int (own_freq_f p1)), .val (.int (own_freq_f p2)), .val (.int (own_freq_f p3)), .val (.int (own_freq_f p4)), .val (.ref b368), .val (.ref b416), .unset, .unset, .unset, .unset, .unset, .unset, .unset] [(.long ((own_freq_f p2).toInt64)), (.long ((own_freq_f p1).toInt64))])) _
          refine XS.ladd X458.here hx rfl (hb hby at_222) rfl ?_
          show Steps p.tables e below (T458.setTop (mkF m 223 #[.val (.int p0), .val (.int p1), .val (.int p2), .val (.int p3), .val (.int p4), .val (.int ((1 : Int32) + (p0 &&& (3 : Int32)))), .val (.int (own_freq_f p1)), .val (.int (own_freq_f p2)), .val (.int (own_freq_f p3)), .val (.int (own_freq_f p4)), .val (.ref b368), .val (.ref b416), .unset, .unset, .unset, .unset, .unset, .unset, .unset] [(.long (((own_freq_f p1).toInt64) + ((own_freq_f p2).toInt64)))])) _
          refine XS.iload X458.here hx rfl (hb hby at_223) rfl ?_
          show Steps p.tables e below (T458.setTop (mkF m 225 #[.val (.int p0), .val (.int p1), .val (.int p2), .val (.int p3), .val (.int p4), .val (.int ((1 : Int32) + (p0 &&& (3 : Int32)))), .val (.int (own_freq_f p1)), .val (.int (own_freq_f p2)), .val (.int (own_freq_f p3)), .val (.int (own_freq_f p4)), .val (.ref b368), .val (.ref b416), .unset, .unset, .unset, .unset, .unset, .unset, .unset] [(.int (own_freq_f p3)), (.long (((own_freq_f p1).toInt64) + ((own_freq_f p2).toInt64)))])) _
          refine XS.i2l X458.here hx rfl (hb hby at_225) rfl ?_
          show Steps p.tables e below (T458.setTop (mkF m 226 #[.val (.int p0), .val (.int p1), .val (.int p2), .val (.int p3), .val (.int p4), .val (.int ((1 : Int32) + (p0 &&& (3 : Int32)))), .val (.int (own_freq_f p1)), .val (.int (own_freq_f p2)), .val (.int (own_freq_f p3)), .val (.int (own_freq_f p4)), .val (.ref b368), .val (.ref b416), .unset, .unset, .unset, .unset, .unset, .unset, .unset] [(.long ((own_freq_f p3).toInt64)), (.long (((own_freq_f p1).toInt64) + ((own_freq_f p2).toInt64)))])) _
          refine XS.ladd X458.here hx rfl (hb hby at_226) rfl ?_
          show Steps p.tables e below (T458.setTop (mkF m 227 #[.val (.int p0), .val (.int p1), .val (.int p2), .val (.int p3), .val (.int p4), .val (.int ((1 : Int32) + (p0 &&& (3 : Int32)))), .val (.int (own_freq_f p1)), .val (.int (own_freq_f p2)), .val (.int (own_freq_f p3)), .val (.int (own_freq_f p4)), .val (.ref b368), .val (.ref b416), .unset, .unset, .unset, .unset, .unset, .unset, .unset] [(.long ((((own_freq_f p1).toInt64) + ((own_freq_f p2).toInt64)) + ((own_freq_f p3).toInt64)))])) _
          refine XS.iload X458.here hx rfl (hb hby at_227) rfl ?_
          show Steps p.tables e below (T458.setTop (mkF m 229 #[.val (.int p0), .val (.int p1), .val (.int p2), .val (.int p3), .val (.int p4), .val (.int ((1 : Int32) + (p0 &&& (3 : Int32)))), .val (.int (own_freq_f p1)), .val (.int (own_freq_f p2)), .val (.int (own_freq_f p3)), .val (.int (own_freq_f p4)), .val (.ref b368), .val (.ref b416), .unset, .unset, .unset, .unset, .unset, .unset, .unset] [(.int (own_freq_f p4)), (.long ((((own_freq_f p1).toInt64) + ((own_freq_f p2).toInt64)) + ((own_freq_f p3).toInt64)))])) _
          refine XS.i2l X458.here hx rfl (hb hby at_229) rfl ?_
          show Steps p.tables e below (T458.setTop (mkF m 230 #[.val (.int p0), .val (.int p1), .val (.int p2), .val (.int p3), .val (.int p4), .val (.int ((1 : Int32) + (p0 &&& (3 : Int32)))), .val (.int (own_freq_f p1)), .val (.int (own_freq_f p2)), .val (.int (own_freq_f p3)), .val (.int (own_freq_f p4)), .val (.ref b368), .val (.ref b416), .unset, .unset, .unset, .unset, .unset, .unset, .unset] [(.long ((own_freq_f p4).toInt64)), (.long ((((own_freq_f p1).toInt64) + ((own_freq_f p2).toInt64)) + ((own_freq_f p3).toInt64)))])) _
          refine XS.ladd X458.here hx rfl (hb hby at_230) rfl ?_
          show Steps p.tables e below (T458.setTop (mkF m 231 #[.val (.int p0), .val (.int p1), .val (.int p2), .val (.int p3), .val (.int p4), .val (.int ((1 : Int32) + (p0 &&& (3 : Int32)))), .val (.int (own_freq_f p1)), .val (.int (own_freq_f p2)), .val (.int (own_freq_f p3)), .val (.int (own_freq_f p4)), .val (.ref b368), .val (.ref b416), .unset, .unset, .unset, .unset, .unset, .unset, .unset] [(.long (((((own_freq_f p1).toInt64) + ((own_freq_f p2).toInt64)) + ((own_freq_f p3).toInt64)) + ((own_freq_f p4).toInt64)))])) _
          refine XS.lstore X458.here hx rfl (hb hby at_231) rfl (l' := #[.val (.int p0), .val (.int p1), .val (.int p2), .val (.int p3), .val (.int p4), .val (.int ((1 : Int32) + (p0 &&& (3 : Int32)))), .val (.int (own_freq_f p1)), .val (.int (own_freq_f p2)), .val (.int (own_freq_f p3)), .val (.int (own_freq_f p4)), .val (.ref b368), .val (.ref b416), .val (.long (((((own_freq_f p1).toInt64) + ((own_freq_f p2).toInt64)) + ((own_freq_f p3).toInt64)) + ((own_freq_f p4).toInt64))), .second, .unset, .unset, .unset, .unset, .unset]) rfl ?_
          show Steps p.tables e below (T458.setTop (mkF m 233 #[.val (.int p0), .val (.int p1), .val (.int p2), .val (.int p3), .val (.int p4), .val (.int ((1 : Int32) + (p0 &&& (3 : Int32)))), .val (.int (own_freq_f p1)), .val (.int (own_freq_f p2)), .val (.int (own_freq_f p3)), .val (.int (own_freq_f p4)), .val (.ref b368), .val (.ref b416), .val (.long (((((own_freq_f p1).toInt64) + ((own_freq_f p2).toInt64)) + ((own_freq_f p3).toInt64)) + ((own_freq_f p4).toInt64))), .second, .unset, .unset, .unset, .unset, .unset] [])) _
          refine st477 _ ?_
          show Steps p.tables e below (T477.setTop (mkF m 236 #[.val (.int p0), .val (.int p1), .val (.int p2), .val (.int p3), .val (.int p4), .val (.int ((1 : Int32) + (p0 &&& (3 : Int32)))), .val (.int (own_freq_f p1)), .val (.int (own_freq_f p2)), .val (.int (own_freq_f p3)), .val (.int (own_freq_f p4)), .val (.ref b368), .val (.ref b416), .val (.long (((((own_freq_f p1).toInt64) + ((own_freq_f p2).toInt64)) + ((own_freq_f p3).toInt64)) + ((own_freq_f p4).toInt64))), .second, .unset, .unset, .unset, .unset, .unset] [(.ref b477)])) _
          refine XS.dup X477.here hx rfl (hb hby at_236) rfl rfl ?_
          show Steps p.tables e below (T477.setTop (mkF m 237 #[.val (.int p0), .val (.int p1), .val (.int p2), .val (.int p3), .val (.int p4), .val (.int ((1 : Int32) + (p0 &&& (3 : Int32)))), .val (.int (own_freq_f p1)), .val (.int (own_freq_f p2)), .val (.int (own_freq_f p3)), .val (.int (own_freq_f p4)), .val (.ref b368), .val (.ref b416), .val (.long (((((own_freq_f p1).toInt64) + ((own_freq_f p2).toInt64)) + ((own_freq_f p3).toInt64)) + ((own_freq_f p4).toInt64))), .second, .unset, .unset, .unset, .unset, .unset] [(.ref b477), (.ref b477)])) _
          refine XS.aload X477.here hx rfl (hb hby at_237) rfl rfl ?_
          show Steps p.tables e below (T477.setTop (mkF m 239 #[.val (.int p0), .val (.int p1), .val (.int p2), .val (.int p3), .val (.int p4), .val (.int ((1 : Int32) + (p0 &&& (3 : Int32)))), .val (.int (own_freq_f p1)), .val (.int (own_freq_f p2)), .val (.int (own_freq_f p3)), .val (.int (own_freq_f p4)), .val (.ref b368), .val (.ref b416), .val (.long (((((own_freq_f p1).toInt64) + ((own_freq_f p2).toInt64)) + ((own_freq_f p3).toInt64)) + ((own_freq_f p4).toInt64))), .second, .unset, .unset, .unset, .unset, .unset] [(.ref b368), (.ref b477), (.ref b477)])) _
          refine XS.aload X477.here hx rfl (hb hby at_239) rfl rfl ?_
          show Steps p.tables e below (T477.setTop (mkF m 241 #[.val (.int p0), .val (.int p1), .val (.int p2), .val (.int p3), .val (.int p4), .val (.int ((1 : Int32) + (p0 &&& (3 : Int32)))), .val (.int (own_freq_f p1)), .val (.int (own_freq_f p2)), .val (.int (own_freq_f p3)), .val (.int (own_freq_f p4)), .val (.ref b368), .val (.ref b416), .val (.long (((((own_freq_f p1).toInt64) + ((own_freq_f p2).toInt64)) + ((own_freq_f p3).toInt64)) + ((own_freq_f p4).toInt64))), .second, .unset, .unset, .unset, .unset, .unset] [(.ref b416), (.ref b368), (.ref b477), (.ref b477)])) _
          refine st490.trans ?_
          show Steps p.tables e below (T490.setTop (mkF m 244 #[.val (.int p0), .val (.int p1), .val (.int p2), .val (.int p3), .val (.int p4), .val (.int ((1 : Int32) + (p0 &&& (3 : Int32)))), .val (.int (own_freq_f p1)), .val (.int (own_freq_f p2)), .val (.int (own_freq_f p3)), .val (.int (own_freq_f p4)), .val (.ref b368), .val (.ref b416), .val (.long (((((own_freq_f p1).toInt64) + ((own_freq_f p2).toInt64)) + ((own_freq_f p3).toInt64)) + ((own_freq_f p4).toInt64))), .second, .unset, .unset, .unset, .unset, .unset] [(.ref b477)])) _
          refine XS.astore X490.here hx rfl (hb hby at_244) rfl rfl (l' := #[.val (.int p0), .val (.int p1), .val (.int p2), .val (.int p3), .val (.int p4), .val (.int ((1 : Int32) + (p0 &&& (3 : Int32)))), .val (.int (own_freq_f p1)), .val (.int (own_freq_f p2)), .val (.int (own_freq_f p3)), .val (.int (own_freq_f p4)), .val (.ref b368), .val (.ref b416), .val (.long (((((own_freq_f p1).toInt64) + ((own_freq_f p2).toInt64)) + ((own_freq_f p3).toInt64)) + ((own_freq_f p4).toInt64))), .second, .val (.ref b477), .unset, .unset, .unset, .unset]) rfl ?_
          show Steps p.tables e below (T490.setTop (mkF m 246 #[.val (.int p0), .val (.int p1), .val (.int p2), .val (.int p3), .val (.int p4), .val (.int ((1 : Int32) + (p0 &&& (3 : Int32)))), .val (.int (own_freq_f p1)), .val (.int (own_freq_f p2)), .val (.int (own_freq_f p3)), .val (.int (own_freq_f p4)), .val (.ref b368), .val (.ref b416), .val (.long (((((own_freq_f p1).toInt64) + ((own_freq_f p2).toInt64)) + ((own_freq_f p3).toInt64)) + ((own_freq_f p4).toInt64))), .second, .val (.ref b477), .unset, .unset, .unset, .unset] [])) _
          refine XS.aload X490.here hx rfl (hb hby at_246) rfl rfl ?_
          show Steps p.tables e below (T490.setTop (mkF m 248 #[.val (.int p0), .val (.int p1), .val (.int p2), .val (.int p3), .val (.int p4), .val (.int ((1 : Int32) + (p0 &&& (3 : Int32)))), .val (.int (own_freq_f p1)), .val (.int (own_freq_f p2)), .val (.int (own_freq_f p3)), .val (.int (own_freq_f p4)), .val (.ref b368), .val (.ref b416), .val (.long (((((own_freq_f p1).toInt64) + ((own_freq_f p2).toInt64)) + ((own_freq_f p3).toInt64)) + ((own_freq_f p4).toInt64))), .second, .val (.ref b477), .unset, .unset, .unset, .unset] [(.ref b477)])) _
          refine st499.trans ?_
          show Steps p.tables e below (T499.setTop (mkF m 251 #[.val (.int p0), .val (.int p1), .val (.int p2), .val (.int p3), .val (.int p4), .val (.int ((1 : Int32) + (p0 &&& (3 : Int32)))), .val (.int (own_freq_f p1)), .val (.int (own_freq_f p2)), .val (.int (own_freq_f p3)), .val (.int (own_freq_f p4)), .val (.ref b368), .val (.ref b416), .val (.long (((((own_freq_f p1).toInt64) + ((own_freq_f p2).toInt64)) + ((own_freq_f p3).toInt64)) + ((own_freq_f p4).toInt64))), .second, .val (.ref b477), .unset, .unset, .unset, .unset] [(.long (((((0 : Int64) + ((own_freq_f p1).toInt64)) + ((own_freq_f p2).toInt64)) + ((own_freq_f p3).toInt64)) + ((own_freq_f p4).toInt64)))])) _
          refine XS.lstore X499.here hx rfl (hb hby at_251) rfl (l' := #[.val (.int p0), .val (.int p1), .val (.int p2), .val (.int p3), .val (.int p4), .val (.int ((1 : Int32) + (p0 &&& (3 : Int32)))), .val (.int (own_freq_f p1)), .val (.int (own_freq_f p2)), .val (.int (own_freq_f p3)), .val (.int (own_freq_f p4)), .val (.ref b368), .val (.ref b416), .val (.long (((((own_freq_f p1).toInt64) + ((own_freq_f p2).toInt64)) + ((own_freq_f p3).toInt64)) + ((own_freq_f p4).toInt64))), .second, .val (.ref b477), .val (.long (((((0 : Int64) + ((own_freq_f p1).toInt64)) + ((own_freq_f p2).toInt64)) + ((own_freq_f p3).toInt64)) + ((own_freq_f p4).toInt64))), .second, .unset, .unset]) rfl ?_
          show Steps p.tables e below (T499.setTop (mkF m 253 #[.val (.int p0), .val (.int p1), .val (.int p2), .val (.int p3), .val (.int p4), .val (.int ((1 : Int32) + (p0 &&& (3 : Int32)))), .val (.int (own_freq_f p1)), .val (.int (own_freq_f p2)), .val (.int (own_freq_f p3)), .val (.int (own_freq_f p4)), .val (.ref b368), .val (.ref b416), .val (.long (((((own_freq_f p1).toInt64) + ((own_freq_f p2).toInt64)) + ((own_freq_f p3).toInt64)) + ((own_freq_f p4).toInt64))), .second, .val (.ref b477), .val (.long (((((0 : Int64) + ((own_freq_f p1).toInt64)) + ((own_freq_f p2).toInt64)) + ((own_freq_f p3).toInt64)) + ((own_freq_f p4).toInt64))), .second, .unset, .unset] [])) _
          refine XS.aload X499.here hx rfl (hb hby at_253) rfl rfl ?_
          show Steps p.tables e below (T499.setTop (mkF m 255 #[.val (.int p0), .val (.int p1), .val (.int p2), .val (.int p3), .val (.int p4), .val (.int ((1 : Int32) + (p0 &&& (3 : Int32)))), .val (.int (own_freq_f p1)), .val (.int (own_freq_f p2)), .val (.int (own_freq_f p3)), .val (.int (own_freq_f p4)), .val (.ref b368), .val (.ref b416), .val (.long (((((own_freq_f p1).toInt64) + ((own_freq_f p2).toInt64)) + ((own_freq_f p3).toInt64)) + ((own_freq_f p4).toInt64))), .second, .val (.ref b477), .val (.long (((((0 : Int64) + ((own_freq_f p1).toInt64)) + ((own_freq_f p2).toInt64)) + ((own_freq_f p3).toInt64)) + ((own_freq_f p4).toInt64))), .second, .unset, .unset] [(.ref b477)])) _
          refine st505.trans ?_
          show Steps p.tables e below (T505.setTop (mkF m 258 #[.val (.int p0), .val (.int p1), .val (.int p2), .val (.int p3), .val (.int p4), .val (.int ((1 : Int32) + (p0 &&& (3 : Int32)))), .val (.int (own_freq_f p1)), .val (.int (own_freq_f p2)), .val (.int (own_freq_f p3)), .val (.int (own_freq_f p4)), .val (.ref b368), .val (.ref b416), .val (.long (((((own_freq_f p1).toInt64) + ((own_freq_f p2).toInt64)) + ((own_freq_f p3).toInt64)) + ((own_freq_f p4).toInt64))), .second, .val (.ref b477), .val (.long (((((0 : Int64) + ((own_freq_f p1).toInt64)) + ((own_freq_f p2).toInt64)) + ((own_freq_f p3).toInt64)) + ((own_freq_f p4).toInt64))), .second, .unset, .unset] [(.long (((((0 : Int64) + ((own_freq_f p1).toInt64)) + ((own_freq_f p2).toInt64)) + ((own_freq_f p3).toInt64)) + ((own_freq_f p4).toInt64)))])) _
          refine XS.lstore X505.here hx rfl (hb hby at_258) rfl (l' := #[.val (.int p0), .val (.int p1), .val (.int p2), .val (.int p3), .val (.int p4), .val (.int ((1 : Int32) + (p0 &&& (3 : Int32)))), .val (.int (own_freq_f p1)), .val (.int (own_freq_f p2)), .val (.int (own_freq_f p3)), .val (.int (own_freq_f p4)), .val (.ref b368), .val (.ref b416), .val (.long (((((own_freq_f p1).toInt64) + ((own_freq_f p2).toInt64)) + ((own_freq_f p3).toInt64)) + ((own_freq_f p4).toInt64))), .second, .val (.ref b477), .val (.long (((((0 : Int64) + ((own_freq_f p1).toInt64)) + ((own_freq_f p2).toInt64)) + ((own_freq_f p3).toInt64)) + ((own_freq_f p4).toInt64))), .second, .val (.long (((((0 : Int64) + ((own_freq_f p1).toInt64)) + ((own_freq_f p2).toInt64)) + ((own_freq_f p3).toInt64)) + ((own_freq_f p4).toInt64))), .second]) rfl ?_
          show Steps p.tables e below (T505.setTop (mkF m 260 #[.val (.int p0), .val (.int p1), .val (.int p2), .val (.int p3), .val (.int p4), .val (.int ((1 : Int32) + (p0 &&& (3 : Int32)))), .val (.int (own_freq_f p1)), .val (.int (own_freq_f p2)), .val (.int (own_freq_f p3)), .val (.int (own_freq_f p4)), .val (.ref b368), .val (.ref b416), .val (.long (((((own_freq_f p1).toInt64) + ((own_freq_f p2).toInt64)) + ((own_freq_f p3).toInt64)) + ((own_freq_f p4).toInt64))), .second, .val (.ref b477), .val (.long (((((0 : Int64) + ((own_freq_f p1).toInt64)) + ((own_freq_f p2).toInt64)) + ((own_freq_f p3).toInt64)) + ((own_freq_f p4).toInt64))), .second, .val (.long (((((0 : Int64) + ((own_freq_f p1).toInt64)) + ((own_freq_f p2).toInt64)) + ((own_freq_f p3).toInt64)) + ((own_freq_f p4).toInt64))), .second] [])) _
          refine XS.lload X505.here hx rfl (hb hby at_260) rfl ?_
          show Steps p.tables e below (T505.setTop (mkF m 262 #[.val (.int p0), .val (.int p1), .val (.int p2), .val (.int p3), .val (.int p4), .val (.int ((1 : Int32) + (p0 &&& (3 : Int32)))), .val (.int (own_freq_f p1)), .val (.int (own_freq_f p2)), .val (.int (own_freq_f p3)), .val (.int (own_freq_f p4)), .val (.ref b368), .val (.ref b416), .val (.long (((((own_freq_f p1).toInt64) + ((own_freq_f p2).toInt64)) + ((own_freq_f p3).toInt64)) + ((own_freq_f p4).toInt64))), .second, .val (.ref b477), .val (.long (((((0 : Int64) + ((own_freq_f p1).toInt64)) + ((own_freq_f p2).toInt64)) + ((own_freq_f p3).toInt64)) + ((own_freq_f p4).toInt64))), .second, .val (.long (((((0 : Int64) + ((own_freq_f p1).toInt64)) + ((own_freq_f p2).toInt64)) + ((own_freq_f p3).toInt64)) + ((own_freq_f p4).toInt64))), .second] [(.long (((((0 : Int64) + ((own_freq_f p1).toInt64)) + ((own_freq_f p2).toInt64)) + ((own_freq_f p3).toInt64)) + ((own_freq_f p4).toInt64)))])) _
          refine XS.lload X505.here hx rfl (hb hby at_262) rfl ?_
          show Steps p.tables e below (T505.setTop (mkF m 264 #[.val (.int p0), .val (.int p1), .val (.int p2), .val (.int p3), .val (.int p4), .val (.int ((1 : Int32) + (p0 &&& (3 : Int32)))), .val (.int (own_freq_f p1)), .val (.int (own_freq_f p2)), .val (.int (own_freq_f p3)), .val (.int (own_freq_f p4)), .val (.ref b368), .val (.ref b416), .val (.long (((((own_freq_f p1).toInt64) + ((own_freq_f p2).toInt64)) + ((own_freq_f p3).toInt64)) + ((own_freq_f p4).toInt64))), .second, .val (.ref b477), .val (.long (((((0 : Int64) + ((own_freq_f p1).toInt64)) + ((own_freq_f p2).toInt64)) + ((own_freq_f p3).toInt64)) + ((own_freq_f p4).toInt64))), .second, .val (.long (((((0 : Int64) + ((own_freq_f p1).toInt64)) + ((own_freq_f p2).toInt64)) + ((own_freq_f p3).toInt64)) + ((own_freq_f p4).toInt64))), .second] [(.long (((((own_freq_f p1).toInt64) + ((own_freq_f p2).toInt64)) + ((own_freq_f p3).toInt64)) + ((own_freq_f p4).toInt64))), (.long (((((0 : Int64) + ((own_freq_f p1).toInt64)) + ((own_freq_f p2).toInt64)) + ((own_freq_f p3).toInt64)) + ((own_freq_f p4).toInt64)))])) _
          refine XS.lcmp X505.here hx rfl (hb hby at_264) rfl ?_
          show Steps p.tables e below (T505.setTop (mkF m 265 #[.val (.int p0), .val (.int p1), .val (.int p2), .val (.int p3), .val (.int p4), .val (.int ((1 : Int32) + (p0 &&& (3 : Int32)))), .val (.int (own_freq_f p1)), .val (.int (own_freq_f p2)), .val (.int (own_freq_f p3)), .val (.int (own_freq_f p4)), .val (.ref b368), .val (.ref b416), .val (.long (((((own_freq_f p1).toInt64) + ((own_freq_f p2).toInt64)) + ((own_freq_f p3).toInt64)) + ((own_freq_f p4).toInt64))), .second, .val (.ref b477), .val (.long (((((0 : Int64) + ((own_freq_f p1).toInt64)) + ((own_freq_f p2).toInt64)) + ((own_freq_f p3).toInt64)) + ((own_freq_f p4).toInt64))), .second, .val (.long (((((0 : Int64) + ((own_freq_f p1).toInt64)) + ((own_freq_f p2).toInt64)) + ((own_freq_f p3).toInt64)) + ((own_freq_f p4).toInt64))), .second] [(.int (lcmpW (((((0 : Int64) + ((own_freq_f p1).toInt64)) + ((own_freq_f p2).toInt64)) + ((own_freq_f p3).toInt64)) + ((own_freq_f p4).toInt64)) (((((own_freq_f p1).toInt64) + ((own_freq_f p2).toInt64)) + ((own_freq_f p3).toInt64)) + ((own_freq_f p4).toInt64))))])) _
          refine XS.ifNo X505.here hx rfl (hb hby at_265) rfl ((if0 _ _).trans (teq (own_lcEq.mpr (by rw [Int64.zero_add] : (((((0 : Int64) + ((own_freq_f p1).toInt64)) + ((own_freq_f p2).toInt64)) + ((own_freq_f p3).toInt64)) + ((own_freq_f p4).toInt64)) = (((((own_freq_f p1).toInt64) + ((own_freq_f p2).toInt64)) + ((own_freq_f p3).toInt64)) + ((own_freq_f p4).toInt64))))).2) ?_
          show Steps p.tables e below (T505.setTop (mkF m 268 #[.val (.int p0), .val (.int p1), .val (.int p2), .val (.int p3), .val (.int p4), .val (.int ((1 : Int32) + (p0 &&& (3 : Int32)))), .val (.int (own_freq_f p1)), .val (.int (own_freq_f p2)), .val (.int (own_freq_f p3)), .val (.int (own_freq_f p4)), .val (.ref b368), .val (.ref b416), .val (.long (((((own_freq_f p1).toInt64) + ((own_freq_f p2).toInt64)) + ((own_freq_f p3).toInt64)) + ((own_freq_f p4).toInt64))), .second, .val (.ref b477), .val (.long (((((0 : Int64) + ((own_freq_f p1).toInt64)) + ((own_freq_f p2).toInt64)) + ((own_freq_f p3).toInt64)) + ((own_freq_f p4).toInt64))), .second, .val (.long (((((0 : Int64) + ((own_freq_f p1).toInt64)) + ((own_freq_f p2).toInt64)) + ((own_freq_f p3).toInt64)) + ((own_freq_f p4).toInt64))), .second] [])) _
          refine XS.lload X505.here hx rfl (hb hby at_268) rfl ?_
          show Steps p.tables e below (T505.setTop (mkF m 270 #[.val (.int p0), .val (.int p1), .val (.int p2), .val (.int p3), .val (.int p4), .val (.int ((1 : Int32) + (p0 &&& (3 : Int32)))), .val (.int (own_freq_f p1)), .val (.int (own_freq_f p2)), .val (.int (own_freq_f p3)), .val (.int (own_freq_f p4)), .val (.ref b368), .val (.ref b416), .val (.long (((((own_freq_f p1).toInt64) + ((own_freq_f p2).toInt64)) + ((own_freq_f p3).toInt64)) + ((own_freq_f p4).toInt64))), .second, .val (.ref b477), .val (.long (((((0 : Int64) + ((own_freq_f p1).toInt64)) + ((own_freq_f p2).toInt64)) + ((own_freq_f p3).toInt64)) + ((own_freq_f p4).toInt64))), .second, .val (.long (((((0 : Int64) + ((own_freq_f p1).toInt64)) + ((own_freq_f p2).toInt64)) + ((own_freq_f p3).toInt64)) + ((own_freq_f p4).toInt64))), .second] [(.long (((((0 : Int64) + ((own_freq_f p1).toInt64)) + ((own_freq_f p2).toInt64)) + ((own_freq_f p3).toInt64)) + ((own_freq_f p4).toInt64)))])) _
          refine XS.lload X505.here hx rfl (hb hby at_270) rfl ?_
          show Steps p.tables e below (T505.setTop (mkF m 272 #[.val (.int p0), .val (.int p1), .val (.int p2), .val (.int p3), .val (.int p4), .val (.int ((1 : Int32) + (p0 &&& (3 : Int32)))), .val (.int (own_freq_f p1)), .val (.int (own_freq_f p2)), .val (.int (own_freq_f p3)), .val (.int (own_freq_f p4)), .val (.ref b368), .val (.ref b416), .val (.long (((((own_freq_f p1).toInt64) + ((own_freq_f p2).toInt64)) + ((own_freq_f p3).toInt64)) + ((own_freq_f p4).toInt64))), .second, .val (.ref b477), .val (.long (((((0 : Int64) + ((own_freq_f p1).toInt64)) + ((own_freq_f p2).toInt64)) + ((own_freq_f p3).toInt64)) + ((own_freq_f p4).toInt64))), .second, .val (.long (((((0 : Int64) + ((own_freq_f p1).toInt64)) + ((own_freq_f p2).toInt64)) + ((own_freq_f p3).toInt64)) + ((own_freq_f p4).toInt64))), .second] [(.long (((((own_freq_f p1).toInt64) + ((own_freq_f p2).toInt64)) + ((own_freq_f p3).toInt64)) + ((own_freq_f p4).toInt64))), (.long (((((0 : Int64) + ((own_freq_f p1).toInt64)) + ((own_freq_f p2).toInt64)) + ((own_freq_f p3).toInt64)) + ((own_freq_f p4).toInt64)))])) _
          refine XS.lcmp X505.here hx rfl (hb hby at_272) rfl ?_
          show Steps p.tables e below (T505.setTop (mkF m 273 #[.val (.int p0), .val (.int p1), .val (.int p2), .val (.int p3), .val (.int p4), .val (.int ((1 : Int32) + (p0 &&& (3 : Int32)))), .val (.int (own_freq_f p1)), .val (.int (own_freq_f p2)), .val (.int (own_freq_f p3)), .val (.int (own_freq_f p4)), .val (.ref b368), .val (.ref b416), .val (.long (((((own_freq_f p1).toInt64) + ((own_freq_f p2).toInt64)) + ((own_freq_f p3).toInt64)) + ((own_freq_f p4).toInt64))), .second, .val (.ref b477), .val (.long (((((0 : Int64) + ((own_freq_f p1).toInt64)) + ((own_freq_f p2).toInt64)) + ((own_freq_f p3).toInt64)) + ((own_freq_f p4).toInt64))), .second, .val (.long (((((0 : Int64) + ((own_freq_f p1).toInt64)) + ((own_freq_f p2).toInt64)) + ((own_freq_f p3).toInt64)) + ((own_freq_f p4).toInt64))), .second] [(.int (lcmpW (((((0 : Int64) + ((own_freq_f p1).toInt64)) + ((own_freq_f p2).toInt64)) + ((own_freq_f p3).toInt64)) + ((own_freq_f p4).toInt64)) (((((own_freq_f p1).toInt64) + ((own_freq_f p2).toInt64)) + ((own_freq_f p3).toInt64)) + ((own_freq_f p4).toInt64))))])) _
          refine XS.ifNo X505.here hx rfl (hb hby at_273) rfl ((if0 _ _).trans (teq (own_lcEq.mpr (by rw [Int64.zero_add] : (((((0 : Int64) + ((own_freq_f p1).toInt64)) + ((own_freq_f p2).toInt64)) + ((own_freq_f p3).toInt64)) + ((own_freq_f p4).toInt64)) = (((((own_freq_f p1).toInt64) + ((own_freq_f p2).toInt64)) + ((own_freq_f p3).toInt64)) + ((own_freq_f p4).toInt64))))).2) ?_
          show Steps p.tables e below (T505.setTop (mkF m 276 #[.val (.int p0), .val (.int p1), .val (.int p2), .val (.int p3), .val (.int p4), .val (.int ((1 : Int32) + (p0 &&& (3 : Int32)))), .val (.int (own_freq_f p1)), .val (.int (own_freq_f p2)), .val (.int (own_freq_f p3)), .val (.int (own_freq_f p4)), .val (.ref b368), .val (.ref b416), .val (.long (((((own_freq_f p1).toInt64) + ((own_freq_f p2).toInt64)) + ((own_freq_f p3).toInt64)) + ((own_freq_f p4).toInt64))), .second, .val (.ref b477), .val (.long (((((0 : Int64) + ((own_freq_f p1).toInt64)) + ((own_freq_f p2).toInt64)) + ((own_freq_f p3).toInt64)) + ((own_freq_f p4).toInt64))), .second, .val (.long (((((0 : Int64) + ((own_freq_f p1).toInt64)) + ((own_freq_f p2).toInt64)) + ((own_freq_f p3).toInt64)) + ((own_freq_f p4).toInt64))), .second] [])) _
          refine XS.iconst X505.here hx rfl (hb hby at_276) ?_
          show Steps p.tables e below (T505.setTop (mkF m 277 #[.val (.int p0), .val (.int p1), .val (.int p2), .val (.int p3), .val (.int p4), .val (.int ((1 : Int32) + (p0 &&& (3 : Int32)))), .val (.int (own_freq_f p1)), .val (.int (own_freq_f p2)), .val (.int (own_freq_f p3)), .val (.int (own_freq_f p4)), .val (.ref b368), .val (.ref b416), .val (.long (((((own_freq_f p1).toInt64) + ((own_freq_f p2).toInt64)) + ((own_freq_f p3).toInt64)) + ((own_freq_f p4).toInt64))), .second, .val (.ref b477), .val (.long (((((0 : Int64) + ((own_freq_f p1).toInt64)) + ((own_freq_f p2).toInt64)) + ((own_freq_f p3).toInt64)) + ((own_freq_f p4).toInt64))), .second, .val (.long (((((0 : Int64) + ((own_freq_f p1).toInt64)) + ((own_freq_f p2).toInt64)) + ((own_freq_f p3).toInt64)) + ((own_freq_f p4).toInt64))), .second] [(.int (1 : Int32))])) _
          refine XS.goto X505.here hx rfl (pc0 := 277) (pc' := 281) rfl (hb hby at_277) (by decide) (by decide) ?_
          show Steps p.tables e below (T505.setTop (mkF m 281 #[.val (.int p0), .val (.int p1), .val (.int p2), .val (.int p3), .val (.int p4), .val (.int ((1 : Int32) + (p0 &&& (3 : Int32)))), .val (.int (own_freq_f p1)), .val (.int (own_freq_f p2)), .val (.int (own_freq_f p3)), .val (.int (own_freq_f p4)), .val (.ref b368), .val (.ref b416), .val (.long (((((own_freq_f p1).toInt64) + ((own_freq_f p2).toInt64)) + ((own_freq_f p3).toInt64)) + ((own_freq_f p4).toInt64))), .second, .val (.ref b477), .val (.long (((((0 : Int64) + ((own_freq_f p1).toInt64)) + ((own_freq_f p2).toInt64)) + ((own_freq_f p3).toInt64)) + ((own_freq_f p4).toInt64))), .second, .val (.long (((((0 : Int64) + ((own_freq_f p1).toInt64)) + ((own_freq_f p2).toInt64)) + ((own_freq_f p3).toInt64)) + ((own_freq_f p4).toInt64))), .second] [(.int (1 : Int32))])) _
          exact retN X505 hx (t := .boolean) Bd.returns (by simp) (hb hby at_281) hr
        · show Qown_law Z p0 p1 p2 p3 p4 h0 n0 _ T505.heap _
          rw [eh505]
          exact ⟨rfl, N506⟩
set_option maxRecDepth 65536 in
set_option maxHeartbeats 40000000 in
theorem comes_1 {Post : Tables → Env → Array Value → State → Outcome → State → Prop} (hpost : ∀ tb e args s v u, (limb_1_1.after args s (.returned v) u = true ∧ limb_1_2.after args s (.returned v) u = true ∧ True) → FrameEnd s (.returned v) u (Jvm.fieldLocs frame_1_writes args s ++ Jvm.arrayLocs frame_1_arrays args s ++ Jvm.staticLocs frame_1_statics s) 16 128 → Post tb e args s (.returned v) u) :
    ArmFor flags0 classFile x code maxLocals ret World_1 tables_1 room_1 Calls_1 rest_1 Pre_1 Post := by
  intro l hfl _ _ p e ha hc hk s m args below hf hA hF happ hP
  obtain ⟨hcalls, hrest, hpre⟩ := hP
  obtain ⟨-, -, -, hnamed, -, -, -, hat⟩ := (Spec.applies_iff hf).mp happ
  obtain ⟨hg, hn⟩ := and_e (Cond.before_iff.mp (show (Jvm.Cond.and given_1 narrow_1).before args s = true from hpre))
  obtain ⟨gg1, gg2⟩ := and_e hg
  obtain ⟨gg3, gg4⟩ := and_e gg2
  obtain ⟨gg5, gg6⟩ := and_e gg4
  obtain ⟨gg7, gg8⟩ := and_e gg6
  obtain ⟨gg9, gg10⟩ := and_e gg8
  obtain ⟨w0, w1, w2, w3, w4, rfl⟩ : ∃ w0 w1 w2 w3 w4 : Value, args = #[w0, w1, w2, w3, w4] := by
    have hs : args.size = 5 := by simpa [Cond.value, given_1] using gg1
    obtain ⟨L⟩ := args
    match L, hs with
    | [w0, w1, w2, w3, w4], _ => exact ⟨w0, w1, w2, w3, w4, rfl⟩
  have hw := fun d (hd : d ∈ tables_1) => atoms_spec (ws := Jvm.Cond.code x code maxLocals ret :: tables_1) hat d (List.mem_cons_of_mem _ hd)
  obtain ⟨i0, ei0⟩ := is_v gg3
  obtain rfl : w0 = (.int i0) := Option.some.inj ei0
  obtain ⟨i1, ei1⟩ := is_v gg5
  obtain rfl : w1 = (.int i1) := Option.some.inj ei1
  obtain ⟨i2, ei2⟩ := is_v gg7
  obtain rfl : w2 = (.int i2) := Option.some.inj ei2
  obtain ⟨i3, ei3⟩ := is_v gg9
  obtain rfl : w3 = (.int i3) := Option.some.inj ei3
  obtain ⟨i4, ei4⟩ := is_v gg10
  obtain rfl : w4 = (.int i4) := Option.some.inj ei4
  obtain ⟨n, o, h1, h2, h3, _, L, rfl, ⟨rfl, N⟩, hq⟩ := own_law l s _ hw tables_1 i0 i1 i2 i3 i4 s.heap s.heap.size (Nat.le_refl _) p e ha hc hk s m _ below hf ((Spec.applies_iff_loose hf).mp happ).1 ⟨rfl, State.Warmed39.refl s, rfl⟩ trivial
  refine ⟨n, _, h1, h2, h3, hpost _ _ _ _ _ _ ⟨Cond.after_iff.mpr rfl, Cond.after_iff.mpr (eq_i res_at (Term.int_eval (1)) rfl), trivial⟩ ⟨hq.1, hq.2.1, (hq.2.2.sift fun y hy => Or.inr (N y hy)).mono (by decide) (by decide)⟩⟩
theorem main_1_1 : Claimed_1_1 := comes_1 fun _ _ _ _ _ _ h hF => ⟨h.1, hF⟩
theorem main_1_2 : Claimed_1_2 := comes_1 fun _ _ _ _ _ _ h hF => ⟨h.2.1, hF⟩
end Jvm.Pilot.@@N@@
namespace Jvm.Pilot.@@N@@
open Jvm Jvm.ClassFile Sem Op Lib Jvm.Free Jvm.Stand Jvm.Pilot.@@N@@.Jvm.D
/-! MADE BY PROGRAM (witnessworld.py) out of the Statement's table words and the real class files: 10 classes; the members and pool entries that the words name. The judged class is class 1, her method 2. -/
namespace start1
open Jvm.ClassFile
def u (s : String) : CpInfo := .utf8 (stringToUtf16 s)
/-- a pool by its gaps: so many unusable entries, then the entry; so many at the end -/
def gap : Nat → List CpInfo → List CpInfo
  | 0, r => r
  | n + 1, r => .unusable :: gap n r
def poolList (es : List (Nat × CpInfo)) (last : Nat) : List CpInfo := es.foldr (fun e r => gap e.1 (e.2 :: r)) (gap last [])
def pool (es : List (Nat × CpInfo)) (last : Nat) : Array CpInfo := ⟨poolList es last⟩
def fileOf (pool : Array CpInfo) (this : Nat) (attrs : Array Attribute := #[]) (ms : Array MethodInfo := #[]) (fl : Nat := 33) (sup : Nat := 0) (ifs : Array Nat := #[]) (fds : Array FieldInfo := #[]) : ClassFile where
  minorVersion := 0
  majorVersion := 65
  constantPool := pool
  accessFlags := fl
  thisClass := this
  superClass := sup
  interfaces := ifs
  fields := fds
  methods := ms
  attributes := attrs
def plain (name : String) (sup : Option ClassId) : Class where
  name := name
  kind := .ordinary
  loader := none
  accessFlags := 33
  super := sup
  interfaces := #[]
  cf := none
  fields := #[]
  methods := #[]
  instanceTypes := #[]
  staticTypes := #[]
  resolved := #[]
  callSites := []
  init := .initialized
  statics := none
  mirror := none

def pool0 : Array CpInfo := pool [(5, u "<init>"), (0, u "()V"), (1, .class_ 10), (1, u "java/lang/Object")] 113

def k0c0 : Code := { maxStack := 0, maxLocals := 1, code := object_method_1_code, exceptionTable := #[], attributes := #[] }
def k0m0 : Method := { name := "<init>", desc := "()V", sig := { parameters := [], returnType := none }, accessFlags := 1, code := some k0c0 }
/-- java/lang/Object -/
def k0 : Class := { plain "java/lang/Object" none with
  accessFlags := 33
  interfaces := #[]
  cf := some (fileOf pool0 8 #[] #[{ accessFlags := 1, nameIndex := 5, descriptorIndex := 6, attributes := #[] }] 33 0 #[] #[])
  fields := #[]
  methods := #[k0m0]
  instanceTypes := #[]
  staticTypes := #[]
  resolved := Array.replicate 124 none
  statics := none }

def pool1 : Array CpInfo := pool [(2, .class_ 4), (1, u "java/lang/Object"), (0, u "<init>"), (0, u "()V"), (0, .integer 2147483647), (0, .methodref 9 10), (0, .class_ 11), (0, .nameAndType 12 13), (0, u "java/lang/Math"), (0, u "max"), (0, u "(II)I"), (0, .methodref 15 16), (0, .class_ 17), (0, .nameAndType 18 19), (0, u "com/example/merit/merit/PostingsCollectionFrequencyPinLaw"), (0, u "freq"), (0, u "(I)I"), (0, .class_ 21), (0, u "com/example/merit/merit/Postings"), (0, .methodref 20 23), (0, .nameAndType 5 24), (0, u "([I[I)V"), (0, .methodref 20 26), (0, .nameAndType 27 28), (0, u "collectionFrequency"), (0, u "()J"), (2, u "law"), (0, u "(IIIII)Z")] 5

def k1m0 : Method := { name := "<init>", desc := "()V", sig := { parameters := [], returnType := none }, accessFlags := 1, code := none }
def k1c1 : Code := { maxStack := 3, maxLocals := 1, code := method_2_code, exceptionTable := #[], attributes := #[] }
def k1m1 : Method := { name := "freq", desc := "(I)I", sig := { parameters := [.int], returnType := some .int }, accessFlags := 10, code := some k1c1 }
def k1c2 : Code := { maxStack := 4, maxLocals := 19, code := code, exceptionTable := #[], attributes := #[] }
def k1m2 : Method := { name := "law", desc := "(IIIII)Z", sig := { parameters := [.int, .int, .int, .int, .int], returnType := some .boolean }, accessFlags := 9, code := some k1c2 }
/-- com/example/merit/merit/PostingsCollectionFrequencyPinLaw -/
def k1 : Class := { plain "com/example/merit/merit/PostingsCollectionFrequencyPinLaw" (some 0) with
  accessFlags := 49
  interfaces := #[]
  cf := some (fileOf pool1 15 #[] #[{ accessFlags := 1, nameIndex := 5, descriptorIndex := 6, attributes := #[] }, { accessFlags := 10, nameIndex := 18, descriptorIndex := 19, attributes := #[] }, { accessFlags := 9, nameIndex := 31, descriptorIndex := 32, attributes := #[] }] 49 2 #[] #[])
  fields := #[]
  methods := #[k1m0, k1m1, k1m2]
  instanceTypes := #[]
  staticTypes := #[]
  resolved := Array.replicate 38 none
  statics := none }

def pool2 : Array CpInfo := pool [(1, .class_ 2), (0, u "java/lang/Math"), (1, .class_ 6), (1, u "java/lang/Object"), (0, u "<init>"), (0, u "()V"), (89, .class_ 100), (1, u "java/lang/Math$RandomNumberGeneratorHolder"), (71, u "negativeZeroFloatBits"), (0, u "J"), (2, u "negativeZeroDoubleBits"), (21, u "max"), (46, u "$assertionsDisabled"), (0, u "Z"), (88, u "(II)I"), (2, u "twoToTheDoubleScaleDown"), (0, u "D"), (4, u "twoToTheDoubleScaleUp"), (9, u "E"), (3, u "PI"), (2, u "TAU"), (2, u "DEGREES_TO_RADIANS"), (0, u "RADIANS_TO_DEGREES")] 94

def k2m0 : Method := { name := "<init>", desc := "()V", sig := { parameters := [], returnType := none }, accessFlags := 2, code := none }
def k2c1 : Code := { maxStack := 2, maxLocals := 2, code := jdk_29_method_65_code, exceptionTable := #[], attributes := #[] }
def k2m1 : Method := { name := "max", desc := "(II)I", sig := { parameters := [.int, .int], returnType := some .int }, accessFlags := 9, code := some k2c1 }
/-- java/lang/Math -/
def k2 : Class := { plain "java/lang/Math" (some 0) with
  accessFlags := 49
  interfaces := #[]
  cf := some (fileOf pool2 1 #[.nestMembers #[98]] #[{ accessFlags := 2, nameIndex := 7, descriptorIndex := 8, attributes := #[] }, { accessFlags := 9, nameIndex := 198, descriptorIndex := 335, attributes := #[] }] 49 4 #[] #[{ accessFlags := 25, nameIndex := 354, descriptorIndex := 339, attributes := #[] }, { accessFlags := 25, nameIndex := 358, descriptorIndex := 339, attributes := #[] }, { accessFlags := 25, nameIndex := 361, descriptorIndex := 339, attributes := #[] }, { accessFlags := 26, nameIndex := 364, descriptorIndex := 339, attributes := #[] }, { accessFlags := 26, nameIndex := 365, descriptorIndex := 339, attributes := #[] }, { accessFlags := 26, nameIndex := 172, descriptorIndex := 173, attributes := #[] }, { accessFlags := 26, nameIndex := 176, descriptorIndex := 173, attributes := #[] }, { accessFlags := 8, nameIndex := 344, descriptorIndex := 339, attributes := #[] }, { accessFlags := 8, nameIndex := 338, descriptorIndex := 339, attributes := #[] }, { accessFlags := 4120, nameIndex := 245, descriptorIndex := 246, attributes := #[] }])
  fields := #[{ name := "E", type := .double, accessFlags := 25, slot := 0, constantValue := 0 }, { name := "PI", type := .double, accessFlags := 25, slot := 1, constantValue := 0 }, { name := "TAU", type := .double, accessFlags := 25, slot := 2, constantValue := 0 }, { name := "DEGREES_TO_RADIANS", type := .double, accessFlags := 26, slot := 3, constantValue := 0 }, { name := "RADIANS_TO_DEGREES", type := .double, accessFlags := 26, slot := 4, constantValue := 0 }, { name := "negativeZeroFloatBits", type := .long, accessFlags := 26, slot := 5, constantValue := 0 }, { name := "negativeZeroDoubleBits", type := .long, accessFlags := 26, slot := 6, constantValue := 0 }, { name := "twoToTheDoubleScaleUp", type := .double, accessFlags := 8, slot := 7, constantValue := 0 }, { name := "twoToTheDoubleScaleDown", type := .double, accessFlags := 8, slot := 8, constantValue := 0 }, { name := "$assertionsDisabled", type := .boolean, accessFlags := 4120, slot := 9, constantValue := 0 }]
  methods := #[k2m0, k2m1]
  instanceTypes := #[]
  staticTypes := #[.double, .double, .double, .double, .double, .long, .long, .double, .double, .boolean]
  resolved := Array.replicate 460 none
  statics := none }

def pool3 : Array CpInfo := pool [(1, .methodref 2 3), (0, .class_ 4), (0, .nameAndType 5 6), (0, u "java/lang/Object"), (0, u "<init>"), (0, u "()V"), (7, .fieldref 15 16), (0, .class_ 17), (0, .nameAndType 18 19), (0, u "com/example/merit/merit/Postings"), (0, u "documents"), (0, u "[I"), (0, .fieldref 15 21), (0, .nameAndType 22 19), (0, u "frequencies"), (6, u "([I[I)V"), (11, u "collectionFrequency"), (0, u "()J")] 2

def k3c0 : Code := { maxStack := 3, maxLocals := 3, code := prog_35_method_1_code, exceptionTable := #[], attributes := #[] }
def k3m0 : Method := { name := "<init>", desc := "([I[I)V", sig := { parameters := [(.array .int), (.array .int)], returnType := none }, accessFlags := 0, code := some k3c0 }
def k3c1 : Code := { maxStack := 4, maxLocals := 7, code := prog_35_method_6_code, exceptionTable := #[], attributes := #[] }
def k3m1 : Method := { name := "collectionFrequency", desc := "()J", sig := { parameters := [], returnType := some .long }, accessFlags := 1, code := some k3c1 }
/-- com/example/merit/merit/Postings -/
def k3 : Class := { plain "com/example/merit/merit/Postings" (some 0) with
  accessFlags := 49
  interfaces := #[]
  cf := some (fileOf pool3 15 #[] #[{ accessFlags := 0, nameIndex := 5, descriptorIndex := 29, attributes := #[] }, { accessFlags := 1, nameIndex := 41, descriptorIndex := 42, attributes := #[] }] 49 2 #[] #[{ accessFlags := 18, nameIndex := 18, descriptorIndex := 19, attributes := #[] }, { accessFlags := 18, nameIndex := 22, descriptorIndex := 19, attributes := #[] }])
  fields := #[{ name := "documents", type := (.array .int), accessFlags := 18, slot := 0, constantValue := 0 }, { name := "frequencies", type := (.array .int), accessFlags := 18, slot := 1, constantValue := 0 }]
  methods := #[k3m0, k3m1]
  instanceTypes := #[(.array .int), (.array .int)]
  staticTypes := #[]
  resolved := Array.replicate 45 none
  statics := none }

def pool4 : Array CpInfo := pool [(1, u "java/lang/Cloneable"), (0, .class_ 1), (0, u "java/lang/Object"), (0, .class_ 3)] 3

/-- java/lang/Cloneable -/
def k4 : Class := { plain "java/lang/Cloneable" (some 0) with
  accessFlags := 1537
  interfaces := #[]
  cf := some (fileOf pool4 2 #[] #[] 1537 4 #[] #[])
  fields := #[]
  methods := #[]
  instanceTypes := #[]
  staticTypes := #[]
  resolved := Array.replicate 8 none
  statics := none }

def pool5 : Array CpInfo := pool [(1, u "java/io/Serializable"), (0, .class_ 1), (0, u "java/lang/Object"), (0, .class_ 3)] 3

/-- java/io/Serializable -/
def k5 : Class := { plain "java/io/Serializable" (some 0) with
  accessFlags := 1537
  interfaces := #[]
  cf := some (fileOf pool5 2 #[] #[] 1537 4 #[] #[])
  fields := #[]
  methods := #[]
  instanceTypes := #[]
  staticTypes := #[]
  resolved := Array.replicate 8 none
  statics := none }

/-- the primitive byte -/
def k6 : Class := { plain "byte" none with kind := .primitive 'B', accessFlags := 0x411 }
/-- [B -/
def k7 : Class := { plain "[B" (some 0) with kind := .array 6 .byte, interfaces := #[4, 5], accessFlags := 1041 }

/-- the primitive int -/
def k8 : Class := { plain "int" none with kind := .primitive 'I', accessFlags := 0x411 }
/-- [I -/
def k9 : Class := { plain "[I" (some 0) with kind := .array 8 .int, interfaces := #[4, 5], accessFlags := 1041 }

def heap : Heap := #[]
def classes : Array Class := #[k0, k1, k2, k3, k4, k5, k6, k7, k8, k9]
def interned : List (Array UInt16 × Addr) := []
def slotsUsed : Nat := 0
def theMethod : MethodId := ⟨1, 2⟩
def args0 : Array Value := #[.int 5, .int 7, .int 3, .int 1, .int 1]
def aboutOver (below : List Frame) : State where
  vm := { classes := classes, interned := interned.toArray }
  heap := heap
  slotsUsed := slotsUsed
  threads := #[{ frames := .invoking theMethod args0 :: below }]
def below0 : List Frame := [.native { method := ⟨0, 0⟩, args := #[] }]
def about1 : State := aboutOver below0
def p0 : Program := .bare "" "" ""
def e0 : Env := launch0.env 0 0 0
theorem w_frames : about1.frames = Frame.invoking theMethod args0 :: below0 := rfl
set_option maxRecDepth 65536 in
theorem w_args : argsFit about1.vm theMethod args0 = true := by decide +kernel
set_option maxRecDepth 65536 in
theorem w_heap : heapFits about1 = true := by decide +kernel
set_option maxRecDepth 65536 in
theorem w_runnable : about1.curStatus? = some .runnable := by decide +kernel
set_option maxRecDepth 65536 in
theorem w_alone : about1.alone = true := by decide +kernel
set_option maxRecDepth 65536 in
theorem w_named : about1.methodNamed? x = some theMethod := by decide +kernel
set_option maxRecDepth 65536 in
theorem w_hears : about1.hears theMethod below0 = true := by decide +kernel
set_option maxRecDepth 65536 in
theorem w_ripe : about1.ripe theMethod args0 below0 = true := by decide +kernel
theorem w_running : about1.status = .running := rfl
set_option maxRecDepth 65536 in
theorem w_room : about1.hasRoom e0.platform room_1 = true :=
  launch0.hasRoom_least _ room_1 (by decide +kernel) (by decide +kernel) (by decide +kernel) (by decide +kernel) (by decide +kernel) (by decide +kernel)
theorem allAtoms_all (ts : List Jvm.Cond) (a : Array Jvm.Value) (st : Jvm.State) : (allAtoms ts).before a st = ts.all (fun c => c.before a st) := by
  induction ts with
  | nil => rfl
  | cons c t ih =>
    show (Jvm.Cond.and c (allAtoms t)).before a st = _
    rw [Jvm.Cond.before_and, ih, List.all_cons]
def words1 : List Jvm.Cond := Jvm.Cond.code x code maxLocals ret :: tables_1
/-- a 'code' word, met by the world's own term for the bytes: nothing is compared byte by byte -/
theorem code_word {y : MethodName} {bytes : ByteArray} {mx : Nat} {rt : Option FieldType} {a : Array Value} {s : State} {m : MethodId} {meth : Method} {c : Code} (h1 : s.methodNamed? y = some m) (h2 : s.vm.method? m = some meth) (h3 : meth.code = some c) (h4 : c.code = bytes)
    (h5 : (c.maxLocals == mx && c.exceptionTable.isEmpty && decide (c.maxStack ≤ mostOperands) && decide (meth.sig.returnType = rt) && !meth.locks && decide (parseMethodDescriptor y.desc = some meth.sig)) = true) : (Jvm.Cond.code y bytes mx rt).before a s = true := by
  simp only [Bool.and_eq_true, beq_iff_eq, Bool.not_eq_true', decide_eq_true_eq] at h5
  obtain ⟨⟨⟨⟨⟨g1, g2⟩, g3⟩, g4⟩, g5⟩, g6⟩ := h5
  simp [Cond.before, Cond.holds, Cond.value, h1, h2, h3, h4, g1, g2, g3, g4, g5, g6]
def isCode : Jvm.Cond → Bool
  | .code _ _ _ _ => true
  | _ => false
theorem all_split {L : List Jvm.Cond} {P : Jvm.Cond → Bool} (h1 : L.all (fun c => isCode c || P c) = true) (h2 : ∀ c ∈ L.filter isCode, P c = true) : L.all P = true := by
  refine List.all_eq_true.mpr fun c hc => ?_
  have h := List.all_eq_true.mp h1 c hc
  rcases Bool.eq_false_or_eq_true (isCode c) with hi | hi
  · exact h2 c (List.mem_filter.mpr ⟨hc, hi⟩)
  · simpa [hi] using h
set_option maxRecDepth 65536 in
theorem w_c0 : (Jvm.Cond.code x code maxLocals ret).before args0 about1 = true := code_word (m := ⟨1, 2⟩) (meth := k1m2) (c := k1c2) (by decide +kernel) rfl rfl rfl (by decide +kernel)
set_option maxRecDepth 65536 in
theorem w_c1 : (Jvm.Cond.code ({ cls := "com/example/merit/merit/PostingsCollectionFrequencyPinLaw", name := "freq", desc := "(I)I" } : Jvm.MethodName) method_2_code (1 : Nat) (Option.some Jvm.ClassFile.FieldType.int)).before args0 about1 = true := code_word (m := ⟨1, 1⟩) (meth := k1m1) (c := k1c1) (by decide +kernel) rfl rfl rfl (by decide +kernel)
set_option maxRecDepth 65536 in
theorem w_c2 : (Jvm.Cond.code ({ cls := "java/lang/Math", name := "max", desc := "(II)I" } : Jvm.MethodName) jdk_29_method_65_code (2 : Nat) (Option.some Jvm.ClassFile.FieldType.int)).before args0 about1 = true := code_word (m := ⟨2, 1⟩) (meth := k2m1) (c := k2c1) (by decide +kernel) rfl rfl rfl (by decide +kernel)
set_option maxRecDepth 65536 in
theorem w_c3 : (Jvm.Cond.code ({ cls := "com/example/merit/merit/Postings", name := "<init>", desc := "([I[I)V" } : Jvm.MethodName) prog_35_method_1_code (3 : Nat) (Option.none : Option Jvm.ClassFile.FieldType)).before args0 about1 = true := code_word (m := ⟨3, 0⟩) (meth := k3m0) (c := k3c0) (by decide +kernel) rfl rfl rfl (by decide +kernel)
set_option maxRecDepth 65536 in
theorem w_c4 : (Jvm.Cond.code ({ cls := "java/lang/Object", name := "<init>", desc := "()V" } : Jvm.MethodName) object_method_1_code (1 : Nat) (Option.none : Option Jvm.ClassFile.FieldType)).before args0 about1 = true := code_word (m := ⟨0, 0⟩) (meth := k0m0) (c := k0c0) (by decide +kernel) rfl rfl rfl (by decide +kernel)
set_option maxRecDepth 65536 in
theorem w_c5 : (Jvm.Cond.code ({ cls := "com/example/merit/merit/Postings", name := "collectionFrequency", desc := "()J" } : Jvm.MethodName) prog_35_method_6_code (7 : Nat) (Option.some Jvm.ClassFile.FieldType.long)).before args0 about1 = true := code_word (m := ⟨3, 1⟩) (meth := k3m1) (c := k3c1) (by decide +kernel) rfl rfl rfl (by decide +kernel)
def codes1 : List Jvm.Cond := [Jvm.Cond.code x code maxLocals ret, Jvm.Cond.code ({ cls := "com/example/merit/merit/PostingsCollectionFrequencyPinLaw", name := "freq", desc := "(I)I" } : Jvm.MethodName) method_2_code (1 : Nat) (Option.some Jvm.ClassFile.FieldType.int), Jvm.Cond.code ({ cls := "java/lang/Math", name := "max", desc := "(II)I" } : Jvm.MethodName) jdk_29_method_65_code (2 : Nat) (Option.some Jvm.ClassFile.FieldType.int), Jvm.Cond.code ({ cls := "com/example/merit/merit/Postings", name := "<init>", desc := "([I[I)V" } : Jvm.MethodName) prog_35_method_1_code (3 : Nat) (Option.none : Option Jvm.ClassFile.FieldType), Jvm.Cond.code ({ cls := "java/lang/Object", name := "<init>", desc := "()V" } : Jvm.MethodName) object_method_1_code (1 : Nat) (Option.none : Option Jvm.ClassFile.FieldType), Jvm.Cond.code ({ cls := "com/example/merit/merit/Postings", name := "collectionFrequency", desc := "()J" } : Jvm.MethodName) prog_35_method_6_code (7 : Nat) (Option.some Jvm.ClassFile.FieldType.long)]
set_option maxRecDepth 65536 in
theorem codes_eq : words1.filter isCode = codes1 := rfl
theorem w_codes : ∀ c ∈ words1.filter isCode, c.before args0 about1 = true := by
  rw [codes_eq]
  intro c hc
  simp only [codes1, List.mem_cons, List.not_mem_nil, or_false] at hc
  rcases hc with rfl | rfl | rfl | rfl | rfl | rfl
  · exact w_c0
  · exact w_c1
  · exact w_c2
  · exact w_c3
  · exact w_c4
  · exact w_c5
set_option maxRecDepth 65536 in
theorem w_t1 : (words1.take 24).all (fun c => isCode c || c.before args0 about1) = true := by decide +kernel
set_option maxRecDepth 65536 in
theorem w_t2 : (words1.drop 24).all (fun c => isCode c || c.before args0 about1) = true := by decide +kernel
theorem w_tables : (allAtoms (Jvm.Cond.code x code maxLocals ret :: tables_1)).before args0 about1 = true := by
  rw [allAtoms_all]
  show words1.all (fun c => c.before args0 about1) = true
  refine all_split ?_ w_codes
  rw [← List.take_append_drop 24 words1, List.all_append, w_t1, w_t2]
  rfl
set_option maxRecDepth 65536 in
theorem w_case : (Jvm.Cond.and given_1 narrow_1).before args0 about1 = true := by decide +kernel
theorem w_applies : (headSpec (Jvm.Cond.code x code maxLocals ret :: tables_1) room_1).applies x e0.platform about1 = true :=
  (Spec.applies_iff w_frames).mpr ⟨w_running, w_runnable, w_alone, w_named, w_hears, w_ripe, w_room, w_tables⟩
theorem atStart : AtStart classFile x code maxLocals ret World_1 tables_1 room_1 Calls_1 rest_1 Pre_1 launch0 p0 e0 about1 theMethod args0 below0 :=
  ⟨lists_1, trivial, launch0.admits_env _ _ _, launch0.least_env, fairChoices_fair.cas, fairChoices_fair.clock, w_frames, w_args, w_heap, w_applies, trivial, trivial, w_case⟩
end start1
theorem witness_1 : WitnessClaimed_1 := ⟨start1.p0, start1.e0, start1.about1, start1.theMethod, start1.args0, start1.below0, start1.atStart⟩
end Jvm.Pilot.@@N@@
