import JvmDerived
import JvmDerived.Pilot.@@N@@Statement
import JvmDerived.Pilot.@@N@@Code
set_option linter.unusedVariables false
set_option linter.unusedSimpArgs false
@@BLOCK:NumsL.lean.txt@@
namespace Jvm.RoadKit
open Sem ClassFile Op Lib Jvm.Stand Jvm.Free Jvm.LawKit
section New
variable {p : Program} {l : Launch} {e : Env} {R : Room} {s : State} {m : MethodId} {args : Array Value} {below : List Frame} {meth : Method} {c : Code} {T : State} {locs : List Loc} {cells slots : Nat}
theorem retI (X : Stand p l e R s m args below meth c T locs cells slots) (hx : p.tables.exec = Jvm.exec) {pc : Nat} {Ls : Array Slot} {z : Int32} {rest : List Value} (hret : meth.sig.returnType = some .int) (hd : decode c.code pc = .ok (.ireturn, 1)) {fs : List Frame}
    (hl : ∀ (f : JFrame) (acts : List Action), f.method = m → f.locked = none → f.entered = [] → (doReturn e (T.setTop f) acts (some (.int z))).1 = T.setFrames fs) : Steps p.tables e below (T.setTop (mkF m pc Ls (.int z :: rest))) (T.setFrames fs) := by
  have hm' : T.vm.method? m = some meth := X.method'
  have hn : narrow .int (.int z) = .int z := rfl
  show Steps p.tables e below (T.setTop { method := m, pc := pc, locals := Ls, stack := _ :: rest, locked := none }) _
  jvm_step X.here [X.here.top, hx, hd, hm', hret, hn]
  first | (intro acts; rw [hl _ acts rfl rfl rfl]) | rw [hl _ _ rfl rfl rfl]
  exact Steps.refl _
end New
end Jvm.RoadKit
namespace Jvm.Pilot.@@N@@
open Jvm Jvm.ClassFile Sem Op Lib Jvm.Free Jvm.Stand Jvm.LawKit Jvm.RoadKit Bundle Jvm.Pilot.@@N@@.Jvm.D
theorem own_lcLt {x y : Int64} : lcmpW x y < 0 ↔ x < y := by rw [lcW]; exact lc_lt x y
theorem own_lcGt {x y : Int64} : 0 < lcmpW x y ↔ y < x := by rw [lcW]; exact lc_gt x y
theorem own_lcEq {x y : Int64} : lcmpW x y = 0 ↔ x = y := by rw [lcW]; exact lc_eq x y
theorem own_since (s : State) (n : Nat) : s.Since s.vm n := ⟨State.Warmed39.refl s, fun j p hj hp => by rw [Array.getElem?_eq_none hj] at hp; cases hp⟩
/-- a callee that may intern, and says which texts: the books of interned texts come in (Ts) and go out (Ts') -/
theorem own_backOfI {p : Program} {l : Launch} {e : Env} {R : Room} {s Z : State} {args a0 : Array Value} {below : List Frame} {h : Heap} {Ts Ts' : List String} {y : MethodName} {bytes : ByteArray} {maxL : Nat} {ret : Option FieldType} {rm : Room} {len W : Nat} {as' : Array Value} {Q : Option Value → Heap → List Loc → Prop}
    (hM : MetFree l y (head1 [Cond.code y bytes maxL ret] rm) (fun a U => a = as' ∧ Z.Warmed39 U.vm ∧ U.heap = h ∧ IB Z U.vm Ts) (fun _ _ _ _ _ => True) (fun _ U o U' => ∃ v L, o = .returned v ∧ (Q v U'.heap L ∧ IB Z U'.vm Ts') ∧ ReturnedEndW U o U' L rm.cells rm.slots))
    (hZ : Z.Warmed39 s.vm) (I : IB Z s.vm Ts) (wc : (Cond.code y bytes maxL ret).before a0 Z = true) (wz : (Cond.initialized y.cls).before a0 Z = true) (hf : rm.frames + 1 ≤ R.frames) (hl : W + (maxL + 11) + rm.locals ≤ R.locals) :
    BackS l R p e below s args y len W (fun A a => a = as' ∧ A.U.heap = h ∧ A.cells + rm.cells ≤ R.cells ∧ A.slots + rm.slots ≤ R.slots)
      (fun A _ v B => ∃ L, (Q v B.U.heap L ∧ IB Z B.U.vm Ts') ∧ B.locs = A.locs ++ L ∧ B.cells = A.cells + rm.cells ∧ B.slots = A.slots + rm.slots) :=
  BackS.of_freeW (bytes := bytes) (maxL := maxL) (ret := ret) (E := fun _ _ o t L k n => k = rm.cells ∧ n = rm.slots ∧ ∃ v, o = .returned v ∧ (Q v t.heap L ∧ IB Z t.vm Ts')) hM hf hl
    (fun m meth c A a Y hp => have hU : Z.Warmed39 A.U.vm := wtrans hZ Y.warmed
      ⟨by show (Cond.and _ .tt).before a A.U = true; rw [Cond.before_and, mv hU wc]; rfl, mv hU wc, mv hU wz, hp.2.2.1, hp.2.2.2⟩)
    (fun m meth c A a g mk Y hp => ⟨hp.1, wtrans hZ Y.warmed, hp.2.1, by
      have q : A.U.vm.interned = s.vm.interned := Y.warmed.interned_eq
      obtain ⟨more, h1, h2⟩ := I
      exact ⟨more, q.trans h1, h2⟩⟩) (fun _ _ _ _ _ _ _ _ _ => trivial)
    (fun _ _ _ _ ⟨v, L, h1, h2, h3⟩ => ⟨L, _, _, h3, rfl, rfl, v, h1, h2⟩)
    (fun m meth c A a g mk v t L k n Y hp _ _ ⟨e1, e2, v', e3, e4⟩ => by cases e3; subst e1 e2; exact ⟨L, e4, rfl, rfl, rfl⟩)
theorem own_ibT {p : Program} {l : Launch} {e : Env} {R : Room} {s Z : State} {vm0 : Vm} {m : MethodId} {args : Array Value} {below : List Frame} {meth : Method} {c : Code} {T : State} {locs : List Loc} {cells slots : Nat} {Ts : List String}
    (X : Stand p l e R (s.setVm vm0) m args below meth c T locs cells slots) (I : IB Z vm0 Ts) : IB Z T.vm Ts := by
  have q : T.vm.interned = vm0.interned := X.warmed.interned_eq
  obtain ⟨more, h1, h2⟩ := I
  exact ⟨more, q.trans h1, h2⟩
theorem own_frle {n k : Nat} {L : List Loc} (h : n ≤ k) (N : Fr k L) : Fr n L := fun y q => Nat.le_trans h (N y q)
theorem own_satoms {a0 : Array Value} {Z : State} (hw : ∀ d ∈ tables_1, d.before a0 Z = true) : ∀ a ∈ Bundle.stringAtoms, a.before a0 Z = true := fun d hd => by
  simp only [Bundle.stringAtoms, List.mem_cons, List.not_mem_nil, or_false] at hd
  rcases hd with rfl | rfl | rfl | rfl | rfl | rfl | rfl
  · exact hw _ (List.mem_of_getElem? (i := 4) rfl)
  · exact hw _ (List.mem_of_getElem? (i := 12) rfl)
  · exact hw _ (List.mem_of_getElem? (i := 16) rfl)
  · exact hw _ (List.mem_of_getElem? (i := 25) rfl)
  · exact hw _ (List.mem_of_getElem? (i := 27) rfl)
  · exact hw _ (List.mem_of_getElem? (i := 32) rfl)
  · exact hw _ (List.mem_of_getElem? (i := 33) rfl)
theorem own_pn0 : plainName "java/util/Objects" = true := by first | (simp [plainName, overriddenIn]; done) | decide +kernel
theorem own_ef_own_req (m : MethodId) (a_o : Addr) (t_o : Addr) : entryFrame m #[(.ref a_o), (.ref t_o)] 2 = mkF m 0 #[.val (.ref a_o), .val (.ref t_o)] [] := by first | (simp [entryFrame, mkF, argsToLocals, Value.category]; done) | rfl
theorem own_d7_0 : decode jdk_31_method_11_code 0 = .ok (.aload_n 0, 1) := by decide +kernel
theorem own_d7_1 : decode jdk_31_method_11_code 1 = .ok (.ifnonnull 12, 3) := by decide +kernel
theorem own_d7_13 : decode jdk_31_method_11_code 13 = .ok (.aload_n 0, 1) := by decide +kernel
theorem own_d7_14 : decode jdk_31_method_11_code 14 = .ok (.areturn, 1) := by decide +kernel
def Qown_req (Z : State) (a_o : Addr) (t_o : Addr) (h0 : Heap) (n0 : Nat) (v : Option Value) (h : Heap) (L : List Loc) : Prop := v = some (.ref a_o) ∧ Fr n0 L ∧ h = h0
set_option maxRecDepth 65536 in
set_option maxHeartbeats 40000000 in
theorem own_req (l : Launch) (Z : State) (a0 : Array Value) (hw : ∀ d ∈ tables_1, d.before a0 Z = true) (ws : List Jvm.Cond) (a_o : Addr) (t_o : Addr) (h0 : Heap) (n0 : Nat) (Z0 : n0 ≤ h0.size) :
    MetFree l (⟨"java/util/Objects", "requireNonNull", "(Ljava/lang/Object;Ljava/lang/String;)Ljava/lang/Object;"⟩ : MethodName) (head1 (Jvm.Cond.code (⟨"java/util/Objects", "requireNonNull", "(Ljava/lang/Object;Ljava/lang/String;)Ljava/lang/Object;"⟩ : MethodName) jdk_31_method_11_code 2 (some (.object "java/lang/Object")) :: ws) ({ frames := 0, cells := 0, slots := 0, locals := 0 } : Room)) (fun a U => a = #[(.ref a_o), (.ref t_o)] ∧ Z.Warmed39 U.vm ∧ U.heap = h0) (fun _ _ _ _ _ => True) (fun _ U o U' => ∃ v L, o = .returned v ∧ Qown_req Z a_o t_o h0 n0 v U'.heap L ∧ FrameEnd U o U' L ({ frames := 0, cells := 0, slots := 0, locals := 0 } : Room).cells ({ frames := 0, cells := 0, slots := 0, locals := 0 } : Room).slots) := by
  refine MetFree.of_bodySF (plainFor_of_name own_pn0) hisR ?_
  intro p e s m args below meth c s₁ Bd hml0 hP hK
  obtain ⟨rfl, hZ, hh⟩ := hP
  have hx := Bd.exec
  have hby := Bd.bytes
  have hml : c.maxLocals = 2 := hml0
  have hown : s.vm.findClass "java/util/Objects" = some m.cls := findClass_of_methodNamed Bd.named
  have hnm := (name_of_methodNamed Bd.named Bd.method).1
  have X0 : Stand p l e ({ frames := 0, cells := 0, slots := 0, locals := 0 } : Room) s m #[(.ref a_o), (.ref t_o)] below meth c s₁ [] 0 0 := Stand.of_body Bd
  have e0 : s₁.heap = h0 := by rw [← hh, Bd.state]; rfl
  have N0 := Fr.nil n0
  have pre0 : ∀ t, Steps p.tables e below (s₁.setTop (mkF m 0 #[.val (.ref a_o), .val (.ref t_o)] [])) t → Steps p.tables e below (s₁.setTop (entryFrame m #[(.ref a_o), (.ref t_o)] 2)) t := fun t k => castTop (own_ef_own_req m a_o t_o) k
  obtain ⟨fs, hr, hrun, hended, hW, hsame⟩ := X0.leave (v := some (.ref a_o)) (fun h => by rw [Bd.returns] at h; cases h) (hlocks := BodyLoose.notSynchronized Bd)
  refine ⟨_, _, pre0 _ ?_, hrun, hended, _, _, rfl, ?_, ⟨_, rfl⟩, hW, hsame.mono (by decide) (by decide)⟩
  · show Steps p.tables e below (s₁.setTop (mkF m 0 #[.val (.ref a_o), .val (.ref t_o)] [])) _
    refine XS.aloadN X0.here hx rfl (hb hby own_d7_0) rfl rfl ?_
    show Steps p.tables e below (s₁.setTop (mkF m 1 #[.val (.ref a_o), .val (.ref t_o)] [(.ref a_o)])) _
    refine XS.ifnonnullYes X0.here hx rfl (pc0 := 1) (pc' := 13) rfl (hb hby own_d7_1) rfl (by decide) (by decide) ?_
    show Steps p.tables e below (s₁.setTop (mkF m 13 #[.val (.ref a_o), .val (.ref t_o)] [])) _
    refine XS.aloadN X0.here hx rfl (hb hby own_d7_13) rfl rfl ?_
    show Steps p.tables e below (s₁.setTop (mkF m 14 #[.val (.ref a_o), .val (.ref t_o)] [(.ref a_o)])) _
    jvm_step X0.here [X0.here.top, hx, (hb hby own_d7_14), X0.method', Bd.returns, Value.isRef, FieldType.isReference]
    first | (intro acts; rw [hr _ acts rfl rfl rfl]) | rw [hr _ _ rfl rfl rfl]
    exact Steps.refl _
  · show Qown_req Z a_o t_o h0 n0 _ s₁.heap _
    rw [e0]
    exact ⟨rfl, N0, rfl⟩
theorem own_pn1 : plainName "java/lang/String" = true := by first | (simp [plainName, overriddenIn]; done) | decide +kernel
theorem own_ef_own_initB (m : MethodId) (a_o : Addr) (b_o : Addr) : entryFrame m #[(.ref a_o), (.ref b_o), (.int (0 : Int32))] 3 = mkF m 0 #[.val (.ref a_o), .val (.ref b_o), .val (.int (0 : Int32))] [] := by first | (simp [entryFrame, mkF, argsToLocals, Value.category]; done) | rfl
theorem own_d4_0 : decode jdk_42_method_151_code 0 = .ok (.aload_n 0, 1) := by decide +kernel
theorem own_d4_1 : decode jdk_42_method_151_code 1 = .ok (.invokespecial 1, 3) := by decide +kernel
theorem own_d4_4 : decode jdk_42_method_151_code 4 = .ok (.aload_n 0, 1) := by decide +kernel
theorem own_d4_5 : decode jdk_42_method_151_code 5 = .ok (.aload_n 1, 1) := by decide +kernel
theorem own_d4_6 : decode jdk_42_method_151_code 6 = .ok (.putfield 9, 3) := by decide +kernel
theorem own_d4_9 : decode jdk_42_method_151_code 9 = .ok (.aload_n 0, 1) := by decide +kernel
theorem own_d4_10 : decode jdk_42_method_151_code 10 = .ok (.iload_n 2, 1) := by decide +kernel
theorem own_d4_11 : decode jdk_42_method_151_code 11 = .ok (.putfield 15, 3) := by decide +kernel
theorem own_d4_14 : decode jdk_42_method_151_code 14 = .ok (.return_, 1) := by decide +kernel
def Qown_initB (Z : State) (a_o : Addr) (b_o : Addr) (u_v : Value) (u_c : Value) (h0 : Heap) (n0 : Nat) (v : Option Value) (h : Heap) (L : List Loc) : Prop := v = none ∧ Fr n0 L ∧ Keep h0 h [a_o]
set_option maxRecDepth 65536 in
set_option maxHeartbeats 40000000 in
theorem own_initB (l : Launch) (Z : State) (a0 : Array Value) (hw : ∀ d ∈ tables_1, d.before a0 Z = true) (ws : List Jvm.Cond) (a_o : Addr) (b_o : Addr) (u_v : Value) (u_c : Value) (h0 : Heap) (n0 : Nat) (Z0 : n0 ≤ h0.size) (hx_a_o : Exa Z h0 a_o "java/lang/String") (hv_a_o : Fld Z h0 a_o "java/lang/String" "value" "[B" u_v) (hc_a_o : Fld Z h0 a_o "java/lang/String" "coder" "B" u_c) (hg_a_o : n0 ≤ a_o) :
    MetFree l (⟨"java/lang/String", "<init>", "([BB)V"⟩ : MethodName) (head1 (Jvm.Cond.code (⟨"java/lang/String", "<init>", "([BB)V"⟩ : MethodName) jdk_42_method_151_code 3 none :: ws) ({ frames := 1, cells := 0, slots := 0, locals := 12 } : Room)) (fun a U => a = #[(.ref a_o), (.ref b_o), (.int (0 : Int32))] ∧ Z.Warmed39 U.vm ∧ U.heap = h0) (fun _ _ _ _ _ => True) (fun _ U o U' => ∃ v L, o = .returned v ∧ Qown_initB Z a_o b_o u_v u_c h0 n0 v U'.heap L ∧ FrameEnd U o U' L ({ frames := 1, cells := 0, slots := 0, locals := 12 } : Room).cells ({ frames := 1, cells := 0, slots := 0, locals := 12 } : Room).slots) := by
  refine MetFree.of_bodySF (plainFor_of_name own_pn1) hisR ?_
  intro p e s m args below meth c s₁ Bd hml0 hP hK
  obtain ⟨rfl, hZ, hh⟩ := hP
  have hx := Bd.exec
  have hby := Bd.bytes
  have hml : c.maxLocals = 3 := hml0
  have hown : s.vm.findClass "java/lang/String" = some m.cls := findClass_of_methodNamed Bd.named
  have hnm := (name_of_methodNamed Bd.named Bd.method).1
  have X0 : Stand p l e ({ frames := 1, cells := 0, slots := 0, locals := 12 } : Room) s m #[(.ref a_o), (.ref b_o), (.int (0 : Int32))] below meth c s₁ [] 0 0 := Stand.of_body Bd
  have e0 : s₁.heap = h0 := by rw [← hh, Bd.state]; rfl
  have N0 := Fr.nil n0
  have pre0 : ∀ t, Steps p.tables e below (s₁.setTop (mkF m 0 #[.val (.ref a_o), .val (.ref b_o), .val (.int (0 : Int32))] [])) t → Steps p.tables e below (s₁.setTop (entryFrame m #[(.ref a_o), (.ref b_o), (.int (0 : Int32))] 3)) t := fun t k => castTop (own_ef_own_initB m a_o b_o) k
  obtain ⟨T3, X3, e3, st3⟩ := initO X0 hx hZ hown (hw _ (List.mem_of_getElem? (i := 21) rfl)) (hw _ (List.mem_of_getElem? (i := 22) rfl)) (hw _ (List.mem_of_getElem? (i := 23) rfl)) e0 (g := (mkF m 1 #[.val (.ref a_o), .val (.ref b_o), .val (.int (0 : Int32))] [(.ref a_o)])) rfl (by rw [hml]; rfl) rfl (hb hby own_d4_1) (by decide) (W := 0) (by show 2 * 0 + _ ≤ _; exact Nat.le_of_eq rfl) (by decide)
  obtain ⟨T7, h7, X7, e7, W7, st7⟩ := putF X3 hx hZ hown (host := "") (Or.inl (hw _ (List.mem_of_getElem? (i := 24) rfl))) Via.refl e3 hv_a_o hx_a_o (Or.inr ⟨(hw _ (List.mem_of_getElem? (i := 25) rfl)), rfl, hnm⟩) (hw _ (List.mem_of_getElem? (i := 12) rfl)) (ty := (.array .byte)) (by decide) rfl rfl (g := (mkF m 6 #[.val (.ref a_o), .val (.ref b_o), .val (.int (0 : Int32))] [(.ref b_o), (.ref a_o)])) rfl rfl (hb hby own_d4_6)
  have Kc8 : Keep h0 h7 [a_o] := (Keep.refl h0 [a_o]).wr W7 (Or.inl (List.mem_of_getElem? (i := 0) rfl))
  have Zs9 : n0 ≤ h7.size := Nat.le_trans Z0 (Keep.of_wr W7).1
  have N10 := Fr.snoc X7 N0 hg_a_o
  have Fw7 : Fld Z h7 a_o "java/lang/String" "value" "[B" (.ref b_o) := hv_a_o.same W7
  have Fq14 : Exa Z h7 a_o "java/lang/String" := (hx_a_o.wr W7)
  have Fq15 : Fld Z h7 a_o "java/lang/String" "coder" "B" u_c := (hc_a_o.other W7 (Or.inr (slot_ne (Or.inr (hw _ (List.mem_of_getElem? (i := 27) rfl))) (Or.inr (hw _ (List.mem_of_getElem? (i := 25) rfl))) (by decide) (t := .byte) (t' := (.array .byte)) (by decide) (by decide))))
  obtain ⟨T16, h16, X16, e16, W16, st16⟩ := putFN X7 hx hZ hown (hw _ (List.mem_of_getElem? (i := 26) rfl)) Via.refl e7 Fq15 Fq14 (Or.inr ⟨(hw _ (List.mem_of_getElem? (i := 27) rfl)), rfl, hnm⟩) (hw _ (List.mem_of_getElem? (i := 12) rfl)) (ty := .byte) (v' := (.int (nar .byte (0 : Int32)))) (by decide) rfl (fits_nar_byte _) (g := (mkF m 11 #[.val (.ref a_o), .val (.ref b_o), .val (.int (0 : Int32))] [(.int (0 : Int32)), (.ref a_o)])) rfl rfl (hb hby own_d4_11)
  have Kc17 : Keep h0 h16 [a_o] := Kc8.wr W16 (Or.inl (List.mem_of_getElem? (i := 0) rfl))
  have Zs18 : n0 ≤ h16.size := Nat.le_trans Zs9 (Keep.of_wr W16).1
  have N19 := Fr.snoc X16 N10 hg_a_o
  have Fw16 : Fld Z h16 a_o "java/lang/String" "coder" "B" (.int (nar .byte (0 : Int32))) := Fq15.same W16
  obtain ⟨fs, hr, hrun, hended, hW, hsame⟩ := X16.leave (v := none) (fun _ => rfl) (hlocks := BodyLoose.notSynchronized Bd)
  refine ⟨_, _, pre0 _ ?_, hrun, hended, _, _, rfl, ?_, ⟨_, rfl⟩, hW, hsame.mono (by decide) (by decide)⟩
  · show Steps p.tables e below (s₁.setTop (mkF m 0 #[.val (.ref a_o), .val (.ref b_o), .val (.int (0 : Int32))] [])) _
    refine XS.aloadN X0.here hx rfl (hb hby own_d4_0) rfl rfl ?_
    show Steps p.tables e below (s₁.setTop (mkF m 1 #[.val (.ref a_o), .val (.ref b_o), .val (.int (0 : Int32))] [(.ref a_o)])) _
    refine st3 _ ?_
    show Steps p.tables e below (T3.setTop (mkF m 4 #[.val (.ref a_o), .val (.ref b_o), .val (.int (0 : Int32))] [])) _
    refine XS.aloadN X3.here hx rfl (hb hby own_d4_4) rfl rfl ?_
    show Steps p.tables e below (T3.setTop (mkF m 5 #[.val (.ref a_o), .val (.ref b_o), .val (.int (0 : Int32))] [(.ref a_o)])) _
    refine XS.aloadN X3.here hx rfl (hb hby own_d4_5) rfl rfl ?_
    show Steps p.tables e below (T3.setTop (mkF m 6 #[.val (.ref a_o), .val (.ref b_o), .val (.int (0 : Int32))] [(.ref b_o), (.ref a_o)])) _
    refine st7 _ ?_
    show Steps p.tables e below (T7.setTop (mkF m 9 #[.val (.ref a_o), .val (.ref b_o), .val (.int (0 : Int32))] [])) _
    refine XS.aloadN X7.here hx rfl (hb hby own_d4_9) rfl rfl ?_
    show Steps p.tables e below (T7.setTop (mkF m 10 #[.val (.ref a_o), .val (.ref b_o), .val (.int (0 : Int32))] [(.ref a_o)])) _
    refine XS.iloadN X7.here hx rfl (hb hby own_d4_10) rfl ?_
    show Steps p.tables e below (T7.setTop (mkF m 11 #[.val (.ref a_o), .val (.ref b_o), .val (.int (0 : Int32))] [(.int (0 : Int32)), (.ref a_o)])) _
    refine st16 _ ?_
    show Steps p.tables e below (T16.setTop (mkF m 14 #[.val (.ref a_o), .val (.ref b_o), .val (.int (0 : Int32))] [])) _
    exact X16.returnOut hx Bd.returns (hb hby own_d4_14) hr
  · show Qown_initB Z a_o b_o u_v u_c h0 n0 _ T16.heap _
    rw [e16]
    exact ⟨rfl, N19, Kc17⟩
theorem own_pn2 : plainName "java/lang/StringLatin1" = true := by first | (simp [plainName, overriddenIn]; done) | decide +kernel
theorem own_ef_own_can (m : MethodId) (p0 : Int32) : entryFrame m #[(.int p0)] 1 = mkF m 0 #[.val (.int p0)] [] := by first | (simp [entryFrame, mkF, argsToLocals, Value.category]; done) | rfl
theorem own_d2_0 : decode jdk_43_method_3_code 0 = .ok (.iload_n 0, 1) := by decide +kernel
theorem own_d2_1 : decode jdk_43_method_3_code 1 = .ok (.sipush 255, 3) := by decide +kernel
theorem own_d2_4 : decode jdk_43_method_3_code 4 = .ok (.if_icmp .gt 7, 3) := by decide +kernel
theorem own_d2_7 : decode jdk_43_method_3_code 7 = .ok (.iconst 1, 1) := by decide +kernel
theorem own_d2_8 : decode jdk_43_method_3_code 8 = .ok (.goto 4, 3) := by decide +kernel
theorem own_d2_11 : decode jdk_43_method_3_code 11 = .ok (.iconst 0, 1) := by decide +kernel
theorem own_d2_12 : decode jdk_43_method_3_code 12 = .ok (.ireturn, 1) := by decide +kernel
def own_can_f (p0 : Int32) : Int32 := (if (255 : Int32) < p0 then (0 : Int32) else (1 : Int32))
def Qown_can (Z : State) (p0 : Int32) (h0 : Heap) (n0 : Nat) (v : Option Value) (h : Heap) (L : List Loc) : Prop := v = some (.int (own_can_f p0)) ∧ Fr n0 L ∧ h = h0
set_option maxRecDepth 65536 in
set_option maxHeartbeats 40000000 in
theorem own_can (l : Launch) (Z : State) (a0 : Array Value) (hw : ∀ d ∈ tables_1, d.before a0 Z = true) (ws : List Jvm.Cond) (p0 : Int32) (h0 : Heap) (n0 : Nat) (Z0 : n0 ≤ h0.size) :
    MetFree l (⟨"java/lang/StringLatin1", "canEncode", "(C)Z"⟩ : MethodName) (head1 (Jvm.Cond.code (⟨"java/lang/StringLatin1", "canEncode", "(C)Z"⟩ : MethodName) jdk_43_method_3_code 1 (some .boolean) :: ws) ({ frames := 0, cells := 0, slots := 0, locals := 0 } : Room)) (fun a U => a = #[(.int p0)] ∧ Z.Warmed39 U.vm ∧ U.heap = h0) (fun _ _ _ _ _ => True) (fun _ U o U' => ∃ v L, o = .returned v ∧ Qown_can Z p0 h0 n0 v U'.heap L ∧ FrameEnd U o U' L ({ frames := 0, cells := 0, slots := 0, locals := 0 } : Room).cells ({ frames := 0, cells := 0, slots := 0, locals := 0 } : Room).slots) := by
  refine MetFree.of_bodySF (plainFor_of_name own_pn2) hisR ?_
  intro p e s m args below meth c s₁ Bd hml0 hP hK
  obtain ⟨rfl, hZ, hh⟩ := hP
  have hx := Bd.exec
  have hby := Bd.bytes
  have hml : c.maxLocals = 1 := hml0
  have hown : s.vm.findClass "java/lang/StringLatin1" = some m.cls := findClass_of_methodNamed Bd.named
  have hnm := (name_of_methodNamed Bd.named Bd.method).1
  have X0 : Stand p l e ({ frames := 0, cells := 0, slots := 0, locals := 0 } : Room) s m #[(.int p0)] below meth c s₁ [] 0 0 := Stand.of_body Bd
  have e0 : s₁.heap = h0 := by rw [← hh, Bd.state]; rfl
  have N0 := Fr.nil n0
  have pre0 : ∀ t, Steps p.tables e below (s₁.setTop (mkF m 0 #[.val (.int p0)] [])) t → Steps p.tables e below (s₁.setTop (entryFrame m #[(.int p0)] 1)) t := fun t k => castTop (own_ef_own_can m p0) k
  have pre4 : ∀ t, Steps p.tables e below (s₁.setTop (mkF m 4 #[.val (.int p0)] [(.int (255 : Int32)), (.int p0)])) t → Steps p.tables e below (s₁.setTop (entryFrame m #[(.int p0)] 1)) t := by
    intro t kt
    refine pre0 _ ?_
    show Steps p.tables e below (s₁.setTop (mkF m 0 #[.val (.int p0)] [])) _
    refine XS.iloadN X0.here hx rfl (hb hby own_d2_0) rfl ?_
    show Steps p.tables e below (s₁.setTop (mkF m 1 #[.val (.int p0)] [(.int p0)])) _
    refine XS.sipush X0.here hx rfl (hb hby own_d2_1) ?_
    exact kt
  by_cases hc4_5 : (255 : Int32) < p0
  · obtain ⟨fs, hr, hrun, hended, hW, hsame⟩ := X0.leave (v := some (.int (0 : Int32))) (fun h => by rw [Bd.returns] at h; cases h) (hlocks := BodyLoose.notSynchronized Bd)
    refine ⟨_, _, pre4 _ ?_, hrun, hended, _, _, rfl, ?_, ⟨_, rfl⟩, hW, hsame.mono (by decide) (by decide)⟩
    · show Steps p.tables e below (s₁.setTop (mkF m 4 #[.val (.int p0)] [(.int (255 : Int32)), (.int p0)])) _
      refine XS.icmpYes X0.here hx rfl (pc0 := 4) (pc' := 11) rfl (hb hby own_d2_4) rfl (tlt hc4_5).2.2.1 (by decide) (by decide) ?_
      show Steps p.tables e below (s₁.setTop (mkF m 11 #[.val (.int p0)] [])) _
      refine XS.iconst X0.here hx rfl (hb hby own_d2_11) ?_
      show Steps p.tables e below (s₁.setTop (mkF m 12 #[.val (.int p0)] [(.int (0 : Int32))])) _
      exact retN X0 hx (t := .boolean) Bd.returns (by simp) (hb hby own_d2_12) hr
    · show Qown_can Z p0 h0 n0 _ s₁.heap _
      rw [e0]
      have hv : (own_can_f p0) = (0 : Int32) := by unfold own_can_f; rw [if_pos hc4_5]
      exact ⟨(by rw [hv]), N0, rfl⟩
  · obtain ⟨fs, hr, hrun, hended, hW, hsame⟩ := X0.leave (v := some (.int (1 : Int32))) (fun h => by rw [Bd.returns] at h; cases h) (hlocks := BodyLoose.notSynchronized Bd)
    refine ⟨_, _, pre4 _ ?_, hrun, hended, _, _, rfl, ?_, ⟨_, rfl⟩, hW, hsame.mono (by decide) (by decide)⟩
    · show Steps p.tables e below (s₁.setTop (mkF m 4 #[.val (.int p0)] [(.int (255 : Int32)), (.int p0)])) _
      refine XS.icmpNo X0.here hx rfl (hb hby own_d2_4) rfl (flt hc4_5).2.2.1 ?_
      show Steps p.tables e below (s₁.setTop (mkF m 7 #[.val (.int p0)] [])) _
      refine XS.iconst X0.here hx rfl (hb hby own_d2_7) ?_
      show Steps p.tables e below (s₁.setTop (mkF m 8 #[.val (.int p0)] [(.int (1 : Int32))])) _
      refine XS.goto X0.here hx rfl (pc0 := 8) (pc' := 12) rfl (hb hby own_d2_8) (by decide) (by decide) ?_
      show Steps p.tables e below (s₁.setTop (mkF m 12 #[.val (.int p0)] [(.int (1 : Int32))])) _
      exact retN X0 hx (t := .boolean) Bd.returns (by simp) (hb hby own_d2_12) hr
    · show Qown_can Z p0 h0 n0 _ s₁.heap _
      rw [e0]
      have hv : (own_can_f p0) = (1 : Int32) := by unfold own_can_f; rw [if_neg hc4_5]
      exact ⟨(by rw [hv]), N0, rfl⟩
theorem own_can1 {p : Int32} (h : ¬ (255 : Int32) < p) : ¬ own_can_f p = (0 : Int32) := by
  unfold own_can_f; rw [if_neg h]; decide
theorem own_ef_own_tob (m : MethodId) (p_0 : Int32) : entryFrame m #[(.int p_0)] 1 = mkF m 0 #[.val (.int p_0)] [] := by first | (simp [entryFrame, mkF, argsToLocals, Value.category]; done) | rfl
theorem own_d3_0 : decode jdk_43_method_46_code 0 = .ok (.iconst 1, 1) := by decide +kernel
theorem own_d3_1 : decode jdk_43_method_46_code 1 = .ok (.newarray .byte, 2) := by decide +kernel
theorem own_d3_3 : decode jdk_43_method_46_code 3 = .ok (.dup, 1) := by decide +kernel
theorem own_d3_4 : decode jdk_43_method_46_code 4 = .ok (.iconst 0, 1) := by decide +kernel
theorem own_d3_5 : decode jdk_43_method_46_code 5 = .ok (.iload_n 0, 1) := by decide +kernel
theorem own_d3_6 : decode jdk_43_method_46_code 6 = .ok (.i2b, 1) := by decide +kernel
theorem own_d3_7 : decode jdk_43_method_46_code 7 = .ok (.bastore, 1) := by decide +kernel
theorem own_d3_8 : decode jdk_43_method_46_code 8 = .ok (.areturn, 1) := by decide +kernel
def Qown_tob (Z : State) (p_0 : Int32) (h0 : Heap) (n0 : Nat) (v : Option Value) (h : Heap) (L : List Loc) : Prop := ∃ r_o : Addr, v = some (.ref r_o) ∧ Fr n0 L ∧ h0.size ≤ r_o ∧ Keep h0 h []
set_option maxRecDepth 65536 in
set_option maxHeartbeats 40000000 in
theorem own_tob (l : Launch) (Z : State) (a0 : Array Value) (hw : ∀ d ∈ tables_1, d.before a0 Z = true) (ws : List Jvm.Cond) (p_0 : Int32) (h0 : Heap) (n0 : Nat) (Z0 : n0 ≤ h0.size) :
    MetFree l (⟨"java/lang/StringLatin1", "toBytes", "(C)[B"⟩ : MethodName) (head1 (Jvm.Cond.code (⟨"java/lang/StringLatin1", "toBytes", "(C)[B"⟩ : MethodName) jdk_43_method_46_code 1 (some (.array .byte)) :: ws) ({ frames := 0, cells := 1, slots := 1, locals := 0 } : Room)) (fun a U => a = #[(.int p_0)] ∧ Z.Warmed39 U.vm ∧ U.heap = h0) (fun _ _ _ _ _ => True) (fun _ U o U' => ∃ v L, o = .returned v ∧ Qown_tob Z p_0 h0 n0 v U'.heap L ∧ FrameEnd U o U' L ({ frames := 0, cells := 1, slots := 1, locals := 0 } : Room).cells ({ frames := 0, cells := 1, slots := 1, locals := 0 } : Room).slots) := by
  refine MetFree.of_bodySF (plainFor_of_name own_pn2) hisR ?_
  intro p e s m args below meth c s₁ Bd hml0 hP hK
  obtain ⟨rfl, hZ, hh⟩ := hP
  have hx := Bd.exec
  have hby := Bd.bytes
  have hml : c.maxLocals = 1 := hml0
  have hown : s.vm.findClass "java/lang/StringLatin1" = some m.cls := findClass_of_methodNamed Bd.named
  have hnm := (name_of_methodNamed Bd.named Bd.method).1
  have X0 : Stand p l e ({ frames := 0, cells := 1, slots := 1, locals := 0 } : Room) s m #[(.int p_0)] below meth c s₁ [] 0 0 := Stand.of_body Bd
  have e0 : s₁.heap = h0 := by rw [← hh, Bd.state]; rfl
  have N0 := Fr.nil n0
  have pre0 : ∀ t, Steps p.tables e below (s₁.setTop (mkF m 0 #[.val (.int p_0)] [])) t → Steps p.tables e below (s₁.setTop (entryFrame m #[(.int p_0)] 1)) t := fun t k => castTop (own_ef_own_tob m p_0) k
  obtain ⟨T3, h3, k3, X3, e3, E3, A3, Y3, st3⟩ := newPE X0 hx hZ (hw _ (List.mem_of_getElem? (i := 16) rfl)) e0 (g := (mkF m 1 #[.val (.int p_0)] [(.int (1 : Int32))])) rfl (hb hby own_d3_1) rfl (by decide) (cap := 1) (by decide) (by decide) (by decide) (by decide) (ad := "[B") (by first | rfl | decide)
  obtain ⟨b3, g3⟩ : ∃ z, z = h0.size := ⟨_, rfl⟩
  rw [← g3] at A3 Y3 st3
  have Ge4 : n0 ≤ b3 := Nat.le_trans Z0 (Nat.le_of_eq g3.symm)
  have Sz5 : h0.size ≤ b3 := Nat.le_trans (Keep.refl h0 []).1 (Nat.le_of_eq g3.symm)
  have Kc6 : Keep h0 h3 [] := (Keep.refl h0 []).ext E3
  have Zs7 : n0 ≤ h3.size := (Nat.le_trans Z0 E3.1)
  have V3 : Arv Z h3 b3 k3 .byte (1 : Int32) [(.int (0 : Int32))] (.int (0 : Int32)) := (Arv.new A3 (by decide)).pad (pad_rep [] (.int (0 : Int32)) 1)
  obtain ⟨cl13, Ar13, q13, S13, M13, H13, G13⟩ := id V3
  have hin13 : ¬ ((0 : Int32) < 0 ∨ cl13.slots.size ≤ ((0 : Int32)).toNatClampNeg) := inb_of S13 ⟨by decide, by decide⟩
  obtain ⟨T14, h14, X14, e14, W14, st14⟩ := stB X3 hx hZ e3 Ar13 (j := (0 : Int32)) hin13 (g := (mkF m 7 #[.val (.int p_0)] [(.int (p_0.toInt8.toInt32)), (.int (0 : Int32)), (.ref b3), (.ref b3)])) rfl rfl (hb hby own_d3_7)
  have Kc16 : Keep h0 h14 [] := Kc6.wr W14 (Or.inr Sz5)
  have Zs17 : n0 ≤ h14.size := Nat.le_trans Zs7 (Keep.of_wr W14).1
  have N18 := Fr.snoc X14 N0 Ge4
  have Vm15 : Arv Z h14 b3 k3 .byte (1 : Int32) [(.int (nar .byte (p_0.toInt8.toInt32)))] (.int (0 : Int32)) := Arv.set Ar13 q13 S13 M13 H13 G13 (fits_nar_byte _) W14 0 rfl (Nat.le_of_ble_eq_true rfl)
  obtain ⟨fs, hr, hrun, hended, hW, hsame⟩ := X14.leave (v := some (.ref b3)) (fun h => by rw [Bd.returns] at h; cases h) (hlocks := BodyLoose.notSynchronized Bd)
  refine ⟨_, _, pre0 _ ?_, hrun, hended, _, _, rfl, ?_, ⟨_, rfl⟩, hW, hsame.mono (by decide) (by decide)⟩
  · show Steps p.tables e below (s₁.setTop (mkF m 0 #[.val (.int p_0)] [])) _
    refine XS.iconst X0.here hx rfl (hb hby own_d3_0) ?_
    show Steps p.tables e below (s₁.setTop (mkF m 1 #[.val (.int p_0)] [(.int (1 : Int32))])) _
    refine st3 _ ?_
    show Steps p.tables e below (T3.setTop (mkF m 3 #[.val (.int p_0)] [(.ref b3)])) _
    refine XS.dup X3.here hx rfl (hb hby own_d3_3) rfl rfl ?_
    show Steps p.tables e below (T3.setTop (mkF m 4 #[.val (.int p_0)] [(.ref b3), (.ref b3)])) _
    refine XS.iconst X3.here hx rfl (hb hby own_d3_4) ?_
    show Steps p.tables e below (T3.setTop (mkF m 5 #[.val (.int p_0)] [(.int (0 : Int32)), (.ref b3), (.ref b3)])) _
    refine XS.iloadN X3.here hx rfl (hb hby own_d3_5) rfl ?_
    show Steps p.tables e below (T3.setTop (mkF m 6 #[.val (.int p_0)] [(.int p_0), (.int (0 : Int32)), (.ref b3), (.ref b3)])) _
    refine XS.i2b X3.here hx rfl (hb hby own_d3_6) rfl ?_
    show Steps p.tables e below (T3.setTop (mkF m 7 #[.val (.int p_0)] [(.int (p_0.toInt8.toInt32)), (.int (0 : Int32)), (.ref b3), (.ref b3)])) _
    refine st14 _ ?_
    show Steps p.tables e below (T14.setTop (mkF m 8 #[.val (.int p_0)] [(.ref b3)])) _
    jvm_step X14.here [X14.here.top, hx, (hb hby own_d3_8), X14.method', Bd.returns, Value.isRef, FieldType.isReference]
    first | (intro acts; rw [hr _ acts rfl rfl rfl]) | rw [hr _ _ rfl rfl rfl]
    exact Steps.refl _
  · show Qown_tob Z p_0 h0 n0 _ T14.heap _
    rw [e14]
    exact ⟨b3, rfl, N18, Sz5, Kc16⟩
theorem own_ef_own_valueOf (m : MethodId) (p_0 : Int32) : entryFrame m #[(.int p_0)] 1 = mkF m 0 #[.val (.int p_0)] [] := by first | (simp [entryFrame, mkF, argsToLocals, Value.category]; done) | rfl
theorem own_pd0 : parseMethodDescriptor "(C)Z" = some ⟨[.char], some .boolean⟩ := by decide +kernel
theorem own_pd1 : parseMethodDescriptor "(C)[B" = some ⟨[.char], some (.array .byte)⟩ := by decide +kernel
theorem own_pd2 : parseMethodDescriptor "([BB)V" = some ⟨[(.array .byte), .byte], none⟩ := by decide +kernel
theorem own_d1_0 : decode jdk_42_method_139_code 0 = .ok (.getstatic 38, 3) := by decide +kernel
theorem own_d1_3 : decode jdk_42_method_139_code 3 = .ok (.ifCond .eq 23, 3) := by decide +kernel
theorem own_d1_6 : decode jdk_42_method_139_code 6 = .ok (.iload_n 0, 1) := by decide +kernel
theorem own_d1_7 : decode jdk_42_method_139_code 7 = .ok (.invokestatic 1015, 3) := by decide +kernel
theorem own_d1_10 : decode jdk_42_method_139_code 10 = .ok (.ifCond .eq 16, 3) := by decide +kernel
theorem own_d1_13 : decode jdk_42_method_139_code 13 = .ok (.new 10, 3) := by decide +kernel
theorem own_d1_16 : decode jdk_42_method_139_code 16 = .ok (.dup, 1) := by decide +kernel
theorem own_d1_17 : decode jdk_42_method_139_code 17 = .ok (.iload_n 0, 1) := by decide +kernel
theorem own_d1_18 : decode jdk_42_method_139_code 18 = .ok (.invokestatic 1018, 3) := by decide +kernel
theorem own_d1_21 : decode jdk_42_method_139_code 21 = .ok (.iconst 0, 1) := by decide +kernel
theorem own_d1_22 : decode jdk_42_method_139_code 22 = .ok (.invokespecial 209, 3) := by decide +kernel
theorem own_d1_25 : decode jdk_42_method_139_code 25 = .ok (.areturn, 1) := by decide +kernel
def Qown_valueOf (Z : State) (p_0 : Int32) (cs : Int32) (h0 : Heap) (n0 : Nat) (v : Option Value) (h : Heap) (L : List Loc) : Prop := ∃ r_o : Addr, v = some (.ref r_o) ∧ Fr n0 L ∧ h0.size ≤ r_o ∧ Keep h0 h []
set_option maxRecDepth 65536 in
set_option maxHeartbeats 40000000 in
theorem own_valueOf (l : Launch) (Z : State) (a0 : Array Value) (hw : ∀ d ∈ tables_1, d.before a0 Z = true) (ws : List Jvm.Cond) (p_0 : Int32) (cs : Int32) (h0 : Heap) (n0 : Nat) (Z0 : n0 ≤ h0.size) (hS : Sta Z Z.heap "java/lang/String" "COMPACT_STRINGS" "Z" (.int cs)) (hO : Old Z n0 h0) (hcs : ¬ cs = (0 : Int32)) (hp : ¬ (255 : Int32) < p_0) :
    MetFree l (⟨"java/lang/String", "valueOf", "(C)Ljava/lang/String;"⟩ : MethodName) (head1 (Jvm.Cond.code (⟨"java/lang/String", "valueOf", "(C)Ljava/lang/String;"⟩ : MethodName) jdk_42_method_139_code 1 (some (.object "java/lang/String")) :: ws) ({ frames := 2, cells := 2, slots := 5, locals := 27 } : Room)) (fun a U => a = #[(.int p_0)] ∧ Z.Warmed39 U.vm ∧ U.heap = h0) (fun _ _ _ _ _ => True) (fun _ U o U' => ∃ v L, o = .returned v ∧ Qown_valueOf Z p_0 cs h0 n0 v U'.heap L ∧ FrameEnd U o U' L ({ frames := 2, cells := 2, slots := 5, locals := 27 } : Room).cells ({ frames := 2, cells := 2, slots := 5, locals := 27 } : Room).slots) := by
  refine MetFree.of_bodySF (plainFor_of_name own_pn1) hisR ?_
  intro p e s m args below meth c s₁ Bd hml0 hP hK
  obtain ⟨rfl, hZ, hh⟩ := hP
  have hx := Bd.exec
  have hby := Bd.bytes
  have hml : c.maxLocals = 1 := hml0
  have hown : s.vm.findClass "java/lang/String" = some m.cls := findClass_of_methodNamed Bd.named
  have hnm := (name_of_methodNamed Bd.named Bd.method).1
  have X0 : Stand p l e ({ frames := 2, cells := 2, slots := 5, locals := 27 } : Room) s m #[(.int p_0)] below meth c s₁ [] 0 0 := Stand.of_body Bd
  have e0 : s₁.heap = h0 := by rw [← hh, Bd.state]; rfl
  have N0 := Fr.nil n0
  have pre0 : ∀ t, Steps p.tables e below (s₁.setTop (mkF m 0 #[.val (.int p_0)] [])) t → Steps p.tables e below (s₁.setTop (entryFrame m #[(.int p_0)] 1)) t := fun t k => castTop (own_ef_own_valueOf m p_0) k
  obtain ⟨T2, X2, e2, st2⟩ := getS2 X0 hx hZ hown (host := "") (Or.inl (hw _ (List.mem_of_getElem? (i := 6) rfl))) Via.refl e0 (hS.ext hO.2) (g := (mkF m 0 #[.val (.int p_0)] [])) rfl (hb hby own_d1_0)
  obtain ⟨_, _, ⟨T6, L6, k6, n6⟩, -, X6, ⟨Lc6, hQ6, l6, y6, z6⟩, st6⟩ := Jvm.LawKit.callS X2 hx (y := (⟨"java/lang/StringLatin1", "canEncode", "(C)Z"⟩ : MethodName)) hown (mvT hZ (hw _ (List.mem_of_getElem? (i := 7) rfl))) (mvT hZ (hw _ (List.mem_of_getElem? (i := 8) rfl))) (mvT hZ (hw _ (List.mem_of_getElem? (i := 9) rfl))) (mvT hZ (hw _ (List.mem_of_getElem? (i := 10) rfl))) (by decide) (backOf (W := 0) (own_can l Z a0 hw [] p_0 h0 n0 Z0 ) hZ (hw _ (List.mem_of_getElem? (i := 10) rfl)) (hw _ (List.mem_of_getElem? (i := 9) rfl)) (by decide) (by decide)) (g := (mkF m 7 #[.val (.int p_0)] [(.int p_0)])) rfl (by rw [hml]; rfl) (argsL := [(.int p_0)]) (rest := []) (lenOf own_pd0 rfl) rfl (by show 2 * 0 + _ ≤ _; exact Nat.le_of_eq rfl) (hb hby own_d1_7) (fun _ _ => ⟨rfl, e2, (by decide : 0 + 0 ≤ _), (by decide : 0 + 0 ≤ _)⟩)
  dsimp only [Pt.U, Pt.locs, Pt.cells, Pt.slots] at X6 l6 y6 z6 st6 hQ6
  rw [l6, y6, z6] at X6
  obtain ⟨rfl, Nq6, eh6⟩ := hQ6
  have N7 := Fr.app N0 Nq6
  obtain ⟨T10, h10, X10, e10, E10, A10, D10, -, st10⟩ := newO X6 hx hZ hown (hw _ (List.mem_of_getElem? (i := 11) rfl)) (hw _ (List.mem_of_getElem? (i := 12) rfl)) (hw _ (List.mem_of_getElem? (i := 4) rfl)) eh6 (g := (mkF m 13 #[.val (.int p_0)] [])) rfl (hb hby own_d1_13) (by decide) (by decide)
  obtain ⟨b10, g10⟩ : ∃ z, z = h0.size := ⟨_, rfl⟩
  rw [← g10] at A10 D10 st10
  have Ge11 : n0 ≤ b10 := Nat.le_trans Z0 (Nat.le_of_eq g10.symm)
  have Sz12 : h0.size ≤ b10 := Nat.le_trans (Keep.refl h0 []).1 (Nat.le_of_eq g10.symm)
  have Kc13 : Keep h0 h10 [] := (Keep.refl h0 []).ext E10
  have Zs14 : n0 ≤ h10.size := (Nat.le_trans Z0 E10.1)
  have F10_value : Fld Z h10 b10 "java/lang/String" "value" "[B" .null := D10 (Or.inr (hw _ (List.mem_of_getElem? (i := 25) rfl))) (ty := (.array .byte)) (by decide)
  have F10_coder : Fld Z h10 b10 "java/lang/String" "coder" "B" (.int (0 : Int32)) := D10 (Or.inr (hw _ (List.mem_of_getElem? (i := 27) rfl))) (ty := .byte) (by decide)
  obtain ⟨_, _, ⟨T18, L18, k18, n18⟩, -, X18, ⟨Lc18, hQ18, l18, y18, z18⟩, st18⟩ := Jvm.LawKit.callS X10 hx (y := (⟨"java/lang/StringLatin1", "toBytes", "(C)[B"⟩ : MethodName)) hown (mvT hZ (hw _ (List.mem_of_getElem? (i := 13) rfl))) (mvT hZ (hw _ (List.mem_of_getElem? (i := 14) rfl))) (mvT hZ (hw _ (List.mem_of_getElem? (i := 9) rfl))) (mvT hZ (hw _ (List.mem_of_getElem? (i := 15) rfl))) (by decide) (backOf (W := 2) (own_tob l Z a0 hw [] p_0 h10 n0 Zs14 ) hZ (hw _ (List.mem_of_getElem? (i := 15) rfl)) (hw _ (List.mem_of_getElem? (i := 9) rfl)) (by decide) (by decide)) (g := (mkF m 18 #[.val (.int p_0)] [(.int p_0), (.ref b10), (.ref b10)])) rfl (by rw [hml]; rfl) (argsL := [(.int p_0)]) (rest := [(.ref b10), (.ref b10)]) (lenOf own_pd1 rfl) rfl (by show 2 * 0 + _ ≤ _; exact Nat.le_of_eq rfl) (hb hby own_d1_18) (fun _ _ => ⟨rfl, e10, (by decide : 1 + 1 ≤ _), (by decide : 4 + 1 ≤ _)⟩)
  dsimp only [Pt.U, Pt.locs, Pt.cells, Pt.slots] at X18 l18 y18 z18 st18 hQ18
  rw [l18, y18, z18] at X18
  obtain ⟨r_o_18, rfl, Nq18, sz18_r_o, K18⟩ := hQ18
  have N19 := Fr.app N7 Nq18
  have Ne20 : b10 ≠ r_o_18 := Nat.ne_of_lt (Nat.lt_of_lt_of_le A10.lt sz18_r_o)
  have Ge21 : n0 ≤ r_o_18 := Nat.le_trans Zs14 sz18_r_o
  have Sz22 : h0.size ≤ r_o_18 := Nat.le_trans Kc13.1 sz18_r_o
  have Kc23 : Keep h0 T18.heap [] := Kc13.trans K18 all0
  have Zs24 : n0 ≤ T18.heap.size := Nat.le_trans Zs14 K18.1
  have Fq28 : Exa Z T18.heap b10 "java/lang/String" := (A10.keep K18)
  have Fq29 : Fld Z T18.heap b10 "java/lang/String" "value" "[B" .null := (F10_value.keep K18 nin0)
  have Fq30 : Fld Z T18.heap b10 "java/lang/String" "coder" "B" (.int (0 : Int32)) := (F10_coder.keep K18 nin0)
  obtain ⟨_, _, ⟨T27, L27, k27, n27⟩, -, X27, ⟨Lc27, hQ27, l27, y27, z27⟩, st27⟩ := X18.specialBack hx (y := (⟨"java/lang/String", "<init>", "([BB)V"⟩ : MethodName)) rfl hown (mvT hZ (hw _ (List.mem_of_getElem? (i := 17) rfl))) (mvT hZ (hw _ (List.mem_of_getElem? (i := 18) rfl))) (mvT hZ (hw _ (List.mem_of_getElem? (i := 20) rfl))) (by decide) (backOf (W := 1) (own_initB l Z a0 hw [] b10 r_o_18 .null (.int (0 : Int32)) T18.heap n0 Zs24 Fq28 Fq29 Fq30 Ge11) hZ (hw _ (List.mem_of_getElem? (i := 20) rfl)) (hw _ (List.mem_of_getElem? (i := 4) rfl)) (by decide) (by decide)) (g := (mkF m 22 #[.val (.int p_0)] [(.int (0 : Int32)), (.ref r_o_18), (.ref b10), (.ref b10)])) rfl (by rw [hml]; rfl) (Steps.refl _) (a := b10) (argsL := [(.ref r_o_18), (.int (0 : Int32))]) (rest := [(.ref b10)]) (lenOf own_pd2 rfl) rfl (by show 2 * 0 + _ ≤ _; exact Nat.le_of_eq rfl) (hb hby own_d1_22) (fun _ _ => ⟨rfl, rfl, (by decide : 2 + 0 ≤ _), (by decide : 5 + 0 ≤ _)⟩)
  dsimp only [Pt.U, Pt.locs, Pt.cells, Pt.slots] at X27 l27 y27 z27 st27 hQ27
  rw [l27, y27, z27] at X27
  obtain ⟨rfl, Nq27, K27⟩ := hQ27
  have N31 := Fr.app N19 Nq27
  have Kc32 : Keep h0 T27.heap [] := Kc23.trans K27 (allS (Or.inr Sz12) all0)
  have Zs33 : n0 ≤ T27.heap.size := Nat.le_trans Zs24 K27.1
  obtain ⟨fs, hr, hrun, hended, hW, hsame⟩ := X27.leave (v := some (.ref b10)) (fun h => by rw [Bd.returns] at h; cases h) (hlocks := BodyLoose.notSynchronized Bd)
  refine ⟨_, _, pre0 _ ?_, hrun, hended, _, _, rfl, ?_, ⟨_, rfl⟩, hW, hsame.mono (by decide) (by decide)⟩
  · show Steps p.tables e below (s₁.setTop (mkF m 0 #[.val (.int p_0)] [])) _
    refine st2 _ ?_
    show Steps p.tables e below (T2.setTop (mkF m 3 #[.val (.int p_0)] [(.int cs)])) _
    refine XS.ifNo X2.here hx rfl (hb hby own_d1_3) rfl ((if0 _ _).trans (feq (hcs : ¬ (cs = (0 : Int32)))).1) ?_
    show Steps p.tables e below (T2.setTop (mkF m 6 #[.val (.int p_0)] [])) _
    refine XS.iloadN X2.here hx rfl (hb hby own_d1_6) rfl ?_
    show Steps p.tables e below (T2.setTop (mkF m 7 #[.val (.int p_0)] [(.int p_0)])) _
    refine st6 _ ?_
    show Steps p.tables e below (T6.setTop (mkF m 10 #[.val (.int p_0)] [(.int (own_can_f p_0))])) _
    refine XS.ifNo X6.here hx rfl (hb hby own_d1_10) rfl ((if0 _ _).trans (feq (own_can1 hp : ¬ ((own_can_f p_0) = (0 : Int32)))).1) ?_
    show Steps p.tables e below (T6.setTop (mkF m 13 #[.val (.int p_0)] [])) _
    refine st10 _ ?_
    show Steps p.tables e below (T10.setTop (mkF m 16 #[.val (.int p_0)] [(.ref b10)])) _
    refine XS.dup X10.here hx rfl (hb hby own_d1_16) rfl rfl ?_
    show Steps p.tables e below (T10.setTop (mkF m 17 #[.val (.int p_0)] [(.ref b10), (.ref b10)])) _
    refine XS.iloadN X10.here hx rfl (hb hby own_d1_17) rfl ?_
    show Steps p.tables e below (T10.setTop (mkF m 18 #[.val (.int p_0)] [(.int p_0), (.ref b10), (.ref b10)])) _
    refine st18 _ ?_
    show Steps p.tables e below (T18.setTop (mkF m 21 #[.val (.int p_0)] [(.ref r_o_18), (.ref b10), (.ref b10)])) _
    refine XS.iconst X18.here hx rfl (hb hby own_d1_21) ?_
    show Steps p.tables e below (T18.setTop (mkF m 22 #[.val (.int p_0)] [(.int (0 : Int32)), (.ref r_o_18), (.ref b10), (.ref b10)])) _
    refine st27.trans ?_
    show Steps p.tables e below (T27.setTop (mkF m 25 #[.val (.int p_0)] [(.ref b10)])) _
    jvm_step X27.here [X27.here.top, hx, (hb hby own_d1_25), X27.method', Bd.returns, Value.isRef, FieldType.isReference]
    first | (intro acts; rw [hr _ acts rfl rfl rfl]) | rw [hr _ _ rfl rfl rfl]
    exact Steps.refl _
  · show Qown_valueOf Z p_0 cs h0 n0 _ T27.heap _
    exact ⟨b10, rfl, N31, Sz12, Kc32⟩
theorem own_pn3 : plainName "java/lang/StringUTF16" = true := by first | (simp [plainName, overriddenIn]; done) | decide +kernel
theorem own_ef_own_comp5 (m : MethodId) (a_c : Addr) (b_o : Addr) : entryFrame m #[(.ref a_c), (.int (0 : Int32)), (.ref b_o), (.int (0 : Int32)), (.int (2 : Int32))] 7 = mkF m 0 #[.val (.ref a_c), .val (.int (0 : Int32)), .val (.ref b_o), .val (.int (0 : Int32)), .val (.int (2 : Int32)), .unset, .unset] [] := by first | (simp [entryFrame, mkF, argsToLocals, Value.category]; done) | rfl
theorem own_d15_0 : decode jdk_52_method_21_code 0 = .ok (.iconst 0, 1) := by decide +kernel
theorem own_d15_1 : decode jdk_52_method_21_code 1 = .ok (.istore 5, 2) := by decide +kernel
theorem own_d15_3 : decode jdk_52_method_21_code 3 = .ok (.iload 5, 2) := by decide +kernel
theorem own_d15_5 : decode jdk_52_method_21_code 5 = .ok (.iload 4, 2) := by decide +kernel
theorem own_d15_7 : decode jdk_52_method_21_code 7 = .ok (.if_icmp .ge 37, 3) := by decide +kernel
theorem own_d15_10 : decode jdk_52_method_21_code 10 = .ok (.aload_n 0, 1) := by decide +kernel
theorem own_d15_11 : decode jdk_52_method_21_code 11 = .ok (.iload_n 1, 1) := by decide +kernel
theorem own_d15_12 : decode jdk_52_method_21_code 12 = .ok (.caload, 1) := by decide +kernel
theorem own_d15_13 : decode jdk_52_method_21_code 13 = .ok (.istore 6, 2) := by decide +kernel
theorem own_d15_15 : decode jdk_52_method_21_code 15 = .ok (.iload 6, 2) := by decide +kernel
theorem own_d15_17 : decode jdk_52_method_21_code 17 = .ok (.sipush 255, 3) := by decide +kernel
theorem own_d15_20 : decode jdk_52_method_21_code 20 = .ok (.if_icmp .le 6, 3) := by decide +kernel
theorem own_d15_26 : decode jdk_52_method_21_code 26 = .ok (.aload_n 2, 1) := by decide +kernel
theorem own_d15_27 : decode jdk_52_method_21_code 27 = .ok (.iload_n 3, 1) := by decide +kernel
theorem own_d15_28 : decode jdk_52_method_21_code 28 = .ok (.iload 6, 2) := by decide +kernel
theorem own_d15_30 : decode jdk_52_method_21_code 30 = .ok (.i2b, 1) := by decide +kernel
theorem own_d15_31 : decode jdk_52_method_21_code 31 = .ok (.bastore, 1) := by decide +kernel
theorem own_d15_32 : decode jdk_52_method_21_code 32 = .ok (.iinc 1 1, 3) := by decide +kernel
theorem own_d15_35 : decode jdk_52_method_21_code 35 = .ok (.iinc 3 1, 3) := by decide +kernel
theorem own_d15_38 : decode jdk_52_method_21_code 38 = .ok (.iinc 5 1, 3) := by decide +kernel
theorem own_d15_41 : decode jdk_52_method_21_code 41 = .ok (.goto (-38), 3) := by decide +kernel
theorem own_d15_44 : decode jdk_52_method_21_code 44 = .ok (.iload 4, 2) := by decide +kernel
theorem own_d15_46 : decode jdk_52_method_21_code 46 = .ok (.ireturn, 1) := by decide +kernel
def Qown_comp5 (Z : State) (a_c : Addr) (k_c : ClassId) (c_0 : Int32) (c_1 : Int32) (b_o : Addr) (k_b : ClassId) (y_0 : Int32) (y_1 : Int32) (h0 : Heap) (n0 : Nat) (v : Option Value) (h : Heap) (L : List Loc) : Prop := ∃ zs : List Value, v = some (.int (2 : Int32)) ∧ Fr n0 L ∧ Keep h0 h [b_o] ∧ Arv Z h b_o k_b .byte (2 : Int32) zs (.int (0 : Int32))
set_option maxRecDepth 65536 in
set_option maxHeartbeats 40000000 in
theorem own_comp5 (l : Launch) (Z : State) (a0 : Array Value) (hw : ∀ d ∈ tables_1, d.before a0 Z = true) (ws : List Jvm.Cond) (a_c : Addr) (k_c : ClassId) (c_0 : Int32) (c_1 : Int32) (b_o : Addr) (k_b : ClassId) (y_0 : Int32) (y_1 : Int32) (h0 : Heap) (n0 : Nat) (Z0 : n0 ≤ h0.size) (hA : Arv Z h0 a_c k_c .char (2 : Int32) [(.int c_0), (.int c_1)] (.int (0 : Int32))) (hB : Arv Z h0 b_o k_b .byte (2 : Int32) [(.int y_0), (.int y_1)] (.int (0 : Int32))) (hne : a_c ≠ b_o) (hgb : n0 ≤ b_o) (hl_0 : ¬ (255 : Int32) < c_0) (hl_1 : ¬ (255 : Int32) < c_1) :
    MetFree l (⟨"java/lang/StringUTF16", "compress", "([CI[BII)I"⟩ : MethodName) (head1 (Jvm.Cond.code (⟨"java/lang/StringUTF16", "compress", "([CI[BII)I"⟩ : MethodName) jdk_52_method_21_code 7 (some .int) :: ws) ({ frames := 0, cells := 0, slots := 0, locals := 0 } : Room)) (fun a U => a = #[(.ref a_c), (.int (0 : Int32)), (.ref b_o), (.int (0 : Int32)), (.int (2 : Int32))] ∧ Z.Warmed39 U.vm ∧ U.heap = h0) (fun _ _ _ _ _ => True) (fun _ U o U' => ∃ v L, o = .returned v ∧ Qown_comp5 Z a_c k_c c_0 c_1 b_o k_b y_0 y_1 h0 n0 v U'.heap L ∧ FrameEnd U o U' L ({ frames := 0, cells := 0, slots := 0, locals := 0 } : Room).cells ({ frames := 0, cells := 0, slots := 0, locals := 0 } : Room).slots) := by
  refine MetFree.of_bodySF (plainFor_of_name own_pn3) hisR ?_
  intro p e s m args below meth c s₁ Bd hml0 hP hK
  obtain ⟨rfl, hZ, hh⟩ := hP
  have hx := Bd.exec
  have hby := Bd.bytes
  have hml : c.maxLocals = 7 := hml0
  have hown : s.vm.findClass "java/lang/StringUTF16" = some m.cls := findClass_of_methodNamed Bd.named
  have hnm := (name_of_methodNamed Bd.named Bd.method).1
  have X0 : Stand p l e ({ frames := 0, cells := 0, slots := 0, locals := 0 } : Room) s m #[(.ref a_c), (.int (0 : Int32)), (.ref b_o), (.int (0 : Int32)), (.int (2 : Int32))] below meth c s₁ [] 0 0 := Stand.of_body Bd
  have e0 : s₁.heap = h0 := by rw [← hh, Bd.state]; rfl
  have N0 := Fr.nil n0
  have pre0 : ∀ t, Steps p.tables e below (s₁.setTop (mkF m 0 #[.val (.ref a_c), .val (.int (0 : Int32)), .val (.ref b_o), .val (.int (0 : Int32)), .val (.int (2 : Int32)), .unset, .unset] [])) t → Steps p.tables e below (s₁.setTop (entryFrame m #[(.ref a_c), (.int (0 : Int32)), (.ref b_o), (.int (0 : Int32)), (.int (2 : Int32))] 7)) t := fun t k => castTop (own_ef_own_comp5 m a_c b_o) k
  obtain ⟨cl9, Ar9, q9, S9, M9, H9, G9⟩ := id hA
  have hin9 : ¬ ((0 : Int32) < 0 ∨ cl9.slots.size ≤ ((0 : Int32)).toNatClampNeg) := inb_of S9 ⟨by decide, by decide⟩
  have hat9 : cl9.slots[((0 : Int32)).toNatClampNeg]? = some (.int c_0) := H9.at hin9 rfl
  obtain ⟨cl19, Ar19, q19, S19, M19, H19, G19⟩ := id hB
  have hin19 : ¬ ((0 : Int32) < 0 ∨ cl19.slots.size ≤ ((0 : Int32)).toNatClampNeg) := inb_of S19 ⟨by decide, by decide⟩
  obtain ⟨T20, h20, X20, e20, W20, st20⟩ := stB X0 hx hZ e0 Ar19 (j := (0 : Int32)) hin19 (g := (mkF m 31 #[.val (.ref a_c), .val (.int (0 : Int32)), .val (.ref b_o), .val (.int (0 : Int32)), .val (.int (2 : Int32)), .val (.int (0 : Int32)), .val (.int c_0)] [(.int (c_0.toInt8.toInt32)), (.int (0 : Int32)), (.ref b_o)])) rfl rfl (hb hby own_d15_31)
  have Kc22 : Keep h0 h20 [b_o] := (Keep.refl h0 [b_o]).wr W20 (Or.inl (List.mem_of_getElem? (i := 0) rfl))
  have Zs23 : n0 ≤ h20.size := Nat.le_trans Z0 (Keep.of_wr W20).1
  have N24 := Fr.snoc X20 N0 hgb
  have Vm21 : Arv Z h20 b_o k_b .byte (2 : Int32) [(.int (nar .byte (c_0.toInt8.toInt32))), (.int y_1)] (.int (0 : Int32)) := Arv.set Ar19 q19 S19 M19 H19 G19 (fits_nar_byte _) W20 0 rfl (Nat.le_of_ble_eq_true rfl)
  have Fq35 : Arv Z h20 a_c k_c .char (2 : Int32) [(.int c_0), (.int c_1)] (.int (0 : Int32)) := (hA.other W20 hne)
  obtain ⟨cl36, Ar36, q36, S36, M36, H36, G36⟩ := id Fq35
  have hin36 : ¬ ((1 : Int32) < 0 ∨ cl36.slots.size ≤ ((1 : Int32)).toNatClampNeg) := inb_of S36 ⟨by decide, by decide⟩
  have hat36 : cl36.slots[((1 : Int32)).toNatClampNeg]? = some (.int c_1) := H36.at hin36 rfl
  obtain ⟨cl46, Ar46, q46, S46, M46, H46, G46⟩ := id Vm21
  have hin46 : ¬ ((1 : Int32) < 0 ∨ cl46.slots.size ≤ ((1 : Int32)).toNatClampNeg) := inb_of S46 ⟨by decide, by decide⟩
  obtain ⟨T47, h47, X47, e47, W47, st47⟩ := stB X20 hx hZ e20 Ar46 (j := (1 : Int32)) hin46 (g := (mkF m 31 #[.val (.ref a_c), .val (.int (1 : Int32)), .val (.ref b_o), .val (.int (1 : Int32)), .val (.int (2 : Int32)), .val (.int (1 : Int32)), .val (.int c_1)] [(.int (c_1.toInt8.toInt32)), (.int (1 : Int32)), (.ref b_o)])) rfl rfl (hb hby own_d15_31)
  have Kc49 : Keep h0 h47 [b_o] := Kc22.wr W47 (Or.inl (List.mem_of_getElem? (i := 0) rfl))
  have Zs50 : n0 ≤ h47.size := Nat.le_trans Zs23 (Keep.of_wr W47).1
  have N51 := Fr.snoc X47 N24 hgb
  have Vm48 : Arv Z h47 b_o k_b .byte (2 : Int32) [(.int (nar .byte (c_0.toInt8.toInt32))), (.int (nar .byte (c_1.toInt8.toInt32)))] (.int (0 : Int32)) := Arv.set Ar46 q46 S46 M46 H46 G46 (fits_nar_byte _) W47 1 rfl (Nat.le_of_ble_eq_true rfl)
  obtain ⟨fs, hr, hrun, hended, hW, hsame⟩ := X47.leave (v := some (.int (2 : Int32))) (fun h => by rw [Bd.returns] at h; cases h) (hlocks := BodyLoose.notSynchronized Bd)
  refine ⟨_, _, pre0 _ ?_, hrun, hended, _, _, rfl, ?_, ⟨_, rfl⟩, hW, hsame.mono (by decide) (by decide)⟩
  · show Steps p.tables e below (s₁.setTop (mkF m 0 #[.val (.ref a_c), .val (.int (0 : Int32)), .val (.ref b_o), .val (.int (0 : Int32)), .val (.int (2 : Int32)), .unset, .unset] [])) _
    refine XS.iconst X0.here hx rfl (hb hby own_d15_0) ?_
    show Steps p.tables e below (s₁.setTop (mkF m 1 #[.val (.ref a_c), .val (.int (0 : Int32)), .val (.ref b_o), .val (.int (0 : Int32)), .val (.int (2 : Int32)), .unset, .unset] [(.int (0 : Int32))])) _
    refine XS.istore X0.here hx rfl (hb hby own_d15_1) rfl (l' := #[.val (.ref a_c), .val (.int (0 : Int32)), .val (.ref b_o), .val (.int (0 : Int32)), .val (.int (2 : Int32)), .val (.int (0 : Int32)), .unset]) rfl ?_
    show Steps p.tables e below (s₁.setTop (mkF m 3 #[.val (.ref a_c), .val (.int (0 : Int32)), .val (.ref b_o), .val (.int (0 : Int32)), .val (.int (2 : Int32)), .val (.int (0 : Int32)), .unset] [])) _
    refine XS.iload X0.here hx rfl (hb hby own_d15_3) rfl ?_
    show Steps p.tables e below (s₁.setTop (mkF m 5 #[.val (.ref a_c), .val (.int (0 : Int32)), .val (.ref b_o), .val (.int (0 : Int32)), .val (.int (2 : Int32)), .val (.int (0 : Int32)), .unset] [(.int (0 : Int32))])) _
    refine XS.iload X0.here hx rfl (hb hby own_d15_5) rfl ?_
    show Steps p.tables e below (s₁.setTop (mkF m 7 #[.val (.ref a_c), .val (.int (0 : Int32)), .val (.ref b_o), .val (.int (0 : Int32)), .val (.int (2 : Int32)), .val (.int (0 : Int32)), .unset] [(.int (2 : Int32)), (.int (0 : Int32))])) _
    refine XS.icmpNo X0.here hx rfl (hb hby own_d15_7) rfl (tlt ((by decide) : (0 : Int32) < (2 : Int32))).2.1 ?_
    show Steps p.tables e below (s₁.setTop (mkF m 10 #[.val (.ref a_c), .val (.int (0 : Int32)), .val (.ref b_o), .val (.int (0 : Int32)), .val (.int (2 : Int32)), .val (.int (0 : Int32)), .unset] [])) _
    refine XS.aloadN X0.here hx rfl (hb hby own_d15_10) rfl rfl ?_
    show Steps p.tables e below (s₁.setTop (mkF m 11 #[.val (.ref a_c), .val (.int (0 : Int32)), .val (.ref b_o), .val (.int (0 : Int32)), .val (.int (2 : Int32)), .val (.int (0 : Int32)), .unset] [(.ref a_c)])) _
    refine XS.iloadN X0.here hx rfl (hb hby own_d15_11) rfl ?_
    show Steps p.tables e below (s₁.setTop (mkF m 12 #[.val (.ref a_c), .val (.int (0 : Int32)), .val (.ref b_o), .val (.int (0 : Int32)), .val (.int (2 : Int32)), .val (.int (0 : Int32)), .unset] [(.int (0 : Int32)), (.ref a_c)])) _
    refine X0.caload hx (j := (0 : Int32)) (v := (.int c_0)) (by rw [e0]; exact Ar9.1) (State.isArrayOf_alike hZ.alike Ar9.2.1) Ar9.2.2 hin9 hat9 (g := (mkF m 12 #[.val (.ref a_c), .val (.int (0 : Int32)), .val (.ref b_o), .val (.int (0 : Int32)), .val (.int (2 : Int32)), .val (.int (0 : Int32)), .unset] [(.int (0 : Int32)), (.ref a_c)])) rfl rfl (hb hby own_d15_12) _ ?_
    show Steps p.tables e below (s₁.setTop (mkF m 13 #[.val (.ref a_c), .val (.int (0 : Int32)), .val (.ref b_o), .val (.int (0 : Int32)), .val (.int (2 : Int32)), .val (.int (0 : Int32)), .unset] [(.int c_0)])) _
    refine XS.istore X0.here hx rfl (hb hby own_d15_13) rfl (l' := #[.val (.ref a_c), .val (.int (0 : Int32)), .val (.ref b_o), .val (.int (0 : Int32)), .val (.int (2 : Int32)), .val (.int (0 : Int32)), .val (.int c_0)]) rfl ?_
    show Steps p.tables e below (s₁.setTop (mkF m 15 #[.val (.ref a_c), .val (.int (0 : Int32)), .val (.ref b_o), .val (.int (0 : Int32)), .val (.int (2 : Int32)), .val (.int (0 : Int32)), .val (.int c_0)] [])) _
    refine XS.iload X0.here hx rfl (hb hby own_d15_15) rfl ?_
    show Steps p.tables e below (s₁.setTop (mkF m 17 #[.val (.ref a_c), .val (.int (0 : Int32)), .val (.ref b_o), .val (.int (0 : Int32)), .val (.int (2 : Int32)), .val (.int (0 : Int32)), .val (.int c_0)] [(.int c_0)])) _
    refine XS.sipush X0.here hx rfl (hb hby own_d15_17) ?_
    show Steps p.tables e below (s₁.setTop (mkF m 20 #[.val (.ref a_c), .val (.int (0 : Int32)), .val (.ref b_o), .val (.int (0 : Int32)), .val (.int (2 : Int32)), .val (.int (0 : Int32)), .val (.int c_0)] [(.int (255 : Int32)), (.int c_0)])) _
    refine XS.icmpYes X0.here hx rfl (pc0 := 20) (pc' := 26) rfl (hb hby own_d15_20) rfl (flt (hl_0 : ¬ ((255 : Int32) < c_0))).2.2.2 (by decide) (by decide) ?_
    show Steps p.tables e below (s₁.setTop (mkF m 26 #[.val (.ref a_c), .val (.int (0 : Int32)), .val (.ref b_o), .val (.int (0 : Int32)), .val (.int (2 : Int32)), .val (.int (0 : Int32)), .val (.int c_0)] [])) _
    refine XS.aloadN X0.here hx rfl (hb hby own_d15_26) rfl rfl ?_
    show Steps p.tables e below (s₁.setTop (mkF m 27 #[.val (.ref a_c), .val (.int (0 : Int32)), .val (.ref b_o), .val (.int (0 : Int32)), .val (.int (2 : Int32)), .val (.int (0 : Int32)), .val (.int c_0)] [(.ref b_o)])) _
    refine XS.iloadN X0.here hx rfl (hb hby own_d15_27) rfl ?_
    show Steps p.tables e below (s₁.setTop (mkF m 28 #[.val (.ref a_c), .val (.int (0 : Int32)), .val (.ref b_o), .val (.int (0 : Int32)), .val (.int (2 : Int32)), .val (.int (0 : Int32)), .val (.int c_0)] [(.int (0 : Int32)), (.ref b_o)])) _
    refine XS.iload X0.here hx rfl (hb hby own_d15_28) rfl ?_
    show Steps p.tables e below (s₁.setTop (mkF m 30 #[.val (.ref a_c), .val (.int (0 : Int32)), .val (.ref b_o), .val (.int (0 : Int32)), .val (.int (2 : Int32)), .val (.int (0 : Int32)), .val (.int c_0)] [(.int c_0), (.int (0 : Int32)), (.ref b_o)])) _
    refine XS.i2b X0.here hx rfl (hb hby own_d15_30) rfl ?_
    show Steps p.tables e below (s₁.setTop (mkF m 31 #[.val (.ref a_c), .val (.int (0 : Int32)), .val (.ref b_o), .val (.int (0 : Int32)), .val (.int (2 : Int32)), .val (.int (0 : Int32)), .val (.int c_0)] [(.int (c_0.toInt8.toInt32)), (.int (0 : Int32)), (.ref b_o)])) _
    refine st20 _ ?_
    show Steps p.tables e below (T20.setTop (mkF m 32 #[.val (.ref a_c), .val (.int (0 : Int32)), .val (.ref b_o), .val (.int (0 : Int32)), .val (.int (2 : Int32)), .val (.int (0 : Int32)), .val (.int c_0)] [])) _
    refine XS.iinc X20.here hx rfl (hb hby own_d15_32) rfl (l' := #[.val (.ref a_c), .val (.int (1 : Int32)), .val (.ref b_o), .val (.int (0 : Int32)), .val (.int (2 : Int32)), .val (.int (0 : Int32)), .val (.int c_0)]) rfl ?_
    show Steps p.tables e below (T20.setTop (mkF m 35 #[.val (.ref a_c), .val (.int (1 : Int32)), .val (.ref b_o), .val (.int (0 : Int32)), .val (.int (2 : Int32)), .val (.int (0 : Int32)), .val (.int c_0)] [])) _
    refine XS.iinc X20.here hx rfl (hb hby own_d15_35) rfl (l' := #[.val (.ref a_c), .val (.int (1 : Int32)), .val (.ref b_o), .val (.int (1 : Int32)), .val (.int (2 : Int32)), .val (.int (0 : Int32)), .val (.int c_0)]) rfl ?_
    show Steps p.tables e below (T20.setTop (mkF m 38 #[.val (.ref a_c), .val (.int (1 : Int32)), .val (.ref b_o), .val (.int (1 : Int32)), .val (.int (2 : Int32)), .val (.int (0 : Int32)), .val (.int c_0)] [])) _
    refine XS.iinc X20.here hx rfl (hb hby own_d15_38) rfl (l' := #[.val (.ref a_c), .val (.int (1 : Int32)), .val (.ref b_o), .val (.int (1 : Int32)), .val (.int (2 : Int32)), .val (.int (1 : Int32)), .val (.int c_0)]) rfl ?_
    show Steps p.tables e below (T20.setTop (mkF m 41 #[.val (.ref a_c), .val (.int (1 : Int32)), .val (.ref b_o), .val (.int (1 : Int32)), .val (.int (2 : Int32)), .val (.int (1 : Int32)), .val (.int c_0)] [])) _
    refine XS.goto X20.here hx rfl (pc0 := 41) (pc' := 3) rfl (hb hby own_d15_41) (by decide) (by decide) ?_
    show Steps p.tables e below (T20.setTop (mkF m 3 #[.val (.ref a_c), .val (.int (1 : Int32)), .val (.ref b_o), .val (.int (1 : Int32)), .val (.int (2 : Int32)), .val (.int (1 : Int32)), .val (.int c_0)] [])) _
    refine XS.iload X20.here hx rfl (hb hby own_d15_3) rfl ?_
    show Steps p.tables e below (T20.setTop (mkF m 5 #[.val (.ref a_c), .val (.int (1 : Int32)), .val (.ref b_o), .val (.int (1 : Int32)), .val (.int (2 : Int32)), .val (.int (1 : Int32)), .val (.int c_0)] [(.int (1 : Int32))])) _
    refine XS.iload X20.here hx rfl (hb hby own_d15_5) rfl ?_
    show Steps p.tables e below (T20.setTop (mkF m 7 #[.val (.ref a_c), .val (.int (1 : Int32)), .val (.ref b_o), .val (.int (1 : Int32)), .val (.int (2 : Int32)), .val (.int (1 : Int32)), .val (.int c_0)] [(.int (2 : Int32)), (.int (1 : Int32))])) _
    refine XS.icmpNo X20.here hx rfl (hb hby own_d15_7) rfl (tlt ((by decide) : (1 : Int32) < (2 : Int32))).2.1 ?_
    show Steps p.tables e below (T20.setTop (mkF m 10 #[.val (.ref a_c), .val (.int (1 : Int32)), .val (.ref b_o), .val (.int (1 : Int32)), .val (.int (2 : Int32)), .val (.int (1 : Int32)), .val (.int c_0)] [])) _
    refine XS.aloadN X20.here hx rfl (hb hby own_d15_10) rfl rfl ?_
    show Steps p.tables e below (T20.setTop (mkF m 11 #[.val (.ref a_c), .val (.int (1 : Int32)), .val (.ref b_o), .val (.int (1 : Int32)), .val (.int (2 : Int32)), .val (.int (1 : Int32)), .val (.int c_0)] [(.ref a_c)])) _
    refine XS.iloadN X20.here hx rfl (hb hby own_d15_11) rfl ?_
    show Steps p.tables e below (T20.setTop (mkF m 12 #[.val (.ref a_c), .val (.int (1 : Int32)), .val (.ref b_o), .val (.int (1 : Int32)), .val (.int (2 : Int32)), .val (.int (1 : Int32)), .val (.int c_0)] [(.int (1 : Int32)), (.ref a_c)])) _
    refine X20.caload hx (j := (1 : Int32)) (v := (.int c_1)) (by rw [e20]; exact Ar36.1) (State.isArrayOf_alike hZ.alike Ar36.2.1) Ar36.2.2 hin36 hat36 (g := (mkF m 12 #[.val (.ref a_c), .val (.int (1 : Int32)), .val (.ref b_o), .val (.int (1 : Int32)), .val (.int (2 : Int32)), .val (.int (1 : Int32)), .val (.int c_0)] [(.int (1 : Int32)), (.ref a_c)])) rfl rfl (hb hby own_d15_12) _ ?_
    show Steps p.tables e below (T20.setTop (mkF m 13 #[.val (.ref a_c), .val (.int (1 : Int32)), .val (.ref b_o), .val (.int (1 : Int32)), .val (.int (2 : Int32)), .val (.int (1 : Int32)), .val (.int c_0)] [(.int c_1)])) _
    refine XS.istore X20.here hx rfl (hb hby own_d15_13) rfl (l' := #[.val (.ref a_c), .val (.int (1 : Int32)), .val (.ref b_o), .val (.int (1 : Int32)), .val (.int (2 : Int32)), .val (.int (1 : Int32)), .val (.int c_1)]) rfl ?_
    show Steps p.tables e below (T20.setTop (mkF m 15 #[.val (.ref a_c), .val (.int (1 : Int32)), .val (.ref b_o), .val (.int (1 : Int32)), .val (.int (2 : Int32)), .val (.int (1 : Int32)), .val (.int c_1)] [])) _
    refine XS.iload X20.here hx rfl (hb hby own_d15_15) rfl ?_
    show Steps p.tables e below (T20.setTop (mkF m 17 #[.val (.ref a_c), .val (.int (1 : Int32)), .val (.ref b_o), .val (.int (1 : Int32)), .val (.int (2 : Int32)), .val (.int (1 : Int32)), .val (.int c_1)] [(.int c_1)])) _
    refine XS.sipush X20.here hx rfl (hb hby own_d15_17) ?_
    show Steps p.tables e below (T20.setTop (mkF m 20 #[.val (.ref a_c), .val (.int (1 : Int32)), .val (.ref b_o), .val (.int (1 : Int32)), .val (.int (2 : Int32)), .val (.int (1 : Int32)), .val (.int c_1)] [(.int (255 : Int32)), (.int c_1)])) _
    refine XS.icmpYes X20.here hx rfl (pc0 := 20) (pc' := 26) rfl (hb hby own_d15_20) rfl (flt (hl_1 : ¬ ((255 : Int32) < c_1))).2.2.2 (by decide) (by decide) ?_
    show Steps p.tables e below (T20.setTop (mkF m 26 #[.val (.ref a_c), .val (.int (1 : Int32)), .val (.ref b_o), .val (.int (1 : Int32)), .val (.int (2 : Int32)), .val (.int (1 : Int32)), .val (.int c_1)] [])) _
    refine XS.aloadN X20.here hx rfl (hb hby own_d15_26) rfl rfl ?_
    show Steps p.tables e below (T20.setTop (mkF m 27 #[.val (.ref a_c), .val (.int (1 : Int32)), .val (.ref b_o), .val (.int (1 : Int32)), .val (.int (2 : Int32)), .val (.int (1 : Int32)), .val (.int c_1)] [(.ref b_o)])) _
    refine XS.iloadN X20.here hx rfl (hb hby own_d15_27) rfl ?_
    show Steps p.tables e below (T20.setTop (mkF m 28 #[.val (.ref a_c), .val (.int (1 : Int32)), .val (.ref b_o), .val (.int (1 : Int32)), .val (.int (2 : Int32)), .val (.int (1 : Int32)), .val (.int c_1)] [(.int (1 : Int32)), (.ref b_o)])) _
    refine XS.iload X20.here hx rfl (hb hby own_d15_28) rfl ?_
    show Steps p.tables e below (T20.setTop (mkF m 30 #[.val (.ref a_c), .val (.int (1 : Int32)), .val (.ref b_o), .val (.int (1 : Int32)), .val (.int (2 : Int32)), .val (.int (1 : Int32)), .val (.int c_1)] [(.int c_1), (.int (1 : Int32)), (.ref b_o)])) _
    refine XS.i2b X20.here hx rfl (hb hby own_d15_30) rfl ?_
    show Steps p.tables e below (T20.setTop (mkF m 31 #[.val (.ref a_c), .val (.int (1 : Int32)), .val (.ref b_o), .val (.int (1 : Int32)), .val (.int (2 : Int32)), .val (.int (1 : Int32)), .val (.int c_1)] [(.int (c_1.toInt8.toInt32)), (.int (1 : Int32)), (.ref b_o)])) _
    refine st47 _ ?_
    show Steps p.tables e below (T47.setTop (mkF m 32 #[.val (.ref a_c), .val (.int (1 : Int32)), .val (.ref b_o), .val (.int (1 : Int32)), .val (.int (2 : Int32)), .val (.int (1 : Int32)), .val (.int c_1)] [])) _
    refine XS.iinc X47.here hx rfl (hb hby own_d15_32) rfl (l' := #[.val (.ref a_c), .val (.int (2 : Int32)), .val (.ref b_o), .val (.int (1 : Int32)), .val (.int (2 : Int32)), .val (.int (1 : Int32)), .val (.int c_1)]) rfl ?_
    show Steps p.tables e below (T47.setTop (mkF m 35 #[.val (.ref a_c), .val (.int (2 : Int32)), .val (.ref b_o), .val (.int (1 : Int32)), .val (.int (2 : Int32)), .val (.int (1 : Int32)), .val (.int c_1)] [])) _
    refine XS.iinc X47.here hx rfl (hb hby own_d15_35) rfl (l' := #[.val (.ref a_c), .val (.int (2 : Int32)), .val (.ref b_o), .val (.int (2 : Int32)), .val (.int (2 : Int32)), .val (.int (1 : Int32)), .val (.int c_1)]) rfl ?_
    show Steps p.tables e below (T47.setTop (mkF m 38 #[.val (.ref a_c), .val (.int (2 : Int32)), .val (.ref b_o), .val (.int (2 : Int32)), .val (.int (2 : Int32)), .val (.int (1 : Int32)), .val (.int c_1)] [])) _
    refine XS.iinc X47.here hx rfl (hb hby own_d15_38) rfl (l' := #[.val (.ref a_c), .val (.int (2 : Int32)), .val (.ref b_o), .val (.int (2 : Int32)), .val (.int (2 : Int32)), .val (.int (2 : Int32)), .val (.int c_1)]) rfl ?_
    show Steps p.tables e below (T47.setTop (mkF m 41 #[.val (.ref a_c), .val (.int (2 : Int32)), .val (.ref b_o), .val (.int (2 : Int32)), .val (.int (2 : Int32)), .val (.int (2 : Int32)), .val (.int c_1)] [])) _
    refine XS.goto X47.here hx rfl (pc0 := 41) (pc' := 3) rfl (hb hby own_d15_41) (by decide) (by decide) ?_
    show Steps p.tables e below (T47.setTop (mkF m 3 #[.val (.ref a_c), .val (.int (2 : Int32)), .val (.ref b_o), .val (.int (2 : Int32)), .val (.int (2 : Int32)), .val (.int (2 : Int32)), .val (.int c_1)] [])) _
    refine XS.iload X47.here hx rfl (hb hby own_d15_3) rfl ?_
    show Steps p.tables e below (T47.setTop (mkF m 5 #[.val (.ref a_c), .val (.int (2 : Int32)), .val (.ref b_o), .val (.int (2 : Int32)), .val (.int (2 : Int32)), .val (.int (2 : Int32)), .val (.int c_1)] [(.int (2 : Int32))])) _
    refine XS.iload X47.here hx rfl (hb hby own_d15_5) rfl ?_
    show Steps p.tables e below (T47.setTop (mkF m 7 #[.val (.ref a_c), .val (.int (2 : Int32)), .val (.ref b_o), .val (.int (2 : Int32)), .val (.int (2 : Int32)), .val (.int (2 : Int32)), .val (.int c_1)] [(.int (2 : Int32)), (.int (2 : Int32))])) _
    refine XS.icmpYes X47.here hx rfl (pc0 := 7) (pc' := 44) rfl (hb hby own_d15_7) rfl (flt ((by decide) : ¬ ((2 : Int32) < (2 : Int32)))).2.1 (by decide) (by decide) ?_
    show Steps p.tables e below (T47.setTop (mkF m 44 #[.val (.ref a_c), .val (.int (2 : Int32)), .val (.ref b_o), .val (.int (2 : Int32)), .val (.int (2 : Int32)), .val (.int (2 : Int32)), .val (.int c_1)] [])) _
    refine XS.iload X47.here hx rfl (hb hby own_d15_44) rfl ?_
    show Steps p.tables e below (T47.setTop (mkF m 46 #[.val (.ref a_c), .val (.int (2 : Int32)), .val (.ref b_o), .val (.int (2 : Int32)), .val (.int (2 : Int32)), .val (.int (2 : Int32)), .val (.int c_1)] [(.int (2 : Int32))])) _
    exact retI X47 hx Bd.returns (hb hby own_d15_46) hr
  · show Qown_comp5 Z a_c k_c c_0 c_1 b_o k_b y_0 y_1 h0 n0 _ T47.heap _
    rw [e47]
    exact ⟨[(.int (nar .byte (c_0.toInt8.toInt32))), (.int (nar .byte (c_1.toInt8.toInt32)))], rfl, N51, Kc49, Vm48⟩
theorem own_ef_own_comp3 (m : MethodId) (a_c : Addr) : entryFrame m #[(.ref a_c), (.int (0 : Int32)), (.int (2 : Int32))] 6 = mkF m 0 #[.val (.ref a_c), .val (.int (0 : Int32)), .val (.int (2 : Int32)), .unset, .unset, .unset] [] := by first | (simp [entryFrame, mkF, argsToLocals, Value.category]; done) | rfl
theorem own_pd3 : parseMethodDescriptor "([CI[BII)I" = some ⟨[(.array .char), .int, (.array .byte), .int, .int], some .int⟩ := by decide +kernel
theorem own_d14_0 : decode jdk_52_method_16_code 0 = .ok (.iload_n 2, 1) := by decide +kernel
theorem own_d14_1 : decode jdk_52_method_16_code 1 = .ok (.newarray .byte, 2) := by decide +kernel
theorem own_d14_3 : decode jdk_52_method_16_code 3 = .ok (.astore_n 3, 1) := by decide +kernel
theorem own_d14_4 : decode jdk_52_method_16_code 4 = .ok (.aload_n 0, 1) := by decide +kernel
theorem own_d14_5 : decode jdk_52_method_16_code 5 = .ok (.iload_n 1, 1) := by decide +kernel
theorem own_d14_6 : decode jdk_52_method_16_code 6 = .ok (.aload_n 3, 1) := by decide +kernel
theorem own_d14_7 : decode jdk_52_method_16_code 7 = .ok (.iconst 0, 1) := by decide +kernel
theorem own_d14_8 : decode jdk_52_method_16_code 8 = .ok (.iload_n 2, 1) := by decide +kernel
theorem own_d14_9 : decode jdk_52_method_16_code 9 = .ok (.invokestatic 115, 3) := by decide +kernel
theorem own_d14_12 : decode jdk_52_method_16_code 12 = .ok (.istore 4, 2) := by decide +kernel
theorem own_d14_14 : decode jdk_52_method_16_code 14 = .ok (.iload 4, 2) := by decide +kernel
theorem own_d14_16 : decode jdk_52_method_16_code 16 = .ok (.iload_n 2, 1) := by decide +kernel
theorem own_d14_17 : decode jdk_52_method_16_code 17 = .ok (.if_icmp .eq 40, 3) := by decide +kernel
theorem own_d14_57 : decode jdk_52_method_16_code 57 = .ok (.aload_n 3, 1) := by decide +kernel
theorem own_d14_58 : decode jdk_52_method_16_code 58 = .ok (.areturn, 1) := by decide +kernel
def Qown_comp3 (Z : State) (a_c : Addr) (k_c : ClassId) (c_0 : Int32) (c_1 : Int32) (h0 : Heap) (n0 : Nat) (v : Option Value) (h : Heap) (L : List Loc) : Prop := ∃ r_o : Addr, ∃ k_r : ClassId, ∃ zs : List Value, v = some (.ref r_o) ∧ Fr n0 L ∧ h0.size ≤ r_o ∧ Keep h0 h [] ∧ Arv Z h r_o k_r .byte (2 : Int32) zs (.int (0 : Int32))
set_option maxRecDepth 65536 in
set_option maxHeartbeats 40000000 in
theorem own_comp3 (l : Launch) (Z : State) (a0 : Array Value) (hw : ∀ d ∈ tables_1, d.before a0 Z = true) (ws : List Jvm.Cond) (a_c : Addr) (k_c : ClassId) (c_0 : Int32) (c_1 : Int32) (h0 : Heap) (n0 : Nat) (Z0 : n0 ≤ h0.size) (hA : Arv Z h0 a_c k_c .char (2 : Int32) [(.int c_0), (.int c_1)] (.int (0 : Int32))) (hl_0 : ¬ (255 : Int32) < c_0) (hl_1 : ¬ (255 : Int32) < c_1) :
    MetFree l (⟨"java/lang/StringUTF16", "compress", "([CII)[B"⟩ : MethodName) (head1 (Jvm.Cond.code (⟨"java/lang/StringUTF16", "compress", "([CII)[B"⟩ : MethodName) jdk_52_method_16_code 6 (some (.array .byte)) :: ws) ({ frames := 1, cells := 1, slots := 2, locals := 18 } : Room)) (fun a U => a = #[(.ref a_c), (.int (0 : Int32)), (.int (2 : Int32))] ∧ Z.Warmed39 U.vm ∧ U.heap = h0) (fun _ _ _ _ _ => True) (fun _ U o U' => ∃ v L, o = .returned v ∧ Qown_comp3 Z a_c k_c c_0 c_1 h0 n0 v U'.heap L ∧ FrameEnd U o U' L ({ frames := 1, cells := 1, slots := 2, locals := 18 } : Room).cells ({ frames := 1, cells := 1, slots := 2, locals := 18 } : Room).slots) := by
  refine MetFree.of_bodySF (plainFor_of_name own_pn3) hisR ?_
  intro p e s m args below meth c s₁ Bd hml0 hP hK
  obtain ⟨rfl, hZ, hh⟩ := hP
  have hx := Bd.exec
  have hby := Bd.bytes
  have hml : c.maxLocals = 6 := hml0
  have hown : s.vm.findClass "java/lang/StringUTF16" = some m.cls := findClass_of_methodNamed Bd.named
  have hnm := (name_of_methodNamed Bd.named Bd.method).1
  have X0 : Stand p l e ({ frames := 1, cells := 1, slots := 2, locals := 18 } : Room) s m #[(.ref a_c), (.int (0 : Int32)), (.int (2 : Int32))] below meth c s₁ [] 0 0 := Stand.of_body Bd
  have e0 : s₁.heap = h0 := by rw [← hh, Bd.state]; rfl
  have N0 := Fr.nil n0
  have pre0 : ∀ t, Steps p.tables e below (s₁.setTop (mkF m 0 #[.val (.ref a_c), .val (.int (0 : Int32)), .val (.int (2 : Int32)), .unset, .unset, .unset] [])) t → Steps p.tables e below (s₁.setTop (entryFrame m #[(.ref a_c), (.int (0 : Int32)), (.int (2 : Int32))] 6)) t := fun t k => castTop (own_ef_own_comp3 m a_c) k
  obtain ⟨T3, h3, k3, X3, e3, E3, A3, Y3, st3⟩ := newPE X0 hx hZ (hw _ (List.mem_of_getElem? (i := 16) rfl)) e0 (g := (mkF m 1 #[.val (.ref a_c), .val (.int (0 : Int32)), .val (.int (2 : Int32)), .unset, .unset, .unset] [(.int (2 : Int32))])) rfl (hb hby own_d14_1) rfl (by decide) (cap := 2) (by decide) (by decide) (by decide) (by decide) (ad := "[B") (by first | rfl | decide)
  obtain ⟨b3, g3⟩ : ∃ z, z = h0.size := ⟨_, rfl⟩
  rw [← g3] at A3 Y3 st3
  have Ne4 : a_c ≠ b3 := Nat.ne_of_lt (Nat.lt_of_lt_of_le hA.lt (Nat.le_of_eq g3.symm))
  have Ge5 : n0 ≤ b3 := Nat.le_trans Z0 (Nat.le_of_eq g3.symm)
  have Sz6 : h0.size ≤ b3 := Nat.le_trans (Keep.refl h0 []).1 (Nat.le_of_eq g3.symm)
  have Kc7 : Keep h0 h3 [] := (Keep.refl h0 []).ext E3
  have Zs8 : n0 ≤ h3.size := (Nat.le_trans Z0 E3.1)
  have V3 : Arv Z h3 b3 k3 .byte (2 : Int32) [(.int (0 : Int32)), (.int (0 : Int32))] (.int (0 : Int32)) := (Arv.new A3 (by decide)).pad (pad_rep [] (.int (0 : Int32)) 2)
  have Fq17 : Arv Z h3 a_c k_c .char (2 : Int32) [(.int c_0), (.int c_1)] (.int (0 : Int32)) := (hA.ext E3)
  obtain ⟨_, _, ⟨T16, L16, k16, n16⟩, -, X16, ⟨Lc16, hQ16, l16, y16, z16⟩, st16⟩ := Jvm.LawKit.callS X3 hx (y := (⟨"java/lang/StringUTF16", "compress", "([CI[BII)I"⟩ : MethodName)) hown (mvT hZ (hw _ (List.mem_of_getElem? (i := 88) rfl))) (mvT hZ (hw _ (List.mem_of_getElem? (i := 89) rfl))) (mvT hZ (hw _ (List.mem_of_getElem? (i := 86) rfl))) (mvT hZ (hw _ (List.mem_of_getElem? (i := 90) rfl))) (by decide) (backOf (W := 0) (own_comp5 l Z a0 hw [] a_c k_c c_0 c_1 b3 k3 (0 : Int32) (0 : Int32) h3 n0 Zs8 Fq17 V3 Ne4 Ge5 (by first | assumption | decide : ¬ (255 : Int32) < c_0) (by first | assumption | decide : ¬ (255 : Int32) < c_1)) hZ (hw _ (List.mem_of_getElem? (i := 90) rfl)) (hw _ (List.mem_of_getElem? (i := 86) rfl)) (by decide) (by decide)) (g := (mkF m 9 #[.val (.ref a_c), .val (.int (0 : Int32)), .val (.int (2 : Int32)), .val (.ref b3), .unset, .unset] [(.int (2 : Int32)), (.int (0 : Int32)), (.ref b3), (.int (0 : Int32)), (.ref a_c)])) rfl (by rw [hml]; rfl) (argsL := [(.ref a_c), (.int (0 : Int32)), (.ref b3), (.int (0 : Int32)), (.int (2 : Int32))]) (rest := []) (lenOf own_pd3 rfl) rfl (by show 2 * 0 + _ ≤ _; exact Nat.le_of_eq rfl) (hb hby own_d14_9) (fun _ _ => ⟨rfl, e3, (by decide : 1 + 0 ≤ _), (by decide : 2 + 0 ≤ _)⟩)
  dsimp only [Pt.U, Pt.locs, Pt.cells, Pt.slots] at X16 l16 y16 z16 st16 hQ16
  rw [l16, y16, z16] at X16
  obtain ⟨zs_16, rfl, Nq16, K16, Pf16_0⟩ := hQ16
  have N18 := Fr.app N0 Nq16
  have Kc19 : Keep h0 T16.heap [] := Kc7.trans K16 (allS (Or.inr Sz6) all0)
  have Zs20 : n0 ≤ T16.heap.size := Nat.le_trans Zs8 K16.1
  obtain ⟨fs, hr, hrun, hended, hW, hsame⟩ := X16.leave (v := some (.ref b3)) (fun h => by rw [Bd.returns] at h; cases h) (hlocks := BodyLoose.notSynchronized Bd)
  refine ⟨_, _, pre0 _ ?_, hrun, hended, _, _, rfl, ?_, ⟨_, rfl⟩, hW, hsame.mono (by decide) (by decide)⟩
  · show Steps p.tables e below (s₁.setTop (mkF m 0 #[.val (.ref a_c), .val (.int (0 : Int32)), .val (.int (2 : Int32)), .unset, .unset, .unset] [])) _
    refine XS.iloadN X0.here hx rfl (hb hby own_d14_0) rfl ?_
    show Steps p.tables e below (s₁.setTop (mkF m 1 #[.val (.ref a_c), .val (.int (0 : Int32)), .val (.int (2 : Int32)), .unset, .unset, .unset] [(.int (2 : Int32))])) _
    refine st3 _ ?_
    show Steps p.tables e below (T3.setTop (mkF m 3 #[.val (.ref a_c), .val (.int (0 : Int32)), .val (.int (2 : Int32)), .unset, .unset, .unset] [(.ref b3)])) _
    refine XS.astoreN X3.here hx rfl (hb hby own_d14_3) rfl rfl (l' := #[.val (.ref a_c), .val (.int (0 : Int32)), .val (.int (2 : Int32)), .val (.ref b3), .unset, .unset]) rfl ?_
    show Steps p.tables e below (T3.setTop (mkF m 4 #[.val (.ref a_c), .val (.int (0 : Int32)), .val (.int (2 : Int32)), .val (.ref b3), .unset, .unset] [])) _
    refine XS.aloadN X3.here hx rfl (hb hby own_d14_4) rfl rfl ?_
    show Steps p.tables e below (T3.setTop (mkF m 5 #[.val (.ref a_c), .val (.int (0 : Int32)), .val (.int (2 : Int32)), .val (.ref b3), .unset, .unset] [(.ref a_c)])) _
    refine XS.iloadN X3.here hx rfl (hb hby own_d14_5) rfl ?_
    show Steps p.tables e below (T3.setTop (mkF m 6 #[.val (.ref a_c), .val (.int (0 : Int32)), .val (.int (2 : Int32)), .val (.ref b3), .unset, .unset] [(.int (0 : Int32)), (.ref a_c)])) _
    refine XS.aloadN X3.here hx rfl (hb hby own_d14_6) rfl rfl ?_
    show Steps p.tables e below (T3.setTop (mkF m 7 #[.val (.ref a_c), .val (.int (0 : Int32)), .val (.int (2 : Int32)), .val (.ref b3), .unset, .unset] [(.ref b3), (.int (0 : Int32)), (.ref a_c)])) _
    refine XS.iconst X3.here hx rfl (hb hby own_d14_7) ?_
    show Steps p.tables e below (T3.setTop (mkF m 8 #[.val (.ref a_c), .val (.int (0 : Int32)), .val (.int (2 : Int32)), .val (.ref b3), .unset, .unset] [(.int (0 : Int32)), (.ref b3), (.int (0 : Int32)), (.ref a_c)])) _
    refine XS.iloadN X3.here hx rfl (hb hby own_d14_8) rfl ?_
    show Steps p.tables e below (T3.setTop (mkF m 9 #[.val (.ref a_c), .val (.int (0 : Int32)), .val (.int (2 : Int32)), .val (.ref b3), .unset, .unset] [(.int (2 : Int32)), (.int (0 : Int32)), (.ref b3), (.int (0 : Int32)), (.ref a_c)])) _
    refine st16 _ ?_
    show Steps p.tables e below (T16.setTop (mkF m 12 #[.val (.ref a_c), .val (.int (0 : Int32)), .val (.int (2 : Int32)), .val (.ref b3), .unset, .unset] [(.int (2 : Int32))])) _
    refine XS.istore X16.here hx rfl (hb hby own_d14_12) rfl (l' := #[.val (.ref a_c), .val (.int (0 : Int32)), .val (.int (2 : Int32)), .val (.ref b3), .val (.int (2 : Int32)), .unset]) rfl ?_
    show Steps p.tables e below (T16.setTop (mkF m 14 #[.val (.ref a_c), .val (.int (0 : Int32)), .val (.int (2 : Int32)), .val (.ref b3), .val (.int (2 : Int32)), .unset] [])) _
    refine XS.iload X16.here hx rfl (hb hby own_d14_14) rfl ?_
    show Steps p.tables e below (T16.setTop (mkF m 16 #[.val (.ref a_c), .val (.int (0 : Int32)), .val (.int (2 : Int32)), .val (.ref b3), .val (.int (2 : Int32)), .unset] [(.int (2 : Int32))])) _
    refine XS.iloadN X16.here hx rfl (hb hby own_d14_16) rfl ?_
    show Steps p.tables e below (T16.setTop (mkF m 17 #[.val (.ref a_c), .val (.int (0 : Int32)), .val (.int (2 : Int32)), .val (.ref b3), .val (.int (2 : Int32)), .unset] [(.int (2 : Int32)), (.int (2 : Int32))])) _
    refine XS.icmpYes X16.here hx rfl (pc0 := 17) (pc' := 57) rfl (hb hby own_d14_17) rfl (teq ((by decide) : (2 : Int32) = (2 : Int32))).1 (by decide) (by decide) ?_
    show Steps p.tables e below (T16.setTop (mkF m 57 #[.val (.ref a_c), .val (.int (0 : Int32)), .val (.int (2 : Int32)), .val (.ref b3), .val (.int (2 : Int32)), .unset] [])) _
    refine XS.aloadN X16.here hx rfl (hb hby own_d14_57) rfl rfl ?_
    show Steps p.tables e below (T16.setTop (mkF m 58 #[.val (.ref a_c), .val (.int (0 : Int32)), .val (.int (2 : Int32)), .val (.ref b3), .val (.int (2 : Int32)), .unset] [(.ref b3)])) _
    jvm_step X16.here [X16.here.top, hx, (hb hby own_d14_58), X16.method', Bd.returns, Value.isRef, FieldType.isReference]
    first | (intro acts; rw [hr _ acts rfl rfl rfl]) | rw [hr _ _ rfl rfl rfl]
    exact Steps.refl _
  · show Qown_comp3 Z a_c k_c c_0 c_1 h0 n0 _ T16.heap _
    exact ⟨b3, k3, zs_16, rfl, N18, Sz6, Kc19, Pf16_0⟩
theorem own_ef_own_cfal (m : MethodId) (b_o : Addr) : entryFrame m #[(.ref b_o), (.int (2 : Int32))] 2 = mkF m 0 #[.val (.ref b_o), .val (.int (2 : Int32))] [] := by first | (simp [entryFrame, mkF, argsToLocals, Value.category]; done) | rfl
theorem own_d16_0 : decode jdk_52_method_15_code 0 = .ok (.iload_n 1, 1) := by decide +kernel
theorem own_d16_1 : decode jdk_52_method_15_code 1 = .ok (.aload_n 0, 1) := by decide +kernel
theorem own_d16_2 : decode jdk_52_method_15_code 2 = .ok (.arraylength, 1) := by decide +kernel
theorem own_d16_3 : decode jdk_52_method_15_code 3 = .ok (.isub, 1) := by decide +kernel
theorem own_d16_4 : decode jdk_52_method_15_code 4 = .ok (.bipush 31, 2) := by decide +kernel
theorem own_d16_6 : decode jdk_52_method_15_code 6 = .ok (.iushr, 1) := by decide +kernel
theorem own_d16_7 : decode jdk_52_method_15_code 7 = .ok (.i2b, 1) := by decide +kernel
theorem own_d16_8 : decode jdk_52_method_15_code 8 = .ok (.ireturn, 1) := by decide +kernel
def Qown_cfal (Z : State) (b_o : Addr) (k_b : ClassId) (vs_b : List Value) (h0 : Heap) (n0 : Nat) (v : Option Value) (h : Heap) (L : List Loc) : Prop := v = some (.int (0 : Int32)) ∧ Fr n0 L ∧ h = h0
set_option maxRecDepth 65536 in
set_option maxHeartbeats 40000000 in
theorem own_cfal (l : Launch) (Z : State) (a0 : Array Value) (hw : ∀ d ∈ tables_1, d.before a0 Z = true) (ws : List Jvm.Cond) (b_o : Addr) (k_b : ClassId) (vs_b : List Value) (h0 : Heap) (n0 : Nat) (Z0 : n0 ≤ h0.size) (hB : Arv Z h0 b_o k_b .byte (2 : Int32) vs_b (.int (0 : Int32))) :
    MetFree l (⟨"java/lang/StringUTF16", "coderFromArrayLen", "([BI)B"⟩ : MethodName) (head1 (Jvm.Cond.code (⟨"java/lang/StringUTF16", "coderFromArrayLen", "([BI)B"⟩ : MethodName) jdk_52_method_15_code 2 (some .byte) :: ws) ({ frames := 0, cells := 0, slots := 0, locals := 0 } : Room)) (fun a U => a = #[(.ref b_o), (.int (2 : Int32))] ∧ Z.Warmed39 U.vm ∧ U.heap = h0) (fun _ _ _ _ _ => True) (fun _ U o U' => ∃ v L, o = .returned v ∧ Qown_cfal Z b_o k_b vs_b h0 n0 v U'.heap L ∧ FrameEnd U o U' L ({ frames := 0, cells := 0, slots := 0, locals := 0 } : Room).cells ({ frames := 0, cells := 0, slots := 0, locals := 0 } : Room).slots) := by
  refine MetFree.of_bodySF (plainFor_of_name own_pn3) hisR ?_
  intro p e s m args below meth c s₁ Bd hml0 hP hK
  obtain ⟨rfl, hZ, hh⟩ := hP
  have hx := Bd.exec
  have hby := Bd.bytes
  have hml : c.maxLocals = 2 := hml0
  have hown : s.vm.findClass "java/lang/StringUTF16" = some m.cls := findClass_of_methodNamed Bd.named
  have hnm := (name_of_methodNamed Bd.named Bd.method).1
  have X0 : Stand p l e ({ frames := 0, cells := 0, slots := 0, locals := 0 } : Room) s m #[(.ref b_o), (.int (2 : Int32))] below meth c s₁ [] 0 0 := Stand.of_body Bd
  have e0 : s₁.heap = h0 := by rw [← hh, Bd.state]; rfl
  have N0 := Fr.nil n0
  have pre0 : ∀ t, Steps p.tables e below (s₁.setTop (mkF m 0 #[.val (.ref b_o), .val (.int (2 : Int32))] [])) t → Steps p.tables e below (s₁.setTop (entryFrame m #[(.ref b_o), (.int (2 : Int32))] 2)) t := fun t k => castTop (own_ef_own_cfal m b_o) k
  obtain ⟨cl4, Ar4, -, S4, M4, -, -⟩ := id hB
  obtain ⟨fs, hr, hrun, hended, hW, hsame⟩ := X0.leave (v := some (.int (0 : Int32))) (fun h => by rw [Bd.returns] at h; cases h) (hlocks := BodyLoose.notSynchronized Bd)
  refine ⟨_, _, pre0 _ ?_, hrun, hended, _, _, rfl, ?_, ⟨_, rfl⟩, hW, hsame.mono (by decide) (by decide)⟩
  · show Steps p.tables e below (s₁.setTop (mkF m 0 #[.val (.ref b_o), .val (.int (2 : Int32))] [])) _
    refine XS.iloadN X0.here hx rfl (hb hby own_d16_0) rfl ?_
    show Steps p.tables e below (s₁.setTop (mkF m 1 #[.val (.ref b_o), .val (.int (2 : Int32))] [(.int (2 : Int32))])) _
    refine XS.aloadN X0.here hx rfl (hb hby own_d16_1) rfl rfl ?_
    show Steps p.tables e below (s₁.setTop (mkF m 2 #[.val (.ref b_o), .val (.int (2 : Int32))] [(.ref b_o), (.int (2 : Int32))])) _
    refine X0.arraylength hx (by rw [e0]; exact Ar4.1) (State.isArrayOf_alike hZ.alike Ar4.2.1) (g := (mkF m 2 #[.val (.ref b_o), .val (.int (2 : Int32))] [(.ref b_o), (.int (2 : Int32))])) rfl rfl (hb hby own_d16_2) _ ?_
    rw [len_of S4 M4]
    show Steps p.tables e below (s₁.setTop (mkF m 3 #[.val (.ref b_o), .val (.int (2 : Int32))] [(.int (2 : Int32)), (.int (2 : Int32))])) _
    refine XS.isub X0.here hx rfl (hb hby own_d16_3) rfl ?_
    show Steps p.tables e below (s₁.setTop (mkF m 4 #[.val (.ref b_o), .val (.int (2 : Int32))] [(.int (0 : Int32))])) _
    refine XS.bipush X0.here hx rfl (hb hby own_d16_4) ?_
    show Steps p.tables e below (s₁.setTop (mkF m 6 #[.val (.ref b_o), .val (.int (2 : Int32))] [(.int (31 : Int32)), (.int (0 : Int32))])) _
    refine XS.iushr X0.here hx rfl (hb hby own_d16_6) rfl ?_
    show Steps p.tables e below (s₁.setTop (mkF m 7 #[.val (.ref b_o), .val (.int (2 : Int32))] [(.int (0 : Int32))])) _
    refine XS.i2b X0.here hx rfl (hb hby own_d16_7) rfl ?_
    show Steps p.tables e below (s₁.setTop (mkF m 8 #[.val (.ref b_o), .val (.int (2 : Int32))] [(.int (0 : Int32))])) _
    exact retN X0 hx (t := .byte) Bd.returns (by simp) (hb hby own_d16_8) hr
  · show Qown_cfal Z b_o k_b vs_b h0 n0 _ s₁.heap _
    rw [e0]
    exact ⟨rfl, N0, rfl⟩
theorem own_ef_own_initV2 (m : MethodId) (a_o : Addr) (a_c : Addr) : entryFrame m #[(.ref a_o), (.ref a_c), (.int (0 : Int32)), (.int (2 : Int32)), .null] 6 = mkF m 0 #[.val (.ref a_o), .val (.ref a_c), .val (.int (0 : Int32)), .val (.int (2 : Int32)), .val .null, .unset] [] := by first | (simp [entryFrame, mkF, argsToLocals, Value.category]; done) | rfl
theorem own_pd4 : parseMethodDescriptor "([CII)[B" = some ⟨[(.array .char), .int, .int], some (.array .byte)⟩ := by decide +kernel
theorem own_pd5 : parseMethodDescriptor "([BI)B" = some ⟨[(.array .byte), .int], some .byte⟩ := by decide +kernel
theorem own_d13_0 : decode jdk_42_method_149_code 0 = .ok (.aload_n 0, 1) := by decide +kernel
theorem own_d13_1 : decode jdk_42_method_149_code 1 = .ok (.invokespecial 1, 3) := by decide +kernel
theorem own_d13_4 : decode jdk_42_method_149_code 4 = .ok (.iload_n 3, 1) := by decide +kernel
theorem own_d13_5 : decode jdk_42_method_149_code 5 = .ok (.ifCond .ne 22, 3) := by decide +kernel
theorem own_d13_27 : decode jdk_42_method_149_code 27 = .ok (.getstatic 38, 3) := by decide +kernel
theorem own_d13_30 : decode jdk_42_method_149_code 30 = .ok (.ifCond .eq 28, 3) := by decide +kernel
theorem own_d13_33 : decode jdk_42_method_149_code 33 = .ok (.aload_n 1, 1) := by decide +kernel
theorem own_d13_34 : decode jdk_42_method_149_code 34 = .ok (.iload_n 2, 1) := by decide +kernel
theorem own_d13_35 : decode jdk_42_method_149_code 35 = .ok (.iload_n 3, 1) := by decide +kernel
theorem own_d13_36 : decode jdk_42_method_149_code 36 = .ok (.invokestatic 177, 3) := by decide +kernel
theorem own_d13_39 : decode jdk_42_method_149_code 39 = .ok (.astore 5, 2) := by decide +kernel
theorem own_d13_41 : decode jdk_42_method_149_code 41 = .ok (.aload_n 0, 1) := by decide +kernel
theorem own_d13_42 : decode jdk_42_method_149_code 42 = .ok (.aload 5, 2) := by decide +kernel
theorem own_d13_44 : decode jdk_42_method_149_code 44 = .ok (.iload_n 3, 1) := by decide +kernel
theorem own_d13_45 : decode jdk_42_method_149_code 45 = .ok (.invokestatic 47, 3) := by decide +kernel
theorem own_d13_48 : decode jdk_42_method_149_code 48 = .ok (.putfield 15, 3) := by decide +kernel
theorem own_d13_51 : decode jdk_42_method_149_code 51 = .ok (.aload_n 0, 1) := by decide +kernel
theorem own_d13_52 : decode jdk_42_method_149_code 52 = .ok (.aload 5, 2) := by decide +kernel
theorem own_d13_54 : decode jdk_42_method_149_code 54 = .ok (.putfield 9, 3) := by decide +kernel
theorem own_d13_57 : decode jdk_42_method_149_code 57 = .ok (.return_, 1) := by decide +kernel
def Qown_initV2 (Z : State) (a_o : Addr) (u_v : Value) (u_c : Value) (a_c : Addr) (k_c : ClassId) (c_0 : Int32) (c_1 : Int32) (cs : Int32) (h0 : Heap) (n0 : Nat) (v : Option Value) (h : Heap) (L : List Loc) : Prop := v = none ∧ Fr n0 L ∧ Keep h0 h [a_o]
set_option maxRecDepth 65536 in
set_option maxHeartbeats 40000000 in
theorem own_initV2 (l : Launch) (Z : State) (a0 : Array Value) (hw : ∀ d ∈ tables_1, d.before a0 Z = true) (ws : List Jvm.Cond) (a_o : Addr) (u_v : Value) (u_c : Value) (a_c : Addr) (k_c : ClassId) (c_0 : Int32) (c_1 : Int32) (cs : Int32) (h0 : Heap) (n0 : Nat) (Z0 : n0 ≤ h0.size) (hx_a_o : Exa Z h0 a_o "java/lang/String") (hv_a_o : Fld Z h0 a_o "java/lang/String" "value" "[B" u_v) (hc_a_o : Fld Z h0 a_o "java/lang/String" "coder" "B" u_c) (hg_a_o : n0 ≤ a_o) (hA : Arv Z h0 a_c k_c .char (2 : Int32) [(.int c_0), (.int c_1)] (.int (0 : Int32))) (hl_0 : ¬ (255 : Int32) < c_0) (hl_1 : ¬ (255 : Int32) < c_1) (hS : Sta Z Z.heap "java/lang/String" "COMPACT_STRINGS" "Z" (.int cs)) (hO : Old Z n0 h0) (hcs : ¬ cs = (0 : Int32)) :
    MetFree l (⟨"java/lang/String", "<init>", "([CIILjava/lang/Void;)V"⟩ : MethodName) (head1 (Jvm.Cond.code (⟨"java/lang/String", "<init>", "([CIILjava/lang/Void;)V"⟩ : MethodName) jdk_42_method_149_code 6 none :: ws) ({ frames := 2, cells := 1, slots := 2, locals := 35 } : Room)) (fun a U => a = #[(.ref a_o), (.ref a_c), (.int (0 : Int32)), (.int (2 : Int32)), .null] ∧ Z.Warmed39 U.vm ∧ U.heap = h0) (fun _ _ _ _ _ => True) (fun _ U o U' => ∃ v L, o = .returned v ∧ Qown_initV2 Z a_o u_v u_c a_c k_c c_0 c_1 cs h0 n0 v U'.heap L ∧ FrameEnd U o U' L ({ frames := 2, cells := 1, slots := 2, locals := 35 } : Room).cells ({ frames := 2, cells := 1, slots := 2, locals := 35 } : Room).slots) := by
  refine MetFree.of_bodySF (plainFor_of_name own_pn1) hisR ?_
  intro p e s m args below meth c s₁ Bd hml0 hP hK
  obtain ⟨rfl, hZ, hh⟩ := hP
  have hx := Bd.exec
  have hby := Bd.bytes
  have hml : c.maxLocals = 6 := hml0
  have hown : s.vm.findClass "java/lang/String" = some m.cls := findClass_of_methodNamed Bd.named
  have hnm := (name_of_methodNamed Bd.named Bd.method).1
  have X0 : Stand p l e ({ frames := 2, cells := 1, slots := 2, locals := 35 } : Room) s m #[(.ref a_o), (.ref a_c), (.int (0 : Int32)), (.int (2 : Int32)), .null] below meth c s₁ [] 0 0 := Stand.of_body Bd
  have e0 : s₁.heap = h0 := by rw [← hh, Bd.state]; rfl
  have N0 := Fr.nil n0
  have pre0 : ∀ t, Steps p.tables e below (s₁.setTop (mkF m 0 #[.val (.ref a_o), .val (.ref a_c), .val (.int (0 : Int32)), .val (.int (2 : Int32)), .val .null, .unset] [])) t → Steps p.tables e below (s₁.setTop (entryFrame m #[(.ref a_o), (.ref a_c), (.int (0 : Int32)), (.int (2 : Int32)), .null] 6)) t := fun t k => castTop (own_ef_own_initV2 m a_o a_c) k
  obtain ⟨T3, X3, e3, st3⟩ := initO X0 hx hZ hown (hw _ (List.mem_of_getElem? (i := 21) rfl)) (hw _ (List.mem_of_getElem? (i := 22) rfl)) (hw _ (List.mem_of_getElem? (i := 23) rfl)) e0 (g := (mkF m 1 #[.val (.ref a_o), .val (.ref a_c), .val (.int (0 : Int32)), .val (.int (2 : Int32)), .val .null, .unset] [(.ref a_o)])) rfl (by rw [hml]; rfl) rfl (hb hby own_d13_1) (by decide) (W := 0) (by show 2 * 0 + _ ≤ _; exact Nat.le_of_eq rfl) (by decide)
  obtain ⟨T7, X7, e7, st7⟩ := getS2 X3 hx hZ hown (host := "") (Or.inl (hw _ (List.mem_of_getElem? (i := 6) rfl))) Via.refl e3 (hS.ext hO.2) (g := (mkF m 27 #[.val (.ref a_o), .val (.ref a_c), .val (.int (0 : Int32)), .val (.int (2 : Int32)), .val .null, .unset] [])) rfl (hb hby own_d13_27)
  obtain ⟨_, _, ⟨T13, L13, k13, n13⟩, -, X13, ⟨Lc13, hQ13, l13, y13, z13⟩, st13⟩ := Jvm.LawKit.callS X7 hx (y := (⟨"java/lang/StringUTF16", "compress", "([CII)[B"⟩ : MethodName)) hown (mvT hZ (hw _ (List.mem_of_getElem? (i := 84) rfl))) (mvT hZ (hw _ (List.mem_of_getElem? (i := 85) rfl))) (mvT hZ (hw _ (List.mem_of_getElem? (i := 86) rfl))) (mvT hZ (hw _ (List.mem_of_getElem? (i := 87) rfl))) (by decide) (backOf (W := 0) (own_comp3 l Z a0 hw [] a_c k_c c_0 c_1 h0 n0 Z0 hA (by first | assumption | decide : ¬ (255 : Int32) < c_0) (by first | assumption | decide : ¬ (255 : Int32) < c_1)) hZ (hw _ (List.mem_of_getElem? (i := 87) rfl)) (hw _ (List.mem_of_getElem? (i := 86) rfl)) (by decide) (by decide)) (g := (mkF m 36 #[.val (.ref a_o), .val (.ref a_c), .val (.int (0 : Int32)), .val (.int (2 : Int32)), .val .null, .unset] [(.int (2 : Int32)), (.int (0 : Int32)), (.ref a_c)])) rfl (by rw [hml]; rfl) (argsL := [(.ref a_c), (.int (0 : Int32)), (.int (2 : Int32))]) (rest := []) (lenOf own_pd4 rfl) rfl (by show 2 * 0 + _ ≤ _; exact Nat.le_of_eq rfl) (hb hby own_d13_36) (fun _ _ => ⟨rfl, e7, (by decide : 0 + 1 ≤ _), (by decide : 0 + 2 ≤ _)⟩)
  dsimp only [Pt.U, Pt.locs, Pt.cells, Pt.slots] at X13 l13 y13 z13 st13 hQ13
  rw [l13, y13, z13] at X13
  obtain ⟨r_o_13, k_r_13, zs_13, rfl, Nq13, sz13_r_o, K13, Pf13_0⟩ := hQ13
  have N14 := Fr.app N0 Nq13
  have Ne15 : a_o ≠ r_o_13 := Nat.ne_of_lt (Nat.lt_of_lt_of_le hx_a_o.lt sz13_r_o)
  have Ne16 : a_c ≠ r_o_13 := Nat.ne_of_lt (Nat.lt_of_lt_of_le hA.lt sz13_r_o)
  have Ge17 : n0 ≤ r_o_13 := Nat.le_trans Z0 sz13_r_o
  have Sz18 : h0.size ≤ r_o_13 := Nat.le_trans (Keep.refl h0 [a_o]).1 sz13_r_o
  have Kc19 : Keep h0 T13.heap [a_o] := (Keep.refl h0 [a_o]).trans K13 all0
  have Zs20 : n0 ≤ T13.heap.size := Nat.le_trans Z0 K13.1
  obtain ⟨_, _, ⟨T26, L26, k26, n26⟩, -, X26, ⟨Lc26, hQ26, l26, y26, z26⟩, st26⟩ := Jvm.LawKit.callS X13 hx (y := (⟨"java/lang/StringUTF16", "coderFromArrayLen", "([BI)B"⟩ : MethodName)) hown (mvT hZ (hw _ (List.mem_of_getElem? (i := 91) rfl))) (mvT hZ (hw _ (List.mem_of_getElem? (i := 92) rfl))) (mvT hZ (hw _ (List.mem_of_getElem? (i := 86) rfl))) (mvT hZ (hw _ (List.mem_of_getElem? (i := 93) rfl))) (by decide) (backOf (W := 1) (own_cfal l Z a0 hw [] r_o_13 k_r_13 zs_13 T13.heap n0 Zs20 Pf13_0) hZ (hw _ (List.mem_of_getElem? (i := 93) rfl)) (hw _ (List.mem_of_getElem? (i := 86) rfl)) (by decide) (by decide)) (g := (mkF m 45 #[.val (.ref a_o), .val (.ref a_c), .val (.int (0 : Int32)), .val (.int (2 : Int32)), .val .null, .val (.ref r_o_13)] [(.int (2 : Int32)), (.ref r_o_13), (.ref a_o)])) rfl (by rw [hml]; rfl) (argsL := [(.ref r_o_13), (.int (2 : Int32))]) (rest := [(.ref a_o)]) (lenOf own_pd5 rfl) rfl (by show 2 * 0 + _ ≤ _; exact Nat.le_of_eq rfl) (hb hby own_d13_45) (fun _ _ => ⟨rfl, rfl, (by decide : 1 + 0 ≤ _), (by decide : 2 + 0 ≤ _)⟩)
  dsimp only [Pt.U, Pt.locs, Pt.cells, Pt.slots] at X26 l26 y26 z26 st26 hQ26
  rw [l26, y26, z26] at X26
  obtain ⟨rfl, Nq26, eh26⟩ := hQ26
  have N27 := Fr.app N14 Nq26
  have Fq29 : Exa Z T13.heap a_o "java/lang/String" := (hx_a_o.keep K13)
  have Fq30 : Fld Z T13.heap a_o "java/lang/String" "coder" "B" u_c := (hc_a_o.keep K13 nin0)
  obtain ⟨T31, h31, X31, e31, W31, st31⟩ := putFN X26 hx hZ hown (hw _ (List.mem_of_getElem? (i := 26) rfl)) Via.refl eh26 Fq30 Fq29 (Or.inr ⟨(hw _ (List.mem_of_getElem? (i := 27) rfl)), rfl, hnm⟩) (hw _ (List.mem_of_getElem? (i := 12) rfl)) (ty := .byte) (v' := (.int (nar .byte (0 : Int32)))) (by decide) rfl (fits_nar_byte _) (g := (mkF m 48 #[.val (.ref a_o), .val (.ref a_c), .val (.int (0 : Int32)), .val (.int (2 : Int32)), .val .null, .val (.ref r_o_13)] [(.int (0 : Int32)), (.ref a_o)])) rfl rfl (hb hby own_d13_48)
  have Kc32 : Keep h0 h31 [a_o] := Kc19.wr W31 (Or.inl (List.mem_of_getElem? (i := 0) rfl))
  have Zs33 : n0 ≤ h31.size := Nat.le_trans Zs20 (Keep.of_wr W31).1
  have N34 := Fr.snoc X31 N27 hg_a_o
  have Fw31 : Fld Z h31 a_o "java/lang/String" "coder" "B" (.int (nar .byte (0 : Int32))) := Fq30.same W31
  have Fq38 : Exa Z h31 a_o "java/lang/String" := (Fq29.wr W31)
  have Fq39 : Fld Z h31 a_o "java/lang/String" "value" "[B" u_v := ((hv_a_o.keep K13 nin0).other W31 (Or.inr (slot_ne (Or.inr (hw _ (List.mem_of_getElem? (i := 25) rfl))) (Or.inr (hw _ (List.mem_of_getElem? (i := 27) rfl))) (by decide) (t := (.array .byte)) (t' := .byte) (by decide) (by decide))))
  obtain ⟨T40, h40, X40, e40, W40, st40⟩ := putF X31 hx hZ hown (host := "") (Or.inl (hw _ (List.mem_of_getElem? (i := 24) rfl))) Via.refl e31 Fq39 Fq38 (Or.inr ⟨(hw _ (List.mem_of_getElem? (i := 25) rfl)), rfl, hnm⟩) (hw _ (List.mem_of_getElem? (i := 12) rfl)) (ty := (.array .byte)) (by decide) rfl rfl (g := (mkF m 54 #[.val (.ref a_o), .val (.ref a_c), .val (.int (0 : Int32)), .val (.int (2 : Int32)), .val .null, .val (.ref r_o_13)] [(.ref r_o_13), (.ref a_o)])) rfl rfl (hb hby own_d13_54)
  have Kc41 : Keep h0 h40 [a_o] := Kc32.wr W40 (Or.inl (List.mem_of_getElem? (i := 0) rfl))
  have Zs42 : n0 ≤ h40.size := Nat.le_trans Zs33 (Keep.of_wr W40).1
  have N43 := Fr.snoc X40 N34 hg_a_o
  have Fw40 : Fld Z h40 a_o "java/lang/String" "value" "[B" (.ref r_o_13) := Fq39.same W40
  obtain ⟨fs, hr, hrun, hended, hW, hsame⟩ := X40.leave (v := none) (fun _ => rfl) (hlocks := BodyLoose.notSynchronized Bd)
  refine ⟨_, _, pre0 _ ?_, hrun, hended, _, _, rfl, ?_, ⟨_, rfl⟩, hW, hsame.mono (by decide) (by decide)⟩
  · show Steps p.tables e below (s₁.setTop (mkF m 0 #[.val (.ref a_o), .val (.ref a_c), .val (.int (0 : Int32)), .val (.int (2 : Int32)), .val .null, .unset] [])) _
    refine XS.aloadN X0.here hx rfl (hb hby own_d13_0) rfl rfl ?_
    show Steps p.tables e below (s₁.setTop (mkF m 1 #[.val (.ref a_o), .val (.ref a_c), .val (.int (0 : Int32)), .val (.int (2 : Int32)), .val .null, .unset] [(.ref a_o)])) _
    refine st3 _ ?_
    show Steps p.tables e below (T3.setTop (mkF m 4 #[.val (.ref a_o), .val (.ref a_c), .val (.int (0 : Int32)), .val (.int (2 : Int32)), .val .null, .unset] [])) _
    refine XS.iloadN X3.here hx rfl (hb hby own_d13_4) rfl ?_
    show Steps p.tables e below (T3.setTop (mkF m 5 #[.val (.ref a_o), .val (.ref a_c), .val (.int (0 : Int32)), .val (.int (2 : Int32)), .val .null, .unset] [(.int (2 : Int32))])) _
    refine XS.ifYes X3.here hx rfl (pc0 := 5) (pc' := 27) rfl (hb hby own_d13_5) rfl ((if0 _ _).trans (feq ((by decide) : ¬ ((2 : Int32) = (0 : Int32)))).2) (by decide) (by decide) ?_
    show Steps p.tables e below (T3.setTop (mkF m 27 #[.val (.ref a_o), .val (.ref a_c), .val (.int (0 : Int32)), .val (.int (2 : Int32)), .val .null, .unset] [])) _
    refine st7 _ ?_
    show Steps p.tables e below (T7.setTop (mkF m 30 #[.val (.ref a_o), .val (.ref a_c), .val (.int (0 : Int32)), .val (.int (2 : Int32)), .val .null, .unset] [(.int cs)])) _
    refine XS.ifNo X7.here hx rfl (hb hby own_d13_30) rfl ((if0 _ _).trans (feq (hcs : ¬ (cs = (0 : Int32)))).1) ?_
    show Steps p.tables e below (T7.setTop (mkF m 33 #[.val (.ref a_o), .val (.ref a_c), .val (.int (0 : Int32)), .val (.int (2 : Int32)), .val .null, .unset] [])) _
    refine XS.aloadN X7.here hx rfl (hb hby own_d13_33) rfl rfl ?_
    show Steps p.tables e below (T7.setTop (mkF m 34 #[.val (.ref a_o), .val (.ref a_c), .val (.int (0 : Int32)), .val (.int (2 : Int32)), .val .null, .unset] [(.ref a_c)])) _
    refine XS.iloadN X7.here hx rfl (hb hby own_d13_34) rfl ?_
    show Steps p.tables e below (T7.setTop (mkF m 35 #[.val (.ref a_o), .val (.ref a_c), .val (.int (0 : Int32)), .val (.int (2 : Int32)), .val .null, .unset] [(.int (0 : Int32)), (.ref a_c)])) _
    refine XS.iloadN X7.here hx rfl (hb hby own_d13_35) rfl ?_
    show Steps p.tables e below (T7.setTop (mkF m 36 #[.val (.ref a_o), .val (.ref a_c), .val (.int (0 : Int32)), .val (.int (2 : Int32)), .val .null, .unset] [(.int (2 : Int32)), (.int (0 : Int32)), (.ref a_c)])) _
    refine st13 _ ?_
    show Steps p.tables e below (T13.setTop (mkF m 39 #[.val (.ref a_o), .val (.ref a_c), .val (.int (0 : Int32)), .val (.int (2 : Int32)), .val .null, .unset] [(.ref r_o_13)])) _
    refine XS.astore X13.here hx rfl (hb hby own_d13_39) rfl rfl (l' := #[.val (.ref a_o), .val (.ref a_c), .val (.int (0 : Int32)), .val (.int (2 : Int32)), .val .null, .val (.ref r_o_13)]) rfl ?_
    show Steps p.tables e below (T13.setTop (mkF m 41 #[.val (.ref a_o), .val (.ref a_c), .val (.int (0 : Int32)), .val (.int (2 : Int32)), .val .null, .val (.ref r_o_13)] [])) _
    refine XS.aloadN X13.here hx rfl (hb hby own_d13_41) rfl rfl ?_
    show Steps p.tables e below (T13.setTop (mkF m 42 #[.val (.ref a_o), .val (.ref a_c), .val (.int (0 : Int32)), .val (.int (2 : Int32)), .val .null, .val (.ref r_o_13)] [(.ref a_o)])) _
    refine XS.aload X13.here hx rfl (hb hby own_d13_42) rfl rfl ?_
    show Steps p.tables e below (T13.setTop (mkF m 44 #[.val (.ref a_o), .val (.ref a_c), .val (.int (0 : Int32)), .val (.int (2 : Int32)), .val .null, .val (.ref r_o_13)] [(.ref r_o_13), (.ref a_o)])) _
    refine XS.iloadN X13.here hx rfl (hb hby own_d13_44) rfl ?_
    show Steps p.tables e below (T13.setTop (mkF m 45 #[.val (.ref a_o), .val (.ref a_c), .val (.int (0 : Int32)), .val (.int (2 : Int32)), .val .null, .val (.ref r_o_13)] [(.int (2 : Int32)), (.ref r_o_13), (.ref a_o)])) _
    refine st26 _ ?_
    show Steps p.tables e below (T26.setTop (mkF m 48 #[.val (.ref a_o), .val (.ref a_c), .val (.int (0 : Int32)), .val (.int (2 : Int32)), .val .null, .val (.ref r_o_13)] [(.int (0 : Int32)), (.ref a_o)])) _
    refine st31 _ ?_
    show Steps p.tables e below (T31.setTop (mkF m 51 #[.val (.ref a_o), .val (.ref a_c), .val (.int (0 : Int32)), .val (.int (2 : Int32)), .val .null, .val (.ref r_o_13)] [])) _
    refine XS.aloadN X31.here hx rfl (hb hby own_d13_51) rfl rfl ?_
    show Steps p.tables e below (T31.setTop (mkF m 52 #[.val (.ref a_o), .val (.ref a_c), .val (.int (0 : Int32)), .val (.int (2 : Int32)), .val .null, .val (.ref r_o_13)] [(.ref a_o)])) _
    refine XS.aload X31.here hx rfl (hb hby own_d13_52) rfl rfl ?_
    show Steps p.tables e below (T31.setTop (mkF m 54 #[.val (.ref a_o), .val (.ref a_c), .val (.int (0 : Int32)), .val (.int (2 : Int32)), .val .null, .val (.ref r_o_13)] [(.ref r_o_13), (.ref a_o)])) _
    refine st40 _ ?_
    show Steps p.tables e below (T40.setTop (mkF m 57 #[.val (.ref a_o), .val (.ref a_c), .val (.int (0 : Int32)), .val (.int (2 : Int32)), .val .null, .val (.ref r_o_13)] [])) _
    exact X40.returnOut hx Bd.returns (hb hby own_d13_57) hr
  · show Qown_initV2 Z a_o u_v u_c a_c k_c c_0 c_1 cs h0 n0 _ T40.heap _
    rw [e40]
    exact ⟨rfl, N43, Kc41⟩
theorem own_ef_own_initC2 (m : MethodId) (a_o : Addr) (a_c : Addr) : entryFrame m #[(.ref a_o), (.ref a_c)] 2 = mkF m 0 #[.val (.ref a_o), .val (.ref a_c)] [] := by first | (simp [entryFrame, mkF, argsToLocals, Value.category]; done) | rfl
theorem own_pd6 : parseMethodDescriptor "([CIILjava/lang/Void;)V" = some ⟨[(.array .char), .int, .int, (.object "java/lang/Void")], none⟩ := by decide +kernel
theorem own_d12_0 : decode jdk_42_method_3_code 0 = .ok (.aload_n 0, 1) := by decide +kernel
theorem own_d12_1 : decode jdk_42_method_3_code 1 = .ok (.aload_n 1, 1) := by decide +kernel
theorem own_d12_2 : decode jdk_42_method_3_code 2 = .ok (.iconst 0, 1) := by decide +kernel
theorem own_d12_3 : decode jdk_42_method_3_code 3 = .ok (.aload_n 1, 1) := by decide +kernel
theorem own_d12_4 : decode jdk_42_method_3_code 4 = .ok (.arraylength, 1) := by decide +kernel
theorem own_d12_5 : decode jdk_42_method_3_code 5 = .ok (.aconst_null, 1) := by decide +kernel
theorem own_d12_6 : decode jdk_42_method_3_code 6 = .ok (.invokespecial 27, 3) := by decide +kernel
theorem own_d12_9 : decode jdk_42_method_3_code 9 = .ok (.return_, 1) := by decide +kernel
def Qown_initC2 (Z : State) (a_o : Addr) (u_v : Value) (u_c : Value) (a_c : Addr) (k_c : ClassId) (c_0 : Int32) (c_1 : Int32) (cs : Int32) (h0 : Heap) (n0 : Nat) (v : Option Value) (h : Heap) (L : List Loc) : Prop := v = none ∧ Fr n0 L ∧ Keep h0 h [a_o]
set_option maxRecDepth 65536 in
set_option maxHeartbeats 40000000 in
theorem own_initC2 (l : Launch) (Z : State) (a0 : Array Value) (hw : ∀ d ∈ tables_1, d.before a0 Z = true) (ws : List Jvm.Cond) (a_o : Addr) (u_v : Value) (u_c : Value) (a_c : Addr) (k_c : ClassId) (c_0 : Int32) (c_1 : Int32) (cs : Int32) (h0 : Heap) (n0 : Nat) (Z0 : n0 ≤ h0.size) (hx_a_o : Exa Z h0 a_o "java/lang/String") (hv_a_o : Fld Z h0 a_o "java/lang/String" "value" "[B" u_v) (hc_a_o : Fld Z h0 a_o "java/lang/String" "coder" "B" u_c) (hg_a_o : n0 ≤ a_o) (hA : Arv Z h0 a_c k_c .char (2 : Int32) [(.int c_0), (.int c_1)] (.int (0 : Int32))) (hl_0 : ¬ (255 : Int32) < c_0) (hl_1 : ¬ (255 : Int32) < c_1) (hS : Sta Z Z.heap "java/lang/String" "COMPACT_STRINGS" "Z" (.int cs)) (hO : Old Z n0 h0) (hcs : ¬ cs = (0 : Int32)) :
    MetFree l (⟨"java/lang/String", "<init>", "([C)V"⟩ : MethodName) (head1 (Jvm.Cond.code (⟨"java/lang/String", "<init>", "([C)V"⟩ : MethodName) jdk_42_method_3_code 2 none :: ws) ({ frames := 3, cells := 1, slots := 2, locals := 52 } : Room)) (fun a U => a = #[(.ref a_o), (.ref a_c)] ∧ Z.Warmed39 U.vm ∧ U.heap = h0) (fun _ _ _ _ _ => True) (fun _ U o U' => ∃ v L, o = .returned v ∧ Qown_initC2 Z a_o u_v u_c a_c k_c c_0 c_1 cs h0 n0 v U'.heap L ∧ FrameEnd U o U' L ({ frames := 3, cells := 1, slots := 2, locals := 52 } : Room).cells ({ frames := 3, cells := 1, slots := 2, locals := 52 } : Room).slots) := by
  refine MetFree.of_bodySF (plainFor_of_name own_pn1) hisR ?_
  intro p e s m args below meth c s₁ Bd hml0 hP hK
  obtain ⟨rfl, hZ, hh⟩ := hP
  have hx := Bd.exec
  have hby := Bd.bytes
  have hml : c.maxLocals = 2 := hml0
  have hown : s.vm.findClass "java/lang/String" = some m.cls := findClass_of_methodNamed Bd.named
  have hnm := (name_of_methodNamed Bd.named Bd.method).1
  have X0 : Stand p l e ({ frames := 3, cells := 1, slots := 2, locals := 52 } : Room) s m #[(.ref a_o), (.ref a_c)] below meth c s₁ [] 0 0 := Stand.of_body Bd
  have e0 : s₁.heap = h0 := by rw [← hh, Bd.state]; rfl
  have N0 := Fr.nil n0
  have pre0 : ∀ t, Steps p.tables e below (s₁.setTop (mkF m 0 #[.val (.ref a_o), .val (.ref a_c)] [])) t → Steps p.tables e below (s₁.setTop (entryFrame m #[(.ref a_o), (.ref a_c)] 2)) t := fun t k => castTop (own_ef_own_initC2 m a_o a_c) k
  obtain ⟨cl6, Ar6, -, S6, M6, -, -⟩ := id hA
  obtain ⟨_, _, ⟨T9, L9, k9, n9⟩, -, X9, ⟨Lc9, hQ9, l9, y9, z9⟩, st9⟩ := X0.specialBack hx (y := (⟨"java/lang/String", "<init>", "([CIILjava/lang/Void;)V"⟩ : MethodName)) rfl hown (mvT hZ (hw _ (List.mem_of_getElem? (i := 80) rfl))) (mvT hZ (hw _ (List.mem_of_getElem? (i := 81) rfl))) (mvT hZ (hw _ (List.mem_of_getElem? (i := 82) rfl))) (by decide) (backOf (W := 0) (own_initV2 l Z a0 hw [] a_o u_v u_c a_c k_c c_0 c_1 cs h0 n0 Z0 hx_a_o hv_a_o hc_a_o hg_a_o hA (by first | assumption | decide : ¬ (255 : Int32) < c_0) (by first | assumption | decide : ¬ (255 : Int32) < c_1) hS hO (by first | assumption | decide : ¬ cs = (0 : Int32))) hZ (hw _ (List.mem_of_getElem? (i := 82) rfl)) (hw _ (List.mem_of_getElem? (i := 4) rfl)) (by decide) (by decide)) (g := (mkF m 6 #[.val (.ref a_o), .val (.ref a_c)] [.null, (.int (2 : Int32)), (.int (0 : Int32)), (.ref a_c), (.ref a_o)])) rfl (by rw [hml]; rfl) (Steps.refl _) (a := a_o) (argsL := [(.ref a_c), (.int (0 : Int32)), (.int (2 : Int32)), .null]) (rest := []) (lenOf own_pd6 rfl) rfl (by show 2 * 0 + _ ≤ _; exact Nat.le_of_eq rfl) (hb hby own_d12_6) (fun _ _ => ⟨rfl, e0, (by decide : 0 + 1 ≤ _), (by decide : 0 + 2 ≤ _)⟩)
  dsimp only [Pt.U, Pt.locs, Pt.cells, Pt.slots] at X9 l9 y9 z9 st9 hQ9
  rw [l9, y9, z9] at X9
  obtain ⟨rfl, Nq9, K9⟩ := hQ9
  have N10 := Fr.app N0 Nq9
  have Kc11 : Keep h0 T9.heap [a_o] := (Keep.refl h0 [a_o]).trans K9 (allS (Or.inl (List.mem_of_getElem? (i := 0) rfl)) all0)
  have Zs12 : n0 ≤ T9.heap.size := Nat.le_trans Z0 K9.1
  obtain ⟨fs, hr, hrun, hended, hW, hsame⟩ := X9.leave (v := none) (fun _ => rfl) (hlocks := BodyLoose.notSynchronized Bd)
  refine ⟨_, _, pre0 _ ?_, hrun, hended, _, _, rfl, ?_, ⟨_, rfl⟩, hW, hsame.mono (by decide) (by decide)⟩
  · show Steps p.tables e below (s₁.setTop (mkF m 0 #[.val (.ref a_o), .val (.ref a_c)] [])) _
    refine XS.aloadN X0.here hx rfl (hb hby own_d12_0) rfl rfl ?_
    show Steps p.tables e below (s₁.setTop (mkF m 1 #[.val (.ref a_o), .val (.ref a_c)] [(.ref a_o)])) _
    refine XS.aloadN X0.here hx rfl (hb hby own_d12_1) rfl rfl ?_
    show Steps p.tables e below (s₁.setTop (mkF m 2 #[.val (.ref a_o), .val (.ref a_c)] [(.ref a_c), (.ref a_o)])) _
    refine XS.iconst X0.here hx rfl (hb hby own_d12_2) ?_
    show Steps p.tables e below (s₁.setTop (mkF m 3 #[.val (.ref a_o), .val (.ref a_c)] [(.int (0 : Int32)), (.ref a_c), (.ref a_o)])) _
    refine XS.aloadN X0.here hx rfl (hb hby own_d12_3) rfl rfl ?_
    show Steps p.tables e below (s₁.setTop (mkF m 4 #[.val (.ref a_o), .val (.ref a_c)] [(.ref a_c), (.int (0 : Int32)), (.ref a_c), (.ref a_o)])) _
    refine X0.arraylength hx (by rw [e0]; exact Ar6.1) (State.isArrayOf_alike hZ.alike Ar6.2.1) (g := (mkF m 4 #[.val (.ref a_o), .val (.ref a_c)] [(.ref a_c), (.int (0 : Int32)), (.ref a_c), (.ref a_o)])) rfl rfl (hb hby own_d12_4) _ ?_
    rw [len_of S6 M6]
    show Steps p.tables e below (s₁.setTop (mkF m 5 #[.val (.ref a_o), .val (.ref a_c)] [(.int (2 : Int32)), (.int (0 : Int32)), (.ref a_c), (.ref a_o)])) _
    refine XS.aconstNull X0.here hx rfl (hb hby own_d12_5) ?_
    show Steps p.tables e below (s₁.setTop (mkF m 6 #[.val (.ref a_o), .val (.ref a_c)] [.null, (.int (2 : Int32)), (.int (0 : Int32)), (.ref a_c), (.ref a_o)])) _
    refine st9.trans ?_
    show Steps p.tables e below (T9.setTop (mkF m 9 #[.val (.ref a_o), .val (.ref a_c)] [])) _
    exact X9.returnOut hx Bd.returns (hb hby own_d12_9) hr
  · show Qown_initC2 Z a_o u_v u_c a_c k_c c_0 c_1 cs h0 n0 _ T9.heap _
    exact ⟨rfl, N10, Kc11⟩
theorem own_ef_own_initV0 (m : MethodId) (a_o : Addr) (a_c : Addr) : entryFrame m #[(.ref a_o), (.ref a_c), (.int (0 : Int32)), (.int (0 : Int32)), .null] 6 = mkF m 0 #[.val (.ref a_o), .val (.ref a_c), .val (.int (0 : Int32)), .val (.int (0 : Int32)), .val .null, .unset] [] := by first | (simp [entryFrame, mkF, argsToLocals, Value.category]; done) | rfl
theorem own_d13_8 : decode jdk_42_method_149_code 8 = .ok (.aload_n 0, 1) := by decide +kernel
theorem own_d13_9 : decode jdk_42_method_149_code 9 = .ok (.ldc 7, 2) := by decide +kernel
theorem own_d13_11 : decode jdk_42_method_149_code 11 = .ok (.getfield 9, 3) := by decide +kernel
theorem own_d13_14 : decode jdk_42_method_149_code 14 = .ok (.putfield 9, 3) := by decide +kernel
theorem own_d13_17 : decode jdk_42_method_149_code 17 = .ok (.aload_n 0, 1) := by decide +kernel
theorem own_d13_18 : decode jdk_42_method_149_code 18 = .ok (.ldc 7, 2) := by decide +kernel
theorem own_d13_20 : decode jdk_42_method_149_code 20 = .ok (.getfield 15, 3) := by decide +kernel
theorem own_d13_23 : decode jdk_42_method_149_code 23 = .ok (.putfield 15, 3) := by decide +kernel
theorem own_d13_26 : decode jdk_42_method_149_code 26 = .ok (.return_, 1) := by decide +kernel
def Qown_initV0 (Z : State) (a_o : Addr) (a_c : Addr) (u_v : Value) (u_c : Value) (h0 : Heap) (n0 : Nat) (v : Option Value) (h : Heap) (L : List Loc) : Prop := v = none ∧ Fr n0 L ∧ Keep h0 h [a_o]
set_option maxRecDepth 65536 in
set_option maxHeartbeats 40000000 in
theorem own_initV0 (l : Launch) (Z : State) (a0 : Array Value) (hw : ∀ d ∈ tables_1, d.before a0 Z = true) (ws : List Jvm.Cond) (a_o : Addr) (a_c : Addr) (u_v : Value) (u_c : Value) (h0 : Heap) (n0 : Nat) (Z0 : n0 ≤ h0.size) (hx_a_o : Exa Z h0 a_o "java/lang/String") (hv_a_o : Fld Z h0 a_o "java/lang/String" "value" "[B" u_v) (hc_a_o : Fld Z h0 a_o "java/lang/String" "coder" "B" u_c) (hg_a_o : n0 ≤ a_o) (hkeep : ∀ (b : Addr) (cl : Cell), Z.heap[b]? = some cl → h0[b]? = some cl) (hk_e : Jvm.Lit.constHeld Z "java/lang/String" 7) (hcw : Jvm.Lit.compactW.before a0 Z = true) :
    MetFree l (⟨"java/lang/String", "<init>", "([CIILjava/lang/Void;)V"⟩ : MethodName) (head1 (Jvm.Cond.code (⟨"java/lang/String", "<init>", "([CIILjava/lang/Void;)V"⟩ : MethodName) jdk_42_method_149_code 6 none :: ws) ({ frames := 1, cells := 2, slots := 4, locals := 12 } : Room)) (fun a U => a = #[(.ref a_o), (.ref a_c), (.int (0 : Int32)), (.int (0 : Int32)), .null] ∧ Z.Warmed39 U.vm ∧ U.heap = h0 ∧ IB Z U.vm ([] : List String)) (fun _ _ _ _ _ => True) (fun _ U o U' => ∃ v L, o = .returned v ∧ (Qown_initV0 Z a_o a_c u_v u_c h0 n0 v U'.heap L ∧ IB Z U'.vm [""]) ∧ ReturnedEndW U o U' L ({ frames := 1, cells := 2, slots := 4, locals := 12 } : Room).cells ({ frames := 1, cells := 2, slots := 4, locals := 12 } : Room).slots) := by
  refine MetFree.of_bodySF (plainFor_of_name own_pn1) hisR ?_
  intro p e s m args below meth c s₁ Bd hml0 hP hK
  obtain ⟨rfl, hZ, hh, hI⟩ := hP
  have hx := Bd.exec
  have hby := Bd.bytes
  have hml : c.maxLocals = 6 := hml0
  have hown : s.vm.findClass "java/lang/String" = some m.cls := findClass_of_methodNamed Bd.named
  have hnm := (name_of_methodNamed Bd.named Bd.method).1
  have X0 : Stand p l e ({ frames := 1, cells := 2, slots := 4, locals := 12 } : Room) s m #[(.ref a_o), (.ref a_c), (.int (0 : Int32)), (.int (0 : Int32)), .null] below meth c s₁ [] 0 0 := Stand.of_body Bd
  have e0 : s₁.heap = h0 := by rw [← hh, Bd.state]; rfl
  have N0 := Fr.nil n0
  have pre0 : ∀ t, Steps p.tables e below (s₁.setTop (mkF m 0 #[.val (.ref a_o), .val (.ref a_c), .val (.int (0 : Int32)), .val (.int (0 : Int32)), .val .null, .unset] [])) t → Steps p.tables e below (s₁.setTop (entryFrame m #[(.ref a_o), (.ref a_c), (.int (0 : Int32)), (.int (0 : Int32)), .null] 6)) t := fun t k => castTop (own_ef_own_initV0 m a_o a_c) k
  obtain ⟨T3, X3, e3, st3⟩ := initO X0 hx hZ hown (hw _ (List.mem_of_getElem? (i := 21) rfl)) (hw _ (List.mem_of_getElem? (i := 22) rfl)) (hw _ (List.mem_of_getElem? (i := 23) rfl)) e0 (g := (mkF m 1 #[.val (.ref a_o), .val (.ref a_c), .val (.int (0 : Int32)), .val (.int (0 : Int32)), .val .null, .unset] [(.ref a_o)])) rfl (by rw [hml]; rfl) rfl (hb hby own_d13_1) (by decide) (W := 0) (by show 2 * 0 + _ ≤ _; exact Nat.le_of_eq rfl) (by decide)
  have pre8 : ∀ t, Steps p.tables e below (T3.setTop (mkF m 9 #[.val (.ref a_o), .val (.ref a_c), .val (.int (0 : Int32)), .val (.int (0 : Int32)), .val .null, .unset] [(.ref a_o)])) t → Steps p.tables e below (s₁.setTop (entryFrame m #[(.ref a_o), (.ref a_c), (.int (0 : Int32)), (.int (0 : Int32)), .null] 6)) t := by
    intro t kt
    refine pre0 _ ?_
    show Steps p.tables e below (s₁.setTop (mkF m 0 #[.val (.ref a_o), .val (.ref a_c), .val (.int (0 : Int32)), .val (.int (0 : Int32)), .val .null, .unset] [])) _
    refine XS.aloadN X0.here hx rfl (hb hby own_d13_0) rfl rfl ?_
    show Steps p.tables e below (s₁.setTop (mkF m 1 #[.val (.ref a_o), .val (.ref a_c), .val (.int (0 : Int32)), .val (.int (0 : Int32)), .val .null, .unset] [(.ref a_o)])) _
    refine st3 _ ?_
    show Steps p.tables e below (T3.setTop (mkF m 4 #[.val (.ref a_o), .val (.ref a_c), .val (.int (0 : Int32)), .val (.int (0 : Int32)), .val .null, .unset] [])) _
    refine XS.iloadN X3.here hx rfl (hb hby own_d13_4) rfl ?_
    show Steps p.tables e below (T3.setTop (mkF m 5 #[.val (.ref a_o), .val (.ref a_c), .val (.int (0 : Int32)), .val (.int (0 : Int32)), .val .null, .unset] [(.int (0 : Int32))])) _
    refine XS.ifNo X3.here hx rfl (hb hby own_d13_5) rfl ((if0 _ _).trans (teq ((by decide) : (0 : Int32) = (0 : Int32))).2) ?_
    show Steps p.tables e below (T3.setTop (mkF m 8 #[.val (.ref a_o), .val (.ref a_c), .val (.int (0 : Int32)), .val (.int (0 : Int32)), .val .null, .unset] [])) _
    refine XS.aloadN X3.here hx rfl (hb hby own_d13_8) rfl rfl ?_
    show Steps p.tables e below (T3.setTop (mkF m 9 #[.val (.ref a_o), .val (.ref a_c), .val (.int (0 : Int32)), .val (.int (0 : Int32)), .val .null, .unset] [(.ref a_o)])) _
    exact kt
  obtain ⟨b9, T9, h9, ks9, bv9, kv9, X9, e9, E9, Si9, Sk9, hZ9, hown9, Ex9, Fc9, Fv9, Av9, la9, lb9, I9, Li9, st9⟩ := ldcSVL (s := s) (vm0 := s.vm) X3 hx hZ hown (hw _ (List.mem_of_getElem? (i := 83) rfl)) (own_satoms hw) e3 (own_since s 0) (Nat.zero_le _) (Fr.nil _) (by rw [hh]; exact hkeep) hI (by decide) hk_e hcw (vs := []) (z := (0 : Int32)) (by decide) (by decide) (by decide) (g := (mkF m 9 #[.val (.ref a_o), .val (.ref a_c), .val (.int (0 : Int32)), .val (.int (0 : Int32)), .val .null, .unset] [(.ref a_o)])) rfl (hb hby own_d13_9) (n := 0) (by decide) (by decide) (by decide) (by decide)
  have hZ := hZ9
  have hown := hown9
  have Kc10 : Keep h0 h9 [a_o] := (Keep.refl h0 [a_o]).ext E9
  have Zs11 : n0 ≤ h9.size := (Nat.le_trans Z0 E9.1)
  obtain ⟨T13, X13, e13, st13⟩ := getF X9 hx hZ hown (host := "") (Or.inl (hw _ (List.mem_of_getElem? (i := 24) rfl))) Via.refl e9 Fv9 (g := (mkF m 11 #[.val (.ref a_o), .val (.ref a_c), .val (.int (0 : Int32)), .val (.int (0 : Int32)), .val .null, .unset] [(.ref b9), (.ref a_o)])) rfl rfl (hb hby own_d13_11)
  have Fq15 : Exa Z h9 a_o "java/lang/String" := (hx_a_o.ext E9)
  have Fq16 : Fld Z h9 a_o "java/lang/String" "value" "[B" u_v := (hv_a_o.ext E9)
  obtain ⟨T17, h17, X17, e17, W17, st17⟩ := putF X13 hx hZ hown (host := "") (Or.inl (hw _ (List.mem_of_getElem? (i := 24) rfl))) Via.refl e13 Fq16 Fq15 (Or.inr ⟨(hw _ (List.mem_of_getElem? (i := 25) rfl)), rfl, hnm⟩) (hw _ (List.mem_of_getElem? (i := 12) rfl)) (ty := (.array .byte)) (by decide) rfl rfl (g := (mkF m 14 #[.val (.ref a_o), .val (.ref a_c), .val (.int (0 : Int32)), .val (.int (0 : Int32)), .val .null, .unset] [(.ref bv9), (.ref a_o)])) rfl rfl (hb hby own_d13_14)
  have Kc18 : Keep h0 h17 [a_o] := Kc10.wr W17 (Or.inl (List.mem_of_getElem? (i := 0) rfl))
  have Zs19 : n0 ≤ h17.size := Nat.le_trans Zs11 (Keep.of_wr W17).1
  have N20 := Fr.snoc X17 N0 hg_a_o
  have Fw17 : Fld Z h17 a_o "java/lang/String" "value" "[B" (.ref bv9) := Fq16.same W17
  have pre23 : ∀ t, Steps p.tables e below (T17.setTop (mkF m 18 #[.val (.ref a_o), .val (.ref a_c), .val (.int (0 : Int32)), .val (.int (0 : Int32)), .val .null, .unset] [(.ref a_o)])) t → Steps p.tables e below (s₁.setTop (entryFrame m #[(.ref a_o), (.ref a_c), (.int (0 : Int32)), (.int (0 : Int32)), .null] 6)) t := by
    intro t kt
    refine pre8 _ ?_
    refine st9 _ ?_
    show Steps p.tables e below (T9.setTop (mkF m 11 #[.val (.ref a_o), .val (.ref a_c), .val (.int (0 : Int32)), .val (.int (0 : Int32)), .val .null, .unset] [(.ref b9), (.ref a_o)])) _
    refine st13 _ ?_
    show Steps p.tables e below (T13.setTop (mkF m 14 #[.val (.ref a_o), .val (.ref a_c), .val (.int (0 : Int32)), .val (.int (0 : Int32)), .val .null, .unset] [(.ref bv9), (.ref a_o)])) _
    refine st17 _ ?_
    show Steps p.tables e below (T17.setTop (mkF m 17 #[.val (.ref a_o), .val (.ref a_c), .val (.int (0 : Int32)), .val (.int (0 : Int32)), .val .null, .unset] [])) _
    refine XS.aloadN X17.here hx rfl (hb hby own_d13_17) rfl rfl ?_
    show Steps p.tables e below (T17.setTop (mkF m 18 #[.val (.ref a_o), .val (.ref a_c), .val (.int (0 : Int32)), .val (.int (0 : Int32)), .val .null, .unset] [(.ref a_o)])) _
    exact kt
  have Fq26 : Fld Z h17 b9 "java/lang/String" "coder" "B" (.int (0 : Int32)) := (Fc9.other W17 (Or.inr (slot_ne (Or.inr (hw _ (List.mem_of_getElem? (i := 27) rfl))) (Or.inr (hw _ (List.mem_of_getElem? (i := 25) rfl))) (by decide) (t := .byte) (t' := (.array .byte)) (by decide) (by decide))))
  obtain ⟨T27, X27, e27, st27⟩ := getF X17 hx hZ hown (host := "") (Or.inl (hw _ (List.mem_of_getElem? (i := 26) rfl))) Via.refl e17 Fq26 (g := (mkF m 20 #[.val (.ref a_o), .val (.ref a_c), .val (.int (0 : Int32)), .val (.int (0 : Int32)), .val .null, .unset] [(.ref b9), (.ref a_o)])) rfl rfl (hb hby own_d13_20)
  have Fq29 : Exa Z h17 a_o "java/lang/String" := (Fq15.wr W17)
  have Fq30 : Fld Z h17 a_o "java/lang/String" "coder" "B" u_c := ((hc_a_o.ext E9).other W17 (Or.inr (slot_ne (Or.inr (hw _ (List.mem_of_getElem? (i := 27) rfl))) (Or.inr (hw _ (List.mem_of_getElem? (i := 25) rfl))) (by decide) (t := .byte) (t' := (.array .byte)) (by decide) (by decide))))
  obtain ⟨T31, h31, X31, e31, W31, st31⟩ := putFN X27 hx hZ hown (hw _ (List.mem_of_getElem? (i := 26) rfl)) Via.refl e27 Fq30 Fq29 (Or.inr ⟨(hw _ (List.mem_of_getElem? (i := 27) rfl)), rfl, hnm⟩) (hw _ (List.mem_of_getElem? (i := 12) rfl)) (ty := .byte) (v' := (.int (nar .byte (0 : Int32)))) (by decide) rfl (fits_nar_byte _) (g := (mkF m 23 #[.val (.ref a_o), .val (.ref a_c), .val (.int (0 : Int32)), .val (.int (0 : Int32)), .val .null, .unset] [(.int (0 : Int32)), (.ref a_o)])) rfl rfl (hb hby own_d13_23)
  have Kc32 : Keep h0 h31 [a_o] := Kc18.wr W31 (Or.inl (List.mem_of_getElem? (i := 0) rfl))
  have Zs33 : n0 ≤ h31.size := Nat.le_trans Zs19 (Keep.of_wr W31).1
  have N34 := Fr.snoc X31 N20 hg_a_o
  have Fw31 : Fld Z h31 a_o "java/lang/String" "coder" "B" (.int (nar .byte (0 : Int32))) := Fq30.same W31
  obtain ⟨fs, hr, hrun, hended, hR1, hR2, hR3, hR4⟩ := leaveW (s := s) (vm₁ := T9.vm) X31 Si9 (show _ ≤ T31.heap.size by rw [e31]; exact (Nat.le_trans (Nat.le_trans Sk9 (Keep.of_wr W17).1) (Keep.of_wr W31).1)) (v := none) (fun _ => rfl) (hlocks := BodyLoose.notSynchronized Bd)
  refine ⟨_, _, pre23 _ ?_, hrun, hended, _, _, rfl, ?_, hR1, hR2, hR3, hR4.mono (by decide) (by decide)⟩
  · refine ldcAgain (s := s) (vm0 := T9.vm) X17 hx hZ hown (hw _ (List.mem_of_getElem? (i := 83) rfl)) Li9 (g := (mkF m 18 #[.val (.ref a_o), .val (.ref a_c), .val (.int (0 : Int32)), .val (.int (0 : Int32)), .val .null, .unset] [(.ref a_o)])) rfl (hb hby own_d13_18) _ ?_
    show Steps p.tables e below (T17.setTop (mkF m 20 #[.val (.ref a_o), .val (.ref a_c), .val (.int (0 : Int32)), .val (.int (0 : Int32)), .val .null, .unset] [(.ref b9), (.ref a_o)])) _
    refine st27 _ ?_
    show Steps p.tables e below (T27.setTop (mkF m 23 #[.val (.ref a_o), .val (.ref a_c), .val (.int (0 : Int32)), .val (.int (0 : Int32)), .val .null, .unset] [(.int (0 : Int32)), (.ref a_o)])) _
    refine st31 _ ?_
    show Steps p.tables e below (T31.setTop (mkF m 26 #[.val (.ref a_o), .val (.ref a_c), .val (.int (0 : Int32)), .val (.int (0 : Int32)), .val .null, .unset] [])) _
    exact X31.returnOut hx Bd.returns (hb hby own_d13_26) hr
  · have hIe := own_ibT (s := s) (vm0 := T9.vm) X31 I9
    refine ⟨?_, hIe⟩
    show Qown_initV0 Z a_o a_c u_v u_c h0 n0 _ T31.heap _
    rw [e31]
    exact ⟨rfl, N34, Kc32⟩
theorem own_ef_own_initC0 (m : MethodId) (a_o : Addr) (a_c : Addr) : entryFrame m #[(.ref a_o), (.ref a_c)] 2 = mkF m 0 #[.val (.ref a_o), .val (.ref a_c)] [] := by first | (simp [entryFrame, mkF, argsToLocals, Value.category]; done) | rfl
def Qown_initC0 (Z : State) (a_o : Addr) (a_c : Addr) (k_c : ClassId) (vs_c : List Value) (u_v : Value) (u_c : Value) (h0 : Heap) (n0 : Nat) (v : Option Value) (h : Heap) (L : List Loc) : Prop := v = none ∧ Fr n0 L ∧ Keep h0 h [a_o]
set_option maxRecDepth 65536 in
set_option maxHeartbeats 40000000 in
theorem own_initC0 (l : Launch) (Z : State) (a0 : Array Value) (hw : ∀ d ∈ tables_1, d.before a0 Z = true) (ws : List Jvm.Cond) (a_o : Addr) (a_c : Addr) (k_c : ClassId) (vs_c : List Value) (u_v : Value) (u_c : Value) (h0 : Heap) (n0 : Nat) (Z0 : n0 ≤ h0.size) (hx_a_o : Exa Z h0 a_o "java/lang/String") (hv_a_o : Fld Z h0 a_o "java/lang/String" "value" "[B" u_v) (hc_a_o : Fld Z h0 a_o "java/lang/String" "coder" "B" u_c) (hg_a_o : n0 ≤ a_o) (hA : Arv Z h0 a_c k_c .char (0 : Int32) vs_c (.int (0 : Int32))) (hkeep : ∀ (b : Addr) (cl : Cell), Z.heap[b]? = some cl → h0[b]? = some cl) (hk_e : Jvm.Lit.constHeld Z "java/lang/String" 7) (hcw : Jvm.Lit.compactW.before a0 Z = true) :
    MetFree l (⟨"java/lang/String", "<init>", "([C)V"⟩ : MethodName) (head1 (Jvm.Cond.code (⟨"java/lang/String", "<init>", "([C)V"⟩ : MethodName) jdk_42_method_3_code 2 none :: ws) ({ frames := 2, cells := 2, slots := 4, locals := 29 } : Room)) (fun a U => a = #[(.ref a_o), (.ref a_c)] ∧ Z.Warmed39 U.vm ∧ U.heap = h0 ∧ IB Z U.vm ([] : List String)) (fun _ _ _ _ _ => True) (fun _ U o U' => ∃ v L, o = .returned v ∧ (Qown_initC0 Z a_o a_c k_c vs_c u_v u_c h0 n0 v U'.heap L ∧ IB Z U'.vm [""]) ∧ ReturnedEndW U o U' L ({ frames := 2, cells := 2, slots := 4, locals := 29 } : Room).cells ({ frames := 2, cells := 2, slots := 4, locals := 29 } : Room).slots) := by
  refine MetFree.of_bodySF (plainFor_of_name own_pn1) hisR ?_
  intro p e s m args below meth c s₁ Bd hml0 hP hK
  obtain ⟨rfl, hZ, hh, hI⟩ := hP
  have hx := Bd.exec
  have hby := Bd.bytes
  have hml : c.maxLocals = 2 := hml0
  have hown : s.vm.findClass "java/lang/String" = some m.cls := findClass_of_methodNamed Bd.named
  have hnm := (name_of_methodNamed Bd.named Bd.method).1
  have X0 : Stand p l e ({ frames := 2, cells := 2, slots := 4, locals := 29 } : Room) s m #[(.ref a_o), (.ref a_c)] below meth c s₁ [] 0 0 := Stand.of_body Bd
  have e0 : s₁.heap = h0 := by rw [← hh, Bd.state]; rfl
  have N0 := Fr.nil n0
  have pre0 : ∀ t, Steps p.tables e below (s₁.setTop (mkF m 0 #[.val (.ref a_o), .val (.ref a_c)] [])) t → Steps p.tables e below (s₁.setTop (entryFrame m #[(.ref a_o), (.ref a_c)] 2)) t := fun t k => castTop (own_ef_own_initC0 m a_o a_c) k
  obtain ⟨cl6, Ar6, -, S6, M6, -, -⟩ := id hA
  have pre10 : ∀ t, Steps p.tables e below (s₁.setTop (mkF m 6 #[.val (.ref a_o), .val (.ref a_c)] [.null, (.int (0 : Int32)), (.int (0 : Int32)), (.ref a_c), (.ref a_o)])) t → Steps p.tables e below (s₁.setTop (entryFrame m #[(.ref a_o), (.ref a_c)] 2)) t := by
    intro t kt
    refine pre0 _ ?_
    show Steps p.tables e below (s₁.setTop (mkF m 0 #[.val (.ref a_o), .val (.ref a_c)] [])) _
    refine XS.aloadN X0.here hx rfl (hb hby own_d12_0) rfl rfl ?_
    show Steps p.tables e below (s₁.setTop (mkF m 1 #[.val (.ref a_o), .val (.ref a_c)] [(.ref a_o)])) _
    refine XS.aloadN X0.here hx rfl (hb hby own_d12_1) rfl rfl ?_
    show Steps p.tables e below (s₁.setTop (mkF m 2 #[.val (.ref a_o), .val (.ref a_c)] [(.ref a_c), (.ref a_o)])) _
    refine XS.iconst X0.here hx rfl (hb hby own_d12_2) ?_
    show Steps p.tables e below (s₁.setTop (mkF m 3 #[.val (.ref a_o), .val (.ref a_c)] [(.int (0 : Int32)), (.ref a_c), (.ref a_o)])) _
    refine XS.aloadN X0.here hx rfl (hb hby own_d12_3) rfl rfl ?_
    show Steps p.tables e below (s₁.setTop (mkF m 4 #[.val (.ref a_o), .val (.ref a_c)] [(.ref a_c), (.int (0 : Int32)), (.ref a_c), (.ref a_o)])) _
    refine X0.arraylength hx (by rw [e0]; exact Ar6.1) (State.isArrayOf_alike hZ.alike Ar6.2.1) (g := (mkF m 4 #[.val (.ref a_o), .val (.ref a_c)] [(.ref a_c), (.int (0 : Int32)), (.ref a_c), (.ref a_o)])) rfl rfl (hb hby own_d12_4) _ ?_
    rw [len_of S6 M6]
    show Steps p.tables e below (s₁.setTop (mkF m 5 #[.val (.ref a_o), .val (.ref a_c)] [(.int (0 : Int32)), (.int (0 : Int32)), (.ref a_c), (.ref a_o)])) _
    refine XS.aconstNull X0.here hx rfl (hb hby own_d12_5) ?_
    show Steps p.tables e below (s₁.setTop (mkF m 6 #[.val (.ref a_o), .val (.ref a_c)] [.null, (.int (0 : Int32)), (.int (0 : Int32)), (.ref a_c), (.ref a_o)])) _
    exact kt
  obtain ⟨_, _, ⟨T9, L9, k9, n9⟩, -, Xw9, hs9, gs9, ⟨Lc9, hQ9, l9, y9, z9⟩, st9⟩ := Stand.specialBackS (s := s.setVm s.vm) X0 hx (y := (⟨"java/lang/String", "<init>", "([CIILjava/lang/Void;)V"⟩ : MethodName)) rfl hown (mvT hZ (hw _ (List.mem_of_getElem? (i := 80) rfl))) (mvT hZ (hw _ (List.mem_of_getElem? (i := 81) rfl))) (mvT hZ (hw _ (List.mem_of_getElem? (i := 82) rfl))) (by decide) (own_backOfI (W := 0) (own_initV0 l Z a0 hw [] a_o a_c u_v u_c h0 n0 Z0 hx_a_o hv_a_o hc_a_o hg_a_o hkeep hk_e hcw) hZ hI (hw _ (List.mem_of_getElem? (i := 82) rfl)) (hw _ (List.mem_of_getElem? (i := 4) rfl)) (by decide) (by decide)) (g := (mkF m 6 #[.val (.ref a_o), .val (.ref a_c)] [.null, (.int (0 : Int32)), (.int (0 : Int32)), (.ref a_c), (.ref a_o)])) rfl (by rw [hml]; rfl) (Steps.refl _) (a := a_o) (argsL := [(.ref a_c), (.int (0 : Int32)), (.int (0 : Int32)), .null]) (rest := []) (lenOf own_pd6 rfl) rfl (by show 2 * 0 + _ ≤ _; exact Nat.le_of_eq rfl) (hb hby own_d12_6) (fun _ _ => ⟨rfl, e0, (by decide : 0 + 2 ≤ _), (by decide : 0 + 4 ≤ _)⟩)
  obtain ⟨X9, Si9, hZ9, hown9⟩ := rebS (s := s) (own_since s 0) (Nat.zero_le _) Xw9 hs9 gs9 hZ hown
  have hZ := hZ9
  have hown := hown9
  dsimp only [Pt.U, Pt.locs, Pt.cells, Pt.slots] at X9 l9 y9 z9 st9 hQ9
  rw [l9, y9, z9] at X9
  obtain ⟨⟨rfl, Nq9, K9⟩, I9⟩ := hQ9
  have N11 := Fr.app N0 Nq9
  have Kc12 : Keep h0 T9.heap [a_o] := (Keep.refl h0 [a_o]).trans K9 (allS (Or.inl (List.mem_of_getElem? (i := 0) rfl)) all0)
  have Zs13 : n0 ≤ T9.heap.size := Nat.le_trans Z0 K9.1
  obtain ⟨fs, hr, hrun, hended, hR1, hR2, hR3, hR4⟩ := leaveW (s := s) (vm₁ := T9.vm) X9 Si9 (Nat.le_refl _) (v := none) (fun _ => rfl) (hlocks := BodyLoose.notSynchronized Bd)
  refine ⟨_, _, pre10 _ ?_, hrun, hended, _, _, rfl, ?_, hR1, hR2, hR3, hR4.mono (by decide) (by decide)⟩
  · refine st9.trans ?_
    show Steps p.tables e below (T9.setTop (mkF m 9 #[.val (.ref a_o), .val (.ref a_c)] [])) _
    exact X9.returnOut hx Bd.returns (hb hby own_d12_9) hr
  · have hIe := own_ibT (s := s) (vm0 := T9.vm) X9 I9
    refine ⟨?_, hIe⟩
    show Qown_initC0 Z a_o a_c k_c vs_c u_v u_c h0 n0 _ T9.heap _
    exact ⟨rfl, N11, Kc12⟩
theorem own_pn4 : plainName "com/example/change_gatherer/changegatherer/model/DocumentVersion" = true := by first | (simp [plainName, overriddenIn]; done) | decide +kernel
theorem own_ef_own_dv (m : MethodId) (a_o : Addr) (t_o : Addr) : entryFrame m #[(.ref a_o), (.ref t_o), .null, .null] 4 = mkF m 0 #[.val (.ref a_o), .val (.ref t_o), .val .null, .val .null] [] := by first | (simp [entryFrame, mkF, argsToLocals, Value.category]; done) | rfl
theorem own_pd7 : parseMethodDescriptor "(Ljava/lang/Object;Ljava/lang/String;)Ljava/lang/Object;" = some ⟨[(.object "java/lang/Object"), (.object "java/lang/String")], some (.object "java/lang/Object")⟩ := by decide +kernel
theorem own_d6_0 : decode prog_18_method_1_code 0 = .ok (.aload_n 0, 1) := by decide +kernel
theorem own_d6_1 : decode prog_18_method_1_code 1 = .ok (.invokespecial 1, 3) := by decide +kernel
theorem own_d6_4 : decode prog_18_method_1_code 4 = .ok (.aload_n 0, 1) := by decide +kernel
theorem own_d6_5 : decode prog_18_method_1_code 5 = .ok (.aload_n 1, 1) := by decide +kernel
theorem own_d6_6 : decode prog_18_method_1_code 6 = .ok (.ldc 7, 2) := by decide +kernel
theorem own_d6_8 : decode prog_18_method_1_code 8 = .ok (.invokestatic 9, 3) := by decide +kernel
theorem own_d6_11 : decode prog_18_method_1_code 11 = .ok (.checkcast 15, 3) := by decide +kernel
theorem own_d6_14 : decode prog_18_method_1_code 14 = .ok (.putfield 17, 3) := by decide +kernel
theorem own_d6_17 : decode prog_18_method_1_code 17 = .ok (.aload_n 0, 1) := by decide +kernel
theorem own_d6_18 : decode prog_18_method_1_code 18 = .ok (.aload_n 2, 1) := by decide +kernel
theorem own_d6_19 : decode prog_18_method_1_code 19 = .ok (.putfield 22, 3) := by decide +kernel
theorem own_d6_22 : decode prog_18_method_1_code 22 = .ok (.aload_n 0, 1) := by decide +kernel
theorem own_d6_23 : decode prog_18_method_1_code 23 = .ok (.aload_n 3, 1) := by decide +kernel
theorem own_d6_24 : decode prog_18_method_1_code 24 = .ok (.putfield 25, 3) := by decide +kernel
theorem own_d6_27 : decode prog_18_method_1_code 27 = .ok (.return_, 1) := by decide +kernel
def Qown_dv (Z : State) (a_o : Addr) (t_o : Addr) (u_1 : Value) (u_2 : Value) (u_3 : Value) (h0 : Heap) (n0 : Nat) (v : Option Value) (h : Heap) (L : List Loc) : Prop := v = none ∧ Fr n0 L ∧ Keep h0 h [a_o]
set_option maxRecDepth 65536 in
set_option maxHeartbeats 40000000 in
theorem own_dv (l : Launch) (Z : State) (a0 : Array Value) (hw : ∀ d ∈ tables_1, d.before a0 Z = true) (ws : List Jvm.Cond) (a_o : Addr) (t_o : Addr) (u_1 : Value) (u_2 : Value) (u_3 : Value) (h0 : Heap) (n0 : Nat) (Z0 : n0 ≤ h0.size) (hx_a : Exa Z h0 a_o "com/example/change_gatherer/changegatherer/model/DocumentVersion") (hx_t : Exa Z h0 t_o "java/lang/String") (hf_1 : Fld Z h0 a_o "com/example/change_gatherer/changegatherer/model/DocumentVersion" "url" "Ljava/lang/String;" u_1) (hf_2 : Fld Z h0 a_o "com/example/change_gatherer/changegatherer/model/DocumentVersion" "entityTag" "Ljava/lang/String;" u_2) (hf_3 : Fld Z h0 a_o "com/example/change_gatherer/changegatherer/model/DocumentVersion" "lastModified" "Ljava/lang/String;" u_3) (hg_a : n0 ≤ a_o) :
    MetFree l (⟨"com/example/change_gatherer/changegatherer/model/DocumentVersion", "<init>", "(Ljava/lang/String;Ljava/lang/String;Ljava/lang/String;)V"⟩ : MethodName) (head1 (Jvm.Cond.code (⟨"com/example/change_gatherer/changegatherer/model/DocumentVersion", "<init>", "(Ljava/lang/String;Ljava/lang/String;Ljava/lang/String;)V"⟩ : MethodName) prog_18_method_1_code 4 none :: ws) ({ frames := 1, cells := 2, slots := 16, locals := 14 } : Room)) (fun a U => a = #[(.ref a_o), (.ref t_o), .null, .null] ∧ Z.Warmed39 U.vm ∧ U.heap = h0) (fun _ _ _ _ _ => True) (fun _ U o U' => ∃ v L, o = .returned v ∧ Qown_dv Z a_o t_o u_1 u_2 u_3 h0 n0 v U'.heap L ∧ ReturnedEndW U o U' L ({ frames := 1, cells := 2, slots := 16, locals := 14 } : Room).cells ({ frames := 1, cells := 2, slots := 16, locals := 14 } : Room).slots) := by
  refine MetFree.of_bodySF (plainFor_of_name own_pn4) hisR ?_
  intro p e s m args below meth c s₁ Bd hml0 hP hK
  obtain ⟨rfl, hZ, hh⟩ := hP
  have hx := Bd.exec
  have hby := Bd.bytes
  have hml : c.maxLocals = 4 := hml0
  have hown : s.vm.findClass "com/example/change_gatherer/changegatherer/model/DocumentVersion" = some m.cls := findClass_of_methodNamed Bd.named
  have hnm := (name_of_methodNamed Bd.named Bd.method).1
  have X0 : Stand p l e ({ frames := 1, cells := 2, slots := 16, locals := 14 } : Room) s m #[(.ref a_o), (.ref t_o), .null, .null] below meth c s₁ [] 0 0 := Stand.of_body Bd
  have e0 : s₁.heap = h0 := by rw [← hh, Bd.state]; rfl
  have N0 := Fr.nil n0
  have pre0 : ∀ t, Steps p.tables e below (s₁.setTop (mkF m 0 #[.val (.ref a_o), .val (.ref t_o), .val .null, .val .null] [])) t → Steps p.tables e below (s₁.setTop (entryFrame m #[(.ref a_o), (.ref t_o), .null, .null] 4)) t := fun t k => castTop (own_ef_own_dv m a_o t_o) k
  obtain ⟨T3, X3, e3, st3⟩ := initO X0 hx hZ hown (hw _ (List.mem_of_getElem? (i := 37) rfl)) (hw _ (List.mem_of_getElem? (i := 22) rfl)) (hw _ (List.mem_of_getElem? (i := 23) rfl)) e0 (g := (mkF m 1 #[.val (.ref a_o), .val (.ref t_o), .val .null, .val .null] [(.ref a_o)])) rfl (by rw [hml]; rfl) rfl (hb hby own_d6_1) (by decide) (W := 0) (by show 2 * 0 + _ ≤ _; exact Nat.le_of_eq rfl) (by decide)
  have pre7 : ∀ t, Steps p.tables e below (T3.setTop (mkF m 6 #[.val (.ref a_o), .val (.ref t_o), .val .null, .val .null] [(.ref t_o), (.ref a_o)])) t → Steps p.tables e below (s₁.setTop (entryFrame m #[(.ref a_o), (.ref t_o), .null, .null] 4)) t := by
    intro t kt
    refine pre0 _ ?_
    show Steps p.tables e below (s₁.setTop (mkF m 0 #[.val (.ref a_o), .val (.ref t_o), .val .null, .val .null] [])) _
    refine XS.aloadN X0.here hx rfl (hb hby own_d6_0) rfl rfl ?_
    show Steps p.tables e below (s₁.setTop (mkF m 1 #[.val (.ref a_o), .val (.ref t_o), .val .null, .val .null] [(.ref a_o)])) _
    refine st3 _ ?_
    show Steps p.tables e below (T3.setTop (mkF m 4 #[.val (.ref a_o), .val (.ref t_o), .val .null, .val .null] [])) _
    refine XS.aloadN X3.here hx rfl (hb hby own_d6_4) rfl rfl ?_
    show Steps p.tables e below (T3.setTop (mkF m 5 #[.val (.ref a_o), .val (.ref t_o), .val .null, .val .null] [(.ref a_o)])) _
    refine XS.aloadN X3.here hx rfl (hb hby own_d6_5) rfl rfl ?_
    show Steps p.tables e below (T3.setTop (mkF m 6 #[.val (.ref a_o), .val (.ref t_o), .val .null, .val .null] [(.ref t_o), (.ref a_o)])) _
    exact kt
  obtain ⟨b8, T8, h8, ks8, X8, e8, E8, Si8, Sk8, hZ8, hown8, st8⟩ := ldcS (s := s) (vm0 := s.vm) X3 hx hZ hown (hw _ (List.mem_of_getElem? (i := 38) rfl)) (own_satoms hw) e3 (own_since s 0) (Nat.zero_le _) (g := (mkF m 6 #[.val (.ref a_o), .val (.ref t_o), .val .null, .val .null] [(.ref t_o), (.ref a_o)])) rfl (hb hby own_d6_6) (n := 12) (by decide) (by decide) (by decide) (by decide)
  have hZ := hZ8
  have hown := hown8
  have Kc9 : Keep h0 h8 [a_o] := (Keep.refl h0 [a_o]).ext E8
  have Zs10 : n0 ≤ h8.size := (Nat.le_trans Z0 E8.1)
  obtain ⟨_, _, ⟨T12, L12, k12, n12⟩, -, X12, ⟨Lc12, hQ12, l12, y12, z12⟩, st12⟩ := Jvm.LawKit.callS X8 hx (y := (⟨"java/util/Objects", "requireNonNull", "(Ljava/lang/Object;Ljava/lang/String;)Ljava/lang/Object;"⟩ : MethodName)) hown (mvT hZ (hw _ (List.mem_of_getElem? (i := 39) rfl))) (mvT hZ (hw _ (List.mem_of_getElem? (i := 40) rfl))) (mvT hZ (hw _ (List.mem_of_getElem? (i := 41) rfl))) (mvT hZ (hw _ (List.mem_of_getElem? (i := 42) rfl))) (by decide) (backOf (W := 1) (own_req l Z a0 hw [] t_o b8 h8 n0 Zs10 ) hZ (hw _ (List.mem_of_getElem? (i := 42) rfl)) (hw _ (List.mem_of_getElem? (i := 41) rfl)) (by decide) (by decide)) (g := (mkF m 8 #[.val (.ref a_o), .val (.ref t_o), .val .null, .val .null] [(.ref b8), (.ref t_o), (.ref a_o)])) rfl (by rw [hml]; rfl) (argsL := [(.ref t_o), (.ref b8)]) (rest := [(.ref a_o)]) (lenOf own_pd7 rfl) rfl (by show 2 * 0 + _ ≤ _; exact Nat.le_of_eq rfl) (hb hby own_d6_8) (fun _ _ => ⟨rfl, e8, (by decide : 2 + 0 ≤ _), (by decide : 16 + 0 ≤ _)⟩)
  dsimp only [Pt.U, Pt.locs, Pt.cells, Pt.slots] at X12 l12 y12 z12 st12 hQ12
  rw [l12, y12, z12] at X12
  obtain ⟨rfl, Nq12, eh12⟩ := hQ12
  have N13 := Fr.app N0 Nq12
  have Fq15 : Exa Z h8 t_o "java/lang/String" := (hx_t.ext E8)
  obtain ⟨T16, X16, e16, st16⟩ := castY X12 hx hZ hown (hw _ (List.mem_of_getElem? (i := 43) rfl)) eh12 (Ins.self Fq15) (g := (mkF m 11 #[.val (.ref a_o), .val (.ref t_o), .val .null, .val .null] [(.ref t_o), (.ref a_o)])) rfl rfl (hb hby own_d6_11)
  have Fq18 : Exa Z h8 a_o "com/example/change_gatherer/changegatherer/model/DocumentVersion" := (hx_a.ext E8)
  have Fq19 : Fld Z h8 a_o "com/example/change_gatherer/changegatherer/model/DocumentVersion" "url" "Ljava/lang/String;" u_1 := (hf_1.ext E8)
  obtain ⟨T20, h20, X20, e20, W20, st20⟩ := putF X16 hx hZ hown (host := "") (Or.inl (hw _ (List.mem_of_getElem? (i := 44) rfl))) Via.refl e16 Fq19 Fq18 (Or.inr ⟨(hw _ (List.mem_of_getElem? (i := 45) rfl)), rfl, hnm⟩) (hw _ (List.mem_of_getElem? (i := 29) rfl)) (ty := (.object "java/lang/String")) (by decide) rfl rfl (g := (mkF m 14 #[.val (.ref a_o), .val (.ref t_o), .val .null, .val .null] [(.ref t_o), (.ref a_o)])) rfl rfl (hb hby own_d6_14)
  have Kc21 : Keep h0 h20 [a_o] := Kc9.wr W20 (Or.inl (List.mem_of_getElem? (i := 0) rfl))
  have Zs22 : n0 ≤ h20.size := Nat.le_trans Zs10 (Keep.of_wr W20).1
  have N23 := Fr.snoc X20 N13 hg_a
  have Fw20 : Fld Z h20 a_o "com/example/change_gatherer/changegatherer/model/DocumentVersion" "url" "Ljava/lang/String;" (.ref t_o) := Fq19.same W20
  have Fq27 : Exa Z h20 a_o "com/example/change_gatherer/changegatherer/model/DocumentVersion" := (Fq18.wr W20)
  have Fq28 : Fld Z h20 a_o "com/example/change_gatherer/changegatherer/model/DocumentVersion" "entityTag" "Ljava/lang/String;" u_2 := ((hf_2.ext E8).other W20 (Or.inr (slot_ne (Or.inr (hw _ (List.mem_of_getElem? (i := 47) rfl))) (Or.inr (hw _ (List.mem_of_getElem? (i := 45) rfl))) (by decide) (t := (.object "java/lang/String")) (t' := (.object "java/lang/String")) (by decide) (by decide))))
  obtain ⟨T29, h29, X29, e29, W29, st29⟩ := putF X20 hx hZ hown (host := "") (Or.inl (hw _ (List.mem_of_getElem? (i := 46) rfl))) Via.refl e20 Fq28 Fq27 (Or.inr ⟨(hw _ (List.mem_of_getElem? (i := 47) rfl)), rfl, hnm⟩) (hw _ (List.mem_of_getElem? (i := 29) rfl)) (ty := (.object "java/lang/String")) (by decide) rfl rfl (g := (mkF m 19 #[.val (.ref a_o), .val (.ref t_o), .val .null, .val .null] [.null, (.ref a_o)])) rfl rfl (hb hby own_d6_19)
  have Kc30 : Keep h0 h29 [a_o] := Kc21.wr W29 (Or.inl (List.mem_of_getElem? (i := 0) rfl))
  have Zs31 : n0 ≤ h29.size := Nat.le_trans Zs22 (Keep.of_wr W29).1
  have N32 := Fr.snoc X29 N23 hg_a
  have Fw29 : Fld Z h29 a_o "com/example/change_gatherer/changegatherer/model/DocumentVersion" "entityTag" "Ljava/lang/String;" .null := Fq28.same W29
  have Fq36 : Exa Z h29 a_o "com/example/change_gatherer/changegatherer/model/DocumentVersion" := (Fq27.wr W29)
  have Fq37 : Fld Z h29 a_o "com/example/change_gatherer/changegatherer/model/DocumentVersion" "lastModified" "Ljava/lang/String;" u_3 := (((hf_3.ext E8).other W20 (Or.inr (slot_ne (Or.inr (hw _ (List.mem_of_getElem? (i := 49) rfl))) (Or.inr (hw _ (List.mem_of_getElem? (i := 45) rfl))) (by decide) (t := (.object "java/lang/String")) (t' := (.object "java/lang/String")) (by decide) (by decide)))).other W29 (Or.inr (slot_ne (Or.inr (hw _ (List.mem_of_getElem? (i := 49) rfl))) (Or.inr (hw _ (List.mem_of_getElem? (i := 47) rfl))) (by decide) (t := (.object "java/lang/String")) (t' := (.object "java/lang/String")) (by decide) (by decide))))
  obtain ⟨T38, h38, X38, e38, W38, st38⟩ := putF X29 hx hZ hown (host := "") (Or.inl (hw _ (List.mem_of_getElem? (i := 48) rfl))) Via.refl e29 Fq37 Fq36 (Or.inr ⟨(hw _ (List.mem_of_getElem? (i := 49) rfl)), rfl, hnm⟩) (hw _ (List.mem_of_getElem? (i := 29) rfl)) (ty := (.object "java/lang/String")) (by decide) rfl rfl (g := (mkF m 24 #[.val (.ref a_o), .val (.ref t_o), .val .null, .val .null] [.null, (.ref a_o)])) rfl rfl (hb hby own_d6_24)
  have Kc39 : Keep h0 h38 [a_o] := Kc30.wr W38 (Or.inl (List.mem_of_getElem? (i := 0) rfl))
  have Zs40 : n0 ≤ h38.size := Nat.le_trans Zs31 (Keep.of_wr W38).1
  have N41 := Fr.snoc X38 N32 hg_a
  have Fw38 : Fld Z h38 a_o "com/example/change_gatherer/changegatherer/model/DocumentVersion" "lastModified" "Ljava/lang/String;" .null := Fq37.same W38
  obtain ⟨fs, hr, hrun, hended, hR1, hR2, hR3, hR4⟩ := leaveW (s := s) (vm₁ := T8.vm) X38 Si8 (show _ ≤ T38.heap.size by rw [e38]; exact (Nat.le_trans (Nat.le_trans (Nat.le_trans Sk8 (Keep.of_wr W20).1) (Keep.of_wr W29).1) (Keep.of_wr W38).1)) (v := none) (fun _ => rfl) (hlocks := BodyLoose.notSynchronized Bd)
  refine ⟨_, _, pre7 _ ?_, hrun, hended, _, _, rfl, ?_, hR1, hR2, hR3, hR4.mono (by decide) (by decide)⟩
  · refine st8 _ ?_
    show Steps p.tables e below (T8.setTop (mkF m 8 #[.val (.ref a_o), .val (.ref t_o), .val .null, .val .null] [(.ref b8), (.ref t_o), (.ref a_o)])) _
    refine st12 _ ?_
    show Steps p.tables e below (T12.setTop (mkF m 11 #[.val (.ref a_o), .val (.ref t_o), .val .null, .val .null] [(.ref t_o), (.ref a_o)])) _
    refine st16 _ ?_
    show Steps p.tables e below (T16.setTop (mkF m 14 #[.val (.ref a_o), .val (.ref t_o), .val .null, .val .null] [(.ref t_o), (.ref a_o)])) _
    refine st20 _ ?_
    show Steps p.tables e below (T20.setTop (mkF m 17 #[.val (.ref a_o), .val (.ref t_o), .val .null, .val .null] [])) _
    refine XS.aloadN X20.here hx rfl (hb hby own_d6_17) rfl rfl ?_
    show Steps p.tables e below (T20.setTop (mkF m 18 #[.val (.ref a_o), .val (.ref t_o), .val .null, .val .null] [(.ref a_o)])) _
    refine XS.aloadN X20.here hx rfl (hb hby own_d6_18) rfl rfl ?_
    show Steps p.tables e below (T20.setTop (mkF m 19 #[.val (.ref a_o), .val (.ref t_o), .val .null, .val .null] [.null, (.ref a_o)])) _
    refine st29 _ ?_
    show Steps p.tables e below (T29.setTop (mkF m 22 #[.val (.ref a_o), .val (.ref t_o), .val .null, .val .null] [])) _
    refine XS.aloadN X29.here hx rfl (hb hby own_d6_22) rfl rfl ?_
    show Steps p.tables e below (T29.setTop (mkF m 23 #[.val (.ref a_o), .val (.ref t_o), .val .null, .val .null] [(.ref a_o)])) _
    refine XS.aloadN X29.here hx rfl (hb hby own_d6_23) rfl rfl ?_
    show Steps p.tables e below (T29.setTop (mkF m 24 #[.val (.ref a_o), .val (.ref t_o), .val .null, .val .null] [.null, (.ref a_o)])) _
    refine st38 _ ?_
    show Steps p.tables e below (T38.setTop (mkF m 27 #[.val (.ref a_o), .val (.ref t_o), .val .null, .val .null] [])) _
    exact X38.returnOut hx Bd.returns (hb hby own_d6_27) hr
  · show Qown_dv Z a_o t_o u_1 u_2 u_3 h0 n0 _ T38.heap _
    rw [e38]
    exact ⟨rfl, N41, Kc39⟩
theorem own_pn5 : plainName "com/example/change_gatherer/changegatherer/io/FetchedDocument" = true := by first | (simp [plainName, overriddenIn]; done) | decide +kernel
theorem own_ef_own_fdN (m : MethodId) (a_o : Addr) (v_o : Addr) : entryFrame m #[(.ref a_o), .null, (.ref v_o)] 3 = mkF m 0 #[.val (.ref a_o), .val .null, .val (.ref v_o)] [] := by first | (simp [entryFrame, mkF, argsToLocals, Value.category]; done) | rfl
theorem own_d8_0 : decode prog_8_method_1_code 0 = .ok (.aload_n 0, 1) := by decide +kernel
theorem own_d8_1 : decode prog_8_method_1_code 1 = .ok (.invokespecial 1, 3) := by decide +kernel
theorem own_d8_4 : decode prog_8_method_1_code 4 = .ok (.aload_n 0, 1) := by decide +kernel
theorem own_d8_5 : decode prog_8_method_1_code 5 = .ok (.aload_n 1, 1) := by decide +kernel
theorem own_d8_6 : decode prog_8_method_1_code 6 = .ok (.putfield 7, 3) := by decide +kernel
theorem own_d8_9 : decode prog_8_method_1_code 9 = .ok (.aload_n 0, 1) := by decide +kernel
theorem own_d8_10 : decode prog_8_method_1_code 10 = .ok (.aload_n 2, 1) := by decide +kernel
theorem own_d8_11 : decode prog_8_method_1_code 11 = .ok (.putfield 13, 3) := by decide +kernel
theorem own_d8_14 : decode prog_8_method_1_code 14 = .ok (.return_, 1) := by decide +kernel
def Qown_fdN (Z : State) (a_o : Addr) (v_o : Addr) (u_1 : Value) (u_2 : Value) (h0 : Heap) (n0 : Nat) (v : Option Value) (h : Heap) (L : List Loc) : Prop := v = none ∧ Fr n0 L ∧ Keep h0 h [a_o] ∧ Fld Z h a_o "com/example/change_gatherer/changegatherer/io/FetchedDocument" "body" "Ljava/lang/String;" .null ∧ Fld Z h a_o "com/example/change_gatherer/changegatherer/io/FetchedDocument" "version" "Lcom/example/change_gatherer/changegatherer/model/DocumentVersion;" (.ref v_o)
set_option maxRecDepth 65536 in
set_option maxHeartbeats 40000000 in
theorem own_fdN (l : Launch) (Z : State) (a0 : Array Value) (hw : ∀ d ∈ tables_1, d.before a0 Z = true) (ws : List Jvm.Cond) (a_o : Addr) (v_o : Addr) (u_1 : Value) (u_2 : Value) (h0 : Heap) (n0 : Nat) (Z0 : n0 ≤ h0.size) (hx_a : Exa Z h0 a_o "com/example/change_gatherer/changegatherer/io/FetchedDocument") (hf_1 : Fld Z h0 a_o "com/example/change_gatherer/changegatherer/io/FetchedDocument" "body" "Ljava/lang/String;" u_1) (hf_2 : Fld Z h0 a_o "com/example/change_gatherer/changegatherer/io/FetchedDocument" "version" "Lcom/example/change_gatherer/changegatherer/model/DocumentVersion;" u_2) (hg_a : n0 ≤ a_o) :
    MetFree l (⟨"com/example/change_gatherer/changegatherer/io/FetchedDocument", "<init>", "(Ljava/lang/String;Lcom/example/change_gatherer/changegatherer/model/DocumentVersion;)V"⟩ : MethodName) (head1 (Jvm.Cond.code (⟨"com/example/change_gatherer/changegatherer/io/FetchedDocument", "<init>", "(Ljava/lang/String;Lcom/example/change_gatherer/changegatherer/model/DocumentVersion;)V"⟩ : MethodName) prog_8_method_1_code 3 none :: ws) ({ frames := 1, cells := 0, slots := 0, locals := 12 } : Room)) (fun a U => a = #[(.ref a_o), .null, (.ref v_o)] ∧ Z.Warmed39 U.vm ∧ U.heap = h0) (fun _ _ _ _ _ => True) (fun _ U o U' => ∃ v L, o = .returned v ∧ Qown_fdN Z a_o v_o u_1 u_2 h0 n0 v U'.heap L ∧ FrameEnd U o U' L ({ frames := 1, cells := 0, slots := 0, locals := 12 } : Room).cells ({ frames := 1, cells := 0, slots := 0, locals := 12 } : Room).slots) := by
  refine MetFree.of_bodySF (plainFor_of_name own_pn5) hisR ?_
  intro p e s m args below meth c s₁ Bd hml0 hP hK
  obtain ⟨rfl, hZ, hh⟩ := hP
  have hx := Bd.exec
  have hby := Bd.bytes
  have hml : c.maxLocals = 3 := hml0
  have hown : s.vm.findClass "com/example/change_gatherer/changegatherer/io/FetchedDocument" = some m.cls := findClass_of_methodNamed Bd.named
  have hnm := (name_of_methodNamed Bd.named Bd.method).1
  have X0 : Stand p l e ({ frames := 1, cells := 0, slots := 0, locals := 12 } : Room) s m #[(.ref a_o), .null, (.ref v_o)] below meth c s₁ [] 0 0 := Stand.of_body Bd
  have e0 : s₁.heap = h0 := by rw [← hh, Bd.state]; rfl
  have N0 := Fr.nil n0
  have pre0 : ∀ t, Steps p.tables e below (s₁.setTop (mkF m 0 #[.val (.ref a_o), .val .null, .val (.ref v_o)] [])) t → Steps p.tables e below (s₁.setTop (entryFrame m #[(.ref a_o), .null, (.ref v_o)] 3)) t := fun t k => castTop (own_ef_own_fdN m a_o v_o) k
  obtain ⟨T3, X3, e3, st3⟩ := initO X0 hx hZ hown (hw _ (List.mem_of_getElem? (i := 56) rfl)) (hw _ (List.mem_of_getElem? (i := 22) rfl)) (hw _ (List.mem_of_getElem? (i := 23) rfl)) e0 (g := (mkF m 1 #[.val (.ref a_o), .val .null, .val (.ref v_o)] [(.ref a_o)])) rfl (by rw [hml]; rfl) rfl (hb hby own_d8_1) (by decide) (W := 0) (by show 2 * 0 + _ ≤ _; exact Nat.le_of_eq rfl) (by decide)
  obtain ⟨T7, h7, X7, e7, W7, st7⟩ := putF X3 hx hZ hown (host := "") (Or.inl (hw _ (List.mem_of_getElem? (i := 57) rfl))) Via.refl e3 hf_1 hx_a (Or.inr ⟨(hw _ (List.mem_of_getElem? (i := 58) rfl)), rfl, hnm⟩) (hw _ (List.mem_of_getElem? (i := 51) rfl)) (ty := (.object "java/lang/String")) (by decide) rfl rfl (g := (mkF m 6 #[.val (.ref a_o), .val .null, .val (.ref v_o)] [.null, (.ref a_o)])) rfl rfl (hb hby own_d8_6)
  have Kc8 : Keep h0 h7 [a_o] := (Keep.refl h0 [a_o]).wr W7 (Or.inl (List.mem_of_getElem? (i := 0) rfl))
  have Zs9 : n0 ≤ h7.size := Nat.le_trans Z0 (Keep.of_wr W7).1
  have N10 := Fr.snoc X7 N0 hg_a
  have Fw7 : Fld Z h7 a_o "com/example/change_gatherer/changegatherer/io/FetchedDocument" "body" "Ljava/lang/String;" .null := hf_1.same W7
  have Fq14 : Exa Z h7 a_o "com/example/change_gatherer/changegatherer/io/FetchedDocument" := (hx_a.wr W7)
  have Fq15 : Fld Z h7 a_o "com/example/change_gatherer/changegatherer/io/FetchedDocument" "version" "Lcom/example/change_gatherer/changegatherer/model/DocumentVersion;" u_2 := (hf_2.other W7 (Or.inr (slot_ne (Or.inr (hw _ (List.mem_of_getElem? (i := 60) rfl))) (Or.inr (hw _ (List.mem_of_getElem? (i := 58) rfl))) (by decide) (t := (.object "com/example/change_gatherer/changegatherer/model/DocumentVersion")) (t' := (.object "java/lang/String")) (by decide) (by decide))))
  obtain ⟨T16, h16, X16, e16, W16, st16⟩ := putF X7 hx hZ hown (host := "") (Or.inl (hw _ (List.mem_of_getElem? (i := 59) rfl))) Via.refl e7 Fq15 Fq14 (Or.inr ⟨(hw _ (List.mem_of_getElem? (i := 60) rfl)), rfl, hnm⟩) (hw _ (List.mem_of_getElem? (i := 51) rfl)) (ty := (.object "com/example/change_gatherer/changegatherer/model/DocumentVersion")) (by decide) rfl rfl (g := (mkF m 11 #[.val (.ref a_o), .val .null, .val (.ref v_o)] [(.ref v_o), (.ref a_o)])) rfl rfl (hb hby own_d8_11)
  have Kc17 : Keep h0 h16 [a_o] := Kc8.wr W16 (Or.inl (List.mem_of_getElem? (i := 0) rfl))
  have Zs18 : n0 ≤ h16.size := Nat.le_trans Zs9 (Keep.of_wr W16).1
  have N19 := Fr.snoc X16 N10 hg_a
  have Fw16 : Fld Z h16 a_o "com/example/change_gatherer/changegatherer/io/FetchedDocument" "version" "Lcom/example/change_gatherer/changegatherer/model/DocumentVersion;" (.ref v_o) := Fq15.same W16
  obtain ⟨fs, hr, hrun, hended, hW, hsame⟩ := X16.leave (v := none) (fun _ => rfl) (hlocks := BodyLoose.notSynchronized Bd)
  refine ⟨_, _, pre0 _ ?_, hrun, hended, _, _, rfl, ?_, ⟨_, rfl⟩, hW, hsame.mono (by decide) (by decide)⟩
  · show Steps p.tables e below (s₁.setTop (mkF m 0 #[.val (.ref a_o), .val .null, .val (.ref v_o)] [])) _
    refine XS.aloadN X0.here hx rfl (hb hby own_d8_0) rfl rfl ?_
    show Steps p.tables e below (s₁.setTop (mkF m 1 #[.val (.ref a_o), .val .null, .val (.ref v_o)] [(.ref a_o)])) _
    refine st3 _ ?_
    show Steps p.tables e below (T3.setTop (mkF m 4 #[.val (.ref a_o), .val .null, .val (.ref v_o)] [])) _
    refine XS.aloadN X3.here hx rfl (hb hby own_d8_4) rfl rfl ?_
    show Steps p.tables e below (T3.setTop (mkF m 5 #[.val (.ref a_o), .val .null, .val (.ref v_o)] [(.ref a_o)])) _
    refine XS.aloadN X3.here hx rfl (hb hby own_d8_5) rfl rfl ?_
    show Steps p.tables e below (T3.setTop (mkF m 6 #[.val (.ref a_o), .val .null, .val (.ref v_o)] [.null, (.ref a_o)])) _
    refine st7 _ ?_
    show Steps p.tables e below (T7.setTop (mkF m 9 #[.val (.ref a_o), .val .null, .val (.ref v_o)] [])) _
    refine XS.aloadN X7.here hx rfl (hb hby own_d8_9) rfl rfl ?_
    show Steps p.tables e below (T7.setTop (mkF m 10 #[.val (.ref a_o), .val .null, .val (.ref v_o)] [(.ref a_o)])) _
    refine XS.aloadN X7.here hx rfl (hb hby own_d8_10) rfl rfl ?_
    show Steps p.tables e below (T7.setTop (mkF m 11 #[.val (.ref a_o), .val .null, .val (.ref v_o)] [(.ref v_o), (.ref a_o)])) _
    refine st16 _ ?_
    show Steps p.tables e below (T16.setTop (mkF m 14 #[.val (.ref a_o), .val .null, .val (.ref v_o)] [])) _
    exact X16.returnOut hx Bd.returns (hb hby own_d8_14) hr
  · show Qown_fdN Z a_o v_o u_1 u_2 h0 n0 _ T16.heap _
    rw [e16]
    have Fq21 : Fld Z h16 a_o "com/example/change_gatherer/changegatherer/io/FetchedDocument" "body" "Ljava/lang/String;" .null := (Fw7.other W16 (Or.inr (slot_ne (Or.inr (hw _ (List.mem_of_getElem? (i := 58) rfl))) (Or.inr (hw _ (List.mem_of_getElem? (i := 60) rfl))) (by decide) (t := (.object "java/lang/String")) (t' := (.object "com/example/change_gatherer/changegatherer/model/DocumentVersion")) (by decide) (by decide))))
    exact ⟨rfl, N19, Kc17, Fq21, Fw16⟩
theorem own_ef_own_imN (m : MethodId) (a_o : Addr) : entryFrame m #[(.ref a_o)] 1 = mkF m 0 #[.val (.ref a_o)] [] := by first | (simp [entryFrame, mkF, argsToLocals, Value.category]; done) | rfl
theorem own_d9_0 : decode prog_8_method_2_code 0 = .ok (.aload_n 0, 1) := by decide +kernel
theorem own_d9_1 : decode prog_8_method_2_code 1 = .ok (.getfield 7, 3) := by decide +kernel
theorem own_d9_4 : decode prog_8_method_2_code 4 = .ok (.ifnull 7, 3) := by decide +kernel
theorem own_d9_11 : decode prog_8_method_2_code 11 = .ok (.iconst 0, 1) := by decide +kernel
theorem own_d9_12 : decode prog_8_method_2_code 12 = .ok (.ireturn, 1) := by decide +kernel
def Qown_imN (Z : State) (a_o : Addr) (h0 : Heap) (n0 : Nat) (v : Option Value) (h : Heap) (L : List Loc) : Prop := v = some (.int (0 : Int32)) ∧ Fr n0 L ∧ h = h0
set_option maxRecDepth 65536 in
set_option maxHeartbeats 40000000 in
theorem own_imN (l : Launch) (Z : State) (a0 : Array Value) (hw : ∀ d ∈ tables_1, d.before a0 Z = true) (ws : List Jvm.Cond) (a_o : Addr) (h0 : Heap) (n0 : Nat) (Z0 : n0 ≤ h0.size) (hx_a : Exa Z h0 a_o "com/example/change_gatherer/changegatherer/io/FetchedDocument") (hf_1 : Fld Z h0 a_o "com/example/change_gatherer/changegatherer/io/FetchedDocument" "body" "Ljava/lang/String;" .null) :
    MetFree l (⟨"com/example/change_gatherer/changegatherer/io/FetchedDocument", "isModified", "()Z"⟩ : MethodName) (head1 (Jvm.Cond.code (⟨"com/example/change_gatherer/changegatherer/io/FetchedDocument", "isModified", "()Z"⟩ : MethodName) prog_8_method_2_code 1 (some .boolean) :: ws) ({ frames := 0, cells := 0, slots := 0, locals := 0 } : Room)) (fun a U => a = #[(.ref a_o)] ∧ Z.Warmed39 U.vm ∧ U.heap = h0) (fun _ _ _ _ _ => True) (fun _ U o U' => ∃ v L, o = .returned v ∧ Qown_imN Z a_o h0 n0 v U'.heap L ∧ FrameEnd U o U' L ({ frames := 0, cells := 0, slots := 0, locals := 0 } : Room).cells ({ frames := 0, cells := 0, slots := 0, locals := 0 } : Room).slots) := by
  refine MetFree.of_bodySF (plainFor_of_name own_pn5) hisR ?_
  intro p e s m args below meth c s₁ Bd hml0 hP hK
  obtain ⟨rfl, hZ, hh⟩ := hP
  have hx := Bd.exec
  have hby := Bd.bytes
  have hml : c.maxLocals = 1 := hml0
  have hown : s.vm.findClass "com/example/change_gatherer/changegatherer/io/FetchedDocument" = some m.cls := findClass_of_methodNamed Bd.named
  have hnm := (name_of_methodNamed Bd.named Bd.method).1
  have X0 : Stand p l e ({ frames := 0, cells := 0, slots := 0, locals := 0 } : Room) s m #[(.ref a_o)] below meth c s₁ [] 0 0 := Stand.of_body Bd
  have e0 : s₁.heap = h0 := by rw [← hh, Bd.state]; rfl
  have N0 := Fr.nil n0
  have pre0 : ∀ t, Steps p.tables e below (s₁.setTop (mkF m 0 #[.val (.ref a_o)] [])) t → Steps p.tables e below (s₁.setTop (entryFrame m #[(.ref a_o)] 1)) t := fun t k => castTop (own_ef_own_imN m a_o) k
  obtain ⟨T3, X3, e3, st3⟩ := getF X0 hx hZ hown (host := "") (Or.inl (hw _ (List.mem_of_getElem? (i := 57) rfl))) Via.refl e0 hf_1 (g := (mkF m 1 #[.val (.ref a_o)] [(.ref a_o)])) rfl rfl (hb hby own_d9_1)
  obtain ⟨fs, hr, hrun, hended, hW, hsame⟩ := X3.leave (v := some (.int (0 : Int32))) (fun h => by rw [Bd.returns] at h; cases h) (hlocks := BodyLoose.notSynchronized Bd)
  refine ⟨_, _, pre0 _ ?_, hrun, hended, _, _, rfl, ?_, ⟨_, rfl⟩, hW, hsame.mono (by decide) (by decide)⟩
  · show Steps p.tables e below (s₁.setTop (mkF m 0 #[.val (.ref a_o)] [])) _
    refine XS.aloadN X0.here hx rfl (hb hby own_d9_0) rfl rfl ?_
    show Steps p.tables e below (s₁.setTop (mkF m 1 #[.val (.ref a_o)] [(.ref a_o)])) _
    refine st3 _ ?_
    show Steps p.tables e below (T3.setTop (mkF m 4 #[.val (.ref a_o)] [.null])) _
    refine XS.ifnullYes X3.here hx rfl (pc0 := 4) (pc' := 11) rfl (hb hby own_d9_4) rfl (by decide) (by decide) ?_
    show Steps p.tables e below (T3.setTop (mkF m 11 #[.val (.ref a_o)] [])) _
    refine XS.iconst X3.here hx rfl (hb hby own_d9_11) ?_
    show Steps p.tables e below (T3.setTop (mkF m 12 #[.val (.ref a_o)] [(.int (0 : Int32))])) _
    exact retN X3 hx (t := .boolean) Bd.returns (by simp) (hb hby own_d9_12) hr
  · show Qown_imN Z a_o h0 n0 _ T3.heap _
    rw [e3]
    exact ⟨rfl, N0, rfl⟩
theorem own_ef_own_gbN (m : MethodId) (a_o : Addr) : entryFrame m #[(.ref a_o)] 1 = mkF m 0 #[.val (.ref a_o)] [] := by first | (simp [entryFrame, mkF, argsToLocals, Value.category]; done) | rfl
theorem own_d10_0 : decode prog_8_method_3_code 0 = .ok (.aload_n 0, 1) := by decide +kernel
theorem own_d10_1 : decode prog_8_method_3_code 1 = .ok (.getfield 7, 3) := by decide +kernel
theorem own_d10_4 : decode prog_8_method_3_code 4 = .ok (.areturn, 1) := by decide +kernel
def Qown_gbN (Z : State) (a_o : Addr) (h0 : Heap) (n0 : Nat) (v : Option Value) (h : Heap) (L : List Loc) : Prop := v = some .null ∧ Fr n0 L ∧ h = h0
set_option maxRecDepth 65536 in
set_option maxHeartbeats 40000000 in
theorem own_gbN (l : Launch) (Z : State) (a0 : Array Value) (hw : ∀ d ∈ tables_1, d.before a0 Z = true) (ws : List Jvm.Cond) (a_o : Addr) (h0 : Heap) (n0 : Nat) (Z0 : n0 ≤ h0.size) (hx_a : Exa Z h0 a_o "com/example/change_gatherer/changegatherer/io/FetchedDocument") (hf_1 : Fld Z h0 a_o "com/example/change_gatherer/changegatherer/io/FetchedDocument" "body" "Ljava/lang/String;" .null) :
    MetFree l (⟨"com/example/change_gatherer/changegatherer/io/FetchedDocument", "getBody", "()Ljava/lang/String;"⟩ : MethodName) (head1 (Jvm.Cond.code (⟨"com/example/change_gatherer/changegatherer/io/FetchedDocument", "getBody", "()Ljava/lang/String;"⟩ : MethodName) prog_8_method_3_code 1 (some (.object "java/lang/String")) :: ws) ({ frames := 0, cells := 0, slots := 0, locals := 0 } : Room)) (fun a U => a = #[(.ref a_o)] ∧ Z.Warmed39 U.vm ∧ U.heap = h0) (fun _ _ _ _ _ => True) (fun _ U o U' => ∃ v L, o = .returned v ∧ Qown_gbN Z a_o h0 n0 v U'.heap L ∧ FrameEnd U o U' L ({ frames := 0, cells := 0, slots := 0, locals := 0 } : Room).cells ({ frames := 0, cells := 0, slots := 0, locals := 0 } : Room).slots) := by
  refine MetFree.of_bodySF (plainFor_of_name own_pn5) hisR ?_
  intro p e s m args below meth c s₁ Bd hml0 hP hK
  obtain ⟨rfl, hZ, hh⟩ := hP
  have hx := Bd.exec
  have hby := Bd.bytes
  have hml : c.maxLocals = 1 := hml0
  have hown : s.vm.findClass "com/example/change_gatherer/changegatherer/io/FetchedDocument" = some m.cls := findClass_of_methodNamed Bd.named
  have hnm := (name_of_methodNamed Bd.named Bd.method).1
  have X0 : Stand p l e ({ frames := 0, cells := 0, slots := 0, locals := 0 } : Room) s m #[(.ref a_o)] below meth c s₁ [] 0 0 := Stand.of_body Bd
  have e0 : s₁.heap = h0 := by rw [← hh, Bd.state]; rfl
  have N0 := Fr.nil n0
  have pre0 : ∀ t, Steps p.tables e below (s₁.setTop (mkF m 0 #[.val (.ref a_o)] [])) t → Steps p.tables e below (s₁.setTop (entryFrame m #[(.ref a_o)] 1)) t := fun t k => castTop (own_ef_own_gbN m a_o) k
  obtain ⟨T3, X3, e3, st3⟩ := getF X0 hx hZ hown (host := "") (Or.inl (hw _ (List.mem_of_getElem? (i := 57) rfl))) Via.refl e0 hf_1 (g := (mkF m 1 #[.val (.ref a_o)] [(.ref a_o)])) rfl rfl (hb hby own_d10_1)
  obtain ⟨fs, hr, hrun, hended, hW, hsame⟩ := X3.leave (v := some .null) (fun h => by rw [Bd.returns] at h; cases h) (hlocks := BodyLoose.notSynchronized Bd)
  refine ⟨_, _, pre0 _ ?_, hrun, hended, _, _, rfl, ?_, ⟨_, rfl⟩, hW, hsame.mono (by decide) (by decide)⟩
  · show Steps p.tables e below (s₁.setTop (mkF m 0 #[.val (.ref a_o)] [])) _
    refine XS.aloadN X0.here hx rfl (hb hby own_d10_0) rfl rfl ?_
    show Steps p.tables e below (s₁.setTop (mkF m 1 #[.val (.ref a_o)] [(.ref a_o)])) _
    refine st3 _ ?_
    show Steps p.tables e below (T3.setTop (mkF m 4 #[.val (.ref a_o)] [.null])) _
    jvm_step X3.here [X3.here.top, hx, (hb hby own_d10_4), X3.method', Bd.returns, Value.isRef, FieldType.isReference]
    first | (intro acts; rw [hr _ acts rfl rfl rfl]) | rw [hr _ _ rfl rfl rfl]
    exact Steps.refl _
  · show Qown_gbN Z a_o h0 n0 _ T3.heap _
    rw [e3]
    exact ⟨rfl, N0, rfl⟩
theorem own_ef_own_fdR (m : MethodId) (a_o : Addr) (b_o : Addr) (v_o : Addr) : entryFrame m #[(.ref a_o), (.ref b_o), (.ref v_o)] 3 = mkF m 0 #[.val (.ref a_o), .val (.ref b_o), .val (.ref v_o)] [] := by first | (simp [entryFrame, mkF, argsToLocals, Value.category]; done) | rfl
def Qown_fdR (Z : State) (a_o : Addr) (b_o : Addr) (v_o : Addr) (u_1 : Value) (u_2 : Value) (h0 : Heap) (n0 : Nat) (v : Option Value) (h : Heap) (L : List Loc) : Prop := v = none ∧ Fr n0 L ∧ Keep h0 h [a_o] ∧ Fld Z h a_o "com/example/change_gatherer/changegatherer/io/FetchedDocument" "body" "Ljava/lang/String;" (.ref b_o) ∧ Fld Z h a_o "com/example/change_gatherer/changegatherer/io/FetchedDocument" "version" "Lcom/example/change_gatherer/changegatherer/model/DocumentVersion;" (.ref v_o)
set_option maxRecDepth 65536 in
set_option maxHeartbeats 40000000 in
theorem own_fdR (l : Launch) (Z : State) (a0 : Array Value) (hw : ∀ d ∈ tables_1, d.before a0 Z = true) (ws : List Jvm.Cond) (a_o : Addr) (b_o : Addr) (v_o : Addr) (u_1 : Value) (u_2 : Value) (h0 : Heap) (n0 : Nat) (Z0 : n0 ≤ h0.size) (hx_a : Exa Z h0 a_o "com/example/change_gatherer/changegatherer/io/FetchedDocument") (hf_1 : Fld Z h0 a_o "com/example/change_gatherer/changegatherer/io/FetchedDocument" "body" "Ljava/lang/String;" u_1) (hf_2 : Fld Z h0 a_o "com/example/change_gatherer/changegatherer/io/FetchedDocument" "version" "Lcom/example/change_gatherer/changegatherer/model/DocumentVersion;" u_2) (hg_a : n0 ≤ a_o) :
    MetFree l (⟨"com/example/change_gatherer/changegatherer/io/FetchedDocument", "<init>", "(Ljava/lang/String;Lcom/example/change_gatherer/changegatherer/model/DocumentVersion;)V"⟩ : MethodName) (head1 (Jvm.Cond.code (⟨"com/example/change_gatherer/changegatherer/io/FetchedDocument", "<init>", "(Ljava/lang/String;Lcom/example/change_gatherer/changegatherer/model/DocumentVersion;)V"⟩ : MethodName) prog_8_method_1_code 3 none :: ws) ({ frames := 1, cells := 0, slots := 0, locals := 12 } : Room)) (fun a U => a = #[(.ref a_o), (.ref b_o), (.ref v_o)] ∧ Z.Warmed39 U.vm ∧ U.heap = h0) (fun _ _ _ _ _ => True) (fun _ U o U' => ∃ v L, o = .returned v ∧ Qown_fdR Z a_o b_o v_o u_1 u_2 h0 n0 v U'.heap L ∧ FrameEnd U o U' L ({ frames := 1, cells := 0, slots := 0, locals := 12 } : Room).cells ({ frames := 1, cells := 0, slots := 0, locals := 12 } : Room).slots) := by
  refine MetFree.of_bodySF (plainFor_of_name own_pn5) hisR ?_
  intro p e s m args below meth c s₁ Bd hml0 hP hK
  obtain ⟨rfl, hZ, hh⟩ := hP
  have hx := Bd.exec
  have hby := Bd.bytes
  have hml : c.maxLocals = 3 := hml0
  have hown : s.vm.findClass "com/example/change_gatherer/changegatherer/io/FetchedDocument" = some m.cls := findClass_of_methodNamed Bd.named
  have hnm := (name_of_methodNamed Bd.named Bd.method).1
  have X0 : Stand p l e ({ frames := 1, cells := 0, slots := 0, locals := 12 } : Room) s m #[(.ref a_o), (.ref b_o), (.ref v_o)] below meth c s₁ [] 0 0 := Stand.of_body Bd
  have e0 : s₁.heap = h0 := by rw [← hh, Bd.state]; rfl
  have N0 := Fr.nil n0
  have pre0 : ∀ t, Steps p.tables e below (s₁.setTop (mkF m 0 #[.val (.ref a_o), .val (.ref b_o), .val (.ref v_o)] [])) t → Steps p.tables e below (s₁.setTop (entryFrame m #[(.ref a_o), (.ref b_o), (.ref v_o)] 3)) t := fun t k => castTop (own_ef_own_fdR m a_o b_o v_o) k
  obtain ⟨T3, X3, e3, st3⟩ := initO X0 hx hZ hown (hw _ (List.mem_of_getElem? (i := 56) rfl)) (hw _ (List.mem_of_getElem? (i := 22) rfl)) (hw _ (List.mem_of_getElem? (i := 23) rfl)) e0 (g := (mkF m 1 #[.val (.ref a_o), .val (.ref b_o), .val (.ref v_o)] [(.ref a_o)])) rfl (by rw [hml]; rfl) rfl (hb hby own_d8_1) (by decide) (W := 0) (by show 2 * 0 + _ ≤ _; exact Nat.le_of_eq rfl) (by decide)
  obtain ⟨T7, h7, X7, e7, W7, st7⟩ := putF X3 hx hZ hown (host := "") (Or.inl (hw _ (List.mem_of_getElem? (i := 57) rfl))) Via.refl e3 hf_1 hx_a (Or.inr ⟨(hw _ (List.mem_of_getElem? (i := 58) rfl)), rfl, hnm⟩) (hw _ (List.mem_of_getElem? (i := 51) rfl)) (ty := (.object "java/lang/String")) (by decide) rfl rfl (g := (mkF m 6 #[.val (.ref a_o), .val (.ref b_o), .val (.ref v_o)] [(.ref b_o), (.ref a_o)])) rfl rfl (hb hby own_d8_6)
  have Kc8 : Keep h0 h7 [a_o] := (Keep.refl h0 [a_o]).wr W7 (Or.inl (List.mem_of_getElem? (i := 0) rfl))
  have Zs9 : n0 ≤ h7.size := Nat.le_trans Z0 (Keep.of_wr W7).1
  have N10 := Fr.snoc X7 N0 hg_a
  have Fw7 : Fld Z h7 a_o "com/example/change_gatherer/changegatherer/io/FetchedDocument" "body" "Ljava/lang/String;" (.ref b_o) := hf_1.same W7
  have Fq14 : Exa Z h7 a_o "com/example/change_gatherer/changegatherer/io/FetchedDocument" := (hx_a.wr W7)
  have Fq15 : Fld Z h7 a_o "com/example/change_gatherer/changegatherer/io/FetchedDocument" "version" "Lcom/example/change_gatherer/changegatherer/model/DocumentVersion;" u_2 := (hf_2.other W7 (Or.inr (slot_ne (Or.inr (hw _ (List.mem_of_getElem? (i := 60) rfl))) (Or.inr (hw _ (List.mem_of_getElem? (i := 58) rfl))) (by decide) (t := (.object "com/example/change_gatherer/changegatherer/model/DocumentVersion")) (t' := (.object "java/lang/String")) (by decide) (by decide))))
  obtain ⟨T16, h16, X16, e16, W16, st16⟩ := putF X7 hx hZ hown (host := "") (Or.inl (hw _ (List.mem_of_getElem? (i := 59) rfl))) Via.refl e7 Fq15 Fq14 (Or.inr ⟨(hw _ (List.mem_of_getElem? (i := 60) rfl)), rfl, hnm⟩) (hw _ (List.mem_of_getElem? (i := 51) rfl)) (ty := (.object "com/example/change_gatherer/changegatherer/model/DocumentVersion")) (by decide) rfl rfl (g := (mkF m 11 #[.val (.ref a_o), .val (.ref b_o), .val (.ref v_o)] [(.ref v_o), (.ref a_o)])) rfl rfl (hb hby own_d8_11)
  have Kc17 : Keep h0 h16 [a_o] := Kc8.wr W16 (Or.inl (List.mem_of_getElem? (i := 0) rfl))
  have Zs18 : n0 ≤ h16.size := Nat.le_trans Zs9 (Keep.of_wr W16).1
  have N19 := Fr.snoc X16 N10 hg_a
  have Fw16 : Fld Z h16 a_o "com/example/change_gatherer/changegatherer/io/FetchedDocument" "version" "Lcom/example/change_gatherer/changegatherer/model/DocumentVersion;" (.ref v_o) := Fq15.same W16
  obtain ⟨fs, hr, hrun, hended, hW, hsame⟩ := X16.leave (v := none) (fun _ => rfl) (hlocks := BodyLoose.notSynchronized Bd)
  refine ⟨_, _, pre0 _ ?_, hrun, hended, _, _, rfl, ?_, ⟨_, rfl⟩, hW, hsame.mono (by decide) (by decide)⟩
  · show Steps p.tables e below (s₁.setTop (mkF m 0 #[.val (.ref a_o), .val (.ref b_o), .val (.ref v_o)] [])) _
    refine XS.aloadN X0.here hx rfl (hb hby own_d8_0) rfl rfl ?_
    show Steps p.tables e below (s₁.setTop (mkF m 1 #[.val (.ref a_o), .val (.ref b_o), .val (.ref v_o)] [(.ref a_o)])) _
    refine st3 _ ?_
    show Steps p.tables e below (T3.setTop (mkF m 4 #[.val (.ref a_o), .val (.ref b_o), .val (.ref v_o)] [])) _
    refine XS.aloadN X3.here hx rfl (hb hby own_d8_4) rfl rfl ?_
    show Steps p.tables e below (T3.setTop (mkF m 5 #[.val (.ref a_o), .val (.ref b_o), .val (.ref v_o)] [(.ref a_o)])) _
    refine XS.aloadN X3.here hx rfl (hb hby own_d8_5) rfl rfl ?_
    show Steps p.tables e below (T3.setTop (mkF m 6 #[.val (.ref a_o), .val (.ref b_o), .val (.ref v_o)] [(.ref b_o), (.ref a_o)])) _
    refine st7 _ ?_
    show Steps p.tables e below (T7.setTop (mkF m 9 #[.val (.ref a_o), .val (.ref b_o), .val (.ref v_o)] [])) _
    refine XS.aloadN X7.here hx rfl (hb hby own_d8_9) rfl rfl ?_
    show Steps p.tables e below (T7.setTop (mkF m 10 #[.val (.ref a_o), .val (.ref b_o), .val (.ref v_o)] [(.ref a_o)])) _
    refine XS.aloadN X7.here hx rfl (hb hby own_d8_10) rfl rfl ?_
    show Steps p.tables e below (T7.setTop (mkF m 11 #[.val (.ref a_o), .val (.ref b_o), .val (.ref v_o)] [(.ref v_o), (.ref a_o)])) _
    refine st16 _ ?_
    show Steps p.tables e below (T16.setTop (mkF m 14 #[.val (.ref a_o), .val (.ref b_o), .val (.ref v_o)] [])) _
    exact X16.returnOut hx Bd.returns (hb hby own_d8_14) hr
  · show Qown_fdR Z a_o b_o v_o u_1 u_2 h0 n0 _ T16.heap _
    rw [e16]
    have Fq21 : Fld Z h16 a_o "com/example/change_gatherer/changegatherer/io/FetchedDocument" "body" "Ljava/lang/String;" (.ref b_o) := (Fw7.other W16 (Or.inr (slot_ne (Or.inr (hw _ (List.mem_of_getElem? (i := 58) rfl))) (Or.inr (hw _ (List.mem_of_getElem? (i := 60) rfl))) (by decide) (t := (.object "java/lang/String")) (t' := (.object "com/example/change_gatherer/changegatherer/model/DocumentVersion")) (by decide) (by decide))))
    exact ⟨rfl, N19, Kc17, Fq21, Fw16⟩
theorem own_ef_own_imR (m : MethodId) (a_o : Addr) : entryFrame m #[(.ref a_o)] 1 = mkF m 0 #[.val (.ref a_o)] [] := by first | (simp [entryFrame, mkF, argsToLocals, Value.category]; done) | rfl
theorem own_d9_7 : decode prog_8_method_2_code 7 = .ok (.iconst 1, 1) := by decide +kernel
theorem own_d9_8 : decode prog_8_method_2_code 8 = .ok (.goto 4, 3) := by decide +kernel
def Qown_imR (Z : State) (a_o : Addr) (b_o : Addr) (h0 : Heap) (n0 : Nat) (v : Option Value) (h : Heap) (L : List Loc) : Prop := v = some (.int (1 : Int32)) ∧ Fr n0 L ∧ h = h0
set_option maxRecDepth 65536 in
set_option maxHeartbeats 40000000 in
theorem own_imR (l : Launch) (Z : State) (a0 : Array Value) (hw : ∀ d ∈ tables_1, d.before a0 Z = true) (ws : List Jvm.Cond) (a_o : Addr) (b_o : Addr) (h0 : Heap) (n0 : Nat) (Z0 : n0 ≤ h0.size) (hx_a : Exa Z h0 a_o "com/example/change_gatherer/changegatherer/io/FetchedDocument") (hf_1 : Fld Z h0 a_o "com/example/change_gatherer/changegatherer/io/FetchedDocument" "body" "Ljava/lang/String;" (.ref b_o)) :
    MetFree l (⟨"com/example/change_gatherer/changegatherer/io/FetchedDocument", "isModified", "()Z"⟩ : MethodName) (head1 (Jvm.Cond.code (⟨"com/example/change_gatherer/changegatherer/io/FetchedDocument", "isModified", "()Z"⟩ : MethodName) prog_8_method_2_code 1 (some .boolean) :: ws) ({ frames := 0, cells := 0, slots := 0, locals := 0 } : Room)) (fun a U => a = #[(.ref a_o)] ∧ Z.Warmed39 U.vm ∧ U.heap = h0) (fun _ _ _ _ _ => True) (fun _ U o U' => ∃ v L, o = .returned v ∧ Qown_imR Z a_o b_o h0 n0 v U'.heap L ∧ FrameEnd U o U' L ({ frames := 0, cells := 0, slots := 0, locals := 0 } : Room).cells ({ frames := 0, cells := 0, slots := 0, locals := 0 } : Room).slots) := by
  refine MetFree.of_bodySF (plainFor_of_name own_pn5) hisR ?_
  intro p e s m args below meth c s₁ Bd hml0 hP hK
  obtain ⟨rfl, hZ, hh⟩ := hP
  have hx := Bd.exec
  have hby := Bd.bytes
  have hml : c.maxLocals = 1 := hml0
  have hown : s.vm.findClass "com/example/change_gatherer/changegatherer/io/FetchedDocument" = some m.cls := findClass_of_methodNamed Bd.named
  have hnm := (name_of_methodNamed Bd.named Bd.method).1
  have X0 : Stand p l e ({ frames := 0, cells := 0, slots := 0, locals := 0 } : Room) s m #[(.ref a_o)] below meth c s₁ [] 0 0 := Stand.of_body Bd
  have e0 : s₁.heap = h0 := by rw [← hh, Bd.state]; rfl
  have N0 := Fr.nil n0
  have pre0 : ∀ t, Steps p.tables e below (s₁.setTop (mkF m 0 #[.val (.ref a_o)] [])) t → Steps p.tables e below (s₁.setTop (entryFrame m #[(.ref a_o)] 1)) t := fun t k => castTop (own_ef_own_imR m a_o) k
  obtain ⟨T3, X3, e3, st3⟩ := getF X0 hx hZ hown (host := "") (Or.inl (hw _ (List.mem_of_getElem? (i := 57) rfl))) Via.refl e0 hf_1 (g := (mkF m 1 #[.val (.ref a_o)] [(.ref a_o)])) rfl rfl (hb hby own_d9_1)
  obtain ⟨fs, hr, hrun, hended, hW, hsame⟩ := X3.leave (v := some (.int (1 : Int32))) (fun h => by rw [Bd.returns] at h; cases h) (hlocks := BodyLoose.notSynchronized Bd)
  refine ⟨_, _, pre0 _ ?_, hrun, hended, _, _, rfl, ?_, ⟨_, rfl⟩, hW, hsame.mono (by decide) (by decide)⟩
  · show Steps p.tables e below (s₁.setTop (mkF m 0 #[.val (.ref a_o)] [])) _
    refine XS.aloadN X0.here hx rfl (hb hby own_d9_0) rfl rfl ?_
    show Steps p.tables e below (s₁.setTop (mkF m 1 #[.val (.ref a_o)] [(.ref a_o)])) _
    refine st3 _ ?_
    show Steps p.tables e below (T3.setTop (mkF m 4 #[.val (.ref a_o)] [(.ref b_o)])) _
    refine XS.ifnullNo X3.here hx rfl (hb hby own_d9_4) rfl ?_
    show Steps p.tables e below (T3.setTop (mkF m 7 #[.val (.ref a_o)] [])) _
    refine XS.iconst X3.here hx rfl (hb hby own_d9_7) ?_
    show Steps p.tables e below (T3.setTop (mkF m 8 #[.val (.ref a_o)] [(.int (1 : Int32))])) _
    refine XS.goto X3.here hx rfl (pc0 := 8) (pc' := 12) rfl (hb hby own_d9_8) (by decide) (by decide) ?_
    show Steps p.tables e below (T3.setTop (mkF m 12 #[.val (.ref a_o)] [(.int (1 : Int32))])) _
    exact retN X3 hx (t := .boolean) Bd.returns (by simp) (hb hby own_d9_12) hr
  · show Qown_imR Z a_o b_o h0 n0 _ T3.heap _
    rw [e3]
    exact ⟨rfl, N0, rfl⟩
theorem own_ef_own_gbR (m : MethodId) (a_o : Addr) : entryFrame m #[(.ref a_o)] 1 = mkF m 0 #[.val (.ref a_o)] [] := by first | (simp [entryFrame, mkF, argsToLocals, Value.category]; done) | rfl
def Qown_gbR (Z : State) (a_o : Addr) (b_o : Addr) (h0 : Heap) (n0 : Nat) (v : Option Value) (h : Heap) (L : List Loc) : Prop := v = some (.ref b_o) ∧ Fr n0 L ∧ h = h0
set_option maxRecDepth 65536 in
set_option maxHeartbeats 40000000 in
theorem own_gbR (l : Launch) (Z : State) (a0 : Array Value) (hw : ∀ d ∈ tables_1, d.before a0 Z = true) (ws : List Jvm.Cond) (a_o : Addr) (b_o : Addr) (h0 : Heap) (n0 : Nat) (Z0 : n0 ≤ h0.size) (hx_a : Exa Z h0 a_o "com/example/change_gatherer/changegatherer/io/FetchedDocument") (hf_1 : Fld Z h0 a_o "com/example/change_gatherer/changegatherer/io/FetchedDocument" "body" "Ljava/lang/String;" (.ref b_o)) :
    MetFree l (⟨"com/example/change_gatherer/changegatherer/io/FetchedDocument", "getBody", "()Ljava/lang/String;"⟩ : MethodName) (head1 (Jvm.Cond.code (⟨"com/example/change_gatherer/changegatherer/io/FetchedDocument", "getBody", "()Ljava/lang/String;"⟩ : MethodName) prog_8_method_3_code 1 (some (.object "java/lang/String")) :: ws) ({ frames := 0, cells := 0, slots := 0, locals := 0 } : Room)) (fun a U => a = #[(.ref a_o)] ∧ Z.Warmed39 U.vm ∧ U.heap = h0) (fun _ _ _ _ _ => True) (fun _ U o U' => ∃ v L, o = .returned v ∧ Qown_gbR Z a_o b_o h0 n0 v U'.heap L ∧ FrameEnd U o U' L ({ frames := 0, cells := 0, slots := 0, locals := 0 } : Room).cells ({ frames := 0, cells := 0, slots := 0, locals := 0 } : Room).slots) := by
  refine MetFree.of_bodySF (plainFor_of_name own_pn5) hisR ?_
  intro p e s m args below meth c s₁ Bd hml0 hP hK
  obtain ⟨rfl, hZ, hh⟩ := hP
  have hx := Bd.exec
  have hby := Bd.bytes
  have hml : c.maxLocals = 1 := hml0
  have hown : s.vm.findClass "com/example/change_gatherer/changegatherer/io/FetchedDocument" = some m.cls := findClass_of_methodNamed Bd.named
  have hnm := (name_of_methodNamed Bd.named Bd.method).1
  have X0 : Stand p l e ({ frames := 0, cells := 0, slots := 0, locals := 0 } : Room) s m #[(.ref a_o)] below meth c s₁ [] 0 0 := Stand.of_body Bd
  have e0 : s₁.heap = h0 := by rw [← hh, Bd.state]; rfl
  have N0 := Fr.nil n0
  have pre0 : ∀ t, Steps p.tables e below (s₁.setTop (mkF m 0 #[.val (.ref a_o)] [])) t → Steps p.tables e below (s₁.setTop (entryFrame m #[(.ref a_o)] 1)) t := fun t k => castTop (own_ef_own_gbR m a_o) k
  obtain ⟨T3, X3, e3, st3⟩ := getF X0 hx hZ hown (host := "") (Or.inl (hw _ (List.mem_of_getElem? (i := 57) rfl))) Via.refl e0 hf_1 (g := (mkF m 1 #[.val (.ref a_o)] [(.ref a_o)])) rfl rfl (hb hby own_d10_1)
  obtain ⟨fs, hr, hrun, hended, hW, hsame⟩ := X3.leave (v := some (.ref b_o)) (fun h => by rw [Bd.returns] at h; cases h) (hlocks := BodyLoose.notSynchronized Bd)
  refine ⟨_, _, pre0 _ ?_, hrun, hended, _, _, rfl, ?_, ⟨_, rfl⟩, hW, hsame.mono (by decide) (by decide)⟩
  · show Steps p.tables e below (s₁.setTop (mkF m 0 #[.val (.ref a_o)] [])) _
    refine XS.aloadN X0.here hx rfl (hb hby own_d10_0) rfl rfl ?_
    show Steps p.tables e below (s₁.setTop (mkF m 1 #[.val (.ref a_o)] [(.ref a_o)])) _
    refine st3 _ ?_
    show Steps p.tables e below (T3.setTop (mkF m 4 #[.val (.ref a_o)] [(.ref b_o)])) _
    jvm_step X3.here [X3.here.top, hx, (hb hby own_d10_4), X3.method', Bd.returns, Value.isRef, FieldType.isReference]
    first | (intro acts; rw [hr _ acts rfl rfl rfl]) | rw [hr _ _ rfl rfl rfl]
    exact Steps.refl _
  · show Qown_gbR Z a_o b_o h0 n0 _ T3.heap _
    rw [e3]
    exact ⟨rfl, N0, rfl⟩
theorem own_ef_own_gv (m : MethodId) (a_o : Addr) : entryFrame m #[(.ref a_o)] 1 = mkF m 0 #[.val (.ref a_o)] [] := by first | (simp [entryFrame, mkF, argsToLocals, Value.category]; done) | rfl
theorem own_d11_0 : decode prog_8_method_4_code 0 = .ok (.aload_n 0, 1) := by decide +kernel
theorem own_d11_1 : decode prog_8_method_4_code 1 = .ok (.getfield 13, 3) := by decide +kernel
theorem own_d11_4 : decode prog_8_method_4_code 4 = .ok (.areturn, 1) := by decide +kernel
def Qown_gv (Z : State) (a_o : Addr) (v_o : Addr) (h0 : Heap) (n0 : Nat) (v : Option Value) (h : Heap) (L : List Loc) : Prop := v = some (.ref v_o) ∧ Fr n0 L ∧ h = h0
set_option maxRecDepth 65536 in
set_option maxHeartbeats 40000000 in
theorem own_gv (l : Launch) (Z : State) (a0 : Array Value) (hw : ∀ d ∈ tables_1, d.before a0 Z = true) (ws : List Jvm.Cond) (a_o : Addr) (v_o : Addr) (h0 : Heap) (n0 : Nat) (Z0 : n0 ≤ h0.size) (hx_a : Exa Z h0 a_o "com/example/change_gatherer/changegatherer/io/FetchedDocument") (hf_1 : Fld Z h0 a_o "com/example/change_gatherer/changegatherer/io/FetchedDocument" "version" "Lcom/example/change_gatherer/changegatherer/model/DocumentVersion;" (.ref v_o)) :
    MetFree l (⟨"com/example/change_gatherer/changegatherer/io/FetchedDocument", "getVersion", "()Lcom/example/change_gatherer/changegatherer/model/DocumentVersion;"⟩ : MethodName) (head1 (Jvm.Cond.code (⟨"com/example/change_gatherer/changegatherer/io/FetchedDocument", "getVersion", "()Lcom/example/change_gatherer/changegatherer/model/DocumentVersion;"⟩ : MethodName) prog_8_method_4_code 1 (some (.object "com/example/change_gatherer/changegatherer/model/DocumentVersion")) :: ws) ({ frames := 0, cells := 0, slots := 0, locals := 0 } : Room)) (fun a U => a = #[(.ref a_o)] ∧ Z.Warmed39 U.vm ∧ U.heap = h0) (fun _ _ _ _ _ => True) (fun _ U o U' => ∃ v L, o = .returned v ∧ Qown_gv Z a_o v_o h0 n0 v U'.heap L ∧ FrameEnd U o U' L ({ frames := 0, cells := 0, slots := 0, locals := 0 } : Room).cells ({ frames := 0, cells := 0, slots := 0, locals := 0 } : Room).slots) := by
  refine MetFree.of_bodySF (plainFor_of_name own_pn5) hisR ?_
  intro p e s m args below meth c s₁ Bd hml0 hP hK
  obtain ⟨rfl, hZ, hh⟩ := hP
  have hx := Bd.exec
  have hby := Bd.bytes
  have hml : c.maxLocals = 1 := hml0
  have hown : s.vm.findClass "com/example/change_gatherer/changegatherer/io/FetchedDocument" = some m.cls := findClass_of_methodNamed Bd.named
  have hnm := (name_of_methodNamed Bd.named Bd.method).1
  have X0 : Stand p l e ({ frames := 0, cells := 0, slots := 0, locals := 0 } : Room) s m #[(.ref a_o)] below meth c s₁ [] 0 0 := Stand.of_body Bd
  have e0 : s₁.heap = h0 := by rw [← hh, Bd.state]; rfl
  have N0 := Fr.nil n0
  have pre0 : ∀ t, Steps p.tables e below (s₁.setTop (mkF m 0 #[.val (.ref a_o)] [])) t → Steps p.tables e below (s₁.setTop (entryFrame m #[(.ref a_o)] 1)) t := fun t k => castTop (own_ef_own_gv m a_o) k
  obtain ⟨T3, X3, e3, st3⟩ := getF X0 hx hZ hown (host := "") (Or.inl (hw _ (List.mem_of_getElem? (i := 59) rfl))) Via.refl e0 hf_1 (g := (mkF m 1 #[.val (.ref a_o)] [(.ref a_o)])) rfl rfl (hb hby own_d11_1)
  obtain ⟨fs, hr, hrun, hended, hW, hsame⟩ := X3.leave (v := some (.ref v_o)) (fun h => by rw [Bd.returns] at h; cases h) (hlocks := BodyLoose.notSynchronized Bd)
  refine ⟨_, _, pre0 _ ?_, hrun, hended, _, _, rfl, ?_, ⟨_, rfl⟩, hW, hsame.mono (by decide) (by decide)⟩
  · show Steps p.tables e below (s₁.setTop (mkF m 0 #[.val (.ref a_o)] [])) _
    refine XS.aloadN X0.here hx rfl (hb hby own_d11_0) rfl rfl ?_
    show Steps p.tables e below (s₁.setTop (mkF m 1 #[.val (.ref a_o)] [(.ref a_o)])) _
    refine st3 _ ?_
    show Steps p.tables e below (T3.setTop (mkF m 4 #[.val (.ref a_o)] [(.ref v_o)])) _
    jvm_step X3.here [X3.here.top, hx, (hb hby own_d11_4), X3.method', Bd.returns, Value.isRef, FieldType.isReference]
    first | (intro acts; rw [hr _ acts rfl rfl rfl]) | rw [hr _ _ rfl rfl rfl]
    exact Steps.refl _
  · show Qown_gv Z a_o v_o h0 n0 _ T3.heap _
    rw [e3]
    exact ⟨rfl, N0, rfl⟩
theorem own_le255 (p : Int32) : ¬ (255 : Int32) < nar .char ((p &&& (255 : Int32)).toUInt32.toUInt16.toUInt32.toInt32) := by
  have e := Jvm.Kit.i32_mask p 255 (k := 8) (by decide) (by decide)
  have key : ∀ k : Fin 256, ¬ (255 : Int32) < nar .char ((Int32.ofInt (k.val : Int)).toUInt32.toUInt16.toUInt32.toInt32) := by decide +kernel
  have h0 : 0 ≤ (p &&& (255 : Int32)).toInt := by omega
  have h1 : (p &&& (255 : Int32)).toInt < 256 := by omega
  have e2 : (p &&& (255 : Int32)) = Int32.ofInt (((p &&& (255 : Int32)).toInt.toNat : Nat) : Int) := by
    rw [Int.toNat_of_nonneg h0]; exact (Int32.ofInt_toInt _).symm
  rw [e2]
  exact key ⟨(p &&& (255 : Int32)).toInt.toNat, by omega⟩
theorem own_compact {Z : State} {a0 : Array Value} {C n : String} (h : (Cond.isInt (Term.static C n "Z")).before a0 Z = true) (h2 : (Cond.not (Cond.eq (Term.static C n "Z") (Term.int (0 : Int32)))).before a0 Z = true) (hi : (Cond.initializedFor C n "Z").before a0 Z = true) : ∃ w : Int32, Sta Z Z.heap C n "Z" (.int w) ∧ ¬ w = (0 : Int32) := by
  obtain ⟨w, e1⟩ := is_v (Cond.before_iff.mp h)
  refine ⟨w, Sta.start e1 (Or.inl hi), fun q => ?_⟩
  subst q
  simp [Cond.before, Cond.holds, Cond.value, e1, Term.int_eval] at h2
theorem own_pn6 : plainName "com/example/change_gatherer/changegatherer/io/FetchedDocumentIsModifiedPinLaw" = true := by first | (simp [plainName, overriddenIn]; done) | decide +kernel
theorem own_ef_own_law (m : MethodId) (p0 : Int32) (p1 : Int32) (p2 : Int32) (p3 : Int32) : entryFrame m #[(.int p0), (.int p1), (.int p2), (.int p3)] maxLocals = mkF m 0 #[.val (.int p0), .val (.int p1), .val (.int p2), .val (.int p3), .unset, .unset, .unset, .unset, .unset, .unset, .unset, .unset] [] := by first | (simp [entryFrame, mkF, argsToLocals, Value.category, maxLocals]; done) | rfl
theorem own_pd8 : parseMethodDescriptor "([C)V" = some ⟨[(.array .char)], none⟩ := by decide +kernel
theorem own_pd9 : parseMethodDescriptor "(Ljava/lang/String;Ljava/lang/String;Ljava/lang/String;)V" = some ⟨[(.object "java/lang/String"), (.object "java/lang/String"), (.object "java/lang/String")], none⟩ := by decide +kernel
theorem own_pd10 : parseMethodDescriptor "(Ljava/lang/String;Lcom/example/change_gatherer/changegatherer/model/DocumentVersion;)V" = some ⟨[(.object "java/lang/String"), (.object "com/example/change_gatherer/changegatherer/model/DocumentVersion")], none⟩ := by decide +kernel
theorem own_pd11 : parseMethodDescriptor "()Z" = some ⟨[], some .boolean⟩ := by decide +kernel
theorem own_pd12 : parseMethodDescriptor "()Ljava/lang/String;" = some ⟨[], some (.object "java/lang/String")⟩ := by decide +kernel
theorem own_pd13 : parseMethodDescriptor "()Lcom/example/change_gatherer/changegatherer/model/DocumentVersion;" = some ⟨[], some (.object "com/example/change_gatherer/changegatherer/model/DocumentVersion")⟩ := by decide +kernel
theorem own_pd14 : parseMethodDescriptor "(C)Ljava/lang/String;" = some ⟨[.char], some (.object "java/lang/String")⟩ := by decide +kernel
def Qown_law (Z : State) (p0 : Int32) (p1 : Int32) (p2 : Int32) (p3 : Int32) (cs : Int32) (h0 : Heap) (n0 : Nat) (v : Option Value) (h : Heap) (L : List Loc) : Prop := v = some (.int (1 : Int32)) ∧ Fr n0 L
set_option maxRecDepth 65536 in
set_option maxHeartbeats 40000000 in
theorem own_law (l : Launch) (Z : State) (a0 : Array Value) (hw : ∀ d ∈ tables_1, d.before a0 Z = true) (ws : List Jvm.Cond) (p0 : Int32) (p1 : Int32) (p2 : Int32) (p3 : Int32) (cs : Int32) (h0 : Heap) (n0 : Nat) (Z0 : n0 ≤ h0.size) (hS : Sta Z Z.heap "java/lang/String" "COMPACT_STRINGS" "Z" (.int cs)) (hO : Old Z n0 h0) (hcs : ¬ cs = (0 : Int32)) (hk_e : Jvm.Lit.constHeld Z "java/lang/String" 7) (hk_u : Jvm.Lit.constHeld Z "com/example/change_gatherer/changegatherer/io/FetchedDocumentIsModifiedPinLaw" 19) (hcw : Jvm.Lit.compactW.before a0 Z = true) (hn0 : n0 = h0.size) :
    MetFree l x (head1 (Jvm.Cond.code x code maxLocals ret :: ws) room_1) (fun a U => a = #[(.int p0), (.int p1), (.int p2), (.int p3)] ∧ Z.Warmed39 U.vm ∧ U.heap = h0 ∧ IB Z U.vm ([] : List String)) (fun _ _ _ _ _ => True) (fun _ U o U' => ∃ v L, o = .returned v ∧ Qown_law Z p0 p1 p2 p3 cs h0 n0 v U'.heap L ∧ ReturnedEndW U o U' L room_1.cells room_1.slots) := by
  refine MetFree.of_bodySF (plainFor_of_name own_pn6) hisR ?_
  intro p e s m args below meth c s₁ Bd hml0 hP hK
  obtain ⟨rfl, hZ, hh, hI⟩ := hP
  have hx := Bd.exec
  have hby := Bd.bytes
  have hml : c.maxLocals = 12 := hml0
  have hown : s.vm.findClass "com/example/change_gatherer/changegatherer/io/FetchedDocumentIsModifiedPinLaw" = some m.cls := findClass_of_methodNamed Bd.named
  have hnm := (name_of_methodNamed Bd.named Bd.method).1
  have X0 : Stand p l e room_1 s m #[(.int p0), (.int p1), (.int p2), (.int p3)] below meth c s₁ [] 0 0 := Stand.of_body Bd
  have e0 : s₁.heap = h0 := by rw [← hh, Bd.state]; rfl
  have N0 := Fr.nil n0
  have pre0 : ∀ t, Steps p.tables e below (s₁.setTop (mkF m 0 #[.val (.int p0), .val (.int p1), .val (.int p2), .val (.int p3), .unset, .unset, .unset, .unset, .unset, .unset, .unset, .unset] [])) t → Steps p.tables e below (s₁.setTop (entryFrame m #[(.int p0), (.int p1), (.int p2), (.int p3)] maxLocals)) t := fun t k => castTop (own_ef_own_law m p0 p1 p2 p3) k
  have pre5 : ∀ t, Steps p.tables e below (s₁.setTop (mkF m 3 #[.val (.int p0), .val (.int p1), .val (.int p2), .val (.int p3), .unset, .unset, .unset, .unset, .unset, .unset, .unset, .unset] [(.int (p0 &&& (1 : Int32)))])) t → Steps p.tables e below (s₁.setTop (entryFrame m #[(.int p0), (.int p1), (.int p2), (.int p3)] maxLocals)) t := by
    intro t kt
    refine pre0 _ ?_
    show Steps p.tables e below (s₁.setTop (mkF m 0 #[.val (.int p0), .val (.int p1), .val (.int p2), .val (.int p3), .unset, .unset, .unset, .unset, .unset, .unset, .unset, .unset] [])) _
    refine XS.iloadN X0.here hx rfl (hb hby at_0) rfl ?_
    show Steps p.tables e below (s₁.setTop (mkF m 1 #[.val (.int p0), .val (.int p1), .val (.int p2), .val (.int p3), .unset, .unset, .unset, .unset, .unset, .unset, .unset, .unset] [(.int p0)])) _
    refine XS.iconst X0.here hx rfl (hb hby at_1) ?_
    show Steps p.tables e below (s₁.setTop (mkF m 2 #[.val (.int p0), .val (.int p1), .val (.int p2), .val (.int p3), .unset, .unset, .unset, .unset, .unset, .unset, .unset, .unset] [(.int (1 : Int32)), (.int p0)])) _
    refine XS.iand X0.here hx rfl (hb hby at_2) rfl ?_
    exact kt
  by_cases hc3_6 : (p0 &&& (1 : Int32)) = (0 : Int32)
  · obtain ⟨T17, h17, k17, X17, e17, E17, A17, Y17, st17⟩ := newPE X0 hx hZ (hw _ (List.mem_of_getElem? (i := 1) rfl)) e0 (g := (mkF m 22 #[.val (.int p0), .val (.int p1), .val (.int p2), .val (.int p3), .val (.int (0 : Int32)), .val (.int ((p3 &&& (2147483647 : Int32)) % (3 : Int32))), .unset, .unset, .unset, .unset, .unset, .unset] [(.int (2 : Int32))])) rfl (hb hby at_22) rfl (by decide) (cap := 2) (by decide) (by decide) (by decide) (by decide) (ad := "[C") (by first | rfl | decide)
    obtain ⟨b17, g17⟩ : ∃ z, z = h0.size := ⟨_, rfl⟩
    rw [← g17] at A17 Y17 st17
    have Ge18 : n0 ≤ b17 := Nat.le_trans Z0 (Nat.le_of_eq g17.symm)
    have Sz19 : h0.size ≤ b17 := Nat.le_trans (Keep.refl h0 []).1 (Nat.le_of_eq g17.symm)
    have Kc20 : Keep h0 h17 [] := (Keep.refl h0 []).ext E17
    have Zs21 : n0 ≤ h17.size := (Nat.le_trans Z0 E17.1)
    have V17 : Arv Z h17 b17 k17 .char (2 : Int32) [(.int (0 : Int32)), (.int (0 : Int32))] (.int (0 : Int32)) := (Arv.new A17 (by decide)).pad (pad_rep [] (.int (0 : Int32)) 2)
    obtain ⟨cl30, Ar30, q30, S30, M30, H30, G30⟩ := id V17
    have hin30 : ¬ ((0 : Int32) < 0 ∨ cl30.slots.size ≤ ((0 : Int32)).toNatClampNeg) := inb_of S30 ⟨by decide, by decide⟩
    obtain ⟨T31, h31, X31, e31, W31, st31⟩ := stC X17 hx hZ e17 Ar30 (j := (0 : Int32)) hin30 (g := (mkF m 35 #[.val (.int p0), .val (.int p1), .val (.int p2), .val (.int p3), .val (.int (0 : Int32)), .val (.int ((p3 &&& (2147483647 : Int32)) % (3 : Int32))), .val (.ref b17), .unset, .unset, .unset, .unset, .unset] [(.int ((p1 &&& (255 : Int32)).toUInt32.toUInt16.toUInt32.toInt32)), (.int (0 : Int32)), (.ref b17)])) rfl rfl (hb hby at_35)
    have Kc33 : Keep h0 h31 [] := Kc20.wr W31 (Or.inr Sz19)
    have Zs34 : n0 ≤ h31.size := Nat.le_trans Zs21 (Keep.of_wr W31).1
    have N35 := Fr.snoc X31 N0 Ge18
    have Vm32 : Arv Z h31 b17 k17 .char (2 : Int32) [(.int (nar .char ((p1 &&& (255 : Int32)).toUInt32.toUInt16.toUInt32.toInt32))), (.int (0 : Int32))] (.int (0 : Int32)) := Arv.set Ar30 q30 S30 M30 H30 G30 (fits_nar_char _) W31 0 rfl (Nat.le_of_ble_eq_true rfl)
    obtain ⟨cl43, Ar43, q43, S43, M43, H43, G43⟩ := id Vm32
    have hin43 : ¬ ((1 : Int32) < 0 ∨ cl43.slots.size ≤ ((1 : Int32)).toNatClampNeg) := inb_of S43 ⟨by decide, by decide⟩
    obtain ⟨T44, h44, X44, e44, W44, st44⟩ := stC X31 hx hZ e31 Ar43 (j := (1 : Int32)) hin43 (g := (mkF m 45 #[.val (.int p0), .val (.int p1), .val (.int p2), .val (.int p3), .val (.int (0 : Int32)), .val (.int ((p3 &&& (2147483647 : Int32)) % (3 : Int32))), .val (.ref b17), .unset, .unset, .unset, .unset, .unset] [(.int ((p2 &&& (255 : Int32)).toUInt32.toUInt16.toUInt32.toInt32)), (.int (1 : Int32)), (.ref b17)])) rfl rfl (hb hby at_45)
    have Kc46 : Keep h0 h44 [] := Kc33.wr W44 (Or.inr Sz19)
    have Zs47 : n0 ≤ h44.size := Nat.le_trans Zs34 (Keep.of_wr W44).1
    have N48 := Fr.snoc X44 N35 Ge18
    have Vm45 : Arv Z h44 b17 k17 .char (2 : Int32) [(.int (nar .char ((p1 &&& (255 : Int32)).toUInt32.toUInt16.toUInt32.toInt32))), (.int (nar .char ((p2 &&& (255 : Int32)).toUInt32.toUInt16.toUInt32.toInt32)))] (.int (0 : Int32)) := Arv.set Ar43 q43 S43 M43 H43 G43 (fits_nar_char _) W44 1 rfl (Nat.le_of_ble_eq_true rfl)
    obtain ⟨T51, h51, k51, X51, e51, E51, A51, Y51, st51⟩ := newPE X44 hx hZ (hw _ (List.mem_of_getElem? (i := 1) rfl)) e44 (g := (mkF m 47 #[.val (.int p0), .val (.int p1), .val (.int p2), .val (.int p3), .val (.int (0 : Int32)), .val (.int ((p3 &&& (2147483647 : Int32)) % (3 : Int32))), .val (.ref b17), .unset, .unset, .unset, .unset, .unset] [(.int (0 : Int32))])) rfl (hb hby at_47) rfl (by decide) (cap := 0) (by decide) (by decide) (by decide) (by decide) (ad := "[C") (by first | rfl | decide)
    obtain ⟨b51, g51⟩ : ∃ z, z = h44.size := ⟨_, rfl⟩
    rw [← g51] at A51 Y51 st51
    have Fq53 : Exa Z h44 b17 "[C" := ((Y17.wr W31).wr W44)
    have Ne52 : b17 ≠ b51 := Nat.ne_of_lt (Nat.lt_of_lt_of_le Fq53.lt (Nat.le_of_eq g51.symm))
    have Ge54 : n0 ≤ b51 := Nat.le_trans Zs47 (Nat.le_of_eq g51.symm)
    have Sz55 : h0.size ≤ b51 := Nat.le_trans Kc46.1 (Nat.le_of_eq g51.symm)
    have Kc56 : Keep h0 h51 [] := Kc46.ext E51
    have Zs57 : n0 ≤ h51.size := (Nat.le_trans Zs47 E51.1)
    have V51 : Arv Z h51 b51 k51 .char (0 : Int32) [] (.int (0 : Int32)) := (Arv.new A51 (by decide)).pad (pad_rep [] (.int (0 : Int32)) 0)
    have pre63 : ∀ t, Steps p.tables e below (T51.setTop (mkF m 64 #[.val (.int p0), .val (.int p1), .val (.int p2), .val (.int p3), .val (.int (0 : Int32)), .val (.int ((p3 &&& (2147483647 : Int32)) % (3 : Int32))), .val (.ref b17), .val (.ref b51), .unset, .unset, .unset, .unset] [(.int ((p3 &&& (2147483647 : Int32)) % (3 : Int32)))])) t → Steps p.tables e below (s₁.setTop (entryFrame m #[(.int p0), (.int p1), (.int p2), (.int p3)] maxLocals)) t := by
      intro t kt
      refine pre5 _ ?_
      show Steps p.tables e below (s₁.setTop (mkF m 3 #[.val (.int p0), .val (.int p1), .val (.int p2), .val (.int p3), .unset, .unset, .unset, .unset, .unset, .unset, .unset, .unset] [(.int (p0 &&& (1 : Int32)))])) _
      refine XS.ifYes X0.here hx rfl (pc0 := 3) (pc' := 10) rfl (hb hby at_3) rfl ((if0 _ _).trans (teq hc3_6).1) (by decide) (by decide) ?_
      show Steps p.tables e below (s₁.setTop (mkF m 10 #[.val (.int p0), .val (.int p1), .val (.int p2), .val (.int p3), .unset, .unset, .unset, .unset, .unset, .unset, .unset, .unset] [])) _
      refine XS.iconst X0.here hx rfl (hb hby at_10) ?_
      show Steps p.tables e below (s₁.setTop (mkF m 11 #[.val (.int p0), .val (.int p1), .val (.int p2), .val (.int p3), .unset, .unset, .unset, .unset, .unset, .unset, .unset, .unset] [(.int (0 : Int32))])) _
      refine XS.istore X0.here hx rfl (hb hby at_11) rfl (l' := #[.val (.int p0), .val (.int p1), .val (.int p2), .val (.int p3), .val (.int (0 : Int32)), .unset, .unset, .unset, .unset, .unset, .unset, .unset]) rfl ?_
      show Steps p.tables e below (s₁.setTop (mkF m 13 #[.val (.int p0), .val (.int p1), .val (.int p2), .val (.int p3), .val (.int (0 : Int32)), .unset, .unset, .unset, .unset, .unset, .unset, .unset] [])) _
      refine XS.iloadN X0.here hx rfl (hb hby at_13) rfl ?_
      show Steps p.tables e below (s₁.setTop (mkF m 14 #[.val (.int p0), .val (.int p1), .val (.int p2), .val (.int p3), .val (.int (0 : Int32)), .unset, .unset, .unset, .unset, .unset, .unset, .unset] [(.int p3)])) _
      refine X0.ldcInt hx hown (mvT hZ (hw _ (List.mem_of_getElem? (i := 0) rfl))) (g := (mkF m 14 #[.val (.int p0), .val (.int p1), .val (.int p2), .val (.int p3), .val (.int (0 : Int32)), .unset, .unset, .unset, .unset, .unset, .unset, .unset] [(.int p3)])) rfl (hb hby at_14) _ ?_
      show Steps p.tables e below (s₁.setTop (mkF m 16 #[.val (.int p0), .val (.int p1), .val (.int p2), .val (.int p3), .val (.int (0 : Int32)), .unset, .unset, .unset, .unset, .unset, .unset, .unset] [(.int (2147483647 : Int32)), (.int p3)])) _
      refine XS.iand X0.here hx rfl (hb hby at_16) rfl ?_
      show Steps p.tables e below (s₁.setTop (mkF m 17 #[.val (.int p0), .val (.int p1), .val (.int p2), .val (.int p3), .val (.int (0 : Int32)), .unset, .unset, .unset, .unset, .unset, .unset, .unset] [(.int (p3 &&& (2147483647 : Int32)))])) _
      refine XS.iconst X0.here hx rfl (hb hby at_17) ?_
      show Steps p.tables e below (s₁.setTop (mkF m 18 #[.val (.int p0), .val (.int p1), .val (.int p2), .val (.int p3), .val (.int (0 : Int32)), .unset, .unset, .unset, .unset, .unset, .unset, .unset] [(.int (3 : Int32)), (.int (p3 &&& (2147483647 : Int32)))])) _
      refine iremM X0 hx rfl (hb hby at_18) rfl (by decide) ?_
      show Steps p.tables e below (s₁.setTop (mkF m 19 #[.val (.int p0), .val (.int p1), .val (.int p2), .val (.int p3), .val (.int (0 : Int32)), .unset, .unset, .unset, .unset, .unset, .unset, .unset] [(.int ((p3 &&& (2147483647 : Int32)) % (3 : Int32)))])) _
      refine XS.istore X0.here hx rfl (hb hby at_19) rfl (l' := #[.val (.int p0), .val (.int p1), .val (.int p2), .val (.int p3), .val (.int (0 : Int32)), .val (.int ((p3 &&& (2147483647 : Int32)) % (3 : Int32))), .unset, .unset, .unset, .unset, .unset, .unset]) rfl ?_
      show Steps p.tables e below (s₁.setTop (mkF m 21 #[.val (.int p0), .val (.int p1), .val (.int p2), .val (.int p3), .val (.int (0 : Int32)), .val (.int ((p3 &&& (2147483647 : Int32)) % (3 : Int32))), .unset, .unset, .unset, .unset, .unset, .unset] [])) _
      refine XS.iconst X0.here hx rfl (hb hby at_21) ?_
      show Steps p.tables e below (s₁.setTop (mkF m 22 #[.val (.int p0), .val (.int p1), .val (.int p2), .val (.int p3), .val (.int (0 : Int32)), .val (.int ((p3 &&& (2147483647 : Int32)) % (3 : Int32))), .unset, .unset, .unset, .unset, .unset, .unset] [(.int (2 : Int32))])) _
      refine st17 _ ?_
      show Steps p.tables e below (T17.setTop (mkF m 24 #[.val (.int p0), .val (.int p1), .val (.int p2), .val (.int p3), .val (.int (0 : Int32)), .val (.int ((p3 &&& (2147483647 : Int32)) % (3 : Int32))), .unset, .unset, .unset, .unset, .unset, .unset] [(.ref b17)])) _
      refine XS.astore X17.here hx rfl (hb hby at_24) rfl rfl (l' := #[.val (.int p0), .val (.int p1), .val (.int p2), .val (.int p3), .val (.int (0 : Int32)), .val (.int ((p3 &&& (2147483647 : Int32)) % (3 : Int32))), .val (.ref b17), .unset, .unset, .unset, .unset, .unset]) rfl ?_
      show Steps p.tables e below (T17.setTop (mkF m 26 #[.val (.int p0), .val (.int p1), .val (.int p2), .val (.int p3), .val (.int (0 : Int32)), .val (.int ((p3 &&& (2147483647 : Int32)) % (3 : Int32))), .val (.ref b17), .unset, .unset, .unset, .unset, .unset] [])) _
      refine XS.aload X17.here hx rfl (hb hby at_26) rfl rfl ?_
      show Steps p.tables e below (T17.setTop (mkF m 28 #[.val (.int p0), .val (.int p1), .val (.int p2), .val (.int p3), .val (.int (0 : Int32)), .val (.int ((p3 &&& (2147483647 : Int32)) % (3 : Int32))), .val (.ref b17), .unset, .unset, .unset, .unset, .unset] [(.ref b17)])) _
      refine XS.iconst X17.here hx rfl (hb hby at_28) ?_
      show Steps p.tables e below (T17.setTop (mkF m 29 #[.val (.int p0), .val (.int p1), .val (.int p2), .val (.int p3), .val (.int (0 : Int32)), .val (.int ((p3 &&& (2147483647 : Int32)) % (3 : Int32))), .val (.ref b17), .unset, .unset, .unset, .unset, .unset] [(.int (0 : Int32)), (.ref b17)])) _
      refine XS.iloadN X17.here hx rfl (hb hby at_29) rfl ?_
      show Steps p.tables e below (T17.setTop (mkF m 30 #[.val (.int p0), .val (.int p1), .val (.int p2), .val (.int p3), .val (.int (0 : Int32)), .val (.int ((p3 &&& (2147483647 : Int32)) % (3 : Int32))), .val (.ref b17), .unset, .unset, .unset, .unset, .unset] [(.int p1), (.int (0 : Int32)), (.ref b17)])) _
      refine XS.sipush X17.here hx rfl (hb hby at_30) ?_
      show Steps p.tables e below (T17.setTop (mkF m 33 #[.val (.int p0), .val (.int p1), .val (.int p2), .val (.int p3), .val (.int (0 : Int32)), .val (.int ((p3 &&& (2147483647 : Int32)) % (3 : Int32))), .val (.ref b17), .unset, .unset, .unset, .unset, .unset] [(.int (255 : Int32)), (.int p1), (.int (0 : Int32)), (.ref b17)])) _
      refine XS.iand X17.here hx rfl (hb hby at_33) rfl ?_
      show Steps p.tables e below (T17.setTop (mkF m 34 #[.val (.int p0), .val (.int p1), .val (.int p2), .val (.int p3), .val (.int (0 : Int32)), .val (.int ((p3 &&& (2147483647 : Int32)) % (3 : Int32))), .val (.ref b17), .unset, .unset, .unset, .unset, .unset] [(.int (p1 &&& (255 : Int32))), (.int (0 : Int32)), (.ref b17)])) _
      refine XS.i2c X17.here hx rfl (hb hby at_34) rfl ?_
      show Steps p.tables e below (T17.setTop (mkF m 35 #[.val (.int p0), .val (.int p1), .val (.int p2), .val (.int p3), .val (.int (0 : Int32)), .val (.int ((p3 &&& (2147483647 : Int32)) % (3 : Int32))), .val (.ref b17), .unset, .unset, .unset, .unset, .unset] [(.int ((p1 &&& (255 : Int32)).toUInt32.toUInt16.toUInt32.toInt32)), (.int (0 : Int32)), (.ref b17)])) _
      refine st31 _ ?_
      show Steps p.tables e below (T31.setTop (mkF m 36 #[.val (.int p0), .val (.int p1), .val (.int p2), .val (.int p3), .val (.int (0 : Int32)), .val (.int ((p3 &&& (2147483647 : Int32)) % (3 : Int32))), .val (.ref b17), .unset, .unset, .unset, .unset, .unset] [])) _
      refine XS.aload X31.here hx rfl (hb hby at_36) rfl rfl ?_
      show Steps p.tables e below (T31.setTop (mkF m 38 #[.val (.int p0), .val (.int p1), .val (.int p2), .val (.int p3), .val (.int (0 : Int32)), .val (.int ((p3 &&& (2147483647 : Int32)) % (3 : Int32))), .val (.ref b17), .unset, .unset, .unset, .unset, .unset] [(.ref b17)])) _
      refine XS.iconst X31.here hx rfl (hb hby at_38) ?_
      show Steps p.tables e below (T31.setTop (mkF m 39 #[.val (.int p0), .val (.int p1), .val (.int p2), .val (.int p3), .val (.int (0 : Int32)), .val (.int ((p3 &&& (2147483647 : Int32)) % (3 : Int32))), .val (.ref b17), .unset, .unset, .unset, .unset, .unset] [(.int (1 : Int32)), (.ref b17)])) _
      refine XS.iloadN X31.here hx rfl (hb hby at_39) rfl ?_
      show Steps p.tables e below (T31.setTop (mkF m 40 #[.val (.int p0), .val (.int p1), .val (.int p2), .val (.int p3), .val (.int (0 : Int32)), .val (.int ((p3 &&& (2147483647 : Int32)) % (3 : Int32))), .val (.ref b17), .unset, .unset, .unset, .unset, .unset] [(.int p2), (.int (1 : Int32)), (.ref b17)])) _
      refine XS.sipush X31.here hx rfl (hb hby at_40) ?_
      show Steps p.tables e below (T31.setTop (mkF m 43 #[.val (.int p0), .val (.int p1), .val (.int p2), .val (.int p3), .val (.int (0 : Int32)), .val (.int ((p3 &&& (2147483647 : Int32)) % (3 : Int32))), .val (.ref b17), .unset, .unset, .unset, .unset, .unset] [(.int (255 : Int32)), (.int p2), (.int (1 : Int32)), (.ref b17)])) _
      refine XS.iand X31.here hx rfl (hb hby at_43) rfl ?_
      show Steps p.tables e below (T31.setTop (mkF m 44 #[.val (.int p0), .val (.int p1), .val (.int p2), .val (.int p3), .val (.int (0 : Int32)), .val (.int ((p3 &&& (2147483647 : Int32)) % (3 : Int32))), .val (.ref b17), .unset, .unset, .unset, .unset, .unset] [(.int (p2 &&& (255 : Int32))), (.int (1 : Int32)), (.ref b17)])) _
      refine XS.i2c X31.here hx rfl (hb hby at_44) rfl ?_
      show Steps p.tables e below (T31.setTop (mkF m 45 #[.val (.int p0), .val (.int p1), .val (.int p2), .val (.int p3), .val (.int (0 : Int32)), .val (.int ((p3 &&& (2147483647 : Int32)) % (3 : Int32))), .val (.ref b17), .unset, .unset, .unset, .unset, .unset] [(.int ((p2 &&& (255 : Int32)).toUInt32.toUInt16.toUInt32.toInt32)), (.int (1 : Int32)), (.ref b17)])) _
      refine st44 _ ?_
      show Steps p.tables e below (T44.setTop (mkF m 46 #[.val (.int p0), .val (.int p1), .val (.int p2), .val (.int p3), .val (.int (0 : Int32)), .val (.int ((p3 &&& (2147483647 : Int32)) % (3 : Int32))), .val (.ref b17), .unset, .unset, .unset, .unset, .unset] [])) _
      refine XS.iconst X44.here hx rfl (hb hby at_46) ?_
      show Steps p.tables e below (T44.setTop (mkF m 47 #[.val (.int p0), .val (.int p1), .val (.int p2), .val (.int p3), .val (.int (0 : Int32)), .val (.int ((p3 &&& (2147483647 : Int32)) % (3 : Int32))), .val (.ref b17), .unset, .unset, .unset, .unset, .unset] [(.int (0 : Int32))])) _
      refine st51 _ ?_
      show Steps p.tables e below (T51.setTop (mkF m 49 #[.val (.int p0), .val (.int p1), .val (.int p2), .val (.int p3), .val (.int (0 : Int32)), .val (.int ((p3 &&& (2147483647 : Int32)) % (3 : Int32))), .val (.ref b17), .unset, .unset, .unset, .unset, .unset] [(.ref b51)])) _
      refine XS.astore X51.here hx rfl (hb hby at_49) rfl rfl (l' := #[.val (.int p0), .val (.int p1), .val (.int p2), .val (.int p3), .val (.int (0 : Int32)), .val (.int ((p3 &&& (2147483647 : Int32)) % (3 : Int32))), .val (.ref b17), .val (.ref b51), .unset, .unset, .unset, .unset]) rfl ?_
      show Steps p.tables e below (T51.setTop (mkF m 51 #[.val (.int p0), .val (.int p1), .val (.int p2), .val (.int p3), .val (.int (0 : Int32)), .val (.int ((p3 &&& (2147483647 : Int32)) % (3 : Int32))), .val (.ref b17), .val (.ref b51), .unset, .unset, .unset, .unset] [])) _
      refine XS.iload X51.here hx rfl (hb hby at_51) rfl ?_
      show Steps p.tables e below (T51.setTop (mkF m 53 #[.val (.int p0), .val (.int p1), .val (.int p2), .val (.int p3), .val (.int (0 : Int32)), .val (.int ((p3 &&& (2147483647 : Int32)) % (3 : Int32))), .val (.ref b17), .val (.ref b51), .unset, .unset, .unset, .unset] [(.int (0 : Int32))])) _
      refine XS.ifYes X51.here hx rfl (pc0 := 53) (pc' := 62) rfl (hb hby at_53) rfl ((if0 _ _).trans (teq ((by decide) : (0 : Int32) = (0 : Int32))).1) (by decide) (by decide) ?_
      show Steps p.tables e below (T51.setTop (mkF m 62 #[.val (.int p0), .val (.int p1), .val (.int p2), .val (.int p3), .val (.int (0 : Int32)), .val (.int ((p3 &&& (2147483647 : Int32)) % (3 : Int32))), .val (.ref b17), .val (.ref b51), .unset, .unset, .unset, .unset] [])) _
      refine XS.iload X51.here hx rfl (hb hby at_62) rfl ?_
      exact kt
    by_cases hc64_64 : ((p3 &&& (2147483647 : Int32)) % (3 : Int32)) = (0 : Int32)
    · obtain ⟨T66, h66, X66, e66, E66, A66, D66, -, st66⟩ := newO X51 hx hZ hown (hw _ (List.mem_of_getElem? (i := 76) rfl)) (hw _ (List.mem_of_getElem? (i := 12) rfl)) (hw _ (List.mem_of_getElem? (i := 4) rfl)) e51 (g := (mkF m 67 #[.val (.int p0), .val (.int p1), .val (.int p2), .val (.int p3), .val (.int (0 : Int32)), .val (.int ((p3 &&& (2147483647 : Int32)) % (3 : Int32))), .val (.ref b17), .val (.ref b51), .unset, .unset, .unset, .unset] [])) rfl (hb hby at_67) (by decide) (by decide)
      obtain ⟨b66, g66⟩ : ∃ z, z = h51.size := ⟨_, rfl⟩
      rw [← g66] at A66 D66 st66
      have Fq68 : Exa Z h51 b17 "[C" := (Fq53.ext E51)
      have Ne67 : b17 ≠ b66 := Nat.ne_of_lt (Nat.lt_of_lt_of_le Fq68.lt (Nat.le_of_eq g66.symm))
      have Ne69 : b51 ≠ b66 := Nat.ne_of_lt (Nat.lt_of_lt_of_le Y51.lt (Nat.le_of_eq g66.symm))
      have Ge70 : n0 ≤ b66 := Nat.le_trans Zs57 (Nat.le_of_eq g66.symm)
      have Sz71 : h0.size ≤ b66 := Nat.le_trans Kc56.1 (Nat.le_of_eq g66.symm)
      have Kc72 : Keep h0 h66 [] := Kc56.ext E66
      have Zs73 : n0 ≤ h66.size := (Nat.le_trans Zs57 E66.1)
      have F66_value : Fld Z h66 b66 "java/lang/String" "value" "[B" .null := D66 (Or.inr (hw _ (List.mem_of_getElem? (i := 25) rfl))) (ty := (.array .byte)) (by decide)
      have F66_coder : Fld Z h66 b66 "java/lang/String" "coder" "B" (.int (0 : Int32)) := D66 (Or.inr (hw _ (List.mem_of_getElem? (i := 27) rfl))) (ty := .byte) (by decide)
      have Fq78 : Arv Z h66 b51 k51 .char (0 : Int32) [] (.int (0 : Int32)) := (V51.ext E66)
      have Fq79 : Old Z n0 h66 := (((((hO.ext E17).wr W31 Ge18).wr W44 Ge18).ext E51).ext E66)
      have pre80 : ∀ t, Steps p.tables e below (T66.setTop (mkF m 73 #[.val (.int p0), .val (.int p1), .val (.int p2), .val (.int p3), .val (.int (0 : Int32)), .val (.int ((p3 &&& (2147483647 : Int32)) % (3 : Int32))), .val (.ref b17), .val (.ref b51), .unset, .unset, .unset, .unset] [(.ref b51), (.ref b66), (.ref b66)])) t → Steps p.tables e below (s₁.setTop (entryFrame m #[(.int p0), (.int p1), (.int p2), (.int p3)] maxLocals)) t := by
        intro t kt
        refine pre63 _ ?_
        show Steps p.tables e below (T51.setTop (mkF m 64 #[.val (.int p0), .val (.int p1), .val (.int p2), .val (.int p3), .val (.int (0 : Int32)), .val (.int ((p3 &&& (2147483647 : Int32)) % (3 : Int32))), .val (.ref b17), .val (.ref b51), .unset, .unset, .unset, .unset] [(.int ((p3 &&& (2147483647 : Int32)) % (3 : Int32)))])) _
        refine XS.ifNo X51.here hx rfl (hb hby at_64) rfl ((if0 _ _).trans (teq hc64_64).2) ?_
        show Steps p.tables e below (T51.setTop (mkF m 67 #[.val (.int p0), .val (.int p1), .val (.int p2), .val (.int p3), .val (.int (0 : Int32)), .val (.int ((p3 &&& (2147483647 : Int32)) % (3 : Int32))), .val (.ref b17), .val (.ref b51), .unset, .unset, .unset, .unset] [])) _
        refine st66 _ ?_
        show Steps p.tables e below (T66.setTop (mkF m 70 #[.val (.int p0), .val (.int p1), .val (.int p2), .val (.int p3), .val (.int (0 : Int32)), .val (.int ((p3 &&& (2147483647 : Int32)) % (3 : Int32))), .val (.ref b17), .val (.ref b51), .unset, .unset, .unset, .unset] [(.ref b66)])) _
        refine XS.dup X66.here hx rfl (hb hby at_70) rfl rfl ?_
        show Steps p.tables e below (T66.setTop (mkF m 71 #[.val (.int p0), .val (.int p1), .val (.int p2), .val (.int p3), .val (.int (0 : Int32)), .val (.int ((p3 &&& (2147483647 : Int32)) % (3 : Int32))), .val (.ref b17), .val (.ref b51), .unset, .unset, .unset, .unset] [(.ref b66), (.ref b66)])) _
        refine XS.aload X66.here hx rfl (hb hby at_71) rfl rfl ?_
        show Steps p.tables e below (T66.setTop (mkF m 73 #[.val (.int p0), .val (.int p1), .val (.int p2), .val (.int p3), .val (.int (0 : Int32)), .val (.int ((p3 &&& (2147483647 : Int32)) % (3 : Int32))), .val (.ref b17), .val (.ref b51), .unset, .unset, .unset, .unset] [(.ref b51), (.ref b66), (.ref b66)])) _
        exact kt
      obtain ⟨_, _, ⟨T77, L77, k77, n77⟩, -, Xw77, hs77, gs77, ⟨Lc77, hQ77, l77, y77, z77⟩, st77⟩ := Stand.specialBackS (s := s.setVm s.vm) X66 hx (y := (⟨"java/lang/String", "<init>", "([C)V"⟩ : MethodName)) rfl hown (mvT hZ (hw _ (List.mem_of_getElem? (i := 77) rfl))) (mvT hZ (hw _ (List.mem_of_getElem? (i := 78) rfl))) (mvT hZ (hw _ (List.mem_of_getElem? (i := 79) rfl))) (by decide) (own_backOfI (W := 1) (own_initC0 l Z a0 hw [] b66 b51 k51 [] .null (.int (0 : Int32)) h66 n0 Zs73 A66 F66_value F66_coder Ge70 Fq78 Fq79.2.2 hk_e hcw) hZ hI (hw _ (List.mem_of_getElem? (i := 79) rfl)) (hw _ (List.mem_of_getElem? (i := 4) rfl)) (by decide) (by decide)) (g := (mkF m 73 #[.val (.int p0), .val (.int p1), .val (.int p2), .val (.int p3), .val (.int (0 : Int32)), .val (.int ((p3 &&& (2147483647 : Int32)) % (3 : Int32))), .val (.ref b17), .val (.ref b51), .unset, .unset, .unset, .unset] [(.ref b51), (.ref b66), (.ref b66)])) rfl (by rw [hml]; rfl) (Steps.refl _) (a := b66) (argsL := [(.ref b51)]) (rest := [(.ref b66)]) (lenOf own_pd8 rfl) rfl (by show 2 * 0 + _ ≤ _; exact Nat.le_of_eq rfl) (hb hby at_73) (fun _ _ => ⟨rfl, e66, (by decide : 3 + 2 ≤ _), (by decide : 6 + 4 ≤ _)⟩)
      obtain ⟨X77, Si77, hZ77, hown77⟩ := rebS (s := s) (own_since s 0) (Nat.zero_le _) Xw77 hs77 gs77 hZ hown
      have hZ := hZ77
      have hown := hown77
      dsimp only [Pt.U, Pt.locs, Pt.cells, Pt.slots] at X77 l77 y77 z77 st77 hQ77
      rw [l77, y77, z77] at X77
      obtain ⟨⟨rfl, Nq77, K77⟩, I77⟩ := hQ77
      have N81 := Fr.app N48 Nq77
      have Kc82 : Keep h0 T77.heap [] := Kc72.trans K77 (allS (Or.inr Sz71) all0)
      have Zs83 : n0 ≤ T77.heap.size := Nat.le_trans Zs73 K77.1
      obtain ⟨T87, h87, X87, e87, E87, A87, D87, -, st87⟩ := newO X77 hx hZ hown (hw _ (List.mem_of_getElem? (i := 28) rfl)) (hw _ (List.mem_of_getElem? (i := 29) rfl)) (hw _ (List.mem_of_getElem? (i := 30) rfl)) rfl (g := (mkF m 110 #[.val (.int p0), .val (.int p1), .val (.int p2), .val (.int p3), .val (.int (0 : Int32)), .val (.int ((p3 &&& (2147483647 : Int32)) % (3 : Int32))), .val (.ref b17), .val (.ref b51), .val (.ref b66), .unset, .unset, .unset] [])) rfl (hb hby at_110) (by decide) (by decide)
      obtain ⟨b87, g87⟩ : ∃ z, z = T77.heap.size := ⟨_, rfl⟩
      rw [← g87] at A87 D87 st87
      have Fq89 : Exa Z T77.heap b17 "[C" := ((Fq68.ext E66).keep K77)
      have Ne88 : b17 ≠ b87 := Nat.ne_of_lt (Nat.lt_of_lt_of_le Fq89.lt (Nat.le_of_eq g87.symm))
      have Fq91 : Exa Z T77.heap b51 "[C" := ((Y51.ext E66).keep K77)
      have Ne90 : b51 ≠ b87 := Nat.ne_of_lt (Nat.lt_of_lt_of_le Fq91.lt (Nat.le_of_eq g87.symm))
      have Fq93 : Exa Z T77.heap b66 "java/lang/String" := (A66.keep K77)
      have Ne92 : b66 ≠ b87 := Nat.ne_of_lt (Nat.lt_of_lt_of_le Fq93.lt (Nat.le_of_eq g87.symm))
      have Ge94 : n0 ≤ b87 := Nat.le_trans Zs83 (Nat.le_of_eq g87.symm)
      have Sz95 : h0.size ≤ b87 := Nat.le_trans Kc82.1 (Nat.le_of_eq g87.symm)
      have Kc96 : Keep h0 h87 [] := Kc82.ext E87
      have Zs97 : n0 ≤ h87.size := (Nat.le_trans Zs83 E87.1)
      have F87_url : Fld Z h87 b87 "com/example/change_gatherer/changegatherer/model/DocumentVersion" "url" "Ljava/lang/String;" .null := D87 (Or.inr (hw _ (List.mem_of_getElem? (i := 45) rfl))) (ty := (.object "java/lang/String")) (by decide)
      have F87_entityTag : Fld Z h87 b87 "com/example/change_gatherer/changegatherer/model/DocumentVersion" "entityTag" "Ljava/lang/String;" .null := D87 (Or.inr (hw _ (List.mem_of_getElem? (i := 47) rfl))) (ty := (.object "java/lang/String")) (by decide)
      have F87_lastModified : Fld Z h87 b87 "com/example/change_gatherer/changegatherer/model/DocumentVersion" "lastModified" "Ljava/lang/String;" .null := D87 (Or.inr (hw _ (List.mem_of_getElem? (i := 49) rfl))) (ty := (.object "java/lang/String")) (by decide)
      have pre100 : ∀ t, Steps p.tables e below (T87.setTop (mkF m 114 #[.val (.int p0), .val (.int p1), .val (.int p2), .val (.int p3), .val (.int (0 : Int32)), .val (.int ((p3 &&& (2147483647 : Int32)) % (3 : Int32))), .val (.ref b17), .val (.ref b51), .val (.ref b66), .unset, .unset, .unset] [(.ref b87), (.ref b87)])) t → Steps p.tables e below (s₁.setTop (entryFrame m #[(.int p0), (.int p1), (.int p2), (.int p3)] maxLocals)) t := by
        intro t kt
        refine pre80 _ ?_
        refine st77.trans ?_
        show Steps p.tables e below (T77.setTop (mkF m 76 #[.val (.int p0), .val (.int p1), .val (.int p2), .val (.int p3), .val (.int (0 : Int32)), .val (.int ((p3 &&& (2147483647 : Int32)) % (3 : Int32))), .val (.ref b17), .val (.ref b51), .unset, .unset, .unset, .unset] [(.ref b66)])) _
        refine XS.astore X77.here hx rfl (hb hby at_76) rfl rfl (l' := #[.val (.int p0), .val (.int p1), .val (.int p2), .val (.int p3), .val (.int (0 : Int32)), .val (.int ((p3 &&& (2147483647 : Int32)) % (3 : Int32))), .val (.ref b17), .val (.ref b51), .val (.ref b66), .unset, .unset, .unset]) rfl ?_
        show Steps p.tables e below (T77.setTop (mkF m 78 #[.val (.int p0), .val (.int p1), .val (.int p2), .val (.int p3), .val (.int (0 : Int32)), .val (.int ((p3 &&& (2147483647 : Int32)) % (3 : Int32))), .val (.ref b17), .val (.ref b51), .val (.ref b66), .unset, .unset, .unset] [])) _
        refine XS.goto X77.here hx rfl (pc0 := 78) (pc' := 110) rfl (hb hby at_78) (by decide) (by decide) ?_
        show Steps p.tables e below (T77.setTop (mkF m 110 #[.val (.int p0), .val (.int p1), .val (.int p2), .val (.int p3), .val (.int (0 : Int32)), .val (.int ((p3 &&& (2147483647 : Int32)) % (3 : Int32))), .val (.ref b17), .val (.ref b51), .val (.ref b66), .unset, .unset, .unset] [])) _
        refine st87 _ ?_
        show Steps p.tables e below (T87.setTop (mkF m 113 #[.val (.int p0), .val (.int p1), .val (.int p2), .val (.int p3), .val (.int (0 : Int32)), .val (.int ((p3 &&& (2147483647 : Int32)) % (3 : Int32))), .val (.ref b17), .val (.ref b51), .val (.ref b66), .unset, .unset, .unset] [(.ref b87)])) _
        refine XS.dup X87.here hx rfl (hb hby at_113) rfl rfl ?_
        show Steps p.tables e below (T87.setTop (mkF m 114 #[.val (.int p0), .val (.int p1), .val (.int p2), .val (.int p3), .val (.int (0 : Int32)), .val (.int ((p3 &&& (2147483647 : Int32)) % (3 : Int32))), .val (.ref b17), .val (.ref b51), .val (.ref b66), .unset, .unset, .unset] [(.ref b87), (.ref b87)])) _
        exact kt
      obtain ⟨b101, T101, h101, ks101, bv101, kv101, X101, e101, E101, Si101, Sk101, hZ101, hown101, Ex101, Fc101, Fv101, Av101, la101, lb101, I101, Li101, st101⟩ := ldcSVL (s := s) (vm0 := T77.vm) X87 hx hZ hown (hw _ (List.mem_of_getElem? (i := 31) rfl)) (own_satoms hw) e87 Si77 (Nat.le_trans (Nat.le_refl _) E87.1) (by rw [hh, ← hn0]; exact N81) (by rw [hh]; exact hO.2.2) I77 (by decide) hk_u hcw (vs := [(.int (117 : Int32))]) (z := (1 : Int32)) (by decide) (by decide) (by decide) (g := (mkF m 114 #[.val (.int p0), .val (.int p1), .val (.int p2), .val (.int p3), .val (.int (0 : Int32)), .val (.int ((p3 &&& (2147483647 : Int32)) % (3 : Int32))), .val (.ref b17), .val (.ref b51), .val (.ref b66), .unset, .unset, .unset] [(.ref b87), (.ref b87)])) rfl (hb hby at_114) (n := 4) (by decide) (by decide) (by decide) (by decide)
      have hZ := hZ101
      have hown := hown101
      have Kc102 : Keep h0 h101 [] := Kc96.ext E101
      have Zs103 : n0 ≤ h101.size := (Nat.le_trans Zs97 E101.1)
      have Fq108 : Exa Z h101 b87 "com/example/change_gatherer/changegatherer/model/DocumentVersion" := (A87.ext E101)
      have Fq109 : Fld Z h101 b87 "com/example/change_gatherer/changegatherer/model/DocumentVersion" "url" "Ljava/lang/String;" .null := (F87_url.ext E101)
      have Fq110 : Fld Z h101 b87 "com/example/change_gatherer/changegatherer/model/DocumentVersion" "entityTag" "Ljava/lang/String;" .null := (F87_entityTag.ext E101)
      have Fq111 : Fld Z h101 b87 "com/example/change_gatherer/changegatherer/model/DocumentVersion" "lastModified" "Ljava/lang/String;" .null := (F87_lastModified.ext E101)
      have pre112 : ∀ t, Steps p.tables e below (T101.setTop (mkF m 118 #[.val (.int p0), .val (.int p1), .val (.int p2), .val (.int p3), .val (.int (0 : Int32)), .val (.int ((p3 &&& (2147483647 : Int32)) % (3 : Int32))), .val (.ref b17), .val (.ref b51), .val (.ref b66), .unset, .unset, .unset] [.null, .null, (.ref b101), (.ref b87), (.ref b87)])) t → Steps p.tables e below (s₁.setTop (entryFrame m #[(.int p0), (.int p1), (.int p2), (.int p3)] maxLocals)) t := by
        intro t kt
        refine pre100 _ ?_
        refine st101 _ ?_
        show Steps p.tables e below (T101.setTop (mkF m 116 #[.val (.int p0), .val (.int p1), .val (.int p2), .val (.int p3), .val (.int (0 : Int32)), .val (.int ((p3 &&& (2147483647 : Int32)) % (3 : Int32))), .val (.ref b17), .val (.ref b51), .val (.ref b66), .unset, .unset, .unset] [(.ref b101), (.ref b87), (.ref b87)])) _
        refine XS.aconstNull X101.here hx rfl (hb hby at_116) ?_
        show Steps p.tables e below (T101.setTop (mkF m 117 #[.val (.int p0), .val (.int p1), .val (.int p2), .val (.int p3), .val (.int (0 : Int32)), .val (.int ((p3 &&& (2147483647 : Int32)) % (3 : Int32))), .val (.ref b17), .val (.ref b51), .val (.ref b66), .unset, .unset, .unset] [.null, (.ref b101), (.ref b87), (.ref b87)])) _
        refine XS.aconstNull X101.here hx rfl (hb hby at_117) ?_
        show Steps p.tables e below (T101.setTop (mkF m 118 #[.val (.int p0), .val (.int p1), .val (.int p2), .val (.int p3), .val (.int (0 : Int32)), .val (.int ((p3 &&& (2147483647 : Int32)) % (3 : Int32))), .val (.ref b17), .val (.ref b51), .val (.ref b66), .unset, .unset, .unset] [.null, .null, (.ref b101), (.ref b87), (.ref b87)])) _
        exact kt
      obtain ⟨_, _, ⟨T107, L107, k107, n107⟩, -, Xw107, hs107, gs107, ⟨Lc107, hQ107, l107, y107, z107⟩, st107⟩ := Stand.specialBackS (s := s.setVm T101.vm) X101 hx (y := (⟨"com/example/change_gatherer/changegatherer/model/DocumentVersion", "<init>", "(Ljava/lang/String;Ljava/lang/String;Ljava/lang/String;)V"⟩ : MethodName)) rfl hown (mvT hZ (hw _ (List.mem_of_getElem? (i := 34) rfl))) (mvT hZ (hw _ (List.mem_of_getElem? (i := 35) rfl))) (mvT hZ (hw _ (List.mem_of_getElem? (i := 36) rfl))) (by decide) (backOfS (W := 1) (own_dv l Z a0 hw [] b87 b101 .null .null .null h101 n0 Zs103 Fq108 Ex101 Fq109 Fq110 Fq111 Ge94) hZ (hw _ (List.mem_of_getElem? (i := 36) rfl)) (hw _ (List.mem_of_getElem? (i := 30) rfl)) (by decide) (by decide)) (g := (mkF m 118 #[.val (.int p0), .val (.int p1), .val (.int p2), .val (.int p3), .val (.int (0 : Int32)), .val (.int ((p3 &&& (2147483647 : Int32)) % (3 : Int32))), .val (.ref b17), .val (.ref b51), .val (.ref b66), .unset, .unset, .unset] [.null, .null, (.ref b101), (.ref b87), (.ref b87)])) rfl (by rw [hml]; rfl) (Steps.refl _) (a := b87) (argsL := [(.ref b101), .null, .null]) (rest := [(.ref b87)]) (lenOf own_pd9 rfl) rfl (by show 2 * 0 + _ ≤ _; exact Nat.le_of_eq rfl) (hb hby at_118) (fun _ _ => ⟨rfl, e101, (by decide : 8 + 2 ≤ _), (by decide : 21 + 16 ≤ _)⟩)
      obtain ⟨X107, Si107, hZ107, hown107⟩ := rebS (s := s) Si101 (show _ ≤ T101.heap.size by rw [e101]; exact Sk101) Xw107 hs107 gs107 hZ hown
      have hZ := hZ107
      have hown := hown107
      dsimp only [Pt.U, Pt.locs, Pt.cells, Pt.slots] at X107 l107 y107 z107 st107 hQ107
      rw [l107, y107, z107] at X107
      obtain ⟨rfl, Nq107, K107⟩ := hQ107
      have N113 := Fr.app N81 Nq107
      have Kc114 : Keep h0 T107.heap [] := Kc102.trans K107 (allS (Or.inr Sz95) all0)
      have Zs115 : n0 ≤ T107.heap.size := Nat.le_trans Zs103 K107.1
      obtain ⟨T118, h118, X118, e118, E118, A118, D118, -, st118⟩ := newO X107 hx hZ hown (hw _ (List.mem_of_getElem? (i := 50) rfl)) (hw _ (List.mem_of_getElem? (i := 51) rfl)) (hw _ (List.mem_of_getElem? (i := 52) rfl)) rfl (g := (mkF m 123 #[.val (.int p0), .val (.int p1), .val (.int p2), .val (.int p3), .val (.int (0 : Int32)), .val (.int ((p3 &&& (2147483647 : Int32)) % (3 : Int32))), .val (.ref b17), .val (.ref b51), .val (.ref b66), .val (.ref b87), .unset, .unset] [])) rfl (hb hby at_123) (by decide) (by decide)
      obtain ⟨b118, g118⟩ : ∃ z, z = T107.heap.size := ⟨_, rfl⟩
      rw [← g118] at A118 D118 st118
      have Fq120 : Exa Z T107.heap b17 "[C" := (((Fq89.ext E87).ext E101).keep K107)
      have Ne119 : b17 ≠ b118 := Nat.ne_of_lt (Nat.lt_of_lt_of_le Fq120.lt (Nat.le_of_eq g118.symm))
      have Fq122 : Exa Z T107.heap b51 "[C" := (((Fq91.ext E87).ext E101).keep K107)
      have Ne121 : b51 ≠ b118 := Nat.ne_of_lt (Nat.lt_of_lt_of_le Fq122.lt (Nat.le_of_eq g118.symm))
      have Fq124 : Exa Z T107.heap b66 "java/lang/String" := (((Fq93.ext E87).ext E101).keep K107)
      have Ne123 : b66 ≠ b118 := Nat.ne_of_lt (Nat.lt_of_lt_of_le Fq124.lt (Nat.le_of_eq g118.symm))
      have Fq126 : Exa Z T107.heap b87 "com/example/change_gatherer/changegatherer/model/DocumentVersion" := (Fq108.keep K107)
      have Ne125 : b87 ≠ b118 := Nat.ne_of_lt (Nat.lt_of_lt_of_le Fq126.lt (Nat.le_of_eq g118.symm))
      have Fq128 : Exa Z T107.heap b101 "java/lang/String" := (Ex101.keep K107)
      have Ne127 : b101 ≠ b118 := Nat.ne_of_lt (Nat.lt_of_lt_of_le Fq128.lt (Nat.le_of_eq g118.symm))
      have Ge129 : n0 ≤ b118 := Nat.le_trans Zs115 (Nat.le_of_eq g118.symm)
      have Sz130 : h0.size ≤ b118 := Nat.le_trans Kc114.1 (Nat.le_of_eq g118.symm)
      have Kc131 : Keep h0 h118 [] := Kc114.ext E118
      have Zs132 : n0 ≤ h118.size := (Nat.le_trans Zs115 E118.1)
      have F118_body : Fld Z h118 b118 "com/example/change_gatherer/changegatherer/io/FetchedDocument" "body" "Ljava/lang/String;" .null := D118 (Or.inr (hw _ (List.mem_of_getElem? (i := 58) rfl))) (ty := (.object "java/lang/String")) (by decide)
      have F118_version : Fld Z h118 b118 "com/example/change_gatherer/changegatherer/io/FetchedDocument" "version" "Lcom/example/change_gatherer/changegatherer/model/DocumentVersion;" .null := D118 (Or.inr (hw _ (List.mem_of_getElem? (i := 60) rfl))) (ty := (.object "com/example/change_gatherer/changegatherer/model/DocumentVersion")) (by decide)
      obtain ⟨_, _, ⟨T137, L137, k137, n137⟩, -, X137, ⟨Lc137, hQ137, l137, y137, z137⟩, st137⟩ := X118.specialBack hx (y := (⟨"com/example/change_gatherer/changegatherer/io/FetchedDocument", "<init>", "(Ljava/lang/String;Lcom/example/change_gatherer/changegatherer/model/DocumentVersion;)V"⟩ : MethodName)) rfl hown (mvT hZ (hw _ (List.mem_of_getElem? (i := 53) rfl))) (mvT hZ (hw _ (List.mem_of_getElem? (i := 54) rfl))) (mvT hZ (hw _ (List.mem_of_getElem? (i := 55) rfl))) (by decide) (backOf (W := 1) (own_fdR l Z a0 hw [] b118 b66 b87 .null .null h118 n0 Zs132 A118 F118_body F118_version Ge129) hZ (hw _ (List.mem_of_getElem? (i := 55) rfl)) (hw _ (List.mem_of_getElem? (i := 52) rfl)) (by decide) (by decide)) (g := (mkF m 131 #[.val (.int p0), .val (.int p1), .val (.int p2), .val (.int p3), .val (.int (0 : Int32)), .val (.int ((p3 &&& (2147483647 : Int32)) % (3 : Int32))), .val (.ref b17), .val (.ref b51), .val (.ref b66), .val (.ref b87), .unset, .unset] [(.ref b87), (.ref b66), (.ref b118), (.ref b118)])) rfl (by rw [hml]; rfl) (Steps.refl _) (a := b118) (argsL := [(.ref b66), (.ref b87)]) (rest := [(.ref b118)]) (lenOf own_pd10 rfl) rfl (by show 2 * 0 + _ ≤ _; exact Nat.le_of_eq rfl) (hb hby at_131) (fun _ _ => ⟨rfl, e118, (by decide : 11 + 0 ≤ _), (by decide : 39 + 0 ≤ _)⟩)
      dsimp only [Pt.U, Pt.locs, Pt.cells, Pt.slots] at X137 l137 y137 z137 st137 hQ137
      rw [l137, y137, z137] at X137
      obtain ⟨rfl, Nq137, K137, Pf137_0, Pf137_1⟩ := hQ137
      have N138 := Fr.app N113 Nq137
      have Kc139 : Keep h0 T137.heap [] := Kc131.trans K137 (allS (Or.inr Sz130) all0)
      have Zs140 : n0 ≤ T137.heap.size := Nat.le_trans Zs132 K137.1
      have Fq145 : Exa Z T137.heap b118 "com/example/change_gatherer/changegatherer/io/FetchedDocument" := (A118.keep K137)
      obtain ⟨cq144, kq144, q144a, q144b, q144c⟩ := isOf hZ rfl Fq145
      obtain ⟨_, _, ⟨T144, L144, k144, n144⟩, -, X144, ⟨Lc144, hQ144, l144, y144, z144⟩, st144⟩ := X137.virtualBack hx (y := (⟨"com/example/change_gatherer/changegatherer/io/FetchedDocument", "isModified", "()Z"⟩ : MethodName)) (z := (⟨"com/example/change_gatherer/changegatherer/io/FetchedDocument", "isModified", "()Z"⟩ : MethodName)) hown (mvT hZ (hw _ (List.mem_of_getElem? (i := 61) rfl))) (mvT hZ (hw _ (List.mem_of_getElem? (i := 62) rfl))) (notFace_of_selects (args := #[]) (mvT hZ (hw _ (List.mem_of_getElem? (i := 64) rfl)))) (mvT hZ (hw _ (List.mem_of_getElem? (i := 64) rfl))) (mvT hZ (hw _ (List.mem_of_getElem? (i := 63) rfl))) (by decide) (backOf (W := 0) (own_imR l Z a0 hw [] b118 b66 T137.heap n0 Zs140 Fq145 Pf137_0) hZ (hw _ (List.mem_of_getElem? (i := 65) rfl)) (hw _ (List.mem_of_getElem? (i := 52) rfl)) (by decide) (by decide)) q144a q144c (g := (mkF m 138 #[.val (.int p0), .val (.int p1), .val (.int p2), .val (.int p3), .val (.int (0 : Int32)), .val (.int ((p3 &&& (2147483647 : Int32)) % (3 : Int32))), .val (.ref b17), .val (.ref b51), .val (.ref b66), .val (.ref b87), .val (.ref b118), .unset] [(.ref b118)])) rfl (by rw [hml]; rfl) (Steps.refl _) (argsL := []) (rest := []) (lenOf own_pd11 rfl) rfl (by show 2 * 0 + _ ≤ _; exact Nat.le_of_eq rfl) (hb hby at_138) (fun _ _ => ⟨rfl, rfl, (by decide : 11 + 0 ≤ _), (by decide : 39 + 0 ≤ _)⟩)
      dsimp only [Pt.U, Pt.locs, Pt.cells, Pt.slots] at X144 l144 y144 z144 st144 hQ144
      rw [l144, y144, z144] at X144
      obtain ⟨rfl, Nq144, eh144⟩ := hQ144
      have N146 := Fr.app N138 Nq144
      obtain ⟨cq154, kq154, q154a, q154b, q154c⟩ := isOf hZ eh144 Fq145
      obtain ⟨_, _, ⟨T154, L154, k154, n154⟩, -, X154, ⟨Lc154, hQ154, l154, y154, z154⟩, st154⟩ := X144.virtualBack hx (y := (⟨"com/example/change_gatherer/changegatherer/io/FetchedDocument", "getBody", "()Ljava/lang/String;"⟩ : MethodName)) (z := (⟨"com/example/change_gatherer/changegatherer/io/FetchedDocument", "getBody", "()Ljava/lang/String;"⟩ : MethodName)) hown (mvT hZ (hw _ (List.mem_of_getElem? (i := 66) rfl))) (mvT hZ (hw _ (List.mem_of_getElem? (i := 67) rfl))) (notFace_of_selects (args := #[]) (mvT hZ (hw _ (List.mem_of_getElem? (i := 69) rfl)))) (mvT hZ (hw _ (List.mem_of_getElem? (i := 69) rfl))) (mvT hZ (hw _ (List.mem_of_getElem? (i := 68) rfl))) (by decide) (backOf (W := 0) (own_gbR l Z a0 hw [] b118 b66 T137.heap n0 Zs140 Fq145 Pf137_0) hZ (hw _ (List.mem_of_getElem? (i := 70) rfl)) (hw _ (List.mem_of_getElem? (i := 52) rfl)) (by decide) (by decide)) q154a q154c (g := (mkF m 184 #[.val (.int p0), .val (.int p1), .val (.int p2), .val (.int p3), .val (.int (0 : Int32)), .val (.int ((p3 &&& (2147483647 : Int32)) % (3 : Int32))), .val (.ref b17), .val (.ref b51), .val (.ref b66), .val (.ref b87), .val (.ref b118), .val (.int (1 : Int32))] [(.ref b118)])) rfl (by rw [hml]; rfl) (Steps.refl _) (argsL := []) (rest := []) (lenOf own_pd12 rfl) rfl (by show 2 * 0 + _ ≤ _; exact Nat.le_of_eq rfl) (hb hby at_184) (fun _ _ => ⟨rfl, eh144, (by decide : 11 + 0 ≤ _), (by decide : 39 + 0 ≤ _)⟩)
      dsimp only [Pt.U, Pt.locs, Pt.cells, Pt.slots] at X154 l154 y154 z154 st154 hQ154
      rw [l154, y154, z154] at X154
      obtain ⟨rfl, Nq154, eh154⟩ := hQ154
      have N155 := Fr.app N146 Nq154
      obtain ⟨cq160, kq160, q160a, q160b, q160c⟩ := isOf hZ eh154 Fq145
      obtain ⟨_, _, ⟨T160, L160, k160, n160⟩, -, X160, ⟨Lc160, hQ160, l160, y160, z160⟩, st160⟩ := X154.virtualBack hx (y := (⟨"com/example/change_gatherer/changegatherer/io/FetchedDocument", "getVersion", "()Lcom/example/change_gatherer/changegatherer/model/DocumentVersion;"⟩ : MethodName)) (z := (⟨"com/example/change_gatherer/changegatherer/io/FetchedDocument", "getVersion", "()Lcom/example/change_gatherer/changegatherer/model/DocumentVersion;"⟩ : MethodName)) hown (mvT hZ (hw _ (List.mem_of_getElem? (i := 71) rfl))) (mvT hZ (hw _ (List.mem_of_getElem? (i := 72) rfl))) (notFace_of_selects (args := #[]) (mvT hZ (hw _ (List.mem_of_getElem? (i := 74) rfl)))) (mvT hZ (hw _ (List.mem_of_getElem? (i := 74) rfl))) (mvT hZ (hw _ (List.mem_of_getElem? (i := 73) rfl))) (by decide) (backOf (W := 0) (own_gv l Z a0 hw [] b118 b87 T137.heap n0 Zs140 Fq145 Pf137_1) hZ (hw _ (List.mem_of_getElem? (i := 75) rfl)) (hw _ (List.mem_of_getElem? (i := 52) rfl)) (by decide) (by decide)) q160a q160c (g := (mkF m 194 #[.val (.int p0), .val (.int p1), .val (.int p2), .val (.int p3), .val (.int (0 : Int32)), .val (.int ((p3 &&& (2147483647 : Int32)) % (3 : Int32))), .val (.ref b17), .val (.ref b51), .val (.ref b66), .val (.ref b87), .val (.ref b118), .val (.int (1 : Int32))] [(.ref b118)])) rfl (by rw [hml]; rfl) (Steps.refl _) (argsL := []) (rest := []) (lenOf own_pd13 rfl) rfl (by show 2 * 0 + _ ≤ _; exact Nat.le_of_eq rfl) (hb hby at_194) (fun _ _ => ⟨rfl, eh154, (by decide : 11 + 0 ≤ _), (by decide : 39 + 0 ≤ _)⟩)
      dsimp only [Pt.U, Pt.locs, Pt.cells, Pt.slots] at X160 l160 y160 z160 st160 hQ160
      rw [l160, y160, z160] at X160
      obtain ⟨rfl, Nq160, eh160⟩ := hQ160
      have N161 := Fr.app N155 Nq160
      obtain ⟨fs, hr, hrun, hended, hR1, hR2, hR3, hR4⟩ := leaveW (s := s) (vm₁ := T107.vm) X160 Si107 (show _ ≤ T160.heap.size by rw [eh160]; exact (Nat.le_trans (Nat.le_trans (Nat.le_refl _) E118.1) K137.1)) (v := some (.int (1 : Int32))) (fun h => by rw [Bd.returns] at h; cases h) (hlocks := BodyLoose.notSynchronized Bd)
      refine ⟨_, _, pre112 _ ?_, hrun, hended, _, _, rfl, ?_, hR1, hR2, hR3, hR4.mono (by decide) (by decide)⟩
      · refine st107.trans ?_
        show Steps p.tables e below (T107.setTop (mkF m 121 #[.val (.int p0), .val (.int p1), .val (.int p2), .val (.int p3), .val (.int (0 : Int32)), .val (.int ((p3 &&& (2147483647 : Int32)) % (3 : Int32))), .val (.ref b17), .val (.ref b51), .val (.ref b66), .unset, .unset, .unset] [(.ref b87)])) _
        refine XS.astore X107.here hx rfl (hb hby at_121) rfl rfl (l' := #[.val (.int p0), .val (.int p1), .val (.int p2), .val (.int p3), .val (.int (0 : Int32)), .val (.int ((p3 &&& (2147483647 : Int32)) % (3 : Int32))), .val (.ref b17), .val (.ref b51), .val (.ref b66), .val (.ref b87), .unset, .unset]) rfl ?_
        show Steps p.tables e below (T107.setTop (mkF m 123 #[.val (.int p0), .val (.int p1), .val (.int p2), .val (.int p3), .val (.int (0 : Int32)), .val (.int ((p3 &&& (2147483647 : Int32)) % (3 : Int32))), .val (.ref b17), .val (.ref b51), .val (.ref b66), .val (.ref b87), .unset, .unset] [])) _
        refine st118 _ ?_
        show Steps p.tables e below (T118.setTop (mkF m 126 #[.val (.int p0), .val (.int p1), .val (.int p2), .val (.int p3), .val (.int (0 : Int32)), .val (.int ((p3 &&& (2147483647 : Int32)) % (3 : Int32))), .val (.ref b17), .val (.ref b51), .val (.ref b66), .val (.ref b87), .unset, .unset] [(.ref b118)])) _
        refine XS.dup X118.here hx rfl (hb hby at_126) rfl rfl ?_
        show Steps p.tables e below (T118.setTop (mkF m 127 #[.val (.int p0), .val (.int p1), .val (.int p2), .val (.int p3), .val (.int (0 : Int32)), .val (.int ((p3 &&& (2147483647 : Int32)) % (3 : Int32))), .val (.ref b17), .val (.ref b51), .val (.ref b66), .val (.ref b87), .unset, .unset] [(.ref b118), (.ref b118)])) _
        refine XS.aload X118.here hx rfl (hb hby at_127) rfl rfl ?_
        show Steps p.tables e below (T118.setTop (mkF m 129 #[.val (.int p0), .val (.int p1), .val (.int p2), .val (.int p3), .val (.int (0 : Int32)), .val (.int ((p3 &&& (2147483647 : Int32)) % (3 : Int32))), .val (.ref b17), .val (.ref b51), .val (.ref b66), .val (.ref b87), .unset, .unset] [(.ref b66), (.ref b118), (.ref b118)])) _
        refine XS.aload X118.here hx rfl (hb hby at_129) rfl rfl ?_
        show Steps p.tables e below (T118.setTop (mkF m 131 #[.val (.int p0), .val (.int p1), .val (.int p2), .val (.int p3), .val (.int (0 : Int32)), .val (.int ((p3 &&& (2147483647 : Int32)) % (3 : Int32))), .val (.ref b17), .val (.ref b51), .val (.ref b66), .val (.ref b87), .unset, .unset] [(.ref b87), (.ref b66), (.ref b118), (.ref b118)])) _
        refine st137.trans ?_
        show Steps p.tables e below (T137.setTop (mkF m 134 #[.val (.int p0), .val (.int p1), .val (.int p2), .val (.int p3), .val (.int (0 : Int32)), .val (.int ((p3 &&& (2147483647 : Int32)) % (3 : Int32))), .val (.ref b17), .val (.ref b51), .val (.ref b66), .val (.ref b87), .unset, .unset] [(.ref b118)])) _
        refine XS.astore X137.here hx rfl (hb hby at_134) rfl rfl (l' := #[.val (.int p0), .val (.int p1), .val (.int p2), .val (.int p3), .val (.int (0 : Int32)), .val (.int ((p3 &&& (2147483647 : Int32)) % (3 : Int32))), .val (.ref b17), .val (.ref b51), .val (.ref b66), .val (.ref b87), .val (.ref b118), .unset]) rfl ?_
        show Steps p.tables e below (T137.setTop (mkF m 136 #[.val (.int p0), .val (.int p1), .val (.int p2), .val (.int p3), .val (.int (0 : Int32)), .val (.int ((p3 &&& (2147483647 : Int32)) % (3 : Int32))), .val (.ref b17), .val (.ref b51), .val (.ref b66), .val (.ref b87), .val (.ref b118), .unset] [])) _
        refine XS.aload X137.here hx rfl (hb hby at_136) rfl rfl ?_
        show Steps p.tables e below (T137.setTop (mkF m 138 #[.val (.int p0), .val (.int p1), .val (.int p2), .val (.int p3), .val (.int (0 : Int32)), .val (.int ((p3 &&& (2147483647 : Int32)) % (3 : Int32))), .val (.ref b17), .val (.ref b51), .val (.ref b66), .val (.ref b87), .val (.ref b118), .unset] [(.ref b118)])) _
        refine st144.trans ?_
        show Steps p.tables e below (T144.setTop (mkF m 141 #[.val (.int p0), .val (.int p1), .val (.int p2), .val (.int p3), .val (.int (0 : Int32)), .val (.int ((p3 &&& (2147483647 : Int32)) % (3 : Int32))), .val (.ref b17), .val (.ref b51), .val (.ref b66), .val (.ref b87), .val (.ref b118), .unset] [(.int (1 : Int32))])) _
        refine XS.istore X144.here hx rfl (hb hby at_141) rfl (l' := #[.val (.int p0), .val (.int p1), .val (.int p2), .val (.int p3), .val (.int (0 : Int32)), .val (.int ((p3 &&& (2147483647 : Int32)) % (3 : Int32))), .val (.ref b17), .val (.ref b51), .val (.ref b66), .val (.ref b87), .val (.ref b118), .val (.int (1 : Int32))]) rfl ?_
        show Steps p.tables e below (T144.setTop (mkF m 143 #[.val (.int p0), .val (.int p1), .val (.int p2), .val (.int p3), .val (.int (0 : Int32)), .val (.int ((p3 &&& (2147483647 : Int32)) % (3 : Int32))), .val (.ref b17), .val (.ref b51), .val (.ref b66), .val (.ref b87), .val (.ref b118), .val (.int (1 : Int32))] [])) _
        refine XS.iload X144.here hx rfl (hb hby at_143) rfl ?_
        show Steps p.tables e below (T144.setTop (mkF m 145 #[.val (.int p0), .val (.int p1), .val (.int p2), .val (.int p3), .val (.int (0 : Int32)), .val (.int ((p3 &&& (2147483647 : Int32)) % (3 : Int32))), .val (.ref b17), .val (.ref b51), .val (.ref b66), .val (.ref b87), .val (.ref b118), .val (.int (1 : Int32))] [(.int (0 : Int32))])) _
        refine XS.ifYes X144.here hx rfl (pc0 := 145) (pc' := 177) rfl (hb hby at_145) rfl ((if0 _ _).trans (teq ((by decide) : (0 : Int32) = (0 : Int32))).1) (by decide) (by decide) ?_
        show Steps p.tables e below (T144.setTop (mkF m 177 #[.val (.int p0), .val (.int p1), .val (.int p2), .val (.int p3), .val (.int (0 : Int32)), .val (.int ((p3 &&& (2147483647 : Int32)) % (3 : Int32))), .val (.ref b17), .val (.ref b51), .val (.ref b66), .val (.ref b87), .val (.ref b118), .val (.int (1 : Int32))] [])) _
        refine XS.iload X144.here hx rfl (hb hby at_177) rfl ?_
        show Steps p.tables e below (T144.setTop (mkF m 179 #[.val (.int p0), .val (.int p1), .val (.int p2), .val (.int p3), .val (.int (0 : Int32)), .val (.int ((p3 &&& (2147483647 : Int32)) % (3 : Int32))), .val (.ref b17), .val (.ref b51), .val (.ref b66), .val (.ref b87), .val (.ref b118), .val (.int (1 : Int32))] [(.int (1 : Int32))])) _
        refine XS.ifNo X144.here hx rfl (hb hby at_179) rfl ((if0 _ _).trans (feq ((by decide) : ¬ ((1 : Int32) = (0 : Int32)))).1) ?_
        show Steps p.tables e below (T144.setTop (mkF m 182 #[.val (.int p0), .val (.int p1), .val (.int p2), .val (.int p3), .val (.int (0 : Int32)), .val (.int ((p3 &&& (2147483647 : Int32)) % (3 : Int32))), .val (.ref b17), .val (.ref b51), .val (.ref b66), .val (.ref b87), .val (.ref b118), .val (.int (1 : Int32))] [])) _
        refine XS.aload X144.here hx rfl (hb hby at_182) rfl rfl ?_
        show Steps p.tables e below (T144.setTop (mkF m 184 #[.val (.int p0), .val (.int p1), .val (.int p2), .val (.int p3), .val (.int (0 : Int32)), .val (.int ((p3 &&& (2147483647 : Int32)) % (3 : Int32))), .val (.ref b17), .val (.ref b51), .val (.ref b66), .val (.ref b87), .val (.ref b118), .val (.int (1 : Int32))] [(.ref b118)])) _
        refine st154.trans ?_
        show Steps p.tables e below (T154.setTop (mkF m 187 #[.val (.int p0), .val (.int p1), .val (.int p2), .val (.int p3), .val (.int (0 : Int32)), .val (.int ((p3 &&& (2147483647 : Int32)) % (3 : Int32))), .val (.ref b17), .val (.ref b51), .val (.ref b66), .val (.ref b87), .val (.ref b118), .val (.int (1 : Int32))] [(.ref b66)])) _
        refine XS.aload X154.here hx rfl (hb hby at_187) rfl rfl ?_
        show Steps p.tables e below (T154.setTop (mkF m 189 #[.val (.int p0), .val (.int p1), .val (.int p2), .val (.int p3), .val (.int (0 : Int32)), .val (.int ((p3 &&& (2147483647 : Int32)) % (3 : Int32))), .val (.ref b17), .val (.ref b51), .val (.ref b66), .val (.ref b87), .val (.ref b118), .val (.int (1 : Int32))] [(.ref b66), (.ref b66)])) _
        refine Jvm.RoadKit.acmp (g := (mkF m 189 #[.val (.int p0), .val (.int p1), .val (.int p2), .val (.int p3), .val (.int (0 : Int32)), .val (.int ((p3 &&& (2147483647 : Int32)) % (3 : Int32))), .val (.ref b17), .val (.ref b51), .val (.ref b66), .val (.ref b87), .val (.ref b118), .val (.int (1 : Int32))] [(.ref b66), (.ref b66)])) X154 hx rfl rfl rfl (pc0 := 189) (pc' := 192) (same := true) rfl (hb hby at_189) rfl (decide_eq_true rfl) (by decide) (by decide) ?_
        show Steps p.tables e below (T154.setTop (mkF m 192 #[.val (.int p0), .val (.int p1), .val (.int p2), .val (.int p3), .val (.int (0 : Int32)), .val (.int ((p3 &&& (2147483647 : Int32)) % (3 : Int32))), .val (.ref b17), .val (.ref b51), .val (.ref b66), .val (.ref b87), .val (.ref b118), .val (.int (1 : Int32))] [])) _
        refine XS.aload X154.here hx rfl (hb hby at_192) rfl rfl ?_
        show Steps p.tables e below (T154.setTop (mkF m 194 #[.val (.int p0), .val (.int p1), .val (.int p2), .val (.int p3), .val (.int (0 : Int32)), .val (.int ((p3 &&& (2147483647 : Int32)) % (3 : Int32))), .val (.ref b17), .val (.ref b51), .val (.ref b66), .val (.ref b87), .val (.ref b118), .val (.int (1 : Int32))] [(.ref b118)])) _
        refine st160.trans ?_
        show Steps p.tables e below (T160.setTop (mkF m 197 #[.val (.int p0), .val (.int p1), .val (.int p2), .val (.int p3), .val (.int (0 : Int32)), .val (.int ((p3 &&& (2147483647 : Int32)) % (3 : Int32))), .val (.ref b17), .val (.ref b51), .val (.ref b66), .val (.ref b87), .val (.ref b118), .val (.int (1 : Int32))] [(.ref b87)])) _
        refine XS.aload X160.here hx rfl (hb hby at_197) rfl rfl ?_
        show Steps p.tables e below (T160.setTop (mkF m 199 #[.val (.int p0), .val (.int p1), .val (.int p2), .val (.int p3), .val (.int (0 : Int32)), .val (.int ((p3 &&& (2147483647 : Int32)) % (3 : Int32))), .val (.ref b17), .val (.ref b51), .val (.ref b66), .val (.ref b87), .val (.ref b118), .val (.int (1 : Int32))] [(.ref b87), (.ref b87)])) _
        refine Jvm.RoadKit.acmp (g := (mkF m 199 #[.val (.int p0), .val (.int p1), .val (.int p2), .val (.int p3), .val (.int (0 : Int32)), .val (.int ((p3 &&& (2147483647 : Int32)) % (3 : Int32))), .val (.ref b17), .val (.ref b51), .val (.ref b66), .val (.ref b87), .val (.ref b118), .val (.int (1 : Int32))] [(.ref b87), (.ref b87)])) X160 hx rfl rfl rfl (pc0 := 199) (pc' := 202) (same := true) rfl (hb hby at_199) rfl (decide_eq_true rfl) (by decide) (by decide) ?_
        show Steps p.tables e below (T160.setTop (mkF m 202 #[.val (.int p0), .val (.int p1), .val (.int p2), .val (.int p3), .val (.int (0 : Int32)), .val (.int ((p3 &&& (2147483647 : Int32)) % (3 : Int32))), .val (.ref b17), .val (.ref b51), .val (.ref b66), .val (.ref b87), .val (.ref b118), .val (.int (1 : Int32))] [])) _
        refine XS.iconst X160.here hx rfl (hb hby at_202) ?_
        show Steps p.tables e below (T160.setTop (mkF m 203 #[.val (.int p0), .val (.int p1), .val (.int p2), .val (.int p3), .val (.int (0 : Int32)), .val (.int ((p3 &&& (2147483647 : Int32)) % (3 : Int32))), .val (.ref b17), .val (.ref b51), .val (.ref b66), .val (.ref b87), .val (.ref b118), .val (.int (1 : Int32))] [(.int (1 : Int32))])) _
        refine XS.goto X160.here hx rfl (pc0 := 203) (pc' := 207) rfl (hb hby at_203) (by decide) (by decide) ?_
        show Steps p.tables e below (T160.setTop (mkF m 207 #[.val (.int p0), .val (.int p1), .val (.int p2), .val (.int p3), .val (.int (0 : Int32)), .val (.int ((p3 &&& (2147483647 : Int32)) % (3 : Int32))), .val (.ref b17), .val (.ref b51), .val (.ref b66), .val (.ref b87), .val (.ref b118), .val (.int (1 : Int32))] [(.int (1 : Int32))])) _
        exact retN X160 hx (t := .boolean) Bd.returns (by simp) (hb hby at_207) hr
      · show Qown_law Z p0 p1 p2 p3 cs h0 n0 _ T160.heap _
        rw [eh160]
        exact ⟨rfl, N161⟩
    · have pre170 : ∀ t, Steps p.tables e below (T51.setTop (mkF m 84 #[.val (.int p0), .val (.int p1), .val (.int p2), .val (.int p3), .val (.int (0 : Int32)), .val (.int ((p3 &&& (2147483647 : Int32)) % (3 : Int32))), .val (.ref b17), .val (.ref b51), .unset, .unset, .unset, .unset] [(.int (1 : Int32)), (.int ((p3 &&& (2147483647 : Int32)) % (3 : Int32)))])) t → Steps p.tables e below (s₁.setTop (entryFrame m #[(.int p0), (.int p1), (.int p2), (.int p3)] maxLocals)) t := by
        intro t kt
        refine pre63 _ ?_
        show Steps p.tables e below (T51.setTop (mkF m 64 #[.val (.int p0), .val (.int p1), .val (.int p2), .val (.int p3), .val (.int (0 : Int32)), .val (.int ((p3 &&& (2147483647 : Int32)) % (3 : Int32))), .val (.ref b17), .val (.ref b51), .unset, .unset, .unset, .unset] [(.int ((p3 &&& (2147483647 : Int32)) % (3 : Int32)))])) _
        refine XS.ifYes X51.here hx rfl (pc0 := 64) (pc' := 81) rfl (hb hby at_64) rfl ((if0 _ _).trans (feq hc64_64).2) (by decide) (by decide) ?_
        show Steps p.tables e below (T51.setTop (mkF m 81 #[.val (.int p0), .val (.int p1), .val (.int p2), .val (.int p3), .val (.int (0 : Int32)), .val (.int ((p3 &&& (2147483647 : Int32)) % (3 : Int32))), .val (.ref b17), .val (.ref b51), .unset, .unset, .unset, .unset] [])) _
        refine XS.iload X51.here hx rfl (hb hby at_81) rfl ?_
        show Steps p.tables e below (T51.setTop (mkF m 83 #[.val (.int p0), .val (.int p1), .val (.int p2), .val (.int p3), .val (.int (0 : Int32)), .val (.int ((p3 &&& (2147483647 : Int32)) % (3 : Int32))), .val (.ref b17), .val (.ref b51), .unset, .unset, .unset, .unset] [(.int ((p3 &&& (2147483647 : Int32)) % (3 : Int32)))])) _
        refine XS.iconst X51.here hx rfl (hb hby at_83) ?_
        exact kt
      by_cases hc84_171 : ((p3 &&& (2147483647 : Int32)) % (3 : Int32)) = (1 : Int32)
      · have Fq175 : Arv Z h51 b17 k17 .char (2 : Int32) [(.int (nar .char ((p1 &&& (255 : Int32)).toUInt32.toUInt16.toUInt32.toInt32))), (.int (nar .char ((p2 &&& (255 : Int32)).toUInt32.toUInt16.toUInt32.toInt32)))] (.int (0 : Int32)) := (Vm45.ext E51)
        obtain ⟨cl176, Ar176, q176, S176, M176, H176, G176⟩ := id Fq175
        have hin176 : ¬ ((0 : Int32) < 0 ∨ cl176.slots.size ≤ ((0 : Int32)).toNatClampNeg) := inb_of S176 ⟨by decide, by decide⟩
        have hat176 : cl176.slots[((0 : Int32)).toNatClampNeg]? = some (.int (nar .char ((p1 &&& (255 : Int32)).toUInt32.toUInt16.toUInt32.toInt32))) := H176.at hin176 rfl
        have Fq179 : Old Z n0 h51 := ((((hO.ext E17).wr W31 Ge18).wr W44 Ge18).ext E51)
        obtain ⟨_, _, ⟨T178, L178, k178, n178⟩, -, X178, ⟨Lc178, hQ178, l178, y178, z178⟩, st178⟩ := Jvm.LawKit.callS X51 hx (y := (⟨"java/lang/String", "valueOf", "(C)Ljava/lang/String;"⟩ : MethodName)) hown (mvT hZ (hw _ (List.mem_of_getElem? (i := 2) rfl))) (mvT hZ (hw _ (List.mem_of_getElem? (i := 3) rfl))) (mvT hZ (hw _ (List.mem_of_getElem? (i := 4) rfl))) (mvT hZ (hw _ (List.mem_of_getElem? (i := 5) rfl))) (by decide) (backOf (W := 0) (own_valueOf l Z a0 hw [] (nar .char ((p1 &&& (255 : Int32)).toUInt32.toUInt16.toUInt32.toInt32)) cs h51 n0 Zs57 hS Fq179 hcs (own_le255 _)) hZ (hw _ (List.mem_of_getElem? (i := 5) rfl)) (hw _ (List.mem_of_getElem? (i := 4) rfl)) (by decide) (by decide)) (g := (mkF m 91 #[.val (.int p0), .val (.int p1), .val (.int p2), .val (.int p3), .val (.int (0 : Int32)), .val (.int ((p3 &&& (2147483647 : Int32)) % (3 : Int32))), .val (.ref b17), .val (.ref b51), .unset, .unset, .unset, .unset] [(.int (nar .char ((p1 &&& (255 : Int32)).toUInt32.toUInt16.toUInt32.toInt32)))])) rfl (by rw [hml]; rfl) (argsL := [(.int (nar .char ((p1 &&& (255 : Int32)).toUInt32.toUInt16.toUInt32.toInt32)))]) (rest := []) (lenOf own_pd14 rfl) rfl (by show 2 * 0 + _ ≤ _; exact Nat.le_of_eq rfl) (hb hby at_91) (fun _ _ => ⟨rfl, e51, (by decide : 2 + 2 ≤ _), (by decide : 2 + 5 ≤ _)⟩)
        dsimp only [Pt.U, Pt.locs, Pt.cells, Pt.slots] at X178 l178 y178 z178 st178 hQ178
        rw [l178, y178, z178] at X178
        obtain ⟨r_o_178, rfl, Nq178, sz178_r_o, K178⟩ := hQ178
        have N180 := Fr.app N48 Nq178
        have Fq182 : Exa Z h51 b17 "[C" := (Fq53.ext E51)
        have Ne181 : b17 ≠ r_o_178 := Nat.ne_of_lt (Nat.lt_of_lt_of_le Fq182.lt sz178_r_o)
        have Ne183 : b51 ≠ r_o_178 := Nat.ne_of_lt (Nat.lt_of_lt_of_le Y51.lt sz178_r_o)
        have Ge184 : n0 ≤ r_o_178 := Nat.le_trans Zs57 sz178_r_o
        have Sz185 : h0.size ≤ r_o_178 := Nat.le_trans Kc56.1 sz178_r_o
        have Kc186 : Keep h0 T178.heap [] := Kc56.trans K178 all0
        have Zs187 : n0 ≤ T178.heap.size := Nat.le_trans Zs57 K178.1
        obtain ⟨T191, h191, X191, e191, E191, A191, D191, -, st191⟩ := newO X178 hx hZ hown (hw _ (List.mem_of_getElem? (i := 28) rfl)) (hw _ (List.mem_of_getElem? (i := 29) rfl)) (hw _ (List.mem_of_getElem? (i := 30) rfl)) rfl (g := (mkF m 110 #[.val (.int p0), .val (.int p1), .val (.int p2), .val (.int p3), .val (.int (0 : Int32)), .val (.int ((p3 &&& (2147483647 : Int32)) % (3 : Int32))), .val (.ref b17), .val (.ref b51), .val (.ref r_o_178), .unset, .unset, .unset] [])) rfl (hb hby at_110) (by decide) (by decide)
        obtain ⟨b191, g191⟩ : ∃ z, z = T178.heap.size := ⟨_, rfl⟩
        rw [← g191] at A191 D191 st191
        have Fq193 : Exa Z T178.heap b17 "[C" := (Fq182.keep K178)
        have Ne192 : b17 ≠ b191 := Nat.ne_of_lt (Nat.lt_of_lt_of_le Fq193.lt (Nat.le_of_eq g191.symm))
        have Fq195 : Exa Z T178.heap b51 "[C" := (Y51.keep K178)
        have Ne194 : b51 ≠ b191 := Nat.ne_of_lt (Nat.lt_of_lt_of_le Fq195.lt (Nat.le_of_eq g191.symm))
        have Ge196 : n0 ≤ b191 := Nat.le_trans Zs187 (Nat.le_of_eq g191.symm)
        have Sz197 : h0.size ≤ b191 := Nat.le_trans Kc186.1 (Nat.le_of_eq g191.symm)
        have Kc198 : Keep h0 h191 [] := Kc186.ext E191
        have Zs199 : n0 ≤ h191.size := (Nat.le_trans Zs187 E191.1)
        have F191_url : Fld Z h191 b191 "com/example/change_gatherer/changegatherer/model/DocumentVersion" "url" "Ljava/lang/String;" .null := D191 (Or.inr (hw _ (List.mem_of_getElem? (i := 45) rfl))) (ty := (.object "java/lang/String")) (by decide)
        have F191_entityTag : Fld Z h191 b191 "com/example/change_gatherer/changegatherer/model/DocumentVersion" "entityTag" "Ljava/lang/String;" .null := D191 (Or.inr (hw _ (List.mem_of_getElem? (i := 47) rfl))) (ty := (.object "java/lang/String")) (by decide)
        have F191_lastModified : Fld Z h191 b191 "com/example/change_gatherer/changegatherer/model/DocumentVersion" "lastModified" "Ljava/lang/String;" .null := D191 (Or.inr (hw _ (List.mem_of_getElem? (i := 49) rfl))) (ty := (.object "java/lang/String")) (by decide)
        have pre202 : ∀ t, Steps p.tables e below (T191.setTop (mkF m 114 #[.val (.int p0), .val (.int p1), .val (.int p2), .val (.int p3), .val (.int (0 : Int32)), .val (.int ((p3 &&& (2147483647 : Int32)) % (3 : Int32))), .val (.ref b17), .val (.ref b51), .val (.ref r_o_178), .unset, .unset, .unset] [(.ref b191), (.ref b191)])) t → Steps p.tables e below (s₁.setTop (entryFrame m #[(.int p0), (.int p1), (.int p2), (.int p3)] maxLocals)) t := by
          intro t kt
          refine pre170 _ ?_
          show Steps p.tables e below (T51.setTop (mkF m 84 #[.val (.int p0), .val (.int p1), .val (.int p2), .val (.int p3), .val (.int (0 : Int32)), .val (.int ((p3 &&& (2147483647 : Int32)) % (3 : Int32))), .val (.ref b17), .val (.ref b51), .unset, .unset, .unset, .unset] [(.int (1 : Int32)), (.int ((p3 &&& (2147483647 : Int32)) % (3 : Int32)))])) _
          refine XS.icmpNo X51.here hx rfl (hb hby at_84) rfl (teq hc84_171).2 ?_
          show Steps p.tables e below (T51.setTop (mkF m 87 #[.val (.int p0), .val (.int p1), .val (.int p2), .val (.int p3), .val (.int (0 : Int32)), .val (.int ((p3 &&& (2147483647 : Int32)) % (3 : Int32))), .val (.ref b17), .val (.ref b51), .unset, .unset, .unset, .unset] [])) _
          refine XS.aload X51.here hx rfl (hb hby at_87) rfl rfl ?_
          show Steps p.tables e below (T51.setTop (mkF m 89 #[.val (.int p0), .val (.int p1), .val (.int p2), .val (.int p3), .val (.int (0 : Int32)), .val (.int ((p3 &&& (2147483647 : Int32)) % (3 : Int32))), .val (.ref b17), .val (.ref b51), .unset, .unset, .unset, .unset] [(.ref b17)])) _
          refine XS.iconst X51.here hx rfl (hb hby at_89) ?_
          show Steps p.tables e below (T51.setTop (mkF m 90 #[.val (.int p0), .val (.int p1), .val (.int p2), .val (.int p3), .val (.int (0 : Int32)), .val (.int ((p3 &&& (2147483647 : Int32)) % (3 : Int32))), .val (.ref b17), .val (.ref b51), .unset, .unset, .unset, .unset] [(.int (0 : Int32)), (.ref b17)])) _
          refine X51.caload hx (j := (0 : Int32)) (v := (.int (nar .char ((p1 &&& (255 : Int32)).toUInt32.toUInt16.toUInt32.toInt32)))) (by rw [e51]; exact Ar176.1) (State.isArrayOf_alike hZ.alike Ar176.2.1) Ar176.2.2 hin176 hat176 (g := (mkF m 90 #[.val (.int p0), .val (.int p1), .val (.int p2), .val (.int p3), .val (.int (0 : Int32)), .val (.int ((p3 &&& (2147483647 : Int32)) % (3 : Int32))), .val (.ref b17), .val (.ref b51), .unset, .unset, .unset, .unset] [(.int (0 : Int32)), (.ref b17)])) rfl rfl (hb hby at_90) _ ?_
          show Steps p.tables e below (T51.setTop (mkF m 91 #[.val (.int p0), .val (.int p1), .val (.int p2), .val (.int p3), .val (.int (0 : Int32)), .val (.int ((p3 &&& (2147483647 : Int32)) % (3 : Int32))), .val (.ref b17), .val (.ref b51), .unset, .unset, .unset, .unset] [(.int (nar .char ((p1 &&& (255 : Int32)).toUInt32.toUInt16.toUInt32.toInt32)))])) _
          refine st178 _ ?_
          show Steps p.tables e below (T178.setTop (mkF m 94 #[.val (.int p0), .val (.int p1), .val (.int p2), .val (.int p3), .val (.int (0 : Int32)), .val (.int ((p3 &&& (2147483647 : Int32)) % (3 : Int32))), .val (.ref b17), .val (.ref b51), .unset, .unset, .unset, .unset] [(.ref r_o_178)])) _
          refine XS.astore X178.here hx rfl (hb hby at_94) rfl rfl (l' := #[.val (.int p0), .val (.int p1), .val (.int p2), .val (.int p3), .val (.int (0 : Int32)), .val (.int ((p3 &&& (2147483647 : Int32)) % (3 : Int32))), .val (.ref b17), .val (.ref b51), .val (.ref r_o_178), .unset, .unset, .unset]) rfl ?_
          show Steps p.tables e below (T178.setTop (mkF m 96 #[.val (.int p0), .val (.int p1), .val (.int p2), .val (.int p3), .val (.int (0 : Int32)), .val (.int ((p3 &&& (2147483647 : Int32)) % (3 : Int32))), .val (.ref b17), .val (.ref b51), .val (.ref r_o_178), .unset, .unset, .unset] [])) _
          refine XS.goto X178.here hx rfl (pc0 := 96) (pc' := 110) rfl (hb hby at_96) (by decide) (by decide) ?_
          show Steps p.tables e below (T178.setTop (mkF m 110 #[.val (.int p0), .val (.int p1), .val (.int p2), .val (.int p3), .val (.int (0 : Int32)), .val (.int ((p3 &&& (2147483647 : Int32)) % (3 : Int32))), .val (.ref b17), .val (.ref b51), .val (.ref r_o_178), .unset, .unset, .unset] [])) _
          refine st191 _ ?_
          show Steps p.tables e below (T191.setTop (mkF m 113 #[.val (.int p0), .val (.int p1), .val (.int p2), .val (.int p3), .val (.int (0 : Int32)), .val (.int ((p3 &&& (2147483647 : Int32)) % (3 : Int32))), .val (.ref b17), .val (.ref b51), .val (.ref r_o_178), .unset, .unset, .unset] [(.ref b191)])) _
          refine XS.dup X191.here hx rfl (hb hby at_113) rfl rfl ?_
          show Steps p.tables e below (T191.setTop (mkF m 114 #[.val (.int p0), .val (.int p1), .val (.int p2), .val (.int p3), .val (.int (0 : Int32)), .val (.int ((p3 &&& (2147483647 : Int32)) % (3 : Int32))), .val (.ref b17), .val (.ref b51), .val (.ref r_o_178), .unset, .unset, .unset] [(.ref b191), (.ref b191)])) _
          exact kt
        obtain ⟨b203, T203, h203, ks203, bv203, kv203, X203, e203, E203, Si203, Sk203, hZ203, hown203, Ex203, Fc203, Fv203, Av203, la203, lb203, I203, Li203, st203⟩ := ldcSVL (s := s) (vm0 := s.vm) X191 hx hZ hown (hw _ (List.mem_of_getElem? (i := 31) rfl)) (own_satoms hw) e191 (own_since s 0) (Nat.zero_le _) (by rw [hh, ← hn0]; exact N180) (by rw [hh]; exact hO.2.2) hI (by decide) hk_u hcw (vs := [(.int (117 : Int32))]) (z := (1 : Int32)) (by decide) (by decide) (by decide) (g := (mkF m 114 #[.val (.int p0), .val (.int p1), .val (.int p2), .val (.int p3), .val (.int (0 : Int32)), .val (.int ((p3 &&& (2147483647 : Int32)) % (3 : Int32))), .val (.ref b17), .val (.ref b51), .val (.ref r_o_178), .unset, .unset, .unset] [(.ref b191), (.ref b191)])) rfl (hb hby at_114) (n := 4) (by decide) (by decide) (by decide) (by decide)
        have hZ := hZ203
        have hown := hown203
        have Kc204 : Keep h0 h203 [] := Kc198.ext E203
        have Zs205 : n0 ≤ h203.size := (Nat.le_trans Zs199 E203.1)
        have Fq210 : Exa Z h203 b191 "com/example/change_gatherer/changegatherer/model/DocumentVersion" := (A191.ext E203)
        have Fq211 : Fld Z h203 b191 "com/example/change_gatherer/changegatherer/model/DocumentVersion" "url" "Ljava/lang/String;" .null := (F191_url.ext E203)
        have Fq212 : Fld Z h203 b191 "com/example/change_gatherer/changegatherer/model/DocumentVersion" "entityTag" "Ljava/lang/String;" .null := (F191_entityTag.ext E203)
        have Fq213 : Fld Z h203 b191 "com/example/change_gatherer/changegatherer/model/DocumentVersion" "lastModified" "Ljava/lang/String;" .null := (F191_lastModified.ext E203)
        have pre214 : ∀ t, Steps p.tables e below (T203.setTop (mkF m 118 #[.val (.int p0), .val (.int p1), .val (.int p2), .val (.int p3), .val (.int (0 : Int32)), .val (.int ((p3 &&& (2147483647 : Int32)) % (3 : Int32))), .val (.ref b17), .val (.ref b51), .val (.ref r_o_178), .unset, .unset, .unset] [.null, .null, (.ref b203), (.ref b191), (.ref b191)])) t → Steps p.tables e below (s₁.setTop (entryFrame m #[(.int p0), (.int p1), (.int p2), (.int p3)] maxLocals)) t := by
          intro t kt
          refine pre202 _ ?_
          refine st203 _ ?_
          show Steps p.tables e below (T203.setTop (mkF m 116 #[.val (.int p0), .val (.int p1), .val (.int p2), .val (.int p3), .val (.int (0 : Int32)), .val (.int ((p3 &&& (2147483647 : Int32)) % (3 : Int32))), .val (.ref b17), .val (.ref b51), .val (.ref r_o_178), .unset, .unset, .unset] [(.ref b203), (.ref b191), (.ref b191)])) _
          refine XS.aconstNull X203.here hx rfl (hb hby at_116) ?_
          show Steps p.tables e below (T203.setTop (mkF m 117 #[.val (.int p0), .val (.int p1), .val (.int p2), .val (.int p3), .val (.int (0 : Int32)), .val (.int ((p3 &&& (2147483647 : Int32)) % (3 : Int32))), .val (.ref b17), .val (.ref b51), .val (.ref r_o_178), .unset, .unset, .unset] [.null, (.ref b203), (.ref b191), (.ref b191)])) _
          refine XS.aconstNull X203.here hx rfl (hb hby at_117) ?_
          show Steps p.tables e below (T203.setTop (mkF m 118 #[.val (.int p0), .val (.int p1), .val (.int p2), .val (.int p3), .val (.int (0 : Int32)), .val (.int ((p3 &&& (2147483647 : Int32)) % (3 : Int32))), .val (.ref b17), .val (.ref b51), .val (.ref r_o_178), .unset, .unset, .unset] [.null, .null, (.ref b203), (.ref b191), (.ref b191)])) _
          exact kt
        obtain ⟨_, _, ⟨T209, L209, k209, n209⟩, -, Xw209, hs209, gs209, ⟨Lc209, hQ209, l209, y209, z209⟩, st209⟩ := Stand.specialBackS (s := s.setVm T203.vm) X203 hx (y := (⟨"com/example/change_gatherer/changegatherer/model/DocumentVersion", "<init>", "(Ljava/lang/String;Ljava/lang/String;Ljava/lang/String;)V"⟩ : MethodName)) rfl hown (mvT hZ (hw _ (List.mem_of_getElem? (i := 34) rfl))) (mvT hZ (hw _ (List.mem_of_getElem? (i := 35) rfl))) (mvT hZ (hw _ (List.mem_of_getElem? (i := 36) rfl))) (by decide) (backOfS (W := 1) (own_dv l Z a0 hw [] b191 b203 .null .null .null h203 n0 Zs205 Fq210 Ex203 Fq211 Fq212 Fq213 Ge196) hZ (hw _ (List.mem_of_getElem? (i := 36) rfl)) (hw _ (List.mem_of_getElem? (i := 30) rfl)) (by decide) (by decide)) (g := (mkF m 118 #[.val (.int p0), .val (.int p1), .val (.int p2), .val (.int p3), .val (.int (0 : Int32)), .val (.int ((p3 &&& (2147483647 : Int32)) % (3 : Int32))), .val (.ref b17), .val (.ref b51), .val (.ref r_o_178), .unset, .unset, .unset] [.null, .null, (.ref b203), (.ref b191), (.ref b191)])) rfl (by rw [hml]; rfl) (Steps.refl _) (a := b191) (argsL := [(.ref b203), .null, .null]) (rest := [(.ref b191)]) (lenOf own_pd9 rfl) rfl (by show 2 * 0 + _ ≤ _; exact Nat.le_of_eq rfl) (hb hby at_118) (fun _ _ => ⟨rfl, e203, (by decide : 7 + 2 ≤ _), (by decide : 18 + 16 ≤ _)⟩)
        obtain ⟨X209, Si209, hZ209, hown209⟩ := rebS (s := s) Si203 (show _ ≤ T203.heap.size by rw [e203]; exact Sk203) Xw209 hs209 gs209 hZ hown
        have hZ := hZ209
        have hown := hown209
        dsimp only [Pt.U, Pt.locs, Pt.cells, Pt.slots] at X209 l209 y209 z209 st209 hQ209
        rw [l209, y209, z209] at X209
        obtain ⟨rfl, Nq209, K209⟩ := hQ209
        have N215 := Fr.app N180 Nq209
        have Kc216 : Keep h0 T209.heap [] := Kc204.trans K209 (allS (Or.inr Sz197) all0)
        have Zs217 : n0 ≤ T209.heap.size := Nat.le_trans Zs205 K209.1
        obtain ⟨T220, h220, X220, e220, E220, A220, D220, -, st220⟩ := newO X209 hx hZ hown (hw _ (List.mem_of_getElem? (i := 50) rfl)) (hw _ (List.mem_of_getElem? (i := 51) rfl)) (hw _ (List.mem_of_getElem? (i := 52) rfl)) rfl (g := (mkF m 123 #[.val (.int p0), .val (.int p1), .val (.int p2), .val (.int p3), .val (.int (0 : Int32)), .val (.int ((p3 &&& (2147483647 : Int32)) % (3 : Int32))), .val (.ref b17), .val (.ref b51), .val (.ref r_o_178), .val (.ref b191), .unset, .unset] [])) rfl (hb hby at_123) (by decide) (by decide)
        obtain ⟨b220, g220⟩ : ∃ z, z = T209.heap.size := ⟨_, rfl⟩
        rw [← g220] at A220 D220 st220
        have Fq222 : Exa Z T209.heap b17 "[C" := (((Fq193.ext E191).ext E203).keep K209)
        have Ne221 : b17 ≠ b220 := Nat.ne_of_lt (Nat.lt_of_lt_of_le Fq222.lt (Nat.le_of_eq g220.symm))
        have Fq224 : Exa Z T209.heap b51 "[C" := (((Fq195.ext E191).ext E203).keep K209)
        have Ne223 : b51 ≠ b220 := Nat.ne_of_lt (Nat.lt_of_lt_of_le Fq224.lt (Nat.le_of_eq g220.symm))
        have Fq226 : Exa Z T209.heap b191 "com/example/change_gatherer/changegatherer/model/DocumentVersion" := (Fq210.keep K209)
        have Ne225 : b191 ≠ b220 := Nat.ne_of_lt (Nat.lt_of_lt_of_le Fq226.lt (Nat.le_of_eq g220.symm))
        have Fq228 : Exa Z T209.heap b203 "java/lang/String" := (Ex203.keep K209)
        have Ne227 : b203 ≠ b220 := Nat.ne_of_lt (Nat.lt_of_lt_of_le Fq228.lt (Nat.le_of_eq g220.symm))
        have Ge229 : n0 ≤ b220 := Nat.le_trans Zs217 (Nat.le_of_eq g220.symm)
        have Sz230 : h0.size ≤ b220 := Nat.le_trans Kc216.1 (Nat.le_of_eq g220.symm)
        have Kc231 : Keep h0 h220 [] := Kc216.ext E220
        have Zs232 : n0 ≤ h220.size := (Nat.le_trans Zs217 E220.1)
        have F220_body : Fld Z h220 b220 "com/example/change_gatherer/changegatherer/io/FetchedDocument" "body" "Ljava/lang/String;" .null := D220 (Or.inr (hw _ (List.mem_of_getElem? (i := 58) rfl))) (ty := (.object "java/lang/String")) (by decide)
        have F220_version : Fld Z h220 b220 "com/example/change_gatherer/changegatherer/io/FetchedDocument" "version" "Lcom/example/change_gatherer/changegatherer/model/DocumentVersion;" .null := D220 (Or.inr (hw _ (List.mem_of_getElem? (i := 60) rfl))) (ty := (.object "com/example/change_gatherer/changegatherer/model/DocumentVersion")) (by decide)
        obtain ⟨_, _, ⟨T237, L237, k237, n237⟩, -, X237, ⟨Lc237, hQ237, l237, y237, z237⟩, st237⟩ := X220.specialBack hx (y := (⟨"com/example/change_gatherer/changegatherer/io/FetchedDocument", "<init>", "(Ljava/lang/String;Lcom/example/change_gatherer/changegatherer/model/DocumentVersion;)V"⟩ : MethodName)) rfl hown (mvT hZ (hw _ (List.mem_of_getElem? (i := 53) rfl))) (mvT hZ (hw _ (List.mem_of_getElem? (i := 54) rfl))) (mvT hZ (hw _ (List.mem_of_getElem? (i := 55) rfl))) (by decide) (backOf (W := 1) (own_fdR l Z a0 hw [] b220 r_o_178 b191 .null .null h220 n0 Zs232 A220 F220_body F220_version Ge229) hZ (hw _ (List.mem_of_getElem? (i := 55) rfl)) (hw _ (List.mem_of_getElem? (i := 52) rfl)) (by decide) (by decide)) (g := (mkF m 131 #[.val (.int p0), .val (.int p1), .val (.int p2), .val (.int p3), .val (.int (0 : Int32)), .val (.int ((p3 &&& (2147483647 : Int32)) % (3 : Int32))), .val (.ref b17), .val (.ref b51), .val (.ref r_o_178), .val (.ref b191), .unset, .unset] [(.ref b191), (.ref r_o_178), (.ref b220), (.ref b220)])) rfl (by rw [hml]; rfl) (Steps.refl _) (a := b220) (argsL := [(.ref r_o_178), (.ref b191)]) (rest := [(.ref b220)]) (lenOf own_pd10 rfl) rfl (by show 2 * 0 + _ ≤ _; exact Nat.le_of_eq rfl) (hb hby at_131) (fun _ _ => ⟨rfl, e220, (by decide : 10 + 0 ≤ _), (by decide : 36 + 0 ≤ _)⟩)
        dsimp only [Pt.U, Pt.locs, Pt.cells, Pt.slots] at X237 l237 y237 z237 st237 hQ237
        rw [l237, y237, z237] at X237
        obtain ⟨rfl, Nq237, K237, Pf237_0, Pf237_1⟩ := hQ237
        have N238 := Fr.app N215 Nq237
        have Kc239 : Keep h0 T237.heap [] := Kc231.trans K237 (allS (Or.inr Sz230) all0)
        have Zs240 : n0 ≤ T237.heap.size := Nat.le_trans Zs232 K237.1
        have Fq245 : Exa Z T237.heap b220 "com/example/change_gatherer/changegatherer/io/FetchedDocument" := (A220.keep K237)
        obtain ⟨cq244, kq244, q244a, q244b, q244c⟩ := isOf hZ rfl Fq245
        obtain ⟨_, _, ⟨T244, L244, k244, n244⟩, -, X244, ⟨Lc244, hQ244, l244, y244, z244⟩, st244⟩ := X237.virtualBack hx (y := (⟨"com/example/change_gatherer/changegatherer/io/FetchedDocument", "isModified", "()Z"⟩ : MethodName)) (z := (⟨"com/example/change_gatherer/changegatherer/io/FetchedDocument", "isModified", "()Z"⟩ : MethodName)) hown (mvT hZ (hw _ (List.mem_of_getElem? (i := 61) rfl))) (mvT hZ (hw _ (List.mem_of_getElem? (i := 62) rfl))) (notFace_of_selects (args := #[]) (mvT hZ (hw _ (List.mem_of_getElem? (i := 64) rfl)))) (mvT hZ (hw _ (List.mem_of_getElem? (i := 64) rfl))) (mvT hZ (hw _ (List.mem_of_getElem? (i := 63) rfl))) (by decide) (backOf (W := 0) (own_imR l Z a0 hw [] b220 r_o_178 T237.heap n0 Zs240 Fq245 Pf237_0) hZ (hw _ (List.mem_of_getElem? (i := 65) rfl)) (hw _ (List.mem_of_getElem? (i := 52) rfl)) (by decide) (by decide)) q244a q244c (g := (mkF m 138 #[.val (.int p0), .val (.int p1), .val (.int p2), .val (.int p3), .val (.int (0 : Int32)), .val (.int ((p3 &&& (2147483647 : Int32)) % (3 : Int32))), .val (.ref b17), .val (.ref b51), .val (.ref r_o_178), .val (.ref b191), .val (.ref b220), .unset] [(.ref b220)])) rfl (by rw [hml]; rfl) (Steps.refl _) (argsL := []) (rest := []) (lenOf own_pd11 rfl) rfl (by show 2 * 0 + _ ≤ _; exact Nat.le_of_eq rfl) (hb hby at_138) (fun _ _ => ⟨rfl, rfl, (by decide : 10 + 0 ≤ _), (by decide : 36 + 0 ≤ _)⟩)
        dsimp only [Pt.U, Pt.locs, Pt.cells, Pt.slots] at X244 l244 y244 z244 st244 hQ244
        rw [l244, y244, z244] at X244
        obtain ⟨rfl, Nq244, eh244⟩ := hQ244
        have N246 := Fr.app N238 Nq244
        obtain ⟨cq254, kq254, q254a, q254b, q254c⟩ := isOf hZ eh244 Fq245
        obtain ⟨_, _, ⟨T254, L254, k254, n254⟩, -, X254, ⟨Lc254, hQ254, l254, y254, z254⟩, st254⟩ := X244.virtualBack hx (y := (⟨"com/example/change_gatherer/changegatherer/io/FetchedDocument", "getBody", "()Ljava/lang/String;"⟩ : MethodName)) (z := (⟨"com/example/change_gatherer/changegatherer/io/FetchedDocument", "getBody", "()Ljava/lang/String;"⟩ : MethodName)) hown (mvT hZ (hw _ (List.mem_of_getElem? (i := 66) rfl))) (mvT hZ (hw _ (List.mem_of_getElem? (i := 67) rfl))) (notFace_of_selects (args := #[]) (mvT hZ (hw _ (List.mem_of_getElem? (i := 69) rfl)))) (mvT hZ (hw _ (List.mem_of_getElem? (i := 69) rfl))) (mvT hZ (hw _ (List.mem_of_getElem? (i := 68) rfl))) (by decide) (backOf (W := 0) (own_gbR l Z a0 hw [] b220 r_o_178 T237.heap n0 Zs240 Fq245 Pf237_0) hZ (hw _ (List.mem_of_getElem? (i := 70) rfl)) (hw _ (List.mem_of_getElem? (i := 52) rfl)) (by decide) (by decide)) q254a q254c (g := (mkF m 184 #[.val (.int p0), .val (.int p1), .val (.int p2), .val (.int p3), .val (.int (0 : Int32)), .val (.int ((p3 &&& (2147483647 : Int32)) % (3 : Int32))), .val (.ref b17), .val (.ref b51), .val (.ref r_o_178), .val (.ref b191), .val (.ref b220), .val (.int (1 : Int32))] [(.ref b220)])) rfl (by rw [hml]; rfl) (Steps.refl _) (argsL := []) (rest := []) (lenOf own_pd12 rfl) rfl (by show 2 * 0 + _ ≤ _; exact Nat.le_of_eq rfl) (hb hby at_184) (fun _ _ => ⟨rfl, eh244, (by decide : 10 + 0 ≤ _), (by decide : 36 + 0 ≤ _)⟩)
        dsimp only [Pt.U, Pt.locs, Pt.cells, Pt.slots] at X254 l254 y254 z254 st254 hQ254
        rw [l254, y254, z254] at X254
        obtain ⟨rfl, Nq254, eh254⟩ := hQ254
        have N255 := Fr.app N246 Nq254
        obtain ⟨cq260, kq260, q260a, q260b, q260c⟩ := isOf hZ eh254 Fq245
        obtain ⟨_, _, ⟨T260, L260, k260, n260⟩, -, X260, ⟨Lc260, hQ260, l260, y260, z260⟩, st260⟩ := X254.virtualBack hx (y := (⟨"com/example/change_gatherer/changegatherer/io/FetchedDocument", "getVersion", "()Lcom/example/change_gatherer/changegatherer/model/DocumentVersion;"⟩ : MethodName)) (z := (⟨"com/example/change_gatherer/changegatherer/io/FetchedDocument", "getVersion", "()Lcom/example/change_gatherer/changegatherer/model/DocumentVersion;"⟩ : MethodName)) hown (mvT hZ (hw _ (List.mem_of_getElem? (i := 71) rfl))) (mvT hZ (hw _ (List.mem_of_getElem? (i := 72) rfl))) (notFace_of_selects (args := #[]) (mvT hZ (hw _ (List.mem_of_getElem? (i := 74) rfl)))) (mvT hZ (hw _ (List.mem_of_getElem? (i := 74) rfl))) (mvT hZ (hw _ (List.mem_of_getElem? (i := 73) rfl))) (by decide) (backOf (W := 0) (own_gv l Z a0 hw [] b220 b191 T237.heap n0 Zs240 Fq245 Pf237_1) hZ (hw _ (List.mem_of_getElem? (i := 75) rfl)) (hw _ (List.mem_of_getElem? (i := 52) rfl)) (by decide) (by decide)) q260a q260c (g := (mkF m 194 #[.val (.int p0), .val (.int p1), .val (.int p2), .val (.int p3), .val (.int (0 : Int32)), .val (.int ((p3 &&& (2147483647 : Int32)) % (3 : Int32))), .val (.ref b17), .val (.ref b51), .val (.ref r_o_178), .val (.ref b191), .val (.ref b220), .val (.int (1 : Int32))] [(.ref b220)])) rfl (by rw [hml]; rfl) (Steps.refl _) (argsL := []) (rest := []) (lenOf own_pd13 rfl) rfl (by show 2 * 0 + _ ≤ _; exact Nat.le_of_eq rfl) (hb hby at_194) (fun _ _ => ⟨rfl, eh254, (by decide : 10 + 0 ≤ _), (by decide : 36 + 0 ≤ _)⟩)
        dsimp only [Pt.U, Pt.locs, Pt.cells, Pt.slots] at X260 l260 y260 z260 st260 hQ260
        rw [l260, y260, z260] at X260
        obtain ⟨rfl, Nq260, eh260⟩ := hQ260
        have N261 := Fr.app N255 Nq260
        obtain ⟨fs, hr, hrun, hended, hR1, hR2, hR3, hR4⟩ := leaveW (s := s) (vm₁ := T209.vm) X260 Si209 (show _ ≤ T260.heap.size by rw [eh260]; exact (Nat.le_trans (Nat.le_trans (Nat.le_refl _) E220.1) K237.1)) (v := some (.int (1 : Int32))) (fun h => by rw [Bd.returns] at h; cases h) (hlocks := BodyLoose.notSynchronized Bd)
        refine ⟨_, _, pre214 _ ?_, hrun, hended, _, _, rfl, ?_, hR1, hR2, hR3, hR4.mono (by decide) (by decide)⟩
        · refine st209.trans ?_
          show Steps p.tables e below (T209.setTop (mkF m 121 #[.val (.int p0), .val (.int p1), .val (.int p2), .val (.int p3), .val (.int (0 : Int32)), .val (.int ((p3 &&& (2147483647 : Int32)) % (3 : Int32))), .val (.ref b17), .val (.ref b51), .val (.ref r_o_178), .unset, .unset, .unset] [(.ref b191)])) _
          refine XS.astore X209.here hx rfl (hb hby at_121) rfl rfl (l' := #[.val (.int p0), .val (.int p1), .val (.int p2), .val (.int p3), .val (.int (0 : Int32)), .val (.int ((p3 &&& (2147483647 : Int32)) % (3 : Int32))), .val (.ref b17), .val (.ref b51), .val (.ref r_o_178), .val (.ref b191), .unset, .unset]) rfl ?_
          show Steps p.tables e below (T209.setTop (mkF m 123 #[.val (.int p0), .val (.int p1), .val (.int p2), .val (.int p3), .val (.int (0 : Int32)), .val (.int ((p3 &&& (2147483647 : Int32)) % (3 : Int32))), .val (.ref b17), .val (.ref b51), .val (.ref r_o_178), .val (.ref b191), .unset, .unset] [])) _
          refine st220 _ ?_
          show Steps p.tables e below (T220.setTop (mkF m 126 #[.val (.int p0), .val (.int p1), .val (.int p2), .val (.int p3), .val (.int (0 : Int32)), .val (.int ((p3 &&& (2147483647 : Int32)) % (3 : Int32))), .val (.ref b17), .val (.ref b51), .val (.ref r_o_178), .val (.ref b191), .unset, .unset] [(.ref b220)])) _
          refine XS.dup X220.here hx rfl (hb hby at_126) rfl rfl ?_
          show Steps p.tables e below (T220.setTop (mkF m 127 #[.val (.int p0), .val (.int p1), .val (.int p2), .val (.int p3), .val (.int (0 : Int32)), .val (.int ((p3 &&& (2147483647 : Int32)) % (3 : Int32))), .val (.ref b17), .val (.ref b51), .val (.ref r_o_178), .val (.ref b191), .unset, .unset] [(.ref b220), (.ref b220)])) _
          refine XS.aload X220.here hx rfl (hb hby at_127) rfl rfl ?_
          show Steps p.tables e below (T220.setTop (mkF m 129 #[.val (.int p0), .val (.int p1), .val (.int p2), .val (.int p3), .val (.int (0 : Int32)), .val (.int ((p3 &&& (2147483647 : Int32)) % (3 : Int32))), .val (.ref b17), .val (.ref b51), .val (.ref r_o_178), .val (.ref b191), .unset, .unset] [(.ref r_o_178), (.ref b220), (.ref b220)])) _
          refine XS.aload X220.here hx rfl (hb hby at_129) rfl rfl ?_
          show Steps p.tables e below (T220.setTop (mkF m 131 #[.val (.int p0), .val (.int p1), .val (.int p2), .val (.int p3), .val (.int (0 : Int32)), .val (.int ((p3 &&& (2147483647 : Int32)) % (3 : Int32))), .val (.ref b17), .val (.ref b51), .val (.ref r_o_178), .val (.ref b191), .unset, .unset] [(.ref b191), (.ref r_o_178), (.ref b220), (.ref b220)])) _
          refine st237.trans ?_
          show Steps p.tables e below (T237.setTop (mkF m 134 #[.val (.int p0), .val (.int p1), .val (.int p2), .val (.int p3), .val (.int (0 : Int32)), .val (.int ((p3 &&& (2147483647 : Int32)) % (3 : Int32))), .val (.ref b17), .val (.ref b51), .val (.ref r_o_178), .val (.ref b191), .unset, .unset] [(.ref b220)])) _
          refine XS.astore X237.here hx rfl (hb hby at_134) rfl rfl (l' := #[.val (.int p0), .val (.int p1), .val (.int p2), .val (.int p3), .val (.int (0 : Int32)), .val (.int ((p3 &&& (2147483647 : Int32)) % (3 : Int32))), .val (.ref b17), .val (.ref b51), .val (.ref r_o_178), .val (.ref b191), .val (.ref b220), .unset]) rfl ?_
          show Steps p.tables e below (T237.setTop (mkF m 136 #[.val (.int p0), .val (.int p1), .val (.int p2), .val (.int p3), .val (.int (0 : Int32)), .val (.int ((p3 &&& (2147483647 : Int32)) % (3 : Int32))), .val (.ref b17), .val (.ref b51), .val (.ref r_o_178), .val (.ref b191), .val (.ref b220), .unset] [])) _
          refine XS.aload X237.here hx rfl (hb hby at_136) rfl rfl ?_
          show Steps p.tables e below (T237.setTop (mkF m 138 #[.val (.int p0), .val (.int p1), .val (.int p2), .val (.int p3), .val (.int (0 : Int32)), .val (.int ((p3 &&& (2147483647 : Int32)) % (3 : Int32))), .val (.ref b17), .val (.ref b51), .val (.ref r_o_178), .val (.ref b191), .val (.ref b220), .unset] [(.ref b220)])) _
          refine st244.trans ?_
          show Steps p.tables e below (T244.setTop (mkF m 141 #[.val (.int p0), .val (.int p1), .val (.int p2), .val (.int p3), .val (.int (0 : Int32)), .val (.int ((p3 &&& (2147483647 : Int32)) % (3 : Int32))), .val (.ref b17), .val (.ref b51), .val (.ref r_o_178), .val (.ref b191), .val (.ref b220), .unset] [(.int (1 : Int32))])) _
          refine XS.istore X244.here hx rfl (hb hby at_141) rfl (l' := #[.val (.int p0), .val (.int p1), .val (.int p2), .val (.int p3), .val (.int (0 : Int32)), .val (.int ((p3 &&& (2147483647 : Int32)) % (3 : Int32))), .val (.ref b17), .val (.ref b51), .val (.ref r_o_178), .val (.ref b191), .val (.ref b220), .val (.int (1 : Int32))]) rfl ?_
          show Steps p.tables e below (T244.setTop (mkF m 143 #[.val (.int p0), .val (.int p1), .val (.int p2), .val (.int p3), .val (.int (0 : Int32)), .val (.int ((p3 &&& (2147483647 : Int32)) % (3 : Int32))), .val (.ref b17), .val (.ref b51), .val (.ref r_o_178), .val (.ref b191), .val (.ref b220), .val (.int (1 : Int32))] [])) _
          refine XS.iload X244.here hx rfl (hb hby at_143) rfl ?_
          show Steps p.tables e below (T244.setTop (mkF m 145 #[.val (.int p0), .val (.int p1), .val (.int p2), .val (.int p3), .val (.int (0 : Int32)), .val (.int ((p3 &&& (2147483647 : Int32)) % (3 : Int32))), .val (.ref b17), .val (.ref b51), .val (.ref r_o_178), .val (.ref b191), .val (.ref b220), .val (.int (1 : Int32))] [(.int (0 : Int32))])) _
          refine XS.ifYes X244.here hx rfl (pc0 := 145) (pc' := 177) rfl (hb hby at_145) rfl ((if0 _ _).trans (teq ((by decide) : (0 : Int32) = (0 : Int32))).1) (by decide) (by decide) ?_
          show Steps p.tables e below (T244.setTop (mkF m 177 #[.val (.int p0), .val (.int p1), .val (.int p2), .val (.int p3), .val (.int (0 : Int32)), .val (.int ((p3 &&& (2147483647 : Int32)) % (3 : Int32))), .val (.ref b17), .val (.ref b51), .val (.ref r_o_178), .val (.ref b191), .val (.ref b220), .val (.int (1 : Int32))] [])) _
          refine XS.iload X244.here hx rfl (hb hby at_177) rfl ?_
          show Steps p.tables e below (T244.setTop (mkF m 179 #[.val (.int p0), .val (.int p1), .val (.int p2), .val (.int p3), .val (.int (0 : Int32)), .val (.int ((p3 &&& (2147483647 : Int32)) % (3 : Int32))), .val (.ref b17), .val (.ref b51), .val (.ref r_o_178), .val (.ref b191), .val (.ref b220), .val (.int (1 : Int32))] [(.int (1 : Int32))])) _
          refine XS.ifNo X244.here hx rfl (hb hby at_179) rfl ((if0 _ _).trans (feq ((by decide) : ¬ ((1 : Int32) = (0 : Int32)))).1) ?_
          show Steps p.tables e below (T244.setTop (mkF m 182 #[.val (.int p0), .val (.int p1), .val (.int p2), .val (.int p3), .val (.int (0 : Int32)), .val (.int ((p3 &&& (2147483647 : Int32)) % (3 : Int32))), .val (.ref b17), .val (.ref b51), .val (.ref r_o_178), .val (.ref b191), .val (.ref b220), .val (.int (1 : Int32))] [])) _
          refine XS.aload X244.here hx rfl (hb hby at_182) rfl rfl ?_
          show Steps p.tables e below (T244.setTop (mkF m 184 #[.val (.int p0), .val (.int p1), .val (.int p2), .val (.int p3), .val (.int (0 : Int32)), .val (.int ((p3 &&& (2147483647 : Int32)) % (3 : Int32))), .val (.ref b17), .val (.ref b51), .val (.ref r_o_178), .val (.ref b191), .val (.ref b220), .val (.int (1 : Int32))] [(.ref b220)])) _
          refine st254.trans ?_
          show Steps p.tables e below (T254.setTop (mkF m 187 #[.val (.int p0), .val (.int p1), .val (.int p2), .val (.int p3), .val (.int (0 : Int32)), .val (.int ((p3 &&& (2147483647 : Int32)) % (3 : Int32))), .val (.ref b17), .val (.ref b51), .val (.ref r_o_178), .val (.ref b191), .val (.ref b220), .val (.int (1 : Int32))] [(.ref r_o_178)])) _
          refine XS.aload X254.here hx rfl (hb hby at_187) rfl rfl ?_
          show Steps p.tables e below (T254.setTop (mkF m 189 #[.val (.int p0), .val (.int p1), .val (.int p2), .val (.int p3), .val (.int (0 : Int32)), .val (.int ((p3 &&& (2147483647 : Int32)) % (3 : Int32))), .val (.ref b17), .val (.ref b51), .val (.ref r_o_178), .val (.ref b191), .val (.ref b220), .val (.int (1 : Int32))] [(.ref r_o_178), (.ref r_o_178)])) _
          refine Jvm.RoadKit.acmp (g := (mkF m 189 #[.val (.int p0), .val (.int p1), .val (.int p2), .val (.int p3), .val (.int (0 : Int32)), .val (.int ((p3 &&& (2147483647 : Int32)) % (3 : Int32))), .val (.ref b17), .val (.ref b51), .val (.ref r_o_178), .val (.ref b191), .val (.ref b220), .val (.int (1 : Int32))] [(.ref r_o_178), (.ref r_o_178)])) X254 hx rfl rfl rfl (pc0 := 189) (pc' := 192) (same := true) rfl (hb hby at_189) rfl (decide_eq_true rfl) (by decide) (by decide) ?_
          show Steps p.tables e below (T254.setTop (mkF m 192 #[.val (.int p0), .val (.int p1), .val (.int p2), .val (.int p3), .val (.int (0 : Int32)), .val (.int ((p3 &&& (2147483647 : Int32)) % (3 : Int32))), .val (.ref b17), .val (.ref b51), .val (.ref r_o_178), .val (.ref b191), .val (.ref b220), .val (.int (1 : Int32))] [])) _
          refine XS.aload X254.here hx rfl (hb hby at_192) rfl rfl ?_
          show Steps p.tables e below (T254.setTop (mkF m 194 #[.val (.int p0), .val (.int p1), .val (.int p2), .val (.int p3), .val (.int (0 : Int32)), .val (.int ((p3 &&& (2147483647 : Int32)) % (3 : Int32))), .val (.ref b17), .val (.ref b51), .val (.ref r_o_178), .val (.ref b191), .val (.ref b220), .val (.int (1 : Int32))] [(.ref b220)])) _
          refine st260.trans ?_
          show Steps p.tables e below (T260.setTop (mkF m 197 #[.val (.int p0), .val (.int p1), .val (.int p2), .val (.int p3), .val (.int (0 : Int32)), .val (.int ((p3 &&& (2147483647 : Int32)) % (3 : Int32))), .val (.ref b17), .val (.ref b51), .val (.ref r_o_178), .val (.ref b191), .val (.ref b220), .val (.int (1 : Int32))] [(.ref b191)])) _
          refine XS.aload X260.here hx rfl (hb hby at_197) rfl rfl ?_
          show Steps p.tables e below (T260.setTop (mkF m 199 #[.val (.int p0), .val (.int p1), .val (.int p2), .val (.int p3), .val (.int (0 : Int32)), .val (.int ((p3 &&& (2147483647 : Int32)) % (3 : Int32))), .val (.ref b17), .val (.ref b51), .val (.ref r_o_178), .val (.ref b191), .val (.ref b220), .val (.int (1 : Int32))] [(.ref b191), (.ref b191)])) _
          refine Jvm.RoadKit.acmp (g := (mkF m 199 #[.val (.int p0), .val (.int p1), .val (.int p2), .val (.int p3), .val (.int (0 : Int32)), .val (.int ((p3 &&& (2147483647 : Int32)) % (3 : Int32))), .val (.ref b17), .val (.ref b51), .val (.ref r_o_178), .val (.ref b191), .val (.ref b220), .val (.int (1 : Int32))] [(.ref b191), (.ref b191)])) X260 hx rfl rfl rfl (pc0 := 199) (pc' := 202) (same := true) rfl (hb hby at_199) rfl (decide_eq_true rfl) (by decide) (by decide) ?_
          show Steps p.tables e below (T260.setTop (mkF m 202 #[.val (.int p0), .val (.int p1), .val (.int p2), .val (.int p3), .val (.int (0 : Int32)), .val (.int ((p3 &&& (2147483647 : Int32)) % (3 : Int32))), .val (.ref b17), .val (.ref b51), .val (.ref r_o_178), .val (.ref b191), .val (.ref b220), .val (.int (1 : Int32))] [])) _
          refine XS.iconst X260.here hx rfl (hb hby at_202) ?_
          show Steps p.tables e below (T260.setTop (mkF m 203 #[.val (.int p0), .val (.int p1), .val (.int p2), .val (.int p3), .val (.int (0 : Int32)), .val (.int ((p3 &&& (2147483647 : Int32)) % (3 : Int32))), .val (.ref b17), .val (.ref b51), .val (.ref r_o_178), .val (.ref b191), .val (.ref b220), .val (.int (1 : Int32))] [(.int (1 : Int32))])) _
          refine XS.goto X260.here hx rfl (pc0 := 203) (pc' := 207) rfl (hb hby at_203) (by decide) (by decide) ?_
          show Steps p.tables e below (T260.setTop (mkF m 207 #[.val (.int p0), .val (.int p1), .val (.int p2), .val (.int p3), .val (.int (0 : Int32)), .val (.int ((p3 &&& (2147483647 : Int32)) % (3 : Int32))), .val (.ref b17), .val (.ref b51), .val (.ref r_o_178), .val (.ref b191), .val (.ref b220), .val (.int (1 : Int32))] [(.int (1 : Int32))])) _
          exact retN X260 hx (t := .boolean) Bd.returns (by simp) (hb hby at_207) hr
        · show Qown_law Z p0 p1 p2 p3 cs h0 n0 _ T260.heap _
          rw [eh260]
          exact ⟨rfl, N261⟩
      · obtain ⟨T268, h268, X268, e268, E268, A268, D268, -, st268⟩ := newO X51 hx hZ hown (hw _ (List.mem_of_getElem? (i := 76) rfl)) (hw _ (List.mem_of_getElem? (i := 12) rfl)) (hw _ (List.mem_of_getElem? (i := 4) rfl)) e51 (g := (mkF m 99 #[.val (.int p0), .val (.int p1), .val (.int p2), .val (.int p3), .val (.int (0 : Int32)), .val (.int ((p3 &&& (2147483647 : Int32)) % (3 : Int32))), .val (.ref b17), .val (.ref b51), .unset, .unset, .unset, .unset] [])) rfl (hb hby at_99) (by decide) (by decide)
        obtain ⟨b268, g268⟩ : ∃ z, z = h51.size := ⟨_, rfl⟩
        rw [← g268] at A268 D268 st268
        have Fq270 : Exa Z h51 b17 "[C" := (Fq53.ext E51)
        have Ne269 : b17 ≠ b268 := Nat.ne_of_lt (Nat.lt_of_lt_of_le Fq270.lt (Nat.le_of_eq g268.symm))
        have Ne271 : b51 ≠ b268 := Nat.ne_of_lt (Nat.lt_of_lt_of_le Y51.lt (Nat.le_of_eq g268.symm))
        have Ge272 : n0 ≤ b268 := Nat.le_trans Zs57 (Nat.le_of_eq g268.symm)
        have Sz273 : h0.size ≤ b268 := Nat.le_trans Kc56.1 (Nat.le_of_eq g268.symm)
        have Kc274 : Keep h0 h268 [] := Kc56.ext E268
        have Zs275 : n0 ≤ h268.size := (Nat.le_trans Zs57 E268.1)
        have F268_value : Fld Z h268 b268 "java/lang/String" "value" "[B" .null := D268 (Or.inr (hw _ (List.mem_of_getElem? (i := 25) rfl))) (ty := (.array .byte)) (by decide)
        have F268_coder : Fld Z h268 b268 "java/lang/String" "coder" "B" (.int (0 : Int32)) := D268 (Or.inr (hw _ (List.mem_of_getElem? (i := 27) rfl))) (ty := .byte) (by decide)
        have Fq280 : Arv Z h268 b17 k17 .char (2 : Int32) [(.int (nar .char ((p1 &&& (255 : Int32)).toUInt32.toUInt16.toUInt32.toInt32))), (.int (nar .char ((p2 &&& (255 : Int32)).toUInt32.toUInt16.toUInt32.toInt32)))] (.int (0 : Int32)) := ((Vm45.ext E51).ext E268)
        have Fq281 : Old Z n0 h268 := (((((hO.ext E17).wr W31 Ge18).wr W44 Ge18).ext E51).ext E268)
        obtain ⟨_, _, ⟨T279, L279, k279, n279⟩, -, X279, ⟨Lc279, hQ279, l279, y279, z279⟩, st279⟩ := X268.specialBack hx (y := (⟨"java/lang/String", "<init>", "([C)V"⟩ : MethodName)) rfl hown (mvT hZ (hw _ (List.mem_of_getElem? (i := 77) rfl))) (mvT hZ (hw _ (List.mem_of_getElem? (i := 78) rfl))) (mvT hZ (hw _ (List.mem_of_getElem? (i := 79) rfl))) (by decide) (backOf (W := 1) (own_initC2 l Z a0 hw [] b268 .null (.int (0 : Int32)) b17 k17 (nar .char ((p1 &&& (255 : Int32)).toUInt32.toUInt16.toUInt32.toInt32)) (nar .char ((p2 &&& (255 : Int32)).toUInt32.toUInt16.toUInt32.toInt32)) cs h268 n0 Zs275 A268 F268_value F268_coder Ge272 Fq280 (own_le255 _) (own_le255 _) hS Fq281 hcs) hZ (hw _ (List.mem_of_getElem? (i := 79) rfl)) (hw _ (List.mem_of_getElem? (i := 4) rfl)) (by decide) (by decide)) (g := (mkF m 105 #[.val (.int p0), .val (.int p1), .val (.int p2), .val (.int p3), .val (.int (0 : Int32)), .val (.int ((p3 &&& (2147483647 : Int32)) % (3 : Int32))), .val (.ref b17), .val (.ref b51), .unset, .unset, .unset, .unset] [(.ref b17), (.ref b268), (.ref b268)])) rfl (by rw [hml]; rfl) (Steps.refl _) (a := b268) (argsL := [(.ref b17)]) (rest := [(.ref b268)]) (lenOf own_pd8 rfl) rfl (by show 2 * 0 + _ ≤ _; exact Nat.le_of_eq rfl) (hb hby at_105) (fun _ _ => ⟨rfl, e268, (by decide : 3 + 1 ≤ _), (by decide : 6 + 2 ≤ _)⟩)
        dsimp only [Pt.U, Pt.locs, Pt.cells, Pt.slots] at X279 l279 y279 z279 st279 hQ279
        rw [l279, y279, z279] at X279
        obtain ⟨rfl, Nq279, K279⟩ := hQ279
        have N282 := Fr.app N48 Nq279
        have Kc283 : Keep h0 T279.heap [] := Kc274.trans K279 (allS (Or.inr Sz273) all0)
        have Zs284 : n0 ≤ T279.heap.size := Nat.le_trans Zs275 K279.1
        obtain ⟨T287, h287, X287, e287, E287, A287, D287, -, st287⟩ := newO X279 hx hZ hown (hw _ (List.mem_of_getElem? (i := 28) rfl)) (hw _ (List.mem_of_getElem? (i := 29) rfl)) (hw _ (List.mem_of_getElem? (i := 30) rfl)) rfl (g := (mkF m 110 #[.val (.int p0), .val (.int p1), .val (.int p2), .val (.int p3), .val (.int (0 : Int32)), .val (.int ((p3 &&& (2147483647 : Int32)) % (3 : Int32))), .val (.ref b17), .val (.ref b51), .val (.ref b268), .unset, .unset, .unset] [])) rfl (hb hby at_110) (by decide) (by decide)
        obtain ⟨b287, g287⟩ : ∃ z, z = T279.heap.size := ⟨_, rfl⟩
        rw [← g287] at A287 D287 st287
        have Fq289 : Exa Z T279.heap b17 "[C" := ((Fq270.ext E268).keep K279)
        have Ne288 : b17 ≠ b287 := Nat.ne_of_lt (Nat.lt_of_lt_of_le Fq289.lt (Nat.le_of_eq g287.symm))
        have Fq291 : Exa Z T279.heap b51 "[C" := ((Y51.ext E268).keep K279)
        have Ne290 : b51 ≠ b287 := Nat.ne_of_lt (Nat.lt_of_lt_of_le Fq291.lt (Nat.le_of_eq g287.symm))
        have Fq293 : Exa Z T279.heap b268 "java/lang/String" := (A268.keep K279)
        have Ne292 : b268 ≠ b287 := Nat.ne_of_lt (Nat.lt_of_lt_of_le Fq293.lt (Nat.le_of_eq g287.symm))
        have Ge294 : n0 ≤ b287 := Nat.le_trans Zs284 (Nat.le_of_eq g287.symm)
        have Sz295 : h0.size ≤ b287 := Nat.le_trans Kc283.1 (Nat.le_of_eq g287.symm)
        have Kc296 : Keep h0 h287 [] := Kc283.ext E287
        have Zs297 : n0 ≤ h287.size := (Nat.le_trans Zs284 E287.1)
        have F287_url : Fld Z h287 b287 "com/example/change_gatherer/changegatherer/model/DocumentVersion" "url" "Ljava/lang/String;" .null := D287 (Or.inr (hw _ (List.mem_of_getElem? (i := 45) rfl))) (ty := (.object "java/lang/String")) (by decide)
        have F287_entityTag : Fld Z h287 b287 "com/example/change_gatherer/changegatherer/model/DocumentVersion" "entityTag" "Ljava/lang/String;" .null := D287 (Or.inr (hw _ (List.mem_of_getElem? (i := 47) rfl))) (ty := (.object "java/lang/String")) (by decide)
        have F287_lastModified : Fld Z h287 b287 "com/example/change_gatherer/changegatherer/model/DocumentVersion" "lastModified" "Ljava/lang/String;" .null := D287 (Or.inr (hw _ (List.mem_of_getElem? (i := 49) rfl))) (ty := (.object "java/lang/String")) (by decide)
        have pre300 : ∀ t, Steps p.tables e below (T287.setTop (mkF m 114 #[.val (.int p0), .val (.int p1), .val (.int p2), .val (.int p3), .val (.int (0 : Int32)), .val (.int ((p3 &&& (2147483647 : Int32)) % (3 : Int32))), .val (.ref b17), .val (.ref b51), .val (.ref b268), .unset, .unset, .unset] [(.ref b287), (.ref b287)])) t → Steps p.tables e below (s₁.setTop (entryFrame m #[(.int p0), (.int p1), (.int p2), (.int p3)] maxLocals)) t := by
          intro t kt
          refine pre170 _ ?_
          show Steps p.tables e below (T51.setTop (mkF m 84 #[.val (.int p0), .val (.int p1), .val (.int p2), .val (.int p3), .val (.int (0 : Int32)), .val (.int ((p3 &&& (2147483647 : Int32)) % (3 : Int32))), .val (.ref b17), .val (.ref b51), .unset, .unset, .unset, .unset] [(.int (1 : Int32)), (.int ((p3 &&& (2147483647 : Int32)) % (3 : Int32)))])) _
          refine XS.icmpYes X51.here hx rfl (pc0 := 84) (pc' := 99) rfl (hb hby at_84) rfl (feq hc84_171).2 (by decide) (by decide) ?_
          show Steps p.tables e below (T51.setTop (mkF m 99 #[.val (.int p0), .val (.int p1), .val (.int p2), .val (.int p3), .val (.int (0 : Int32)), .val (.int ((p3 &&& (2147483647 : Int32)) % (3 : Int32))), .val (.ref b17), .val (.ref b51), .unset, .unset, .unset, .unset] [])) _
          refine st268 _ ?_
          show Steps p.tables e below (T268.setTop (mkF m 102 #[.val (.int p0), .val (.int p1), .val (.int p2), .val (.int p3), .val (.int (0 : Int32)), .val (.int ((p3 &&& (2147483647 : Int32)) % (3 : Int32))), .val (.ref b17), .val (.ref b51), .unset, .unset, .unset, .unset] [(.ref b268)])) _
          refine XS.dup X268.here hx rfl (hb hby at_102) rfl rfl ?_
          show Steps p.tables e below (T268.setTop (mkF m 103 #[.val (.int p0), .val (.int p1), .val (.int p2), .val (.int p3), .val (.int (0 : Int32)), .val (.int ((p3 &&& (2147483647 : Int32)) % (3 : Int32))), .val (.ref b17), .val (.ref b51), .unset, .unset, .unset, .unset] [(.ref b268), (.ref b268)])) _
          refine XS.aload X268.here hx rfl (hb hby at_103) rfl rfl ?_
          show Steps p.tables e below (T268.setTop (mkF m 105 #[.val (.int p0), .val (.int p1), .val (.int p2), .val (.int p3), .val (.int (0 : Int32)), .val (.int ((p3 &&& (2147483647 : Int32)) % (3 : Int32))), .val (.ref b17), .val (.ref b51), .unset, .unset, .unset, .unset] [(.ref b17), (.ref b268), (.ref b268)])) _
          refine st279.trans ?_
          show Steps p.tables e below (T279.setTop (mkF m 108 #[.val (.int p0), .val (.int p1), .val (.int p2), .val (.int p3), .val (.int (0 : Int32)), .val (.int ((p3 &&& (2147483647 : Int32)) % (3 : Int32))), .val (.ref b17), .val (.ref b51), .unset, .unset, .unset, .unset] [(.ref b268)])) _
          refine XS.astore X279.here hx rfl (hb hby at_108) rfl rfl (l' := #[.val (.int p0), .val (.int p1), .val (.int p2), .val (.int p3), .val (.int (0 : Int32)), .val (.int ((p3 &&& (2147483647 : Int32)) % (3 : Int32))), .val (.ref b17), .val (.ref b51), .val (.ref b268), .unset, .unset, .unset]) rfl ?_
          show Steps p.tables e below (T279.setTop (mkF m 110 #[.val (.int p0), .val (.int p1), .val (.int p2), .val (.int p3), .val (.int (0 : Int32)), .val (.int ((p3 &&& (2147483647 : Int32)) % (3 : Int32))), .val (.ref b17), .val (.ref b51), .val (.ref b268), .unset, .unset, .unset] [])) _
          refine st287 _ ?_
          show Steps p.tables e below (T287.setTop (mkF m 113 #[.val (.int p0), .val (.int p1), .val (.int p2), .val (.int p3), .val (.int (0 : Int32)), .val (.int ((p3 &&& (2147483647 : Int32)) % (3 : Int32))), .val (.ref b17), .val (.ref b51), .val (.ref b268), .unset, .unset, .unset] [(.ref b287)])) _
          refine XS.dup X287.here hx rfl (hb hby at_113) rfl rfl ?_
          show Steps p.tables e below (T287.setTop (mkF m 114 #[.val (.int p0), .val (.int p1), .val (.int p2), .val (.int p3), .val (.int (0 : Int32)), .val (.int ((p3 &&& (2147483647 : Int32)) % (3 : Int32))), .val (.ref b17), .val (.ref b51), .val (.ref b268), .unset, .unset, .unset] [(.ref b287), (.ref b287)])) _
          exact kt
        obtain ⟨b301, T301, h301, ks301, bv301, kv301, X301, e301, E301, Si301, Sk301, hZ301, hown301, Ex301, Fc301, Fv301, Av301, la301, lb301, I301, Li301, st301⟩ := ldcSVL (s := s) (vm0 := s.vm) X287 hx hZ hown (hw _ (List.mem_of_getElem? (i := 31) rfl)) (own_satoms hw) e287 (own_since s 0) (Nat.zero_le _) (by rw [hh, ← hn0]; exact N282) (by rw [hh]; exact hO.2.2) hI (by decide) hk_u hcw (vs := [(.int (117 : Int32))]) (z := (1 : Int32)) (by decide) (by decide) (by decide) (g := (mkF m 114 #[.val (.int p0), .val (.int p1), .val (.int p2), .val (.int p3), .val (.int (0 : Int32)), .val (.int ((p3 &&& (2147483647 : Int32)) % (3 : Int32))), .val (.ref b17), .val (.ref b51), .val (.ref b268), .unset, .unset, .unset] [(.ref b287), (.ref b287)])) rfl (hb hby at_114) (n := 4) (by decide) (by decide) (by decide) (by decide)
        have hZ := hZ301
        have hown := hown301
        have Kc302 : Keep h0 h301 [] := Kc296.ext E301
        have Zs303 : n0 ≤ h301.size := (Nat.le_trans Zs297 E301.1)
        have Fq308 : Exa Z h301 b287 "com/example/change_gatherer/changegatherer/model/DocumentVersion" := (A287.ext E301)
        have Fq309 : Fld Z h301 b287 "com/example/change_gatherer/changegatherer/model/DocumentVersion" "url" "Ljava/lang/String;" .null := (F287_url.ext E301)
        have Fq310 : Fld Z h301 b287 "com/example/change_gatherer/changegatherer/model/DocumentVersion" "entityTag" "Ljava/lang/String;" .null := (F287_entityTag.ext E301)
        have Fq311 : Fld Z h301 b287 "com/example/change_gatherer/changegatherer/model/DocumentVersion" "lastModified" "Ljava/lang/String;" .null := (F287_lastModified.ext E301)
        have pre312 : ∀ t, Steps p.tables e below (T301.setTop (mkF m 118 #[.val (.int p0), .val (.int p1), .val (.int p2), .val (.int p3), .val (.int (0 : Int32)), .val (.int ((p3 &&& (2147483647 : Int32)) % (3 : Int32))), .val (.ref b17), .val (.ref b51), .val (.ref b268), .unset, .unset, .unset] [.null, .null, (.ref b301), (.ref b287), (.ref b287)])) t → Steps p.tables e below (s₁.setTop (entryFrame m #[(.int p0), (.int p1), (.int p2), (.int p3)] maxLocals)) t := by
          intro t kt
          refine pre300 _ ?_
          refine st301 _ ?_
          show Steps p.tables e below (T301.setTop (mkF m 116 #[.val (.int p0), .val (.int p1), .val (.int p2), .val (.int p3), .val (.int (0 : Int32)), .val (.int ((p3 &&& (2147483647 : Int32)) % (3 : Int32))), .val (.ref b17), .val (.ref b51), .val (.ref b268), .unset, .unset, .unset] [(.ref b301), (.ref b287), (.ref b287)])) _
          refine XS.aconstNull X301.here hx rfl (hb hby at_116) ?_
          show Steps p.tables e below (T301.setTop (mkF m 117 #[.val (.int p0), .val (.int p1), .val (.int p2), .val (.int p3), .val (.int (0 : Int32)), .val (.int ((p3 &&& (2147483647 : Int32)) % (3 : Int32))), .val (.ref b17), .val (.ref b51), .val (.ref b268), .unset, .unset, .unset] [.null, (.ref b301), (.ref b287), (.ref b287)])) _
          refine XS.aconstNull X301.here hx rfl (hb hby at_117) ?_
          show Steps p.tables e below (T301.setTop (mkF m 118 #[.val (.int p0), .val (.int p1), .val (.int p2), .val (.int p3), .val (.int (0 : Int32)), .val (.int ((p3 &&& (2147483647 : Int32)) % (3 : Int32))), .val (.ref b17), .val (.ref b51), .val (.ref b268), .unset, .unset, .unset] [.null, .null, (.ref b301), (.ref b287), (.ref b287)])) _
          exact kt
        obtain ⟨_, _, ⟨T307, L307, k307, n307⟩, -, Xw307, hs307, gs307, ⟨Lc307, hQ307, l307, y307, z307⟩, st307⟩ := Stand.specialBackS (s := s.setVm T301.vm) X301 hx (y := (⟨"com/example/change_gatherer/changegatherer/model/DocumentVersion", "<init>", "(Ljava/lang/String;Ljava/lang/String;Ljava/lang/String;)V"⟩ : MethodName)) rfl hown (mvT hZ (hw _ (List.mem_of_getElem? (i := 34) rfl))) (mvT hZ (hw _ (List.mem_of_getElem? (i := 35) rfl))) (mvT hZ (hw _ (List.mem_of_getElem? (i := 36) rfl))) (by decide) (backOfS (W := 1) (own_dv l Z a0 hw [] b287 b301 .null .null .null h301 n0 Zs303 Fq308 Ex301 Fq309 Fq310 Fq311 Ge294) hZ (hw _ (List.mem_of_getElem? (i := 36) rfl)) (hw _ (List.mem_of_getElem? (i := 30) rfl)) (by decide) (by decide)) (g := (mkF m 118 #[.val (.int p0), .val (.int p1), .val (.int p2), .val (.int p3), .val (.int (0 : Int32)), .val (.int ((p3 &&& (2147483647 : Int32)) % (3 : Int32))), .val (.ref b17), .val (.ref b51), .val (.ref b268), .unset, .unset, .unset] [.null, .null, (.ref b301), (.ref b287), (.ref b287)])) rfl (by rw [hml]; rfl) (Steps.refl _) (a := b287) (argsL := [(.ref b301), .null, .null]) (rest := [(.ref b287)]) (lenOf own_pd9 rfl) rfl (by show 2 * 0 + _ ≤ _; exact Nat.le_of_eq rfl) (hb hby at_118) (fun _ _ => ⟨rfl, e301, (by decide : 7 + 2 ≤ _), (by decide : 19 + 16 ≤ _)⟩)
        obtain ⟨X307, Si307, hZ307, hown307⟩ := rebS (s := s) Si301 (show _ ≤ T301.heap.size by rw [e301]; exact Sk301) Xw307 hs307 gs307 hZ hown
        have hZ := hZ307
        have hown := hown307
        dsimp only [Pt.U, Pt.locs, Pt.cells, Pt.slots] at X307 l307 y307 z307 st307 hQ307
        rw [l307, y307, z307] at X307
        obtain ⟨rfl, Nq307, K307⟩ := hQ307
        have N313 := Fr.app N282 Nq307
        have Kc314 : Keep h0 T307.heap [] := Kc302.trans K307 (allS (Or.inr Sz295) all0)
        have Zs315 : n0 ≤ T307.heap.size := Nat.le_trans Zs303 K307.1
        obtain ⟨T318, h318, X318, e318, E318, A318, D318, -, st318⟩ := newO X307 hx hZ hown (hw _ (List.mem_of_getElem? (i := 50) rfl)) (hw _ (List.mem_of_getElem? (i := 51) rfl)) (hw _ (List.mem_of_getElem? (i := 52) rfl)) rfl (g := (mkF m 123 #[.val (.int p0), .val (.int p1), .val (.int p2), .val (.int p3), .val (.int (0 : Int32)), .val (.int ((p3 &&& (2147483647 : Int32)) % (3 : Int32))), .val (.ref b17), .val (.ref b51), .val (.ref b268), .val (.ref b287), .unset, .unset] [])) rfl (hb hby at_123) (by decide) (by decide)
        obtain ⟨b318, g318⟩ : ∃ z, z = T307.heap.size := ⟨_, rfl⟩
        rw [← g318] at A318 D318 st318
        have Fq320 : Exa Z T307.heap b17 "[C" := (((Fq289.ext E287).ext E301).keep K307)
        have Ne319 : b17 ≠ b318 := Nat.ne_of_lt (Nat.lt_of_lt_of_le Fq320.lt (Nat.le_of_eq g318.symm))
        have Fq322 : Exa Z T307.heap b51 "[C" := (((Fq291.ext E287).ext E301).keep K307)
        have Ne321 : b51 ≠ b318 := Nat.ne_of_lt (Nat.lt_of_lt_of_le Fq322.lt (Nat.le_of_eq g318.symm))
        have Fq324 : Exa Z T307.heap b268 "java/lang/String" := (((Fq293.ext E287).ext E301).keep K307)
        have Ne323 : b268 ≠ b318 := Nat.ne_of_lt (Nat.lt_of_lt_of_le Fq324.lt (Nat.le_of_eq g318.symm))
        have Fq326 : Exa Z T307.heap b287 "com/example/change_gatherer/changegatherer/model/DocumentVersion" := (Fq308.keep K307)
        have Ne325 : b287 ≠ b318 := Nat.ne_of_lt (Nat.lt_of_lt_of_le Fq326.lt (Nat.le_of_eq g318.symm))
        have Fq328 : Exa Z T307.heap b301 "java/lang/String" := (Ex301.keep K307)
        have Ne327 : b301 ≠ b318 := Nat.ne_of_lt (Nat.lt_of_lt_of_le Fq328.lt (Nat.le_of_eq g318.symm))
        have Ge329 : n0 ≤ b318 := Nat.le_trans Zs315 (Nat.le_of_eq g318.symm)
        have Sz330 : h0.size ≤ b318 := Nat.le_trans Kc314.1 (Nat.le_of_eq g318.symm)
        have Kc331 : Keep h0 h318 [] := Kc314.ext E318
        have Zs332 : n0 ≤ h318.size := (Nat.le_trans Zs315 E318.1)
        have F318_body : Fld Z h318 b318 "com/example/change_gatherer/changegatherer/io/FetchedDocument" "body" "Ljava/lang/String;" .null := D318 (Or.inr (hw _ (List.mem_of_getElem? (i := 58) rfl))) (ty := (.object "java/lang/String")) (by decide)
        have F318_version : Fld Z h318 b318 "com/example/change_gatherer/changegatherer/io/FetchedDocument" "version" "Lcom/example/change_gatherer/changegatherer/model/DocumentVersion;" .null := D318 (Or.inr (hw _ (List.mem_of_getElem? (i := 60) rfl))) (ty := (.object "com/example/change_gatherer/changegatherer/model/DocumentVersion")) (by decide)
        obtain ⟨_, _, ⟨T337, L337, k337, n337⟩, -, X337, ⟨Lc337, hQ337, l337, y337, z337⟩, st337⟩ := X318.specialBack hx (y := (⟨"com/example/change_gatherer/changegatherer/io/FetchedDocument", "<init>", "(Ljava/lang/String;Lcom/example/change_gatherer/changegatherer/model/DocumentVersion;)V"⟩ : MethodName)) rfl hown (mvT hZ (hw _ (List.mem_of_getElem? (i := 53) rfl))) (mvT hZ (hw _ (List.mem_of_getElem? (i := 54) rfl))) (mvT hZ (hw _ (List.mem_of_getElem? (i := 55) rfl))) (by decide) (backOf (W := 1) (own_fdR l Z a0 hw [] b318 b268 b287 .null .null h318 n0 Zs332 A318 F318_body F318_version Ge329) hZ (hw _ (List.mem_of_getElem? (i := 55) rfl)) (hw _ (List.mem_of_getElem? (i := 52) rfl)) (by decide) (by decide)) (g := (mkF m 131 #[.val (.int p0), .val (.int p1), .val (.int p2), .val (.int p3), .val (.int (0 : Int32)), .val (.int ((p3 &&& (2147483647 : Int32)) % (3 : Int32))), .val (.ref b17), .val (.ref b51), .val (.ref b268), .val (.ref b287), .unset, .unset] [(.ref b287), (.ref b268), (.ref b318), (.ref b318)])) rfl (by rw [hml]; rfl) (Steps.refl _) (a := b318) (argsL := [(.ref b268), (.ref b287)]) (rest := [(.ref b318)]) (lenOf own_pd10 rfl) rfl (by show 2 * 0 + _ ≤ _; exact Nat.le_of_eq rfl) (hb hby at_131) (fun _ _ => ⟨rfl, e318, (by decide : 10 + 0 ≤ _), (by decide : 37 + 0 ≤ _)⟩)
        dsimp only [Pt.U, Pt.locs, Pt.cells, Pt.slots] at X337 l337 y337 z337 st337 hQ337
        rw [l337, y337, z337] at X337
        obtain ⟨rfl, Nq337, K337, Pf337_0, Pf337_1⟩ := hQ337
        have N338 := Fr.app N313 Nq337
        have Kc339 : Keep h0 T337.heap [] := Kc331.trans K337 (allS (Or.inr Sz330) all0)
        have Zs340 : n0 ≤ T337.heap.size := Nat.le_trans Zs332 K337.1
        have Fq345 : Exa Z T337.heap b318 "com/example/change_gatherer/changegatherer/io/FetchedDocument" := (A318.keep K337)
        obtain ⟨cq344, kq344, q344a, q344b, q344c⟩ := isOf hZ rfl Fq345
        obtain ⟨_, _, ⟨T344, L344, k344, n344⟩, -, X344, ⟨Lc344, hQ344, l344, y344, z344⟩, st344⟩ := X337.virtualBack hx (y := (⟨"com/example/change_gatherer/changegatherer/io/FetchedDocument", "isModified", "()Z"⟩ : MethodName)) (z := (⟨"com/example/change_gatherer/changegatherer/io/FetchedDocument", "isModified", "()Z"⟩ : MethodName)) hown (mvT hZ (hw _ (List.mem_of_getElem? (i := 61) rfl))) (mvT hZ (hw _ (List.mem_of_getElem? (i := 62) rfl))) (notFace_of_selects (args := #[]) (mvT hZ (hw _ (List.mem_of_getElem? (i := 64) rfl)))) (mvT hZ (hw _ (List.mem_of_getElem? (i := 64) rfl))) (mvT hZ (hw _ (List.mem_of_getElem? (i := 63) rfl))) (by decide) (backOf (W := 0) (own_imR l Z a0 hw [] b318 b268 T337.heap n0 Zs340 Fq345 Pf337_0) hZ (hw _ (List.mem_of_getElem? (i := 65) rfl)) (hw _ (List.mem_of_getElem? (i := 52) rfl)) (by decide) (by decide)) q344a q344c (g := (mkF m 138 #[.val (.int p0), .val (.int p1), .val (.int p2), .val (.int p3), .val (.int (0 : Int32)), .val (.int ((p3 &&& (2147483647 : Int32)) % (3 : Int32))), .val (.ref b17), .val (.ref b51), .val (.ref b268), .val (.ref b287), .val (.ref b318), .unset] [(.ref b318)])) rfl (by rw [hml]; rfl) (Steps.refl _) (argsL := []) (rest := []) (lenOf own_pd11 rfl) rfl (by show 2 * 0 + _ ≤ _; exact Nat.le_of_eq rfl) (hb hby at_138) (fun _ _ => ⟨rfl, rfl, (by decide : 10 + 0 ≤ _), (by decide : 37 + 0 ≤ _)⟩)
        dsimp only [Pt.U, Pt.locs, Pt.cells, Pt.slots] at X344 l344 y344 z344 st344 hQ344
        rw [l344, y344, z344] at X344
        obtain ⟨rfl, Nq344, eh344⟩ := hQ344
        have N346 := Fr.app N338 Nq344
        obtain ⟨cq354, kq354, q354a, q354b, q354c⟩ := isOf hZ eh344 Fq345
        obtain ⟨_, _, ⟨T354, L354, k354, n354⟩, -, X354, ⟨Lc354, hQ354, l354, y354, z354⟩, st354⟩ := X344.virtualBack hx (y := (⟨"com/example/change_gatherer/changegatherer/io/FetchedDocument", "getBody", "()Ljava/lang/String;"⟩ : MethodName)) (z := (⟨"com/example/change_gatherer/changegatherer/io/FetchedDocument", "getBody", "()Ljava/lang/String;"⟩ : MethodName)) hown (mvT hZ (hw _ (List.mem_of_getElem? (i := 66) rfl))) (mvT hZ (hw _ (List.mem_of_getElem? (i := 67) rfl))) (notFace_of_selects (args := #[]) (mvT hZ (hw _ (List.mem_of_getElem? (i := 69) rfl)))) (mvT hZ (hw _ (List.mem_of_getElem? (i := 69) rfl))) (mvT hZ (hw _ (List.mem_of_getElem? (i := 68) rfl))) (by decide) (backOf (W := 0) (own_gbR l Z a0 hw [] b318 b268 T337.heap n0 Zs340 Fq345 Pf337_0) hZ (hw _ (List.mem_of_getElem? (i := 70) rfl)) (hw _ (List.mem_of_getElem? (i := 52) rfl)) (by decide) (by decide)) q354a q354c (g := (mkF m 184 #[.val (.int p0), .val (.int p1), .val (.int p2), .val (.int p3), .val (.int (0 : Int32)), .val (.int ((p3 &&& (2147483647 : Int32)) % (3 : Int32))), .val (.ref b17), .val (.ref b51), .val (.ref b268), .val (.ref b287), .val (.ref b318), .val (.int (1 : Int32))] [(.ref b318)])) rfl (by rw [hml]; rfl) (Steps.refl _) (argsL := []) (rest := []) (lenOf own_pd12 rfl) rfl (by show 2 * 0 + _ ≤ _; exact Nat.le_of_eq rfl) (hb hby at_184) (fun _ _ => ⟨rfl, eh344, (by decide : 10 + 0 ≤ _), (by decide : 37 + 0 ≤ _)⟩)
        dsimp only [Pt.U, Pt.locs, Pt.cells, Pt.slots] at X354 l354 y354 z354 st354 hQ354
        rw [l354, y354, z354] at X354
        obtain ⟨rfl, Nq354, eh354⟩ := hQ354
        have N355 := Fr.app N346 Nq354
        obtain ⟨cq360, kq360, q360a, q360b, q360c⟩ := isOf hZ eh354 Fq345
        obtain ⟨_, _, ⟨T360, L360, k360, n360⟩, -, X360, ⟨Lc360, hQ360, l360, y360, z360⟩, st360⟩ := X354.virtualBack hx (y := (⟨"com/example/change_gatherer/changegatherer/io/FetchedDocument", "getVersion", "()Lcom/example/change_gatherer/changegatherer/model/DocumentVersion;"⟩ : MethodName)) (z := (⟨"com/example/change_gatherer/changegatherer/io/FetchedDocument", "getVersion", "()Lcom/example/change_gatherer/changegatherer/model/DocumentVersion;"⟩ : MethodName)) hown (mvT hZ (hw _ (List.mem_of_getElem? (i := 71) rfl))) (mvT hZ (hw _ (List.mem_of_getElem? (i := 72) rfl))) (notFace_of_selects (args := #[]) (mvT hZ (hw _ (List.mem_of_getElem? (i := 74) rfl)))) (mvT hZ (hw _ (List.mem_of_getElem? (i := 74) rfl))) (mvT hZ (hw _ (List.mem_of_getElem? (i := 73) rfl))) (by decide) (backOf (W := 0) (own_gv l Z a0 hw [] b318 b287 T337.heap n0 Zs340 Fq345 Pf337_1) hZ (hw _ (List.mem_of_getElem? (i := 75) rfl)) (hw _ (List.mem_of_getElem? (i := 52) rfl)) (by decide) (by decide)) q360a q360c (g := (mkF m 194 #[.val (.int p0), .val (.int p1), .val (.int p2), .val (.int p3), .val (.int (0 : Int32)), .val (.int ((p3 &&& (2147483647 : Int32)) % (3 : Int32))), .val (.ref b17), .val (.ref b51), .val (.ref b268), .val (.ref b287), .val (.ref b318), .val (.int (1 : Int32))] [(.ref b318)])) rfl (by rw [hml]; rfl) (Steps.refl _) (argsL := []) (rest := []) (lenOf own_pd13 rfl) rfl (by show 2 * 0 + _ ≤ _; exact Nat.le_of_eq rfl) (hb hby at_194) (fun _ _ => ⟨rfl, eh354, (by decide : 10 + 0 ≤ _), (by decide : 37 + 0 ≤ _)⟩)
        dsimp only [Pt.U, Pt.locs, Pt.cells, Pt.slots] at X360 l360 y360 z360 st360 hQ360
        rw [l360, y360, z360] at X360
        obtain ⟨rfl, Nq360, eh360⟩ := hQ360
        have N361 := Fr.app N355 Nq360
        obtain ⟨fs, hr, hrun, hended, hR1, hR2, hR3, hR4⟩ := leaveW (s := s) (vm₁ := T307.vm) X360 Si307 (show _ ≤ T360.heap.size by rw [eh360]; exact (Nat.le_trans (Nat.le_trans (Nat.le_refl _) E318.1) K337.1)) (v := some (.int (1 : Int32))) (fun h => by rw [Bd.returns] at h; cases h) (hlocks := BodyLoose.notSynchronized Bd)
        refine ⟨_, _, pre312 _ ?_, hrun, hended, _, _, rfl, ?_, hR1, hR2, hR3, hR4.mono (by decide) (by decide)⟩
        · refine st307.trans ?_
          show Steps p.tables e below (T307.setTop (mkF m 121 #[.val (.int p0), .val (.int p1), .val (.int p2), .val (.int p3), .val (.int (0 : Int32)), .val (.int ((p3 &&& (2147483647 : Int32)) % (3 : Int32))), .val (.ref b17), .val (.ref b51), .val (.ref b268), .unset, .unset, .unset] [(.ref b287)])) _
          refine XS.astore X307.here hx rfl (hb hby at_121) rfl rfl (l' := #[.val (.int p0), .val (.int p1), .val (.int p2), .val (.int p3), .val (.int (0 : Int32)), .val (.int ((p3 &&& (2147483647 : Int32)) % (3 : Int32))), .val (.ref b17), .val (.ref b51), .val (.ref b268), .val (.ref b287), .unset, .unset]) rfl ?_
          show Steps p.tables e below (T307.setTop (mkF m 123 #[.val (.int p0), .val (.int p1), .val (.int p2), .val (.int p3), .val (.int (0 : Int32)), .val (.int ((p3 &&& (2147483647 : Int32)) % (3 : Int32))), .val (.ref b17), .val (.ref b51), .val (.ref b268), .val (.ref b287), .unset, .unset] [])) _
          refine st318 _ ?_
          show Steps p.tables e below (T318.setTop (mkF m 126 #[.val (.int p0), .val (.int p1), .val (.int p2), .val (.int p3), .val (.int (0 : Int32)), .val (.int ((p3 &&& (2147483647 : Int32)) % (3 : Int32))), .val (.ref b17), .val (.ref b51), .val (.ref b268), .val (.ref b287), .unset, .unset] [(.ref b318)])) _
          refine XS.dup X318.here hx rfl (hb hby at_126) rfl rfl ?_
          show Steps p.tables e below (T318.setTop (mkF m 127 #[.val (.int p0), .val (.int p1), .val (.int p2), .val (.int p3), .val (.int (0 : Int32)), .val (.int ((p3 &&& (2147483647 : Int32)) % (3 : Int32))), .val (.ref b17), .val (.ref b51), .val (.ref b268), .val (.ref b287), .unset, .unset] [(.ref b318), (.ref b318)])) _
          refine XS.aload X318.here hx rfl (hb hby at_127) rfl rfl ?_
          show Steps p.tables e below (T318.setTop (mkF m 129 #[.val (.int p0), .val (.int p1), .val (.int p2), .val (.int p3), .val (.int (0 : Int32)), .val (.int ((p3 &&& (2147483647 : Int32)) % (3 : Int32))), .val (.ref b17), .val (.ref b51), .val (.ref b268), .val (.ref b287), .unset, .unset] [(.ref b268), (.ref b318), (.ref b318)])) _
          refine XS.aload X318.here hx rfl (hb hby at_129) rfl rfl ?_
          show Steps p.tables e below (T318.setTop (mkF m 131 #[.val (.int p0), .val (.int p1), .val (.int p2), .val (.int p3), .val (.int (0 : Int32)), .val (.int ((p3 &&& (2147483647 : Int32)) % (3 : Int32))), .val (.ref b17), .val (.ref b51), .val (.ref b268), .val (.ref b287), .unset, .unset] [(.ref b287), (.ref b268), (.ref b318), (.ref b318)])) _
          refine st337.trans ?_
          show Steps p.tables e below (T337.setTop (mkF m 134 #[.val (.int p0), .val (.int p1), .val (.int p2), .val (.int p3), .val (.int (0 : Int32)), .val (.int ((p3 &&& (2147483647 : Int32)) % (3 : Int32))), .val (.ref b17), .val (.ref b51), .val (.ref b268), .val (.ref b287), .unset, .unset] [(.ref b318)])) _
          refine XS.astore X337.here hx rfl (hb hby at_134) rfl rfl (l' := #[.val (.int p0), .val (.int p1), .val (.int p2), .val (.int p3), .val (.int (0 : Int32)), .val (.int ((p3 &&& (2147483647 : Int32)) % (3 : Int32))), .val (.ref b17), .val (.ref b51), .val (.ref b268), .val (.ref b287), .val (.ref b318), .unset]) rfl ?_
          show Steps p.tables e below (T337.setTop (mkF m 136 #[.val (.int p0), .val (.int p1), .val (.int p2), .val (.int p3), .val (.int (0 : Int32)), .val (.int ((p3 &&& (2147483647 : Int32)) % (3 : Int32))), .val (.ref b17), .val (.ref b51), .val (.ref b268), .val (.ref b287), .val (.ref b318), .unset] [])) _
          refine XS.aload X337.here hx rfl (hb hby at_136) rfl rfl ?_
          show Steps p.tables e below (T337.setTop (mkF m 138 #[.val (.int p0), .val (.int p1), .val (.int p2), .val (.int p3), .val (.int (0 : Int32)), .val (.int ((p3 &&& (2147483647 : Int32)) % (3 : Int32))), .val (.ref b17), .val (.ref b51), .val (.ref b268), .val (.ref b287), .val (.ref b318), .unset] [(.ref b318)])) _
          refine st344.trans ?_
          show Steps p.tables e below (T344.setTop (mkF m 141 #[.val (.int p0), .val (.int p1), .val (.int p2), .val (.int p3), .val (.int (0 : Int32)), .val (.int ((p3 &&& (2147483647 : Int32)) % (3 : Int32))), .val (.ref b17), .val (.ref b51), .val (.ref b268), .val (.ref b287), .val (.ref b318), .unset] [(.int (1 : Int32))])) _
          refine XS.istore X344.here hx rfl (hb hby at_141) rfl (l' := #[.val (.int p0), .val (.int p1), .val (.int p2), .val (.int p3), .val (.int (0 : Int32)), .val (.int ((p3 &&& (2147483647 : Int32)) % (3 : Int32))), .val (.ref b17), .val (.ref b51), .val (.ref b268), .val (.ref b287), .val (.ref b318), .val (.int (1 : Int32))]) rfl ?_
          show Steps p.tables e below (T344.setTop (mkF m 143 #[.val (.int p0), .val (.int p1), .val (.int p2), .val (.int p3), .val (.int (0 : Int32)), .val (.int ((p3 &&& (2147483647 : Int32)) % (3 : Int32))), .val (.ref b17), .val (.ref b51), .val (.ref b268), .val (.ref b287), .val (.ref b318), .val (.int (1 : Int32))] [])) _
          refine XS.iload X344.here hx rfl (hb hby at_143) rfl ?_
          show Steps p.tables e below (T344.setTop (mkF m 145 #[.val (.int p0), .val (.int p1), .val (.int p2), .val (.int p3), .val (.int (0 : Int32)), .val (.int ((p3 &&& (2147483647 : Int32)) % (3 : Int32))), .val (.ref b17), .val (.ref b51), .val (.ref b268), .val (.ref b287), .val (.ref b318), .val (.int (1 : Int32))] [(.int (0 : Int32))])) _
          refine XS.ifYes X344.here hx rfl (pc0 := 145) (pc' := 177) rfl (hb hby at_145) rfl ((if0 _ _).trans (teq ((by decide) : (0 : Int32) = (0 : Int32))).1) (by decide) (by decide) ?_
          show Steps p.tables e below (T344.setTop (mkF m 177 #[.val (.int p0), .val (.int p1), .val (.int p2), .val (.int p3), .val (.int (0 : Int32)), .val (.int ((p3 &&& (2147483647 : Int32)) % (3 : Int32))), .val (.ref b17), .val (.ref b51), .val (.ref b268), .val (.ref b287), .val (.ref b318), .val (.int (1 : Int32))] [])) _
          refine XS.iload X344.here hx rfl (hb hby at_177) rfl ?_
          show Steps p.tables e below (T344.setTop (mkF m 179 #[.val (.int p0), .val (.int p1), .val (.int p2), .val (.int p3), .val (.int (0 : Int32)), .val (.int ((p3 &&& (2147483647 : Int32)) % (3 : Int32))), .val (.ref b17), .val (.ref b51), .val (.ref b268), .val (.ref b287), .val (.ref b318), .val (.int (1 : Int32))] [(.int (1 : Int32))])) _
          refine XS.ifNo X344.here hx rfl (hb hby at_179) rfl ((if0 _ _).trans (feq ((by decide) : ¬ ((1 : Int32) = (0 : Int32)))).1) ?_
          show Steps p.tables e below (T344.setTop (mkF m 182 #[.val (.int p0), .val (.int p1), .val (.int p2), .val (.int p3), .val (.int (0 : Int32)), .val (.int ((p3 &&& (2147483647 : Int32)) % (3 : Int32))), .val (.ref b17), .val (.ref b51), .val (.ref b268), .val (.ref b287), .val (.ref b318), .val (.int (1 : Int32))] [])) _
          refine XS.aload X344.here hx rfl (hb hby at_182) rfl rfl ?_
          show Steps p.tables e below (T344.setTop (mkF m 184 #[.val (.int p0), .val (.int p1), .val (.int p2), .val (.int p3), .val (.int (0 : Int32)), .val (.int ((p3 &&& (2147483647 : Int32)) % (3 : Int32))), .val (.ref b17), .val (.ref b51), .val (.ref b268), .val (.ref b287), .val (.ref b318), .val (.int (1 : Int32))] [(.ref b318)])) _
          refine st354.trans ?_
          show Steps p.tables e below (T354.setTop (mkF m 187 #[.val (.int p0), .val (.int p1), .val (.int p2), .val (.int p3), .val (.int (0 : Int32)), .val (.int ((p3 &&& (2147483647 : Int32)) % (3 : Int32))), .val (.ref b17), .val (.ref b51), .val (.ref b268), .val (.ref b287), .val (.ref b318), .val (.int (1 : Int32))] [(.ref b268)])) _
          refine XS.aload X354.here hx rfl (hb hby at_187) rfl rfl ?_
          show Steps p.tables e below (T354.setTop (mkF m 189 #[.val (.int p0), .val (.int p1), .val (.int p2), .val (.int p3), .val (.int (0 : Int32)), .val (.int ((p3 &&& (2147483647 : Int32)) % (3 : Int32))), .val (.ref b17), .val (.ref b51), .val (.ref b268), .val (.ref b287), .val (.ref b318), .val (.int (1 : Int32))] [(.ref b268), (.ref b268)])) _
          refine Jvm.RoadKit.acmp (g := (mkF m 189 #[.val (.int p0), .val (.int p1), .val (.int p2), .val (.int p3), .val (.int (0 : Int32)), .val (.int ((p3 &&& (2147483647 : Int32)) % (3 : Int32))), .val (.ref b17), .val (.ref b51), .val (.ref b268), .val (.ref b287), .val (.ref b318), .val (.int (1 : Int32))] [(.ref b268), (.ref b268)])) X354 hx rfl rfl rfl (pc0 := 189) (pc' := 192) (same := true) rfl (hb hby at_189) rfl (decide_eq_true rfl) (by decide) (by decide) ?_
          show Steps p.tables e below (T354.setTop (mkF m 192 #[.val (.int p0), .val (.int p1), .val (.int p2), .val (.int p3), .val (.int (0 : Int32)), .val (.int ((p3 &&& (2147483647 : Int32)) % (3 : Int32))), .val (.ref b17), .val (.ref b51), .val (.ref b268), .val (.ref b287), .val (.ref b318), .val (.int (1 : Int32))] [])) _
          refine XS.aload X354.here hx rfl (hb hby at_192) rfl rfl ?_
          show Steps p.tables e below (T354.setTop (mkF m 194 #[.val (.int p0), .val (.int p1), .val (.int p2), .val (.int p3), .val (.int (0 : Int32)), .val (.int ((p3 &&& (2147483647 : Int32)) % (3 : Int32))), .val (.ref b17), .val (.ref b51), .val (.ref b268), .val (.ref b287), .val (.ref b318), .val (.int (1 : Int32))] [(.ref b318)])) _
          refine st360.trans ?_
          show Steps p.tables e below (T360.setTop (mkF m 197 #[.val (.int p0), .val (.int p1), .val (.int p2), .val (.int p3), .val (.int (0 : Int32)), .val (.int ((p3 &&& (2147483647 : Int32)) % (3 : Int32))), .val (.ref b17), .val (.ref b51), .val (.ref b268), .val (.ref b287), .val (.ref b318), .val (.int (1 : Int32))] [(.ref b287)])) _
          refine XS.aload X360.here hx rfl (hb hby at_197) rfl rfl ?_
          show Steps p.tables e below (T360.setTop (mkF m 199 #[.val (.int p0), .val (.int p1), .val (.int p2), .val (.int p3), .val (.int (0 : Int32)), .val (.int ((p3 &&& (2147483647 : Int32)) % (3 : Int32))), .val (.ref b17), .val (.ref b51), .val (.ref b268), .val (.ref b287), .val (.ref b318), .val (.int (1 : Int32))] [(.ref b287), (.ref b287)])) _
          refine Jvm.RoadKit.acmp (g := (mkF m 199 #[.val (.int p0), .val (.int p1), .val (.int p2), .val (.int p3), .val (.int (0 : Int32)), .val (.int ((p3 &&& (2147483647 : Int32)) % (3 : Int32))), .val (.ref b17), .val (.ref b51), .val (.ref b268), .val (.ref b287), .val (.ref b318), .val (.int (1 : Int32))] [(.ref b287), (.ref b287)])) X360 hx rfl rfl rfl (pc0 := 199) (pc' := 202) (same := true) rfl (hb hby at_199) rfl (decide_eq_true rfl) (by decide) (by decide) ?_
          show Steps p.tables e below (T360.setTop (mkF m 202 #[.val (.int p0), .val (.int p1), .val (.int p2), .val (.int p3), .val (.int (0 : Int32)), .val (.int ((p3 &&& (2147483647 : Int32)) % (3 : Int32))), .val (.ref b17), .val (.ref b51), .val (.ref b268), .val (.ref b287), .val (.ref b318), .val (.int (1 : Int32))] [])) _
          refine XS.iconst X360.here hx rfl (hb hby at_202) ?_
          show Steps p.tables e below (T360.setTop (mkF m 203 #[.val (.int p0), .val (.int p1), .val (.int p2), .val (.int p3), .val (.int (0 : Int32)), .val (.int ((p3 &&& (2147483647 : Int32)) % (3 : Int32))), .val (.ref b17), .val (.ref b51), .val (.ref b268), .val (.ref b287), .val (.ref b318), .val (.int (1 : Int32))] [(.int (1 : Int32))])) _
          refine XS.goto X360.here hx rfl (pc0 := 203) (pc' := 207) rfl (hb hby at_203) (by decide) (by decide) ?_
          show Steps p.tables e below (T360.setTop (mkF m 207 #[.val (.int p0), .val (.int p1), .val (.int p2), .val (.int p3), .val (.int (0 : Int32)), .val (.int ((p3 &&& (2147483647 : Int32)) % (3 : Int32))), .val (.ref b17), .val (.ref b51), .val (.ref b268), .val (.ref b287), .val (.ref b318), .val (.int (1 : Int32))] [(.int (1 : Int32))])) _
          exact retN X360 hx (t := .boolean) Bd.returns (by simp) (hb hby at_207) hr
        · show Qown_law Z p0 p1 p2 p3 cs h0 n0 _ T360.heap _
          rw [eh360]
          exact ⟨rfl, N361⟩
  · obtain ⟨T378, h378, k378, X378, e378, E378, A378, Y378, st378⟩ := newPE X0 hx hZ (hw _ (List.mem_of_getElem? (i := 1) rfl)) e0 (g := (mkF m 22 #[.val (.int p0), .val (.int p1), .val (.int p2), .val (.int p3), .val (.int (1 : Int32)), .val (.int ((p3 &&& (2147483647 : Int32)) % (3 : Int32))), .unset, .unset, .unset, .unset, .unset, .unset] [(.int (2 : Int32))])) rfl (hb hby at_22) rfl (by decide) (cap := 2) (by decide) (by decide) (by decide) (by decide) (ad := "[C") (by first | rfl | decide)
    obtain ⟨b378, g378⟩ : ∃ z, z = h0.size := ⟨_, rfl⟩
    rw [← g378] at A378 Y378 st378
    have Ge379 : n0 ≤ b378 := Nat.le_trans Z0 (Nat.le_of_eq g378.symm)
    have Sz380 : h0.size ≤ b378 := Nat.le_trans (Keep.refl h0 []).1 (Nat.le_of_eq g378.symm)
    have Kc381 : Keep h0 h378 [] := (Keep.refl h0 []).ext E378
    have Zs382 : n0 ≤ h378.size := (Nat.le_trans Z0 E378.1)
    have V378 : Arv Z h378 b378 k378 .char (2 : Int32) [(.int (0 : Int32)), (.int (0 : Int32))] (.int (0 : Int32)) := (Arv.new A378 (by decide)).pad (pad_rep [] (.int (0 : Int32)) 2)
    obtain ⟨cl391, Ar391, q391, S391, M391, H391, G391⟩ := id V378
    have hin391 : ¬ ((0 : Int32) < 0 ∨ cl391.slots.size ≤ ((0 : Int32)).toNatClampNeg) := inb_of S391 ⟨by decide, by decide⟩
    obtain ⟨T392, h392, X392, e392, W392, st392⟩ := stC X378 hx hZ e378 Ar391 (j := (0 : Int32)) hin391 (g := (mkF m 35 #[.val (.int p0), .val (.int p1), .val (.int p2), .val (.int p3), .val (.int (1 : Int32)), .val (.int ((p3 &&& (2147483647 : Int32)) % (3 : Int32))), .val (.ref b378), .unset, .unset, .unset, .unset, .unset] [(.int ((p1 &&& (255 : Int32)).toUInt32.toUInt16.toUInt32.toInt32)), (.int (0 : Int32)), (.ref b378)])) rfl rfl (hb hby at_35)
    have Kc394 : Keep h0 h392 [] := Kc381.wr W392 (Or.inr Sz380)
    have Zs395 : n0 ≤ h392.size := Nat.le_trans Zs382 (Keep.of_wr W392).1
    have N396 := Fr.snoc X392 N0 Ge379
    have Vm393 : Arv Z h392 b378 k378 .char (2 : Int32) [(.int (nar .char ((p1 &&& (255 : Int32)).toUInt32.toUInt16.toUInt32.toInt32))), (.int (0 : Int32))] (.int (0 : Int32)) := Arv.set Ar391 q391 S391 M391 H391 G391 (fits_nar_char _) W392 0 rfl (Nat.le_of_ble_eq_true rfl)
    obtain ⟨cl404, Ar404, q404, S404, M404, H404, G404⟩ := id Vm393
    have hin404 : ¬ ((1 : Int32) < 0 ∨ cl404.slots.size ≤ ((1 : Int32)).toNatClampNeg) := inb_of S404 ⟨by decide, by decide⟩
    obtain ⟨T405, h405, X405, e405, W405, st405⟩ := stC X392 hx hZ e392 Ar404 (j := (1 : Int32)) hin404 (g := (mkF m 45 #[.val (.int p0), .val (.int p1), .val (.int p2), .val (.int p3), .val (.int (1 : Int32)), .val (.int ((p3 &&& (2147483647 : Int32)) % (3 : Int32))), .val (.ref b378), .unset, .unset, .unset, .unset, .unset] [(.int ((p2 &&& (255 : Int32)).toUInt32.toUInt16.toUInt32.toInt32)), (.int (1 : Int32)), (.ref b378)])) rfl rfl (hb hby at_45)
    have Kc407 : Keep h0 h405 [] := Kc394.wr W405 (Or.inr Sz380)
    have Zs408 : n0 ≤ h405.size := Nat.le_trans Zs395 (Keep.of_wr W405).1
    have N409 := Fr.snoc X405 N396 Ge379
    have Vm406 : Arv Z h405 b378 k378 .char (2 : Int32) [(.int (nar .char ((p1 &&& (255 : Int32)).toUInt32.toUInt16.toUInt32.toInt32))), (.int (nar .char ((p2 &&& (255 : Int32)).toUInt32.toUInt16.toUInt32.toInt32)))] (.int (0 : Int32)) := Arv.set Ar404 q404 S404 M404 H404 G404 (fits_nar_char _) W405 1 rfl (Nat.le_of_ble_eq_true rfl)
    obtain ⟨T412, h412, k412, X412, e412, E412, A412, Y412, st412⟩ := newPE X405 hx hZ (hw _ (List.mem_of_getElem? (i := 1) rfl)) e405 (g := (mkF m 47 #[.val (.int p0), .val (.int p1), .val (.int p2), .val (.int p3), .val (.int (1 : Int32)), .val (.int ((p3 &&& (2147483647 : Int32)) % (3 : Int32))), .val (.ref b378), .unset, .unset, .unset, .unset, .unset] [(.int (0 : Int32))])) rfl (hb hby at_47) rfl (by decide) (cap := 0) (by decide) (by decide) (by decide) (by decide) (ad := "[C") (by first | rfl | decide)
    obtain ⟨b412, g412⟩ : ∃ z, z = h405.size := ⟨_, rfl⟩
    rw [← g412] at A412 Y412 st412
    have Fq414 : Exa Z h405 b378 "[C" := ((Y378.wr W392).wr W405)
    have Ne413 : b378 ≠ b412 := Nat.ne_of_lt (Nat.lt_of_lt_of_le Fq414.lt (Nat.le_of_eq g412.symm))
    have Ge415 : n0 ≤ b412 := Nat.le_trans Zs408 (Nat.le_of_eq g412.symm)
    have Sz416 : h0.size ≤ b412 := Nat.le_trans Kc407.1 (Nat.le_of_eq g412.symm)
    have Kc417 : Keep h0 h412 [] := Kc407.ext E412
    have Zs418 : n0 ≤ h412.size := (Nat.le_trans Zs408 E412.1)
    have V412 : Arv Z h412 b412 k412 .char (0 : Int32) [] (.int (0 : Int32)) := (Arv.new A412 (by decide)).pad (pad_rep [] (.int (0 : Int32)) 0)
    obtain ⟨T426, h426, X426, e426, E426, A426, D426, -, st426⟩ := newO X412 hx hZ hown (hw _ (List.mem_of_getElem? (i := 28) rfl)) (hw _ (List.mem_of_getElem? (i := 29) rfl)) (hw _ (List.mem_of_getElem? (i := 30) rfl)) e412 (g := (mkF m 110 #[.val (.int p0), .val (.int p1), .val (.int p2), .val (.int p3), .val (.int (1 : Int32)), .val (.int ((p3 &&& (2147483647 : Int32)) % (3 : Int32))), .val (.ref b378), .val (.ref b412), .val .null, .unset, .unset, .unset] [])) rfl (hb hby at_110) (by decide) (by decide)
    obtain ⟨b426, g426⟩ : ∃ z, z = h412.size := ⟨_, rfl⟩
    rw [← g426] at A426 D426 st426
    have Fq428 : Exa Z h412 b378 "[C" := (Fq414.ext E412)
    have Ne427 : b378 ≠ b426 := Nat.ne_of_lt (Nat.lt_of_lt_of_le Fq428.lt (Nat.le_of_eq g426.symm))
    have Ne429 : b412 ≠ b426 := Nat.ne_of_lt (Nat.lt_of_lt_of_le Y412.lt (Nat.le_of_eq g426.symm))
    have Ge430 : n0 ≤ b426 := Nat.le_trans Zs418 (Nat.le_of_eq g426.symm)
    have Sz431 : h0.size ≤ b426 := Nat.le_trans Kc417.1 (Nat.le_of_eq g426.symm)
    have Kc432 : Keep h0 h426 [] := Kc417.ext E426
    have Zs433 : n0 ≤ h426.size := (Nat.le_trans Zs418 E426.1)
    have F426_url : Fld Z h426 b426 "com/example/change_gatherer/changegatherer/model/DocumentVersion" "url" "Ljava/lang/String;" .null := D426 (Or.inr (hw _ (List.mem_of_getElem? (i := 45) rfl))) (ty := (.object "java/lang/String")) (by decide)
    have F426_entityTag : Fld Z h426 b426 "com/example/change_gatherer/changegatherer/model/DocumentVersion" "entityTag" "Ljava/lang/String;" .null := D426 (Or.inr (hw _ (List.mem_of_getElem? (i := 47) rfl))) (ty := (.object "java/lang/String")) (by decide)
    have F426_lastModified : Fld Z h426 b426 "com/example/change_gatherer/changegatherer/model/DocumentVersion" "lastModified" "Ljava/lang/String;" .null := D426 (Or.inr (hw _ (List.mem_of_getElem? (i := 49) rfl))) (ty := (.object "java/lang/String")) (by decide)
    have pre436 : ∀ t, Steps p.tables e below (T426.setTop (mkF m 114 #[.val (.int p0), .val (.int p1), .val (.int p2), .val (.int p3), .val (.int (1 : Int32)), .val (.int ((p3 &&& (2147483647 : Int32)) % (3 : Int32))), .val (.ref b378), .val (.ref b412), .val .null, .unset, .unset, .unset] [(.ref b426), (.ref b426)])) t → Steps p.tables e below (s₁.setTop (entryFrame m #[(.int p0), (.int p1), (.int p2), (.int p3)] maxLocals)) t := by
      intro t kt
      refine pre5 _ ?_
      show Steps p.tables e below (s₁.setTop (mkF m 3 #[.val (.int p0), .val (.int p1), .val (.int p2), .val (.int p3), .unset, .unset, .unset, .unset, .unset, .unset, .unset, .unset] [(.int (p0 &&& (1 : Int32)))])) _
      refine XS.ifNo X0.here hx rfl (hb hby at_3) rfl ((if0 _ _).trans (feq hc3_6).1) ?_
      show Steps p.tables e below (s₁.setTop (mkF m 6 #[.val (.int p0), .val (.int p1), .val (.int p2), .val (.int p3), .unset, .unset, .unset, .unset, .unset, .unset, .unset, .unset] [])) _
      refine XS.iconst X0.here hx rfl (hb hby at_6) ?_
      show Steps p.tables e below (s₁.setTop (mkF m 7 #[.val (.int p0), .val (.int p1), .val (.int p2), .val (.int p3), .unset, .unset, .unset, .unset, .unset, .unset, .unset, .unset] [(.int (1 : Int32))])) _
      refine XS.goto X0.here hx rfl (pc0 := 7) (pc' := 11) rfl (hb hby at_7) (by decide) (by decide) ?_
      show Steps p.tables e below (s₁.setTop (mkF m 11 #[.val (.int p0), .val (.int p1), .val (.int p2), .val (.int p3), .unset, .unset, .unset, .unset, .unset, .unset, .unset, .unset] [(.int (1 : Int32))])) _
      refine XS.istore X0.here hx rfl (hb hby at_11) rfl (l' := #[.val (.int p0), .val (.int p1), .val (.int p2), .val (.int p3), .val (.int (1 : Int32)), .unset, .unset, .unset, .unset, .unset, .unset, .unset]) rfl ?_
      show Steps p.tables e below (s₁.setTop (mkF m 13 #[.val (.int p0), .val (.int p1), .val (.int p2), .val (.int p3), .val (.int (1 : Int32)), .unset, .unset, .unset, .unset, .unset, .unset, .unset] [])) _
      refine XS.iloadN X0.here hx rfl (hb hby at_13) rfl ?_
      show Steps p.tables e below (s₁.setTop (mkF m 14 #[.val (.int p0), .val (.int p1), .val (.int p2), .val (.int p3), .val (.int (1 : Int32)), .unset, .unset, .unset, .unset, .unset, .unset, .unset] [(.int p3)])) _
      refine X0.ldcInt hx hown (mvT hZ (hw _ (List.mem_of_getElem? (i := 0) rfl))) (g := (mkF m 14 #[.val (.int p0), .val (.int p1), .val (.int p2), .val (.int p3), .val (.int (1 : Int32)), .unset, .unset, .unset, .unset, .unset, .unset, .unset] [(.int p3)])) rfl (hb hby at_14) _ ?_
      show Steps p.tables e below (s₁.setTop (mkF m 16 #[.val (.int p0), .val (.int p1), .val (.int p2), .val (.int p3), .val (.int (1 : Int32)), .unset, .unset, .unset, .unset, .unset, .unset, .unset] [(.int (2147483647 : Int32)), (.int p3)])) _
      refine XS.iand X0.here hx rfl (hb hby at_16) rfl ?_
      show Steps p.tables e below (s₁.setTop (mkF m 17 #[.val (.int p0), .val (.int p1), .val (.int p2), .val (.int p3), .val (.int (1 : Int32)), .unset, .unset, .unset, .unset, .unset, .unset, .unset] [(.int (p3 &&& (2147483647 : Int32)))])) _
      refine XS.iconst X0.here hx rfl (hb hby at_17) ?_
      show Steps p.tables e below (s₁.setTop (mkF m 18 #[.val (.int p0), .val (.int p1), .val (.int p2), .val (.int p3), .val (.int (1 : Int32)), .unset, .unset, .unset, .unset, .unset, .unset, .unset] [(.int (3 : Int32)), (.int (p3 &&& (2147483647 : Int32)))])) _
      refine iremM X0 hx rfl (hb hby at_18) rfl (by decide) ?_
      show Steps p.tables e below (s₁.setTop (mkF m 19 #[.val (.int p0), .val (.int p1), .val (.int p2), .val (.int p3), .val (.int (1 : Int32)), .unset, .unset, .unset, .unset, .unset, .unset, .unset] [(.int ((p3 &&& (2147483647 : Int32)) % (3 : Int32)))])) _
      refine XS.istore X0.here hx rfl (hb hby at_19) rfl (l' := #[.val (.int p0), .val (.int p1), .val (.int p2), .val (.int p3), .val (.int (1 : Int32)), .val (.int ((p3 &&& (2147483647 : Int32)) % (3 : Int32))), .unset, .unset, .unset, .unset, .unset, .unset]) rfl ?_
      show Steps p.tables e below (s₁.setTop (mkF m 21 #[.val (.int p0), .val (.int p1), .val (.int p2), .val (.int p3), .val (.int (1 : Int32)), .val (.int ((p3 &&& (2147483647 : Int32)) % (3 : Int32))), .unset, .unset, .unset, .unset, .unset, .unset] [])) _
      refine XS.iconst X0.here hx rfl (hb hby at_21) ?_
      show Steps p.tables e below (s₁.setTop (mkF m 22 #[.val (.int p0), .val (.int p1), .val (.int p2), .val (.int p3), .val (.int (1 : Int32)), .val (.int ((p3 &&& (2147483647 : Int32)) % (3 : Int32))), .unset, .unset, .unset, .unset, .unset, .unset] [(.int (2 : Int32))])) _
      refine st378 _ ?_
      show Steps p.tables e below (T378.setTop (mkF m 24 #[.val (.int p0), .val (.int p1), .val (.int p2), .val (.int p3), .val (.int (1 : Int32)), .val (.int ((p3 &&& (2147483647 : Int32)) % (3 : Int32))), .unset, .unset, .unset, .unset, .unset, .unset] [(.ref b378)])) _
      refine XS.astore X378.here hx rfl (hb hby at_24) rfl rfl (l' := #[.val (.int p0), .val (.int p1), .val (.int p2), .val (.int p3), .val (.int (1 : Int32)), .val (.int ((p3 &&& (2147483647 : Int32)) % (3 : Int32))), .val (.ref b378), .unset, .unset, .unset, .unset, .unset]) rfl ?_
      show Steps p.tables e below (T378.setTop (mkF m 26 #[.val (.int p0), .val (.int p1), .val (.int p2), .val (.int p3), .val (.int (1 : Int32)), .val (.int ((p3 &&& (2147483647 : Int32)) % (3 : Int32))), .val (.ref b378), .unset, .unset, .unset, .unset, .unset] [])) _
      refine XS.aload X378.here hx rfl (hb hby at_26) rfl rfl ?_
      show Steps p.tables e below (T378.setTop (mkF m 28 #[.val (.int p0), .val (.int p1), .val (.int p2), .val (.int p3), .val (.int (1 : Int32)), .val (.int ((p3 &&& (2147483647 : Int32)) % (3 : Int32))), .val (.ref b378), .unset, .unset, .unset, .unset, .unset] [(.ref b378)])) _
      refine XS.iconst X378.here hx rfl (hb hby at_28) ?_
      show Steps p.tables e below (T378.setTop (mkF m 29 #[.val (.int p0), .val (.int p1), .val (.int p2), .val (.int p3), .val (.int (1 : Int32)), .val (.int ((p3 &&& (2147483647 : Int32)) % (3 : Int32))), .val (.ref b378), .unset, .unset, .unset, .unset, .unset] [(.int (0 : Int32)), (.ref b378)])) _
      refine XS.iloadN X378.here hx rfl (hb hby at_29) rfl ?_
      show Steps p.tables e below (T378.setTop (mkF m 30 #[.val (.int p0), .val (.int p1), .val (.int p2), .val (.int p3), .val (.int (1 : Int32)), .val (.int ((p3 &&& (2147483647 : Int32)) % (3 : Int32))), .val (.ref b378), .unset, .unset, .unset, .unset, .unset] [(.int p1), (.int (0 : Int32)), (.ref b378)])) _
      refine XS.sipush X378.here hx rfl (hb hby at_30) ?_
      show Steps p.tables e below (T378.setTop (mkF m 33 #[.val (.int p0), .val (.int p1), .val (.int p2), .val (.int p3), .val (.int (1 : Int32)), .val (.int ((p3 &&& (2147483647 : Int32)) % (3 : Int32))), .val (.ref b378), .unset, .unset, .unset, .unset, .unset] [(.int (255 : Int32)), (.int p1), (.int (0 : Int32)), (.ref b378)])) _
      refine XS.iand X378.here hx rfl (hb hby at_33) rfl ?_
      show Steps p.tables e below (T378.setTop (mkF m 34 #[.val (.int p0), .val (.int p1), .val (.int p2), .val (.int p3), .val (.int (1 : Int32)), .val (.int ((p3 &&& (2147483647 : Int32)) % (3 : Int32))), .val (.ref b378), .unset, .unset, .unset, .unset, .unset] [(.int (p1 &&& (255 : Int32))), (.int (0 : Int32)), (.ref b378)])) _
      refine XS.i2c X378.here hx rfl (hb hby at_34) rfl ?_
      show Steps p.tables e below (T378.setTop (mkF m 35 #[.val (.int p0), .val (.int p1), .val (.int p2), .val (.int p3), .val (.int (1 : Int32)), .val (.int ((p3 &&& (2147483647 : Int32)) % (3 : Int32))), .val (.ref b378), .unset, .unset, .unset, .unset, .unset] [(.int ((p1 &&& (255 : Int32)).toUInt32.toUInt16.toUInt32.toInt32)), (.int (0 : Int32)), (.ref b378)])) _
      refine st392 _ ?_
      show Steps p.tables e below (T392.setTop (mkF m 36 #[.val (.int p0), .val (.int p1), .val (.int p2), .val (.int p3), .val (.int (1 : Int32)), .val (.int ((p3 &&& (2147483647 : Int32)) % (3 : Int32))), .val (.ref b378), .unset, .unset, .unset, .unset, .unset] [])) _
      refine XS.aload X392.here hx rfl (hb hby at_36) rfl rfl ?_
      show Steps p.tables e below (T392.setTop (mkF m 38 #[.val (.int p0), .val (.int p1), .val (.int p2), .val (.int p3), .val (.int (1 : Int32)), .val (.int ((p3 &&& (2147483647 : Int32)) % (3 : Int32))), .val (.ref b378), .unset, .unset, .unset, .unset, .unset] [(.ref b378)])) _
      refine XS.iconst X392.here hx rfl (hb hby at_38) ?_
      show Steps p.tables e below (T392.setTop (mkF m 39 #[.val (.int p0), .val (.int p1), .val (.int p2), .val (.int p3), .val (.int (1 : Int32)), .val (.int ((p3 &&& (2147483647 : Int32)) % (3 : Int32))), .val (.ref b378), .unset, .unset, .unset, .unset, .unset] [(.int (1 : Int32)), (.ref b378)])) _
      refine XS.iloadN X392.here hx rfl (hb hby at_39) rfl ?_
      show Steps p.tables e below (T392.setTop (mkF m 40 #[.val (.int p0), .val (.int p1), .val (.int p2), .val (.int p3), .val (.int (1 : Int32)), .val (.int ((p3 &&& (2147483647 : Int32)) % (3 : Int32))), .val (.ref b378), .unset, .unset, .unset, .unset, .unset] [(.int p2), (.int (1 : Int32)), (.ref b378)])) _
      refine XS.sipush X392.here hx rfl (hb hby at_40) ?_
      show Steps p.tables e below (T392.setTop (mkF m 43 #[.val (.int p0), .val (.int p1), .val (.int p2), .val (.int p3), .val (.int (1 : Int32)), .val (.int ((p3 &&& (2147483647 : Int32)) % (3 : Int32))), .val (.ref b378), .unset, .unset, .unset, .unset, .unset] [(.int (255 : Int32)), (.int p2), (.int (1 : Int32)), (.ref b378)])) _
      refine XS.iand X392.here hx rfl (hb hby at_43) rfl ?_
      show Steps p.tables e below (T392.setTop (mkF m 44 #[.val (.int p0), .val (.int p1), .val (.int p2), .val (.int p3), .val (.int (1 : Int32)), .val (.int ((p3 &&& (2147483647 : Int32)) % (3 : Int32))), .val (.ref b378), .unset, .unset, .unset, .unset, .unset] [(.int (p2 &&& (255 : Int32))), (.int (1 : Int32)), (.ref b378)])) _
      refine XS.i2c X392.here hx rfl (hb hby at_44) rfl ?_
      show Steps p.tables e below (T392.setTop (mkF m 45 #[.val (.int p0), .val (.int p1), .val (.int p2), .val (.int p3), .val (.int (1 : Int32)), .val (.int ((p3 &&& (2147483647 : Int32)) % (3 : Int32))), .val (.ref b378), .unset, .unset, .unset, .unset, .unset] [(.int ((p2 &&& (255 : Int32)).toUInt32.toUInt16.toUInt32.toInt32)), (.int (1 : Int32)), (.ref b378)])) _
      refine st405 _ ?_
      show Steps p.tables e below (T405.setTop (mkF m 46 #[.val (.int p0), .val (.int p1), .val (.int p2), .val (.int p3), .val (.int (1 : Int32)), .val (.int ((p3 &&& (2147483647 : Int32)) % (3 : Int32))), .val (.ref b378), .unset, .unset, .unset, .unset, .unset] [])) _
      refine XS.iconst X405.here hx rfl (hb hby at_46) ?_
      show Steps p.tables e below (T405.setTop (mkF m 47 #[.val (.int p0), .val (.int p1), .val (.int p2), .val (.int p3), .val (.int (1 : Int32)), .val (.int ((p3 &&& (2147483647 : Int32)) % (3 : Int32))), .val (.ref b378), .unset, .unset, .unset, .unset, .unset] [(.int (0 : Int32))])) _
      refine st412 _ ?_
      show Steps p.tables e below (T412.setTop (mkF m 49 #[.val (.int p0), .val (.int p1), .val (.int p2), .val (.int p3), .val (.int (1 : Int32)), .val (.int ((p3 &&& (2147483647 : Int32)) % (3 : Int32))), .val (.ref b378), .unset, .unset, .unset, .unset, .unset] [(.ref b412)])) _
      refine XS.astore X412.here hx rfl (hb hby at_49) rfl rfl (l' := #[.val (.int p0), .val (.int p1), .val (.int p2), .val (.int p3), .val (.int (1 : Int32)), .val (.int ((p3 &&& (2147483647 : Int32)) % (3 : Int32))), .val (.ref b378), .val (.ref b412), .unset, .unset, .unset, .unset]) rfl ?_
      show Steps p.tables e below (T412.setTop (mkF m 51 #[.val (.int p0), .val (.int p1), .val (.int p2), .val (.int p3), .val (.int (1 : Int32)), .val (.int ((p3 &&& (2147483647 : Int32)) % (3 : Int32))), .val (.ref b378), .val (.ref b412), .unset, .unset, .unset, .unset] [])) _
      refine XS.iload X412.here hx rfl (hb hby at_51) rfl ?_
      show Steps p.tables e below (T412.setTop (mkF m 53 #[.val (.int p0), .val (.int p1), .val (.int p2), .val (.int p3), .val (.int (1 : Int32)), .val (.int ((p3 &&& (2147483647 : Int32)) % (3 : Int32))), .val (.ref b378), .val (.ref b412), .unset, .unset, .unset, .unset] [(.int (1 : Int32))])) _
      refine XS.ifNo X412.here hx rfl (hb hby at_53) rfl ((if0 _ _).trans (feq ((by decide) : ¬ ((1 : Int32) = (0 : Int32)))).1) ?_
      show Steps p.tables e below (T412.setTop (mkF m 56 #[.val (.int p0), .val (.int p1), .val (.int p2), .val (.int p3), .val (.int (1 : Int32)), .val (.int ((p3 &&& (2147483647 : Int32)) % (3 : Int32))), .val (.ref b378), .val (.ref b412), .unset, .unset, .unset, .unset] [])) _
      refine XS.aconstNull X412.here hx rfl (hb hby at_56) ?_
      show Steps p.tables e below (T412.setTop (mkF m 57 #[.val (.int p0), .val (.int p1), .val (.int p2), .val (.int p3), .val (.int (1 : Int32)), .val (.int ((p3 &&& (2147483647 : Int32)) % (3 : Int32))), .val (.ref b378), .val (.ref b412), .unset, .unset, .unset, .unset] [.null])) _
      refine XS.astore X412.here hx rfl (hb hby at_57) rfl rfl (l' := #[.val (.int p0), .val (.int p1), .val (.int p2), .val (.int p3), .val (.int (1 : Int32)), .val (.int ((p3 &&& (2147483647 : Int32)) % (3 : Int32))), .val (.ref b378), .val (.ref b412), .val .null, .unset, .unset, .unset]) rfl ?_
      show Steps p.tables e below (T412.setTop (mkF m 59 #[.val (.int p0), .val (.int p1), .val (.int p2), .val (.int p3), .val (.int (1 : Int32)), .val (.int ((p3 &&& (2147483647 : Int32)) % (3 : Int32))), .val (.ref b378), .val (.ref b412), .val .null, .unset, .unset, .unset] [])) _
      refine XS.goto X412.here hx rfl (pc0 := 59) (pc' := 110) rfl (hb hby at_59) (by decide) (by decide) ?_
      show Steps p.tables e below (T412.setTop (mkF m 110 #[.val (.int p0), .val (.int p1), .val (.int p2), .val (.int p3), .val (.int (1 : Int32)), .val (.int ((p3 &&& (2147483647 : Int32)) % (3 : Int32))), .val (.ref b378), .val (.ref b412), .val .null, .unset, .unset, .unset] [])) _
      refine st426 _ ?_
      show Steps p.tables e below (T426.setTop (mkF m 113 #[.val (.int p0), .val (.int p1), .val (.int p2), .val (.int p3), .val (.int (1 : Int32)), .val (.int ((p3 &&& (2147483647 : Int32)) % (3 : Int32))), .val (.ref b378), .val (.ref b412), .val .null, .unset, .unset, .unset] [(.ref b426)])) _
      refine XS.dup X426.here hx rfl (hb hby at_113) rfl rfl ?_
      show Steps p.tables e below (T426.setTop (mkF m 114 #[.val (.int p0), .val (.int p1), .val (.int p2), .val (.int p3), .val (.int (1 : Int32)), .val (.int ((p3 &&& (2147483647 : Int32)) % (3 : Int32))), .val (.ref b378), .val (.ref b412), .val .null, .unset, .unset, .unset] [(.ref b426), (.ref b426)])) _
      exact kt
    obtain ⟨b437, T437, h437, ks437, bv437, kv437, X437, e437, E437, Si437, Sk437, hZ437, hown437, Ex437, Fc437, Fv437, Av437, la437, lb437, I437, Li437, st437⟩ := ldcSVL (s := s) (vm0 := s.vm) X426 hx hZ hown (hw _ (List.mem_of_getElem? (i := 31) rfl)) (own_satoms hw) e426 (own_since s 0) (Nat.zero_le _) (by rw [hh, ← hn0]; exact N409) (by rw [hh]; exact hO.2.2) hI (by decide) hk_u hcw (vs := [(.int (117 : Int32))]) (z := (1 : Int32)) (by decide) (by decide) (by decide) (g := (mkF m 114 #[.val (.int p0), .val (.int p1), .val (.int p2), .val (.int p3), .val (.int (1 : Int32)), .val (.int ((p3 &&& (2147483647 : Int32)) % (3 : Int32))), .val (.ref b378), .val (.ref b412), .val .null, .unset, .unset, .unset] [(.ref b426), (.ref b426)])) rfl (hb hby at_114) (n := 4) (by decide) (by decide) (by decide) (by decide)
    have hZ := hZ437
    have hown := hown437
    have Kc438 : Keep h0 h437 [] := Kc432.ext E437
    have Zs439 : n0 ≤ h437.size := (Nat.le_trans Zs433 E437.1)
    have Fq444 : Exa Z h437 b426 "com/example/change_gatherer/changegatherer/model/DocumentVersion" := (A426.ext E437)
    have Fq445 : Fld Z h437 b426 "com/example/change_gatherer/changegatherer/model/DocumentVersion" "url" "Ljava/lang/String;" .null := (F426_url.ext E437)
    have Fq446 : Fld Z h437 b426 "com/example/change_gatherer/changegatherer/model/DocumentVersion" "entityTag" "Ljava/lang/String;" .null := (F426_entityTag.ext E437)
    have Fq447 : Fld Z h437 b426 "com/example/change_gatherer/changegatherer/model/DocumentVersion" "lastModified" "Ljava/lang/String;" .null := (F426_lastModified.ext E437)
    have pre448 : ∀ t, Steps p.tables e below (T437.setTop (mkF m 118 #[.val (.int p0), .val (.int p1), .val (.int p2), .val (.int p3), .val (.int (1 : Int32)), .val (.int ((p3 &&& (2147483647 : Int32)) % (3 : Int32))), .val (.ref b378), .val (.ref b412), .val .null, .unset, .unset, .unset] [.null, .null, (.ref b437), (.ref b426), (.ref b426)])) t → Steps p.tables e below (s₁.setTop (entryFrame m #[(.int p0), (.int p1), (.int p2), (.int p3)] maxLocals)) t := by
      intro t kt
      refine pre436 _ ?_
      refine st437 _ ?_
      show Steps p.tables e below (T437.setTop (mkF m 116 #[.val (.int p0), .val (.int p1), .val (.int p2), .val (.int p3), .val (.int (1 : Int32)), .val (.int ((p3 &&& (2147483647 : Int32)) % (3 : Int32))), .val (.ref b378), .val (.ref b412), .val .null, .unset, .unset, .unset] [(.ref b437), (.ref b426), (.ref b426)])) _
      refine XS.aconstNull X437.here hx rfl (hb hby at_116) ?_
      show Steps p.tables e below (T437.setTop (mkF m 117 #[.val (.int p0), .val (.int p1), .val (.int p2), .val (.int p3), .val (.int (1 : Int32)), .val (.int ((p3 &&& (2147483647 : Int32)) % (3 : Int32))), .val (.ref b378), .val (.ref b412), .val .null, .unset, .unset, .unset] [.null, (.ref b437), (.ref b426), (.ref b426)])) _
      refine XS.aconstNull X437.here hx rfl (hb hby at_117) ?_
      show Steps p.tables e below (T437.setTop (mkF m 118 #[.val (.int p0), .val (.int p1), .val (.int p2), .val (.int p3), .val (.int (1 : Int32)), .val (.int ((p3 &&& (2147483647 : Int32)) % (3 : Int32))), .val (.ref b378), .val (.ref b412), .val .null, .unset, .unset, .unset] [.null, .null, (.ref b437), (.ref b426), (.ref b426)])) _
      exact kt
    obtain ⟨_, _, ⟨T443, L443, k443, n443⟩, -, Xw443, hs443, gs443, ⟨Lc443, hQ443, l443, y443, z443⟩, st443⟩ := Stand.specialBackS (s := s.setVm T437.vm) X437 hx (y := (⟨"com/example/change_gatherer/changegatherer/model/DocumentVersion", "<init>", "(Ljava/lang/String;Ljava/lang/String;Ljava/lang/String;)V"⟩ : MethodName)) rfl hown (mvT hZ (hw _ (List.mem_of_getElem? (i := 34) rfl))) (mvT hZ (hw _ (List.mem_of_getElem? (i := 35) rfl))) (mvT hZ (hw _ (List.mem_of_getElem? (i := 36) rfl))) (by decide) (backOfS (W := 1) (own_dv l Z a0 hw [] b426 b437 .null .null .null h437 n0 Zs439 Fq444 Ex437 Fq445 Fq446 Fq447 Ge430) hZ (hw _ (List.mem_of_getElem? (i := 36) rfl)) (hw _ (List.mem_of_getElem? (i := 30) rfl)) (by decide) (by decide)) (g := (mkF m 118 #[.val (.int p0), .val (.int p1), .val (.int p2), .val (.int p3), .val (.int (1 : Int32)), .val (.int ((p3 &&& (2147483647 : Int32)) % (3 : Int32))), .val (.ref b378), .val (.ref b412), .val .null, .unset, .unset, .unset] [.null, .null, (.ref b437), (.ref b426), (.ref b426)])) rfl (by rw [hml]; rfl) (Steps.refl _) (a := b426) (argsL := [(.ref b437), .null, .null]) (rest := [(.ref b426)]) (lenOf own_pd9 rfl) rfl (by show 2 * 0 + _ ≤ _; exact Nat.le_of_eq rfl) (hb hby at_118) (fun _ _ => ⟨rfl, e437, (by decide : 5 + 2 ≤ _), (by decide : 13 + 16 ≤ _)⟩)
    obtain ⟨X443, Si443, hZ443, hown443⟩ := rebS (s := s) Si437 (show _ ≤ T437.heap.size by rw [e437]; exact Sk437) Xw443 hs443 gs443 hZ hown
    have hZ := hZ443
    have hown := hown443
    dsimp only [Pt.U, Pt.locs, Pt.cells, Pt.slots] at X443 l443 y443 z443 st443 hQ443
    rw [l443, y443, z443] at X443
    obtain ⟨rfl, Nq443, K443⟩ := hQ443
    have N449 := Fr.app N409 Nq443
    have Kc450 : Keep h0 T443.heap [] := Kc438.trans K443 (allS (Or.inr Sz431) all0)
    have Zs451 : n0 ≤ T443.heap.size := Nat.le_trans Zs439 K443.1
    obtain ⟨T454, h454, X454, e454, E454, A454, D454, -, st454⟩ := newO X443 hx hZ hown (hw _ (List.mem_of_getElem? (i := 50) rfl)) (hw _ (List.mem_of_getElem? (i := 51) rfl)) (hw _ (List.mem_of_getElem? (i := 52) rfl)) rfl (g := (mkF m 123 #[.val (.int p0), .val (.int p1), .val (.int p2), .val (.int p3), .val (.int (1 : Int32)), .val (.int ((p3 &&& (2147483647 : Int32)) % (3 : Int32))), .val (.ref b378), .val (.ref b412), .val .null, .val (.ref b426), .unset, .unset] [])) rfl (hb hby at_123) (by decide) (by decide)
    obtain ⟨b454, g454⟩ : ∃ z, z = T443.heap.size := ⟨_, rfl⟩
    rw [← g454] at A454 D454 st454
    have Fq456 : Exa Z T443.heap b378 "[C" := (((Fq428.ext E426).ext E437).keep K443)
    have Ne455 : b378 ≠ b454 := Nat.ne_of_lt (Nat.lt_of_lt_of_le Fq456.lt (Nat.le_of_eq g454.symm))
    have Fq458 : Exa Z T443.heap b412 "[C" := (((Y412.ext E426).ext E437).keep K443)
    have Ne457 : b412 ≠ b454 := Nat.ne_of_lt (Nat.lt_of_lt_of_le Fq458.lt (Nat.le_of_eq g454.symm))
    have Fq460 : Exa Z T443.heap b426 "com/example/change_gatherer/changegatherer/model/DocumentVersion" := (Fq444.keep K443)
    have Ne459 : b426 ≠ b454 := Nat.ne_of_lt (Nat.lt_of_lt_of_le Fq460.lt (Nat.le_of_eq g454.symm))
    have Fq462 : Exa Z T443.heap b437 "java/lang/String" := (Ex437.keep K443)
    have Ne461 : b437 ≠ b454 := Nat.ne_of_lt (Nat.lt_of_lt_of_le Fq462.lt (Nat.le_of_eq g454.symm))
    have Ge463 : n0 ≤ b454 := Nat.le_trans Zs451 (Nat.le_of_eq g454.symm)
    have Sz464 : h0.size ≤ b454 := Nat.le_trans Kc450.1 (Nat.le_of_eq g454.symm)
    have Kc465 : Keep h0 h454 [] := Kc450.ext E454
    have Zs466 : n0 ≤ h454.size := (Nat.le_trans Zs451 E454.1)
    have F454_body : Fld Z h454 b454 "com/example/change_gatherer/changegatherer/io/FetchedDocument" "body" "Ljava/lang/String;" .null := D454 (Or.inr (hw _ (List.mem_of_getElem? (i := 58) rfl))) (ty := (.object "java/lang/String")) (by decide)
    have F454_version : Fld Z h454 b454 "com/example/change_gatherer/changegatherer/io/FetchedDocument" "version" "Lcom/example/change_gatherer/changegatherer/model/DocumentVersion;" .null := D454 (Or.inr (hw _ (List.mem_of_getElem? (i := 60) rfl))) (ty := (.object "com/example/change_gatherer/changegatherer/model/DocumentVersion")) (by decide)
    obtain ⟨_, _, ⟨T471, L471, k471, n471⟩, -, X471, ⟨Lc471, hQ471, l471, y471, z471⟩, st471⟩ := X454.specialBack hx (y := (⟨"com/example/change_gatherer/changegatherer/io/FetchedDocument", "<init>", "(Ljava/lang/String;Lcom/example/change_gatherer/changegatherer/model/DocumentVersion;)V"⟩ : MethodName)) rfl hown (mvT hZ (hw _ (List.mem_of_getElem? (i := 53) rfl))) (mvT hZ (hw _ (List.mem_of_getElem? (i := 54) rfl))) (mvT hZ (hw _ (List.mem_of_getElem? (i := 55) rfl))) (by decide) (backOf (W := 1) (own_fdN l Z a0 hw [] b454 b426 .null .null h454 n0 Zs466 A454 F454_body F454_version Ge463) hZ (hw _ (List.mem_of_getElem? (i := 55) rfl)) (hw _ (List.mem_of_getElem? (i := 52) rfl)) (by decide) (by decide)) (g := (mkF m 131 #[.val (.int p0), .val (.int p1), .val (.int p2), .val (.int p3), .val (.int (1 : Int32)), .val (.int ((p3 &&& (2147483647 : Int32)) % (3 : Int32))), .val (.ref b378), .val (.ref b412), .val .null, .val (.ref b426), .unset, .unset] [(.ref b426), .null, (.ref b454), (.ref b454)])) rfl (by rw [hml]; rfl) (Steps.refl _) (a := b454) (argsL := [.null, (.ref b426)]) (rest := [(.ref b454)]) (lenOf own_pd10 rfl) rfl (by show 2 * 0 + _ ≤ _; exact Nat.le_of_eq rfl) (hb hby at_131) (fun _ _ => ⟨rfl, e454, (by decide : 8 + 0 ≤ _), (by decide : 31 + 0 ≤ _)⟩)
    dsimp only [Pt.U, Pt.locs, Pt.cells, Pt.slots] at X471 l471 y471 z471 st471 hQ471
    rw [l471, y471, z471] at X471
    obtain ⟨rfl, Nq471, K471, Pf471_0, Pf471_1⟩ := hQ471
    have N472 := Fr.app N449 Nq471
    have Kc473 : Keep h0 T471.heap [] := Kc465.trans K471 (allS (Or.inr Sz464) all0)
    have Zs474 : n0 ≤ T471.heap.size := Nat.le_trans Zs466 K471.1
    have Fq479 : Exa Z T471.heap b454 "com/example/change_gatherer/changegatherer/io/FetchedDocument" := (A454.keep K471)
    obtain ⟨cq478, kq478, q478a, q478b, q478c⟩ := isOf hZ rfl Fq479
    obtain ⟨_, _, ⟨T478, L478, k478, n478⟩, -, X478, ⟨Lc478, hQ478, l478, y478, z478⟩, st478⟩ := X471.virtualBack hx (y := (⟨"com/example/change_gatherer/changegatherer/io/FetchedDocument", "isModified", "()Z"⟩ : MethodName)) (z := (⟨"com/example/change_gatherer/changegatherer/io/FetchedDocument", "isModified", "()Z"⟩ : MethodName)) hown (mvT hZ (hw _ (List.mem_of_getElem? (i := 61) rfl))) (mvT hZ (hw _ (List.mem_of_getElem? (i := 62) rfl))) (notFace_of_selects (args := #[]) (mvT hZ (hw _ (List.mem_of_getElem? (i := 64) rfl)))) (mvT hZ (hw _ (List.mem_of_getElem? (i := 64) rfl))) (mvT hZ (hw _ (List.mem_of_getElem? (i := 63) rfl))) (by decide) (backOf (W := 0) (own_imN l Z a0 hw [] b454 T471.heap n0 Zs474 Fq479 Pf471_0) hZ (hw _ (List.mem_of_getElem? (i := 65) rfl)) (hw _ (List.mem_of_getElem? (i := 52) rfl)) (by decide) (by decide)) q478a q478c (g := (mkF m 138 #[.val (.int p0), .val (.int p1), .val (.int p2), .val (.int p3), .val (.int (1 : Int32)), .val (.int ((p3 &&& (2147483647 : Int32)) % (3 : Int32))), .val (.ref b378), .val (.ref b412), .val .null, .val (.ref b426), .val (.ref b454), .unset] [(.ref b454)])) rfl (by rw [hml]; rfl) (Steps.refl _) (argsL := []) (rest := []) (lenOf own_pd11 rfl) rfl (by show 2 * 0 + _ ≤ _; exact Nat.le_of_eq rfl) (hb hby at_138) (fun _ _ => ⟨rfl, rfl, (by decide : 8 + 0 ≤ _), (by decide : 31 + 0 ≤ _)⟩)
    dsimp only [Pt.U, Pt.locs, Pt.cells, Pt.slots] at X478 l478 y478 z478 st478 hQ478
    rw [l478, y478, z478] at X478
    obtain ⟨rfl, Nq478, eh478⟩ := hQ478
    have N480 := Fr.app N472 Nq478
    obtain ⟨cq488, kq488, q488a, q488b, q488c⟩ := isOf hZ eh478 Fq479
    obtain ⟨_, _, ⟨T488, L488, k488, n488⟩, -, X488, ⟨Lc488, hQ488, l488, y488, z488⟩, st488⟩ := X478.virtualBack hx (y := (⟨"com/example/change_gatherer/changegatherer/io/FetchedDocument", "getBody", "()Ljava/lang/String;"⟩ : MethodName)) (z := (⟨"com/example/change_gatherer/changegatherer/io/FetchedDocument", "getBody", "()Ljava/lang/String;"⟩ : MethodName)) hown (mvT hZ (hw _ (List.mem_of_getElem? (i := 66) rfl))) (mvT hZ (hw _ (List.mem_of_getElem? (i := 67) rfl))) (notFace_of_selects (args := #[]) (mvT hZ (hw _ (List.mem_of_getElem? (i := 69) rfl)))) (mvT hZ (hw _ (List.mem_of_getElem? (i := 69) rfl))) (mvT hZ (hw _ (List.mem_of_getElem? (i := 68) rfl))) (by decide) (backOf (W := 0) (own_gbN l Z a0 hw [] b454 T471.heap n0 Zs474 Fq479 Pf471_0) hZ (hw _ (List.mem_of_getElem? (i := 70) rfl)) (hw _ (List.mem_of_getElem? (i := 52) rfl)) (by decide) (by decide)) q488a q488c (g := (mkF m 155 #[.val (.int p0), .val (.int p1), .val (.int p2), .val (.int p3), .val (.int (1 : Int32)), .val (.int ((p3 &&& (2147483647 : Int32)) % (3 : Int32))), .val (.ref b378), .val (.ref b412), .val .null, .val (.ref b426), .val (.ref b454), .val (.int (0 : Int32))] [(.ref b454)])) rfl (by rw [hml]; rfl) (Steps.refl _) (argsL := []) (rest := []) (lenOf own_pd12 rfl) rfl (by show 2 * 0 + _ ≤ _; exact Nat.le_of_eq rfl) (hb hby at_155) (fun _ _ => ⟨rfl, eh478, (by decide : 8 + 0 ≤ _), (by decide : 31 + 0 ≤ _)⟩)
    dsimp only [Pt.U, Pt.locs, Pt.cells, Pt.slots] at X488 l488 y488 z488 st488 hQ488
    rw [l488, y488, z488] at X488
    obtain ⟨rfl, Nq488, eh488⟩ := hQ488
    have N489 := Fr.app N480 Nq488
    obtain ⟨cq493, kq493, q493a, q493b, q493c⟩ := isOf hZ eh488 Fq479
    obtain ⟨_, _, ⟨T493, L493, k493, n493⟩, -, X493, ⟨Lc493, hQ493, l493, y493, z493⟩, st493⟩ := X488.virtualBack hx (y := (⟨"com/example/change_gatherer/changegatherer/io/FetchedDocument", "getVersion", "()Lcom/example/change_gatherer/changegatherer/model/DocumentVersion;"⟩ : MethodName)) (z := (⟨"com/example/change_gatherer/changegatherer/io/FetchedDocument", "getVersion", "()Lcom/example/change_gatherer/changegatherer/model/DocumentVersion;"⟩ : MethodName)) hown (mvT hZ (hw _ (List.mem_of_getElem? (i := 71) rfl))) (mvT hZ (hw _ (List.mem_of_getElem? (i := 72) rfl))) (notFace_of_selects (args := #[]) (mvT hZ (hw _ (List.mem_of_getElem? (i := 74) rfl)))) (mvT hZ (hw _ (List.mem_of_getElem? (i := 74) rfl))) (mvT hZ (hw _ (List.mem_of_getElem? (i := 73) rfl))) (by decide) (backOf (W := 0) (own_gv l Z a0 hw [] b454 b426 T471.heap n0 Zs474 Fq479 Pf471_1) hZ (hw _ (List.mem_of_getElem? (i := 75) rfl)) (hw _ (List.mem_of_getElem? (i := 52) rfl)) (by decide) (by decide)) q493a q493c (g := (mkF m 163 #[.val (.int p0), .val (.int p1), .val (.int p2), .val (.int p3), .val (.int (1 : Int32)), .val (.int ((p3 &&& (2147483647 : Int32)) % (3 : Int32))), .val (.ref b378), .val (.ref b412), .val .null, .val (.ref b426), .val (.ref b454), .val (.int (0 : Int32))] [(.ref b454)])) rfl (by rw [hml]; rfl) (Steps.refl _) (argsL := []) (rest := []) (lenOf own_pd13 rfl) rfl (by show 2 * 0 + _ ≤ _; exact Nat.le_of_eq rfl) (hb hby at_163) (fun _ _ => ⟨rfl, eh488, (by decide : 8 + 0 ≤ _), (by decide : 31 + 0 ≤ _)⟩)
    dsimp only [Pt.U, Pt.locs, Pt.cells, Pt.slots] at X493 l493 y493 z493 st493 hQ493
    rw [l493, y493, z493] at X493
    obtain ⟨rfl, Nq493, eh493⟩ := hQ493
    have N494 := Fr.app N489 Nq493
    obtain ⟨fs, hr, hrun, hended, hR1, hR2, hR3, hR4⟩ := leaveW (s := s) (vm₁ := T443.vm) X493 Si443 (show _ ≤ T493.heap.size by rw [eh493]; exact (Nat.le_trans (Nat.le_trans (Nat.le_refl _) E454.1) K471.1)) (v := some (.int (1 : Int32))) (fun h => by rw [Bd.returns] at h; cases h) (hlocks := BodyLoose.notSynchronized Bd)
    refine ⟨_, _, pre448 _ ?_, hrun, hended, _, _, rfl, ?_, hR1, hR2, hR3, hR4.mono (by decide) (by decide)⟩
    · refine st443.trans ?_
      show Steps p.tables e below (T443.setTop (mkF m 121 #[.val (.int p0), .val (.int p1), .val (.int p2), .val (.int p3), .val (.int (1 : Int32)), .val (.int ((p3 &&& (2147483647 : Int32)) % (3 : Int32))), .val (.ref b378), .val (.ref b412), .val .null, .unset, .unset, .unset] [(.ref b426)])) _
      refine XS.astore X443.here hx rfl (hb hby at_121) rfl rfl (l' := #[.val (.int p0), .val (.int p1), .val (.int p2), .val (.int p3), .val (.int (1 : Int32)), .val (.int ((p3 &&& (2147483647 : Int32)) % (3 : Int32))), .val (.ref b378), .val (.ref b412), .val .null, .val (.ref b426), .unset, .unset]) rfl ?_
      show Steps p.tables e below (T443.setTop (mkF m 123 #[.val (.int p0), .val (.int p1), .val (.int p2), .val (.int p3), .val (.int (1 : Int32)), .val (.int ((p3 &&& (2147483647 : Int32)) % (3 : Int32))), .val (.ref b378), .val (.ref b412), .val .null, .val (.ref b426), .unset, .unset] [])) _
      refine st454 _ ?_
      show Steps p.tables e below (T454.setTop (mkF m 126 #[.val (.int p0), .val (.int p1), .val (.int p2), .val (.int p3), .val (.int (1 : Int32)), .val (.int ((p3 &&& (2147483647 : Int32)) % (3 : Int32))), .val (.ref b378), .val (.ref b412), .val .null, .val (.ref b426), .unset, .unset] [(.ref b454)])) _
      refine XS.dup X454.here hx rfl (hb hby at_126) rfl rfl ?_
      show Steps p.tables e below (T454.setTop (mkF m 127 #[.val (.int p0), .val (.int p1), .val (.int p2), .val (.int p3), .val (.int (1 : Int32)), .val (.int ((p3 &&& (2147483647 : Int32)) % (3 : Int32))), .val (.ref b378), .val (.ref b412), .val .null, .val (.ref b426), .unset, .unset] [(.ref b454), (.ref b454)])) _
      refine XS.aload X454.here hx rfl (hb hby at_127) rfl rfl ?_
      show Steps p.tables e below (T454.setTop (mkF m 129 #[.val (.int p0), .val (.int p1), .val (.int p2), .val (.int p3), .val (.int (1 : Int32)), .val (.int ((p3 &&& (2147483647 : Int32)) % (3 : Int32))), .val (.ref b378), .val (.ref b412), .val .null, .val (.ref b426), .unset, .unset] [.null, (.ref b454), (.ref b454)])) _
      refine XS.aload X454.here hx rfl (hb hby at_129) rfl rfl ?_
      show Steps p.tables e below (T454.setTop (mkF m 131 #[.val (.int p0), .val (.int p1), .val (.int p2), .val (.int p3), .val (.int (1 : Int32)), .val (.int ((p3 &&& (2147483647 : Int32)) % (3 : Int32))), .val (.ref b378), .val (.ref b412), .val .null, .val (.ref b426), .unset, .unset] [(.ref b426), .null, (.ref b454), (.ref b454)])) _
      refine st471.trans ?_
      show Steps p.tables e below (T471.setTop (mkF m 134 #[.val (.int p0), .val (.int p1), .val (.int p2), .val (.int p3), .val (.int (1 : Int32)), .val (.int ((p3 &&& (2147483647 : Int32)) % (3 : Int32))), .val (.ref b378), .val (.ref b412), .val .null, .val (.ref b426), .unset, .unset] [(.ref b454)])) _
      refine XS.astore X471.here hx rfl (hb hby at_134) rfl rfl (l' := #[.val (.int p0), .val (.int p1), .val (.int p2), .val (.int p3), .val (.int (1 : Int32)), .val (.int ((p3 &&& (2147483647 : Int32)) % (3 : Int32))), .val (.ref b378), .val (.ref b412), .val .null, .val (.ref b426), .val (.ref b454), .unset]) rfl ?_
      show Steps p.tables e below (T471.setTop (mkF m 136 #[.val (.int p0), .val (.int p1), .val (.int p2), .val (.int p3), .val (.int (1 : Int32)), .val (.int ((p3 &&& (2147483647 : Int32)) % (3 : Int32))), .val (.ref b378), .val (.ref b412), .val .null, .val (.ref b426), .val (.ref b454), .unset] [])) _
      refine XS.aload X471.here hx rfl (hb hby at_136) rfl rfl ?_
      show Steps p.tables e below (T471.setTop (mkF m 138 #[.val (.int p0), .val (.int p1), .val (.int p2), .val (.int p3), .val (.int (1 : Int32)), .val (.int ((p3 &&& (2147483647 : Int32)) % (3 : Int32))), .val (.ref b378), .val (.ref b412), .val .null, .val (.ref b426), .val (.ref b454), .unset] [(.ref b454)])) _
      refine st478.trans ?_
      show Steps p.tables e below (T478.setTop (mkF m 141 #[.val (.int p0), .val (.int p1), .val (.int p2), .val (.int p3), .val (.int (1 : Int32)), .val (.int ((p3 &&& (2147483647 : Int32)) % (3 : Int32))), .val (.ref b378), .val (.ref b412), .val .null, .val (.ref b426), .val (.ref b454), .unset] [(.int (0 : Int32))])) _
      refine XS.istore X478.here hx rfl (hb hby at_141) rfl (l' := #[.val (.int p0), .val (.int p1), .val (.int p2), .val (.int p3), .val (.int (1 : Int32)), .val (.int ((p3 &&& (2147483647 : Int32)) % (3 : Int32))), .val (.ref b378), .val (.ref b412), .val .null, .val (.ref b426), .val (.ref b454), .val (.int (0 : Int32))]) rfl ?_
      show Steps p.tables e below (T478.setTop (mkF m 143 #[.val (.int p0), .val (.int p1), .val (.int p2), .val (.int p3), .val (.int (1 : Int32)), .val (.int ((p3 &&& (2147483647 : Int32)) % (3 : Int32))), .val (.ref b378), .val (.ref b412), .val .null, .val (.ref b426), .val (.ref b454), .val (.int (0 : Int32))] [])) _
      refine XS.iload X478.here hx rfl (hb hby at_143) rfl ?_
      show Steps p.tables e below (T478.setTop (mkF m 145 #[.val (.int p0), .val (.int p1), .val (.int p2), .val (.int p3), .val (.int (1 : Int32)), .val (.int ((p3 &&& (2147483647 : Int32)) % (3 : Int32))), .val (.ref b378), .val (.ref b412), .val .null, .val (.ref b426), .val (.ref b454), .val (.int (0 : Int32))] [(.int (1 : Int32))])) _
      refine XS.ifNo X478.here hx rfl (hb hby at_145) rfl ((if0 _ _).trans (feq ((by decide) : ¬ ((1 : Int32) = (0 : Int32)))).1) ?_
      show Steps p.tables e below (T478.setTop (mkF m 148 #[.val (.int p0), .val (.int p1), .val (.int p2), .val (.int p3), .val (.int (1 : Int32)), .val (.int ((p3 &&& (2147483647 : Int32)) % (3 : Int32))), .val (.ref b378), .val (.ref b412), .val .null, .val (.ref b426), .val (.ref b454), .val (.int (0 : Int32))] [])) _
      refine XS.iload X478.here hx rfl (hb hby at_148) rfl ?_
      show Steps p.tables e below (T478.setTop (mkF m 150 #[.val (.int p0), .val (.int p1), .val (.int p2), .val (.int p3), .val (.int (1 : Int32)), .val (.int ((p3 &&& (2147483647 : Int32)) % (3 : Int32))), .val (.ref b378), .val (.ref b412), .val .null, .val (.ref b426), .val (.ref b454), .val (.int (0 : Int32))] [(.int (0 : Int32))])) _
      refine XS.ifNo X478.here hx rfl (hb hby at_150) rfl ((if0 _ _).trans (teq ((by decide) : (0 : Int32) = (0 : Int32))).2) ?_
      show Steps p.tables e below (T478.setTop (mkF m 153 #[.val (.int p0), .val (.int p1), .val (.int p2), .val (.int p3), .val (.int (1 : Int32)), .val (.int ((p3 &&& (2147483647 : Int32)) % (3 : Int32))), .val (.ref b378), .val (.ref b412), .val .null, .val (.ref b426), .val (.ref b454), .val (.int (0 : Int32))] [])) _
      refine XS.aload X478.here hx rfl (hb hby at_153) rfl rfl ?_
      show Steps p.tables e below (T478.setTop (mkF m 155 #[.val (.int p0), .val (.int p1), .val (.int p2), .val (.int p3), .val (.int (1 : Int32)), .val (.int ((p3 &&& (2147483647 : Int32)) % (3 : Int32))), .val (.ref b378), .val (.ref b412), .val .null, .val (.ref b426), .val (.ref b454), .val (.int (0 : Int32))] [(.ref b454)])) _
      refine st488.trans ?_
      show Steps p.tables e below (T488.setTop (mkF m 158 #[.val (.int p0), .val (.int p1), .val (.int p2), .val (.int p3), .val (.int (1 : Int32)), .val (.int ((p3 &&& (2147483647 : Int32)) % (3 : Int32))), .val (.ref b378), .val (.ref b412), .val .null, .val (.ref b426), .val (.ref b454), .val (.int (0 : Int32))] [.null])) _
      refine XS.ifnonnullNo X488.here hx rfl (hb hby at_158) rfl ?_
      show Steps p.tables e below (T488.setTop (mkF m 161 #[.val (.int p0), .val (.int p1), .val (.int p2), .val (.int p3), .val (.int (1 : Int32)), .val (.int ((p3 &&& (2147483647 : Int32)) % (3 : Int32))), .val (.ref b378), .val (.ref b412), .val .null, .val (.ref b426), .val (.ref b454), .val (.int (0 : Int32))] [])) _
      refine XS.aload X488.here hx rfl (hb hby at_161) rfl rfl ?_
      show Steps p.tables e below (T488.setTop (mkF m 163 #[.val (.int p0), .val (.int p1), .val (.int p2), .val (.int p3), .val (.int (1 : Int32)), .val (.int ((p3 &&& (2147483647 : Int32)) % (3 : Int32))), .val (.ref b378), .val (.ref b412), .val .null, .val (.ref b426), .val (.ref b454), .val (.int (0 : Int32))] [(.ref b454)])) _
      refine st493.trans ?_
      show Steps p.tables e below (T493.setTop (mkF m 166 #[.val (.int p0), .val (.int p1), .val (.int p2), .val (.int p3), .val (.int (1 : Int32)), .val (.int ((p3 &&& (2147483647 : Int32)) % (3 : Int32))), .val (.ref b378), .val (.ref b412), .val .null, .val (.ref b426), .val (.ref b454), .val (.int (0 : Int32))] [(.ref b426)])) _
      refine XS.aload X493.here hx rfl (hb hby at_166) rfl rfl ?_
      show Steps p.tables e below (T493.setTop (mkF m 168 #[.val (.int p0), .val (.int p1), .val (.int p2), .val (.int p3), .val (.int (1 : Int32)), .val (.int ((p3 &&& (2147483647 : Int32)) % (3 : Int32))), .val (.ref b378), .val (.ref b412), .val .null, .val (.ref b426), .val (.ref b454), .val (.int (0 : Int32))] [(.ref b426), (.ref b426)])) _
      refine Jvm.RoadKit.acmp (g := (mkF m 168 #[.val (.int p0), .val (.int p1), .val (.int p2), .val (.int p3), .val (.int (1 : Int32)), .val (.int ((p3 &&& (2147483647 : Int32)) % (3 : Int32))), .val (.ref b378), .val (.ref b412), .val .null, .val (.ref b426), .val (.ref b454), .val (.int (0 : Int32))] [(.ref b426), (.ref b426)])) X493 hx rfl rfl rfl (pc0 := 168) (pc' := 171) (same := true) rfl (hb hby at_168) rfl (decide_eq_true rfl) (by decide) (by decide) ?_
      show Steps p.tables e below (T493.setTop (mkF m 171 #[.val (.int p0), .val (.int p1), .val (.int p2), .val (.int p3), .val (.int (1 : Int32)), .val (.int ((p3 &&& (2147483647 : Int32)) % (3 : Int32))), .val (.ref b378), .val (.ref b412), .val .null, .val (.ref b426), .val (.ref b454), .val (.int (0 : Int32))] [])) _
      refine XS.iconst X493.here hx rfl (hb hby at_171) ?_
      show Steps p.tables e below (T493.setTop (mkF m 172 #[.val (.int p0), .val (.int p1), .val (.int p2), .val (.int p3), .val (.int (1 : Int32)), .val (.int ((p3 &&& (2147483647 : Int32)) % (3 : Int32))), .val (.ref b378), .val (.ref b412), .val .null, .val (.ref b426), .val (.ref b454), .val (.int (0 : Int32))] [(.int (1 : Int32))])) _
      refine XS.goto X493.here hx rfl (pc0 := 172) (pc' := 176) rfl (hb hby at_172) (by decide) (by decide) ?_
      show Steps p.tables e below (T493.setTop (mkF m 176 #[.val (.int p0), .val (.int p1), .val (.int p2), .val (.int p3), .val (.int (1 : Int32)), .val (.int ((p3 &&& (2147483647 : Int32)) % (3 : Int32))), .val (.ref b378), .val (.ref b412), .val .null, .val (.ref b426), .val (.ref b454), .val (.int (0 : Int32))] [(.int (1 : Int32))])) _
      exact retN X493 hx (t := .boolean) Bd.returns (by simp) (hb hby at_176) hr
    · show Qown_law Z p0 p1 p2 p3 cs h0 n0 _ T493.heap _
      rw [eh493]
      exact ⟨rfl, N494⟩
set_option maxRecDepth 65536 in
set_option maxHeartbeats 40000000 in
theorem comes_1 {Post : Tables → Env → Array Value → State → Outcome → State → Prop} (hpost : ∀ tb e args s v u, (limb_1_1.after args s (.returned v) u = true ∧ limb_1_2.after args s (.returned v) u = true ∧ True) → FramedW s (.returned v) u (Jvm.fieldLocs frame_1_writes args s ++ Jvm.arrayLocs frame_1_arrays args s ++ Jvm.staticLocs frame_1_statics s) 32 3200 → Post tb e args s (.returned v) u) :
    ArmFor flags0 classFile x code maxLocals ret World_1 tables_1 room_1 Calls_1 rest_1 Pre_1 Post := by
  intro l hfl _ _ p e ha hc hk s m args below hf hA hF happ hP
  obtain ⟨hcalls, hrest, hpre⟩ := hP
  obtain ⟨-, -, -, hnamed, -, -, -, hat⟩ := (Spec.applies_iff hf).mp happ
  obtain ⟨hg, hn⟩ := and_e (Cond.before_iff.mp (show (Jvm.Cond.and given_1 narrow_1).before args s = true from hpre))
  obtain ⟨gg1, gg2⟩ := and_e hg
  obtain ⟨gg3, gg4⟩ := and_e gg2
  obtain ⟨gg5, gg6⟩ := and_e gg4
  obtain ⟨gg7, gg8⟩ := and_e gg6
  obtain ⟨w0, w1, w2, w3, rfl⟩ : ∃ w0 w1 w2 w3 : Value, args = #[w0, w1, w2, w3] := by
    have hs : args.size = 4 := by simpa [Cond.value, given_1] using gg1
    obtain ⟨L⟩ := args
    match L, hs with
    | [w0, w1, w2, w3], _ => exact ⟨w0, w1, w2, w3, rfl⟩
  have hw := fun d (hd : d ∈ tables_1) => atoms_spec (ws := Jvm.Cond.code x code maxLocals ret :: tables_1) hat d (List.mem_cons_of_mem _ hd)
  have hfit : Fit s := fun {y c} hc i hi => by
    obtain ⟨ha, rfl⟩ := Array.getElem?_eq_some_iff.mp hc
    have q := List.all_eq_true.mp ((Array.all_eq_true_iff_forall_mem.mp hF) _ (Array.getElem_mem ha)) i (List.mem_range.mpr hi)
    simpa [Array.getElem?_eq_getElem hi] using q
  obtain ⟨hsets, hown0⟩ := atoms_of _ (rest_1_c_eq ▸ (show rest_1_c.before _ s = true from hrest))
  obtain ⟨i0, ei0⟩ := is_v gg3
  obtain rfl : w0 = (.int i0) := Option.some.inj ei0
  obtain ⟨i1, ei1⟩ := is_v gg5
  obtain rfl : w1 = (.int i1) := Option.some.inj ei1
  obtain ⟨i2, ei2⟩ := is_v gg7
  obtain rfl : w2 = (.int i2) := Option.some.inj ei2
  obtain ⟨i3, ei3⟩ := is_v gg8
  obtain rfl : w3 = (.int i3) := Option.some.inj ei3
  obtain ⟨w, hSt, hw0⟩ := own_compact (hsets _ (List.mem_of_getElem? (i := 1) rfl)) (hsets _ (List.mem_of_getElem? (i := 2) rfl)) (hsets _ (List.mem_of_getElem? (i := 0) rfl))
  obtain ⟨n, o, h1, h2, h3, _, L, rfl, ⟨rfl, N⟩, hq⟩ := own_law l s _ hw tables_1 i0 i1 i2 i3 w s.heap s.heap.size (Nat.le_refl _) hSt (Old.start s) hw0 (hcalls.1 ("java/lang/String", 7) (by simp [consts_1])) (hcalls.1 ("com/example/change_gatherer/changegatherer/io/FetchedDocumentIsModifiedPinLaw", 19) (by simp [consts_1])) (hsets _ (List.mem_of_getElem? (i := 2) rfl)) rfl p e ha hc hk s m _ below hf ((Spec.applies_iff_loose hf).mp happ).1 ⟨rfl, State.Warmed39.refl s, rfl, IB.start⟩ trivial
  refine ⟨n, _, h1, h2, h3, hpost _ _ _ _ _ _ ⟨Cond.after_iff.mpr rfl, Cond.after_iff.mpr (eq_i res_at (Term.int_eval (1)) rfl), trivial⟩ ⟨hq.1, hq.2.1, hq.2.2.1, (hq.2.2.2.sift fun y hy => Or.inr (N y hy)).mono (by decide) (by decide)⟩⟩
theorem main_1_1 : Claimed_1_1 := comes_1 fun _ _ _ _ _ _ h hF => ⟨h.1, hF⟩
theorem main_1_2 : Claimed_1_2 := comes_1 fun _ _ _ _ _ _ h hF => ⟨h.2.1, hF⟩
end Jvm.Pilot.@@N@@
namespace Jvm.Pilot.@@N@@
open Jvm Jvm.ClassFile Sem Op Lib Jvm.Free Jvm.Stand Jvm.Pilot.@@N@@.Jvm.D
/-! MADE BY PROGRAM (witnessworld.py) out of the Statement's table words and the real class files: 22 classes; the members and pool entries that the words name. The judged class is class 1, her method 1. -/
namespace start1
open Jvm.ClassFile
def u (s : String) : CpInfo := .utf8 (stringToUtf16 s)
/-- a pool by its gaps: so many unusable entries, then the entry; so many at the end -/
def gap : Nat → List CpInfo → List CpInfo
  | 0, r => r
  | n + 1, r => .unusable :: gap n r
def poolList (es : List (Nat × CpInfo)) (last : Nat) : List CpInfo := es.foldr (fun e r => gap e.1 (e.2 :: r)) (gap last [])
def pool (es : List (Nat × CpInfo)) (last : Nat) : Array CpInfo := ⟨poolList es last⟩
def fileOf (pool : Array CpInfo) (this : Nat) (attrs : Array Attribute := #[]) (ms : Array MethodInfo := #[]) (fl : Nat := 33) (sup : Nat := 0) (ifs : Array Nat := #[]) (fds : Array FieldInfo := #[]) : ClassFile where
  minorVersion := 0
  majorVersion := 65
  constantPool := pool
  accessFlags := fl
  thisClass := this
  superClass := sup
  interfaces := ifs
  fields := fds
  methods := ms
  attributes := attrs
def plain (name : String) (sup : Option ClassId) : Class where
  name := name
  kind := .ordinary
  loader := none
  accessFlags := 33
  super := sup
  interfaces := #[]
  cf := none
  fields := #[]
  methods := #[]
  instanceTypes := #[]
  staticTypes := #[]
  resolved := #[]
  callSites := []
  init := .initialized
  statics := none
  mirror := none

def pool0 : Array CpInfo := pool [(5, u "<init>"), (0, u "()V"), (1, .class_ 10), (1, u "java/lang/Object")] 113

def k0c0 : Code := { maxStack := 0, maxLocals := 1, code := object_method_1_code, exceptionTable := #[], attributes := #[] }
def k0m0 : Method := { name := "<init>", desc := "()V", sig := { parameters := [], returnType := none }, accessFlags := 1, code := some k0c0 }
/-- java/lang/Object -/
def k0 : Class := { plain "java/lang/Object" none with
  accessFlags := 33
  interfaces := #[]
  cf := some (fileOf pool0 8 #[] #[{ accessFlags := 1, nameIndex := 5, descriptorIndex := 6, attributes := #[] }] 33 0 #[] #[])
  fields := #[]
  methods := #[k0m0]
  instanceTypes := #[]
  staticTypes := #[]
  resolved := Array.replicate 124 none
  statics := none }

def pool1 : Array CpInfo := pool [(2, .class_ 4), (1, u "java/lang/Object"), (0, u "<init>"), (0, u "()V"), (0, .integer 2147483647), (0, .class_ 9), (0, u "java/lang/String"), (0, .methodref 8 11), (0, .nameAndType 5 12), (0, u "([C)V"), (0, .methodref 8 14), (0, .nameAndType 15 16), (0, u "valueOf"), (0, u "(C)Ljava/lang/String;"), (0, .class_ 18), (0, u "com/example/change_gatherer/changegatherer/model/DocumentVersion"), (0, .string 20), (0, u "u"), (0, .methodref 17 22), (0, .nameAndType 5 23), (0, u "(Ljava/lang/String;Ljava/lang/String;Ljava/lang/String;)V"), (0, .class_ 25), (0, u "com/example/change_gatherer/changegatherer/io/FetchedDocument"), (0, .methodref 24 27), (0, .nameAndType 5 28), (0, u "(Ljava/lang/String;Lcom/example/change_gatherer/changegatherer/model/DocumentVersion;)V"), (0, .methodref 24 30), (0, .nameAndType 31 32), (0, u "isModified"), (0, u "()Z"), (0, .methodref 24 34), (0, .nameAndType 35 36), (0, u "getBody"), (0, u "()Ljava/lang/String;"), (0, .methodref 24 38), (0, .nameAndType 39 40), (0, u "getVersion"), (0, u "()Lcom/example/change_gatherer/changegatherer/model/DocumentVersion;"), (0, .class_ 42), (0, u "com/example/change_gatherer/changegatherer/io/FetchedDocumentIsModifiedPinLaw"), (2, u "law"), (0, u "(IIII)Z")] 5

def k1m0 : Method := { name := "<init>", desc := "()V", sig := { parameters := [], returnType := none }, accessFlags := 1, code := none }
def k1c1 : Code := { maxStack := 5, maxLocals := 12, code := code, exceptionTable := #[], attributes := #[] }
def k1m1 : Method := { name := "law", desc := "(IIII)Z", sig := { parameters := [.int, .int, .int, .int], returnType := some .boolean }, accessFlags := 9, code := some k1c1 }
/-- com/example/change_gatherer/changegatherer/io/FetchedDocumentIsModifiedPinLaw -/
def k1 : Class := { plain "com/example/change_gatherer/changegatherer/io/FetchedDocumentIsModifiedPinLaw" (some 0) with
  accessFlags := 49
  interfaces := #[]
  cf := some (fileOf pool1 41 #[] #[{ accessFlags := 1, nameIndex := 5, descriptorIndex := 6, attributes := #[] }, { accessFlags := 9, nameIndex := 45, descriptorIndex := 46, attributes := #[] }] 49 2 #[] #[])
  fields := #[]
  methods := #[k1m0, k1m1]
  instanceTypes := #[]
  staticTypes := #[]
  resolved := Array.replicate 52 none
  statics := none }

def pool2 : Array CpInfo := pool [(1, .class_ 2), (0, u "java/io/Serializable"), (0, .class_ 4), (0, u "java/lang/Object")] 2

/-- java/io/Serializable -/
def k2 : Class := { plain "java/io/Serializable" (some 0) with
  accessFlags := 1537
  interfaces := #[]
  cf := some (fileOf pool2 1 #[] #[] 1537 3 #[] #[])
  fields := #[]
  methods := #[]
  instanceTypes := #[]
  staticTypes := #[]
  resolved := Array.replicate 7 none
  statics := none }

def pool3 : Array CpInfo := pool [(1, .class_ 2), (0, u "java/lang/Comparable"), (0, .class_ 4), (0, u "java/lang/Object")] 7

/-- java/lang/Comparable -/
def k3 : Class := { plain "java/lang/Comparable" (some 0) with
  accessFlags := 1537
  interfaces := #[]
  cf := some (fileOf pool3 1 #[] #[] 1537 3 #[] #[])
  fields := #[]
  methods := #[]
  instanceTypes := #[]
  staticTypes := #[]
  resolved := Array.replicate 12 none
  statics := none }

def pool4 : Array CpInfo := pool [(2, .class_ 4), (1, u "java/lang/CharSequence"), (42, .class_ 48), (0, u "java/lang/CharSequence$1CodePointIterator"), (10, .class_ 60), (0, u "java/lang/CharSequence$1CharIterator"), (5, .class_ 67), (0, u "java/lang/Object")] 63

/-- java/lang/CharSequence -/
def k4 : Class := { plain "java/lang/CharSequence" (some 0) with
  accessFlags := 1537
  interfaces := #[]
  cf := some (fileOf pool4 2 #[.nestMembers #[47, 59]] #[] 1537 66 #[] #[])
  fields := #[]
  methods := #[]
  instanceTypes := #[]
  staticTypes := #[]
  resolved := Array.replicate 131 none
  statics := none }

def pool5 : Array CpInfo := pool [(1, .class_ 2), (0, u "java/lang/constant/Constable"), (0, .class_ 4), (0, u "java/lang/Object")] 6

/-- java/lang/constant/Constable -/
def k5 : Class := { plain "java/lang/constant/Constable" (some 0) with
  accessFlags := 1537
  interfaces := #[]
  cf := some (fileOf pool5 1 #[] #[] 1537 3 #[] #[])
  fields := #[]
  methods := #[]
  instanceTypes := #[]
  staticTypes := #[]
  resolved := Array.replicate 11 none
  statics := none }

def pool6 : Array CpInfo := pool [(1, .class_ 2), (0, u "java/lang/constant/ConstantDesc"), (0, .class_ 4), (0, u "java/lang/Object")] 32

/-- java/lang/constant/ConstantDesc -/
def k6 : Class := { plain "java/lang/constant/ConstantDesc" (some 0) with
  accessFlags := 1537
  interfaces := #[]
  cf := some (fileOf pool6 1 #[] #[] 1537 3 #[] #[])
  fields := #[]
  methods := #[]
  instanceTypes := #[]
  staticTypes := #[]
  resolved := Array.replicate 37 none
  statics := none }

def pool7 : Array CpInfo := pool [(1, .methodref 2 3), (0, .class_ 4), (0, .nameAndType 5 6), (0, u "java/lang/Object"), (0, u "<init>"), (0, u "()V"), (0, .string 8), (0, u ""), (0, .fieldref 10 11), (0, .class_ 12), (0, .nameAndType 13 14), (0, u "java/lang/String"), (0, u "value"), (0, u "[B"), (0, .fieldref 10 16), (0, .nameAndType 17 18), (0, u "coder"), (0, u "B"), (2, u "hash"), (0, u "I"), (2, u "hashIsZero"), (0, u "Z"), (0, .methodref 10 28), (0, .nameAndType 5 29), (0, u "([CIILjava/lang/Void;)V"), (8, .fieldref 10 39), (0, .nameAndType 40 26), (0, u "COMPACT_STRINGS"), (1, .class_ 44), (1, u "java/lang/StringUTF16"), (0, u "compress"), (1, .methodref 42 48), (0, .nameAndType 49 50), (0, u "coderFromArrayLen"), (0, u "([BI)B"), (2, u "toBytes"), (53, .class_ 109), (1, u "java/lang/StringLatin1"), (67, .methodref 42 178), (0, .nameAndType 45 179), (0, u "([CII)[B"), (29, .methodref 10 210), (0, .nameAndType 5 211), (0, u "([BB)V"), (157, u "(C)Z"), (205, .class_ 576), (0, u "java/lang/CharSequence"), (22, u "CASE_INSENSITIVE_ORDER"), (0, u "Ljava/util/Comparator;"), (181, u "valueOf"), (0, u "(C)Ljava/lang/String;"), (226, u "([C)V"), (4, .methodref 107 1016), (0, .nameAndType 1017 369), (0, u "canEncode"), (0, .methodref 107 1019), (0, .nameAndType 53 1020), (0, u "(C)[B"), (80, u "serialPersistentFields"), (0, u "[Ljava/io/ObjectStreamField;"), (0, .class_ 1104), (0, u "java/lang/String$CaseInsensitiveComparator"), (1, .class_ 1107), (0, u "java/io/Serializable"), (0, .class_ 1109), (0, u "java/lang/Comparable"), (0, .class_ 1111), (0, u "java/lang/constant/Constable"), (0, .class_ 1113), (0, u "java/lang/constant/ConstantDesc"), (2, u "serialVersionUID"), (0, u "J"), (3, u "REPL"), (0, u "C"), (2, u "LATIN1"), (1, u "UTF16")] 323

def k7m0 : Method := { name := "<init>", desc := "()V", sig := { parameters := [], returnType := none }, accessFlags := 1, code := none }
def k7c1 : Code := { maxStack := 5, maxLocals := 2, code := jdk_42_method_3_code, exceptionTable := #[], attributes := #[] }
def k7m1 : Method := { name := "<init>", desc := "([C)V", sig := { parameters := [(.array .char)], returnType := none }, accessFlags := 1, code := some k7c1 }
def k7c2 : Code := { maxStack := 4, maxLocals := 1, code := jdk_42_method_139_code, exceptionTable := #[], attributes := #[] }
def k7m2 : Method := { name := "valueOf", desc := "(C)Ljava/lang/String;", sig := { parameters := [.char], returnType := some (.object "java/lang/String") }, accessFlags := 9, code := some k7c2 }
def k7c3 : Code := { maxStack := 4, maxLocals := 6, code := jdk_42_method_149_code, exceptionTable := #[], attributes := #[] }
def k7m3 : Method := { name := "<init>", desc := "([CIILjava/lang/Void;)V", sig := { parameters := [(.array .char), .int, .int, (.object "java/lang/Void")], returnType := none }, accessFlags := 2, code := some k7c3 }
def k7c4 : Code := { maxStack := 2, maxLocals := 3, code := jdk_42_method_151_code, exceptionTable := #[], attributes := #[] }
def k7m4 : Method := { name := "<init>", desc := "([BB)V", sig := { parameters := [(.array .byte), .byte], returnType := none }, accessFlags := 0, code := some k7c4 }
/-- java/lang/String -/
def k7 : Class := { plain "java/lang/String" (some 0) with
  accessFlags := 49
  interfaces := #[2, 3, 4, 5, 6]
  cf := some (fileOf pool7 10 #[.nestMembers #[1103]] #[{ accessFlags := 1, nameIndex := 5, descriptorIndex := 6, attributes := #[] }, { accessFlags := 1, nameIndex := 5, descriptorIndex := 1010, attributes := #[] }, { accessFlags := 9, nameIndex := 782, descriptorIndex := 783, attributes := #[] }, { accessFlags := 2, nameIndex := 5, descriptorIndex := 29, attributes := #[] }, { accessFlags := 0, nameIndex := 5, descriptorIndex := 211, attributes := #[] }] 49 2 #[1106, 1108, 575, 1110, 1112] #[{ accessFlags := 18, nameIndex := 13, descriptorIndex := 14, attributes := #[] }, { accessFlags := 18, nameIndex := 17, descriptorIndex := 18, attributes := #[] }, { accessFlags := 2, nameIndex := 21, descriptorIndex := 22, attributes := #[] }, { accessFlags := 2, nameIndex := 25, descriptorIndex := 26, attributes := #[] }, { accessFlags := 26, nameIndex := 1116, descriptorIndex := 1117, attributes := #[] }, { accessFlags := 24, nameIndex := 40, descriptorIndex := 26, attributes := #[] }, { accessFlags := 26, nameIndex := 1101, descriptorIndex := 1102, attributes := #[] }, { accessFlags := 26, nameIndex := 1121, descriptorIndex := 1122, attributes := #[] }, { accessFlags := 25, nameIndex := 599, descriptorIndex := 600, attributes := #[] }, { accessFlags := 24, nameIndex := 1125, descriptorIndex := 18, attributes := #[] }, { accessFlags := 24, nameIndex := 1127, descriptorIndex := 18, attributes := #[] }])
  fields := #[{ name := "value", type := (.array .byte), accessFlags := 18, slot := 0, constantValue := 0 }, { name := "coder", type := .byte, accessFlags := 18, slot := 1, constantValue := 0 }, { name := "hash", type := .int, accessFlags := 2, slot := 2, constantValue := 0 }, { name := "hashIsZero", type := .boolean, accessFlags := 2, slot := 3, constantValue := 0 }, { name := "serialVersionUID", type := .long, accessFlags := 26, slot := 0, constantValue := 0 }, { name := "COMPACT_STRINGS", type := .boolean, accessFlags := 24, slot := 1, constantValue := 0 }, { name := "serialPersistentFields", type := (.array (.object "java/io/ObjectStreamField")), accessFlags := 26, slot := 2, constantValue := 0 }, { name := "REPL", type := .char, accessFlags := 26, slot := 3, constantValue := 0 }, { name := "CASE_INSENSITIVE_ORDER", type := (.object "java/util/Comparator"), accessFlags := 25, slot := 4, constantValue := 0 }, { name := "LATIN1", type := .byte, accessFlags := 24, slot := 5, constantValue := 0 }, { name := "UTF16", type := .byte, accessFlags := 24, slot := 6, constantValue := 0 }]
  methods := #[k7m0, k7m1, k7m2, k7m3, k7m4]
  instanceTypes := #[(.array .byte), .byte, .int, .boolean]
  staticTypes := #[.long, .boolean, (.array (.object "java/io/ObjectStreamField")), .char, (.object "java/util/Comparator"), .byte, .byte]
  resolved := Array.replicate 1451 none
  statics := some 0 }

def pool8 : Array CpInfo := pool [(4, .class_ 6), (1, u "java/lang/Object"), (0, u "<init>"), (0, u "()V"), (5, .class_ 16), (1, u "java/lang/StringLatin1"), (73, u "canEncode"), (14, u "(C)Z"), (15, u "$assertionsDisabled"), (0, u "Z"), (98, .class_ 223), (1, u "java/lang/StringLatin1$LinesSpliterator"), (156, u "toBytes"), (1, u "(C)[B"), (7, .class_ 391), (0, u "java/lang/StringLatin1$CharsSpliterator")] 3

def k8m0 : Method := { name := "<init>", desc := "()V", sig := { parameters := [], returnType := none }, accessFlags := 0, code := none }
def k8c1 : Code := { maxStack := 2, maxLocals := 1, code := jdk_43_method_3_code, exceptionTable := #[], attributes := #[] }
def k8m1 : Method := { name := "canEncode", desc := "(C)Z", sig := { parameters := [.char], returnType := some .boolean }, accessFlags := 9, code := some k8c1 }
def k8c2 : Code := { maxStack := 4, maxLocals := 1, code := jdk_43_method_46_code, exceptionTable := #[], attributes := #[] }
def k8m2 : Method := { name := "toBytes", desc := "(C)[B", sig := { parameters := [.char], returnType := some (.array .byte) }, accessFlags := 9, code := some k8c2 }
/-- java/lang/StringLatin1 -/
def k8 : Class := { plain "java/lang/StringLatin1" (some 0) with
  accessFlags := 48
  interfaces := #[]
  cf := some (fileOf pool8 14 #[.nestMembers #[390, 221]] #[{ accessFlags := 0, nameIndex := 7, descriptorIndex := 8, attributes := #[] }, { accessFlags := 9, nameIndex := 90, descriptorIndex := 105, attributes := #[] }, { accessFlags := 9, nameIndex := 380, descriptorIndex := 382, attributes := #[] }] 48 4 #[] #[{ accessFlags := 4120, nameIndex := 121, descriptorIndex := 122, attributes := #[] }])
  fields := #[{ name := "$assertionsDisabled", type := .boolean, accessFlags := 4120, slot := 0, constantValue := 0 }]
  methods := #[k8m0, k8m1, k8m2]
  instanceTypes := #[]
  staticTypes := #[.boolean]
  resolved := Array.replicate 395 none
  statics := none }

def pool9 : Array CpInfo := pool [(1, .methodref 2 3), (0, .class_ 4), (0, .nameAndType 5 6), (0, u "java/lang/Object"), (0, u "<init>"), (0, u "()V"), (0, .string 8), (0, u "url"), (0, .methodref 10 11), (0, .class_ 12), (0, .nameAndType 13 14), (0, u "java/util/Objects"), (0, u "requireNonNull"), (0, u "(Ljava/lang/Object;Ljava/lang/String;)Ljava/lang/Object;"), (0, .class_ 16), (0, u "java/lang/String"), (0, .fieldref 18 19), (0, .class_ 20), (0, .nameAndType 8 21), (0, u "com/example/change_gatherer/changegatherer/model/DocumentVersion"), (0, u "Ljava/lang/String;"), (0, .fieldref 18 23), (0, .nameAndType 24 21), (0, u "entityTag"), (0, .fieldref 18 26), (0, .nameAndType 27 21), (0, u "lastModified"), (0, u "(Ljava/lang/String;Ljava/lang/String;Ljava/lang/String;)V")] 8

def k9c0 : Code := { maxStack := 3, maxLocals := 4, code := prog_18_method_1_code, exceptionTable := #[], attributes := #[] }
def k9m0 : Method := { name := "<init>", desc := "(Ljava/lang/String;Ljava/lang/String;Ljava/lang/String;)V", sig := { parameters := [(.object "java/lang/String"), (.object "java/lang/String"), (.object "java/lang/String")], returnType := none }, accessFlags := 1, code := some k9c0 }
/-- com/example/change_gatherer/changegatherer/model/DocumentVersion -/
def k9 : Class := { plain "com/example/change_gatherer/changegatherer/model/DocumentVersion" (some 0) with
  accessFlags := 49
  interfaces := #[]
  cf := some (fileOf pool9 18 #[] #[{ accessFlags := 1, nameIndex := 5, descriptorIndex := 28, attributes := #[] }] 49 2 #[] #[{ accessFlags := 18, nameIndex := 8, descriptorIndex := 21, attributes := #[] }, { accessFlags := 18, nameIndex := 24, descriptorIndex := 21, attributes := #[] }, { accessFlags := 18, nameIndex := 27, descriptorIndex := 21, attributes := #[] }])
  fields := #[{ name := "url", type := (.object "java/lang/String"), accessFlags := 18, slot := 0, constantValue := 0 }, { name := "entityTag", type := (.object "java/lang/String"), accessFlags := 18, slot := 1, constantValue := 0 }, { name := "lastModified", type := (.object "java/lang/String"), accessFlags := 18, slot := 2, constantValue := 0 }]
  methods := #[k9m0]
  instanceTypes := #[(.object "java/lang/String"), (.object "java/lang/String"), (.object "java/lang/String")]
  staticTypes := #[]
  resolved := Array.replicate 37 none
  statics := none }

def pool10 : Array CpInfo := pool [(2, .class_ 4), (1, u "java/lang/Object"), (0, u "<init>"), (0, u "()V"), (35, .class_ 44), (1, u "java/util/Objects"), (0, u "requireNonNull"), (48, u "(Ljava/lang/Object;Ljava/lang/String;)Ljava/lang/Object;")] 89

def k10m0 : Method := { name := "<init>", desc := "()V", sig := { parameters := [], returnType := none }, accessFlags := 2, code := none }
def k10c1 : Code := { maxStack := 3, maxLocals := 2, code := jdk_31_method_11_code, exceptionTable := #[], attributes := #[] }
def k10m1 : Method := { name := "requireNonNull", desc := "(Ljava/lang/Object;Ljava/lang/String;)Ljava/lang/Object;", sig := { parameters := [(.object "java/lang/Object"), (.object "java/lang/String")], returnType := some (.object "java/lang/Object") }, accessFlags := 9, code := some k10c1 }
/-- java/util/Objects -/
def k10 : Class := { plain "java/util/Objects" (some 0) with
  accessFlags := 49
  interfaces := #[]
  cf := some (fileOf pool10 42 #[] #[{ accessFlags := 2, nameIndex := 5, descriptorIndex := 6, attributes := #[] }, { accessFlags := 9, nameIndex := 45, descriptorIndex := 94, attributes := #[] }] 49 2 #[] #[])
  fields := #[]
  methods := #[k10m0, k10m1]
  instanceTypes := #[]
  staticTypes := #[]
  resolved := Array.replicate 184 none
  statics := none }

def pool11 : Array CpInfo := pool [(1, .methodref 2 3), (0, .class_ 4), (0, .nameAndType 5 6), (0, u "java/lang/Object"), (0, u "<init>"), (0, u "()V"), (0, .fieldref 8 9), (0, .class_ 10), (0, .nameAndType 11 12), (0, u "com/example/change_gatherer/changegatherer/io/FetchedDocument"), (0, u "body"), (0, u "Ljava/lang/String;"), (0, .fieldref 8 14), (0, .nameAndType 15 16), (0, u "version"), (0, u "Lcom/example/change_gatherer/changegatherer/model/DocumentVersion;"), (0, u "(Ljava/lang/String;Lcom/example/change_gatherer/changegatherer/model/DocumentVersion;)V"), (2, u "isModified"), (0, u "()Z"), (1, u "getBody"), (0, u "()Ljava/lang/String;"), (0, u "getVersion"), (0, u "()Lcom/example/change_gatherer/changegatherer/model/DocumentVersion;")] 2

def k11c0 : Code := { maxStack := 2, maxLocals := 3, code := prog_8_method_1_code, exceptionTable := #[], attributes := #[] }
def k11m0 : Method := { name := "<init>", desc := "(Ljava/lang/String;Lcom/example/change_gatherer/changegatherer/model/DocumentVersion;)V", sig := { parameters := [(.object "java/lang/String"), (.object "com/example/change_gatherer/changegatherer/model/DocumentVersion")], returnType := none }, accessFlags := 0, code := some k11c0 }
def k11c1 : Code := { maxStack := 1, maxLocals := 1, code := prog_8_method_2_code, exceptionTable := #[], attributes := #[] }
def k11m1 : Method := { name := "isModified", desc := "()Z", sig := { parameters := [], returnType := some .boolean }, accessFlags := 1, code := some k11c1 }
def k11c2 : Code := { maxStack := 1, maxLocals := 1, code := prog_8_method_3_code, exceptionTable := #[], attributes := #[] }
def k11m2 : Method := { name := "getBody", desc := "()Ljava/lang/String;", sig := { parameters := [], returnType := some (.object "java/lang/String") }, accessFlags := 1, code := some k11c2 }
def k11c3 : Code := { maxStack := 1, maxLocals := 1, code := prog_8_method_4_code, exceptionTable := #[], attributes := #[] }
def k11m3 : Method := { name := "getVersion", desc := "()Lcom/example/change_gatherer/changegatherer/model/DocumentVersion;", sig := { parameters := [], returnType := some (.object "com/example/change_gatherer/changegatherer/model/DocumentVersion") }, accessFlags := 1, code := some k11c3 }
/-- com/example/change_gatherer/changegatherer/io/FetchedDocument -/
def k11 : Class := { plain "com/example/change_gatherer/changegatherer/io/FetchedDocument" (some 0) with
  accessFlags := 49
  interfaces := #[]
  cf := some (fileOf pool11 8 #[] #[{ accessFlags := 0, nameIndex := 5, descriptorIndex := 17, attributes := #[] }, { accessFlags := 1, nameIndex := 20, descriptorIndex := 21, attributes := #[] }, { accessFlags := 1, nameIndex := 23, descriptorIndex := 24, attributes := #[] }, { accessFlags := 1, nameIndex := 25, descriptorIndex := 26, attributes := #[] }] 49 2 #[] #[{ accessFlags := 18, nameIndex := 11, descriptorIndex := 12, attributes := #[] }, { accessFlags := 18, nameIndex := 15, descriptorIndex := 16, attributes := #[] }])
  fields := #[{ name := "body", type := (.object "java/lang/String"), accessFlags := 18, slot := 0, constantValue := 0 }, { name := "version", type := (.object "com/example/change_gatherer/changegatherer/model/DocumentVersion"), accessFlags := 18, slot := 1, constantValue := 0 }]
  methods := #[k11m0, k11m1, k11m2, k11m3]
  instanceTypes := #[(.object "java/lang/String"), (.object "com/example/change_gatherer/changegatherer/model/DocumentVersion")]
  staticTypes := #[]
  resolved := Array.replicate 29 none
  statics := none }

def pool12 : Array CpInfo := pool [(6, .class_ 8), (1, u "java/lang/Object"), (0, u "<init>"), (0, u "()V"), (1, .class_ 14), (1, u "java/lang/StringUTF16"), (31, u "$assertionsDisabled"), (0, u "Z"), (13, u "HI_BYTE_SHIFT"), (0, u "I"), (2, u "LO_BYTE_SHIFT"), (49, .methodref 12 116), (0, .nameAndType 117 118), (0, u "compress"), (0, u "([CI[BII)I"), (3, u "([CII)[B"), (138, u "coderFromArrayLen"), (0, u "([BI)B"), (106, .class_ 371), (1, u "java/lang/StringUTF16$LinesSpliterator"), (58, u "MAX_LENGTH"), (196, .class_ 628), (0, u "java/lang/StringUTF16$CodePointsSpliterator"), (0, .class_ 630), (0, u "java/lang/StringUTF16$CharsSpliterator")] 4

def k12m0 : Method := { name := "<init>", desc := "()V", sig := { parameters := [], returnType := none }, accessFlags := 0, code := none }
def k12c1 : Code := { maxStack := 2, maxLocals := 2, code := jdk_52_method_15_code, exceptionTable := #[], attributes := #[] }
def k12m1 : Method := { name := "coderFromArrayLen", desc := "([BI)B", sig := { parameters := [(.array .byte), .int], returnType := some .byte }, accessFlags := 8, code := some k12c1 }
def k12c2 : Code := { maxStack := 5, maxLocals := 6, code := jdk_52_method_16_code, exceptionTable := #[], attributes := #[] }
def k12m2 : Method := { name := "compress", desc := "([CII)[B", sig := { parameters := [(.array .char), .int, .int], returnType := some (.array .byte) }, accessFlags := 9, code := some k12c2 }
def k12c3 : Code := { maxStack := 3, maxLocals := 7, code := jdk_52_method_21_code, exceptionTable := #[], attributes := #[] }
def k12m3 : Method := { name := "compress", desc := "([CI[BII)I", sig := { parameters := [(.array .char), .int, (.array .byte), .int, .int], returnType := some .int }, accessFlags := 9, code := some k12c3 }
/-- java/lang/StringUTF16 -/
def k12 : Class := { plain "java/lang/StringUTF16" (some 0) with
  accessFlags := 48
  interfaces := #[]
  cf := some (fileOf pool12 12 #[.nestMembers #[627, 629, 369]] #[{ accessFlags := 0, nameIndex := 9, descriptorIndex := 10, attributes := #[] }, { accessFlags := 8, nameIndex := 261, descriptorIndex := 262, attributes := #[] }, { accessFlags := 9, nameIndex := 117, descriptorIndex := 122, attributes := #[] }, { accessFlags := 9, nameIndex := 117, descriptorIndex := 118, attributes := #[] }] 48 6 #[] #[{ accessFlags := 26, nameIndex := 61, descriptorIndex := 62, attributes := #[] }, { accessFlags := 26, nameIndex := 65, descriptorIndex := 62, attributes := #[] }, { accessFlags := 24, nameIndex := 430, descriptorIndex := 62, attributes := #[] }, { accessFlags := 4120, nameIndex := 46, descriptorIndex := 47, attributes := #[] }])
  fields := #[{ name := "HI_BYTE_SHIFT", type := .int, accessFlags := 26, slot := 0, constantValue := 0 }, { name := "LO_BYTE_SHIFT", type := .int, accessFlags := 26, slot := 1, constantValue := 0 }, { name := "MAX_LENGTH", type := .int, accessFlags := 24, slot := 2, constantValue := 0 }, { name := "$assertionsDisabled", type := .boolean, accessFlags := 4120, slot := 3, constantValue := 0 }]
  methods := #[k12m0, k12m1, k12m2, k12m3]
  instanceTypes := #[]
  staticTypes := #[.int, .int, .int, .boolean]
  resolved := Array.replicate 635 none
  statics := none }

def pool13 : Array CpInfo := pool [(2, .class_ 4), (1, u "java/lang/Object"), (0, u "<init>"), (0, u "()V"), (17, .class_ 26), (1, u "jdk/internal/util/Preconditions"), (28, .class_ 56), (0, u "jdk/internal/util/Preconditions$4"), (57, .class_ 115), (0, u "jdk/internal/util/Preconditions$1"), (7, u "SIOOBE_FORMATTER"), (0, u "Ljava/util/function/BiFunction;"), (0, .class_ 126), (0, u "jdk/internal/util/Preconditions$2"), (3, u "AIOOBE_FORMATTER"), (0, .class_ 132), (0, u "jdk/internal/util/Preconditions$3"), (3, u "IOOBE_FORMATTER")] 57

def k13m0 : Method := { name := "<init>", desc := "()V", sig := { parameters := [], returnType := none }, accessFlags := 1, code := none }
/-- jdk/internal/util/Preconditions -/
def k13 : Class := { plain "jdk/internal/util/Preconditions" (some 0) with
  accessFlags := 33
  interfaces := #[]
  cf := some (fileOf pool13 24 #[.nestMembers #[55, 131, 125, 114]] #[{ accessFlags := 1, nameIndex := 5, descriptorIndex := 6, attributes := #[] }] 33 2 #[] #[{ accessFlags := 25, nameIndex := 123, descriptorIndex := 124, attributes := #[] }, { accessFlags := 25, nameIndex := 130, descriptorIndex := 124, attributes := #[] }, { accessFlags := 25, nameIndex := 136, descriptorIndex := 124, attributes := #[] }])
  fields := #[{ name := "SIOOBE_FORMATTER", type := (.object "java/util/function/BiFunction"), accessFlags := 25, slot := 0, constantValue := 0 }, { name := "AIOOBE_FORMATTER", type := (.object "java/util/function/BiFunction"), accessFlags := 25, slot := 1, constantValue := 0 }, { name := "IOOBE_FORMATTER", type := (.object "java/util/function/BiFunction"), accessFlags := 25, slot := 2, constantValue := 0 }]
  methods := #[k13m0]
  instanceTypes := #[]
  staticTypes := #[(.object "java/util/function/BiFunction"), (.object "java/util/function/BiFunction"), (.object "java/util/function/BiFunction")]
  resolved := Array.replicate 194 none
  statics := some 1 }

def pool14 : Array CpInfo := pool [(9, u "<init>"), (6, .class_ 18), (1, u "java/lang/Object"), (0, u "()V"), (1, .class_ 23), (1, u "jdk/internal/util/ArraysSupport"), (0, u "LOG2_ARRAY_LONG_INDEX_SCALE"), (0, u "I"), (2, u "U"), (0, u "Ljdk/internal/misc/Unsafe;"), (8, u "BIG_ENDIAN"), (0, u "Z"), (8, u "LOG2_BYTE_BIT_SIZE"), (4, u "LOG2_ARRAY_INT_INDEX_SCALE"), (54, u "JLA"), (0, u "Ljdk/internal/access/JavaLangAccess;"), (11, u "LOG2_ARRAY_BOOLEAN_INDEX_SCALE"), (9, u "LOG2_ARRAY_BYTE_INDEX_SCALE"), (5, u "LOG2_ARRAY_CHAR_INDEX_SCALE"), (5, u "LOG2_ARRAY_SHORT_INDEX_SCALE"), (18, u "LOG2_ARRAY_FLOAT_INDEX_SCALE"), (24, u "LOG2_ARRAY_DOUBLE_INDEX_SCALE"), (89, u "T_BOOLEAN"), (2, u "T_CHAR"), (1, u "T_FLOAT"), (1, u "T_DOUBLE"), (1, u "T_BYTE"), (1, u "T_SHORT"), (1, u "T_INT"), (1, u "T_LONG"), (1, u "SOFT_MAX_ARRAY_LENGTH")] 83

def k14m0 : Method := { name := "<init>", desc := "()V", sig := { parameters := [], returnType := none }, accessFlags := 2, code := none }
/-- jdk/internal/util/ArraysSupport -/
def k14 : Class := { plain "jdk/internal/util/ArraysSupport" (some 0) with
  accessFlags := 33
  interfaces := #[]
  cf := some (fileOf pool14 21 #[] #[{ accessFlags := 2, nameIndex := 9, descriptorIndex := 19, attributes := #[] }] 33 16 #[] #[{ accessFlags := 24, nameIndex := 28, descriptorIndex := 29, attributes := #[] }, { accessFlags := 26, nameIndex := 38, descriptorIndex := 39, attributes := #[] }, { accessFlags := 25, nameIndex := 121, descriptorIndex := 25, attributes := #[] }, { accessFlags := 25, nameIndex := 131, descriptorIndex := 25, attributes := #[] }, { accessFlags := 25, nameIndex := 137, descriptorIndex := 25, attributes := #[] }, { accessFlags := 25, nameIndex := 143, descriptorIndex := 25, attributes := #[] }, { accessFlags := 25, nameIndex := 53, descriptorIndex := 25, attributes := #[] }, { accessFlags := 25, nameIndex := 24, descriptorIndex := 25, attributes := #[] }, { accessFlags := 25, nameIndex := 162, descriptorIndex := 25, attributes := #[] }, { accessFlags := 25, nameIndex := 187, descriptorIndex := 25, attributes := #[] }, { accessFlags := 26, nameIndex := 48, descriptorIndex := 25, attributes := #[] }, { accessFlags := 25, nameIndex := 277, descriptorIndex := 25, attributes := #[] }, { accessFlags := 25, nameIndex := 280, descriptorIndex := 25, attributes := #[] }, { accessFlags := 25, nameIndex := 282, descriptorIndex := 25, attributes := #[] }, { accessFlags := 25, nameIndex := 284, descriptorIndex := 25, attributes := #[] }, { accessFlags := 25, nameIndex := 286, descriptorIndex := 25, attributes := #[] }, { accessFlags := 25, nameIndex := 288, descriptorIndex := 25, attributes := #[] }, { accessFlags := 25, nameIndex := 290, descriptorIndex := 25, attributes := #[] }, { accessFlags := 25, nameIndex := 292, descriptorIndex := 25, attributes := #[] }, { accessFlags := 26, nameIndex := 108, descriptorIndex := 109, attributes := #[] }, { accessFlags := 25, nameIndex := 294, descriptorIndex := 25, attributes := #[] }])
  fields := #[{ name := "U", type := (.object "jdk/internal/misc/Unsafe"), accessFlags := 24, slot := 0, constantValue := 0 }, { name := "BIG_ENDIAN", type := .boolean, accessFlags := 26, slot := 1, constantValue := 0 }, { name := "LOG2_ARRAY_BOOLEAN_INDEX_SCALE", type := .int, accessFlags := 25, slot := 2, constantValue := 0 }, { name := "LOG2_ARRAY_BYTE_INDEX_SCALE", type := .int, accessFlags := 25, slot := 3, constantValue := 0 }, { name := "LOG2_ARRAY_CHAR_INDEX_SCALE", type := .int, accessFlags := 25, slot := 4, constantValue := 0 }, { name := "LOG2_ARRAY_SHORT_INDEX_SCALE", type := .int, accessFlags := 25, slot := 5, constantValue := 0 }, { name := "LOG2_ARRAY_INT_INDEX_SCALE", type := .int, accessFlags := 25, slot := 6, constantValue := 0 }, { name := "LOG2_ARRAY_LONG_INDEX_SCALE", type := .int, accessFlags := 25, slot := 7, constantValue := 0 }, { name := "LOG2_ARRAY_FLOAT_INDEX_SCALE", type := .int, accessFlags := 25, slot := 8, constantValue := 0 }, { name := "LOG2_ARRAY_DOUBLE_INDEX_SCALE", type := .int, accessFlags := 25, slot := 9, constantValue := 0 }, { name := "LOG2_BYTE_BIT_SIZE", type := .int, accessFlags := 26, slot := 10, constantValue := 0 }, { name := "T_BOOLEAN", type := .int, accessFlags := 25, slot := 11, constantValue := 0 }, { name := "T_CHAR", type := .int, accessFlags := 25, slot := 12, constantValue := 0 }, { name := "T_FLOAT", type := .int, accessFlags := 25, slot := 13, constantValue := 0 }, { name := "T_DOUBLE", type := .int, accessFlags := 25, slot := 14, constantValue := 0 }, { name := "T_BYTE", type := .int, accessFlags := 25, slot := 15, constantValue := 0 }, { name := "T_SHORT", type := .int, accessFlags := 25, slot := 16, constantValue := 0 }, { name := "T_INT", type := .int, accessFlags := 25, slot := 17, constantValue := 0 }, { name := "T_LONG", type := .int, accessFlags := 25, slot := 18, constantValue := 0 }, { name := "JLA", type := (.object "jdk/internal/access/JavaLangAccess"), accessFlags := 26, slot := 19, constantValue := 0 }, { name := "SOFT_MAX_ARRAY_LENGTH", type := .int, accessFlags := 25, slot := 20, constantValue := 0 }]
  methods := #[k14m0]
  instanceTypes := #[]
  staticTypes := #[(.object "jdk/internal/misc/Unsafe"), .boolean, .int, .int, .int, .int, .int, .int, .int, .int, .int, .int, .int, .int, .int, .int, .int, .int, .int, (.object "jdk/internal/access/JavaLangAccess"), .int]
  resolved := Array.replicate 378 none
  statics := none }

def pool15 : Array CpInfo := pool [(1, u "java/lang/Cloneable"), (0, .class_ 1), (0, u "java/lang/Object"), (0, .class_ 3)] 3

/-- java/lang/Cloneable -/
def k15 : Class := { plain "java/lang/Cloneable" (some 0) with
  accessFlags := 1537
  interfaces := #[]
  cf := some (fileOf pool15 2 #[] #[] 1537 4 #[] #[])
  fields := #[]
  methods := #[]
  instanceTypes := #[]
  staticTypes := #[]
  resolved := Array.replicate 8 none
  statics := none }

/-- the primitive byte -/
def k16 : Class := { plain "byte" none with kind := .primitive 'B', accessFlags := 0x411 }
/-- [B -/
def k17 : Class := { plain "[B" (some 0) with kind := .array 16 .byte, interfaces := #[15, 2], accessFlags := 1041 }

/-- the primitive char -/
def k18 : Class := { plain "char" none with kind := .primitive 'C', accessFlags := 0x411 }
/-- [C -/
def k19 : Class := { plain "[C" (some 0) with kind := .array 18 .char, interfaces := #[15, 2], accessFlags := 1041 }

/-- the primitive int -/
def k20 : Class := { plain "int" none with kind := .primitive 'I', accessFlags := 0x411 }
/-- [I -/
def k21 : Class := { plain "[I" (some 0) with kind := .array 20 .int, interfaces := #[15, 2], accessFlags := 1041 }

def heap : Heap := #[{ cls := 7, slots := #[.long 0, .int 1, .null, .int 0, .null, .int 0, .int 0], vm := .statics 7 },
  { cls := 13, slots := #[.null, .null, .null], vm := .statics 13 }]
def classes : Array Class := #[k0, k1, k2, k3, k4, k5, k6, k7, k8, k9, k10, k11, k12, k13, k14, k15, k16, k17, k18, k19, k20, k21]
def interned : List (Array UInt16 × Addr) := []
def slotsUsed : Nat := 10
def theMethod : MethodId := ⟨1, 1⟩
def args0 : Array Value := #[.int 5, .int 5, .int 5, .int 5]
def aboutOver (below : List Frame) : State where
  vm := { classes := classes, interned := interned.toArray }
  heap := heap
  slotsUsed := slotsUsed
  threads := #[{ frames := .invoking theMethod args0 :: below }]
def below0 : List Frame := [.native { method := ⟨0, 0⟩, args := #[] }]
def about1 : State := aboutOver below0
def p0 : Program := .bare "" "" ""
def e0 : Env := launch0.env 0 0 0
theorem w_frames : about1.frames = Frame.invoking theMethod args0 :: below0 := rfl
set_option maxRecDepth 65536 in
theorem w_args : argsFit about1.vm theMethod args0 = true := by decide +kernel
set_option maxRecDepth 65536 in
theorem w_heap : heapFits about1 = true := by decide +kernel
set_option maxRecDepth 65536 in
theorem w_runnable : about1.curStatus? = some .runnable := by decide +kernel
set_option maxRecDepth 65536 in
theorem w_alone : about1.alone = true := by decide +kernel
set_option maxRecDepth 65536 in
theorem w_named : about1.methodNamed? x = some theMethod := by decide +kernel
set_option maxRecDepth 65536 in
theorem w_hears : about1.hears theMethod below0 = true := by decide +kernel
set_option maxRecDepth 65536 in
theorem w_ripe : about1.ripe theMethod args0 below0 = true := by decide +kernel
theorem w_running : about1.status = .running := rfl
set_option maxRecDepth 65536 in
theorem w_room : about1.hasRoom e0.platform room_1 = true :=
  launch0.hasRoom_least _ room_1 (by decide +kernel) (by decide +kernel) (by decide +kernel) (by decide +kernel) (by decide +kernel) (by decide +kernel)
theorem allAtoms_all (ts : List Jvm.Cond) (a : Array Jvm.Value) (st : Jvm.State) : (allAtoms ts).before a st = ts.all (fun c => c.before a st) := by
  induction ts with
  | nil => rfl
  | cons c t ih =>
    show (Jvm.Cond.and c (allAtoms t)).before a st = _
    rw [Jvm.Cond.before_and, ih, List.all_cons]
def words1 : List Jvm.Cond := Jvm.Cond.code x code maxLocals ret :: tables_1
/-- a 'code' word, met by the world's own term for the bytes: nothing is compared byte by byte -/
theorem code_word {y : MethodName} {bytes : ByteArray} {mx : Nat} {rt : Option FieldType} {a : Array Value} {s : State} {m : MethodId} {meth : Method} {c : Code} (h1 : s.methodNamed? y = some m) (h2 : s.vm.method? m = some meth) (h3 : meth.code = some c) (h4 : c.code = bytes)
    (h5 : (c.maxLocals == mx && c.exceptionTable.isEmpty && decide (c.maxStack ≤ mostOperands) && decide (meth.sig.returnType = rt) && !meth.locks && decide (parseMethodDescriptor y.desc = some meth.sig)) = true) : (Jvm.Cond.code y bytes mx rt).before a s = true := by
  simp only [Bool.and_eq_true, beq_iff_eq, Bool.not_eq_true', decide_eq_true_eq] at h5
  obtain ⟨⟨⟨⟨⟨g1, g2⟩, g3⟩, g4⟩, g5⟩, g6⟩ := h5
  simp [Cond.before, Cond.holds, Cond.value, h1, h2, h3, h4, g1, g2, g3, g4, g5, g6]
def isCode : Jvm.Cond → Bool
  | .code _ _ _ _ => true
  | _ => false
theorem all_split {L : List Jvm.Cond} {P : Jvm.Cond → Bool} (h1 : L.all (fun c => isCode c || P c) = true) (h2 : ∀ c ∈ L.filter isCode, P c = true) : L.all P = true := by
  refine List.all_eq_true.mpr fun c hc => ?_
  have h := List.all_eq_true.mp h1 c hc
  rcases Bool.eq_false_or_eq_true (isCode c) with hi | hi
  · exact h2 c (List.mem_filter.mpr ⟨hc, hi⟩)
  · simpa [hi] using h
set_option maxRecDepth 65536 in
theorem w_c0 : (Jvm.Cond.code x code maxLocals ret).before args0 about1 = true := code_word (m := ⟨1, 1⟩) (meth := k1m1) (c := k1c1) (by decide +kernel) rfl rfl rfl (by decide +kernel)
set_option maxRecDepth 65536 in
theorem w_c1 : (Jvm.Cond.code ({ cls := "java/lang/String", name := "valueOf", desc := "(C)Ljava/lang/String;" } : Jvm.MethodName) jdk_42_method_139_code (1 : Nat) (Option.some (Jvm.ClassFile.FieldType.object "java/lang/String"))).before args0 about1 = true := code_word (m := ⟨7, 2⟩) (meth := k7m2) (c := k7c2) (by decide +kernel) rfl rfl rfl (by decide +kernel)
set_option maxRecDepth 65536 in
theorem w_c2 : (Jvm.Cond.code ({ cls := "java/lang/StringLatin1", name := "canEncode", desc := "(C)Z" } : Jvm.MethodName) jdk_43_method_3_code (1 : Nat) (Option.some Jvm.ClassFile.FieldType.boolean)).before args0 about1 = true := code_word (m := ⟨8, 1⟩) (meth := k8m1) (c := k8c1) (by decide +kernel) rfl rfl rfl (by decide +kernel)
set_option maxRecDepth 65536 in
theorem w_c3 : (Jvm.Cond.code ({ cls := "java/lang/StringLatin1", name := "toBytes", desc := "(C)[B" } : Jvm.MethodName) jdk_43_method_46_code (1 : Nat) (Option.some (Jvm.ClassFile.FieldType.array Jvm.ClassFile.FieldType.byte))).before args0 about1 = true := code_word (m := ⟨8, 2⟩) (meth := k8m2) (c := k8c2) (by decide +kernel) rfl rfl rfl (by decide +kernel)
set_option maxRecDepth 65536 in
theorem w_c4 : (Jvm.Cond.code ({ cls := "java/lang/String", name := "<init>", desc := "([BB)V" } : Jvm.MethodName) jdk_42_method_151_code (3 : Nat) (Option.none : Option Jvm.ClassFile.FieldType)).before args0 about1 = true := code_word (m := ⟨7, 4⟩) (meth := k7m4) (c := k7c4) (by decide +kernel) rfl rfl rfl (by decide +kernel)
set_option maxRecDepth 65536 in
theorem w_c5 : (Jvm.Cond.code ({ cls := "java/lang/Object", name := "<init>", desc := "()V" } : Jvm.MethodName) object_method_1_code (1 : Nat) (Option.none : Option Jvm.ClassFile.FieldType)).before args0 about1 = true := code_word (m := ⟨0, 0⟩) (meth := k0m0) (c := k0c0) (by decide +kernel) rfl rfl rfl (by decide +kernel)
set_option maxRecDepth 65536 in
theorem w_c6 : (Jvm.Cond.code ({ cls := "com/example/change_gatherer/changegatherer/model/DocumentVersion", name := "<init>", desc := "(Ljava/lang/String;Ljava/lang/String;Ljava/lang/String;)V" } : Jvm.MethodName) prog_18_method_1_code (4 : Nat) (Option.none : Option Jvm.ClassFile.FieldType)).before args0 about1 = true := code_word (m := ⟨9, 0⟩) (meth := k9m0) (c := k9c0) (by decide +kernel) rfl rfl rfl (by decide +kernel)
set_option maxRecDepth 65536 in
theorem w_c7 : (Jvm.Cond.code ({ cls := "java/util/Objects", name := "requireNonNull", desc := "(Ljava/lang/Object;Ljava/lang/String;)Ljava/lang/Object;" } : Jvm.MethodName) jdk_31_method_11_code (2 : Nat) (Option.some (Jvm.ClassFile.FieldType.object "java/lang/Object"))).before args0 about1 = true := code_word (m := ⟨10, 1⟩) (meth := k10m1) (c := k10c1) (by decide +kernel) rfl rfl rfl (by decide +kernel)
set_option maxRecDepth 65536 in
theorem w_c8 : (Jvm.Cond.code ({ cls := "com/example/change_gatherer/changegatherer/io/FetchedDocument", name := "<init>", desc := "(Ljava/lang/String;Lcom/example/change_gatherer/changegatherer/model/DocumentVersion;)V" } : Jvm.MethodName) prog_8_method_1_code (3 : Nat) (Option.none : Option Jvm.ClassFile.FieldType)).before args0 about1 = true := code_word (m := ⟨11, 0⟩) (meth := k11m0) (c := k11c0) (by decide +kernel) rfl rfl rfl (by decide +kernel)
set_option maxRecDepth 65536 in
theorem w_c9 : (Jvm.Cond.code ({ cls := "com/example/change_gatherer/changegatherer/io/FetchedDocument", name := "isModified", desc := "()Z" } : Jvm.MethodName) prog_8_method_2_code (1 : Nat) (Option.some Jvm.ClassFile.FieldType.boolean)).before args0 about1 = true := code_word (m := ⟨11, 1⟩) (meth := k11m1) (c := k11c1) (by decide +kernel) rfl rfl rfl (by decide +kernel)
set_option maxRecDepth 65536 in
theorem w_c10 : (Jvm.Cond.code ({ cls := "com/example/change_gatherer/changegatherer/io/FetchedDocument", name := "getBody", desc := "()Ljava/lang/String;" } : Jvm.MethodName) prog_8_method_3_code (1 : Nat) (Option.some (Jvm.ClassFile.FieldType.object "java/lang/String"))).before args0 about1 = true := code_word (m := ⟨11, 2⟩) (meth := k11m2) (c := k11c2) (by decide +kernel) rfl rfl rfl (by decide +kernel)
set_option maxRecDepth 65536 in
theorem w_c11 : (Jvm.Cond.code ({ cls := "com/example/change_gatherer/changegatherer/io/FetchedDocument", name := "getVersion", desc := "()Lcom/example/change_gatherer/changegatherer/model/DocumentVersion;" } : Jvm.MethodName) prog_8_method_4_code (1 : Nat) (Option.some (Jvm.ClassFile.FieldType.object "com/example/change_gatherer/changegatherer/model/DocumentVersion"))).before args0 about1 = true := code_word (m := ⟨11, 3⟩) (meth := k11m3) (c := k11c3) (by decide +kernel) rfl rfl rfl (by decide +kernel)
set_option maxRecDepth 65536 in
theorem w_c12 : (Jvm.Cond.code ({ cls := "java/lang/String", name := "<init>", desc := "([C)V" } : Jvm.MethodName) jdk_42_method_3_code (2 : Nat) (Option.none : Option Jvm.ClassFile.FieldType)).before args0 about1 = true := code_word (m := ⟨7, 1⟩) (meth := k7m1) (c := k7c1) (by decide +kernel) rfl rfl rfl (by decide +kernel)
set_option maxRecDepth 65536 in
theorem w_c13 : (Jvm.Cond.code ({ cls := "java/lang/String", name := "<init>", desc := "([CIILjava/lang/Void;)V" } : Jvm.MethodName) jdk_42_method_149_code (6 : Nat) (Option.none : Option Jvm.ClassFile.FieldType)).before args0 about1 = true := code_word (m := ⟨7, 3⟩) (meth := k7m3) (c := k7c3) (by decide +kernel) rfl rfl rfl (by decide +kernel)
set_option maxRecDepth 65536 in
theorem w_c14 : (Jvm.Cond.code ({ cls := "java/lang/StringUTF16", name := "compress", desc := "([CII)[B" } : Jvm.MethodName) jdk_52_method_16_code (6 : Nat) (Option.some (Jvm.ClassFile.FieldType.array Jvm.ClassFile.FieldType.byte))).before args0 about1 = true := code_word (m := ⟨12, 2⟩) (meth := k12m2) (c := k12c2) (by decide +kernel) rfl rfl rfl (by decide +kernel)
set_option maxRecDepth 65536 in
theorem w_c15 : (Jvm.Cond.code ({ cls := "java/lang/StringUTF16", name := "compress", desc := "([CI[BII)I" } : Jvm.MethodName) jdk_52_method_21_code (7 : Nat) (Option.some Jvm.ClassFile.FieldType.int)).before args0 about1 = true := code_word (m := ⟨12, 3⟩) (meth := k12m3) (c := k12c3) (by decide +kernel) rfl rfl rfl (by decide +kernel)
set_option maxRecDepth 65536 in
theorem w_c16 : (Jvm.Cond.code ({ cls := "java/lang/StringUTF16", name := "coderFromArrayLen", desc := "([BI)B" } : Jvm.MethodName) jdk_52_method_15_code (2 : Nat) (Option.some Jvm.ClassFile.FieldType.byte)).before args0 about1 = true := code_word (m := ⟨12, 1⟩) (meth := k12m1) (c := k12c1) (by decide +kernel) rfl rfl rfl (by decide +kernel)
def codes1 : List Jvm.Cond := [Jvm.Cond.code x code maxLocals ret, Jvm.Cond.code ({ cls := "java/lang/String", name := "valueOf", desc := "(C)Ljava/lang/String;" } : Jvm.MethodName) jdk_42_method_139_code (1 : Nat) (Option.some (Jvm.ClassFile.FieldType.object "java/lang/String")), Jvm.Cond.code ({ cls := "java/lang/StringLatin1", name := "canEncode", desc := "(C)Z" } : Jvm.MethodName) jdk_43_method_3_code (1 : Nat) (Option.some Jvm.ClassFile.FieldType.boolean), Jvm.Cond.code ({ cls := "java/lang/StringLatin1", name := "toBytes", desc := "(C)[B" } : Jvm.MethodName) jdk_43_method_46_code (1 : Nat) (Option.some (Jvm.ClassFile.FieldType.array Jvm.ClassFile.FieldType.byte)), Jvm.Cond.code ({ cls := "java/lang/String", name := "<init>", desc := "([BB)V" } : Jvm.MethodName) jdk_42_method_151_code (3 : Nat) (Option.none : Option Jvm.ClassFile.FieldType), Jvm.Cond.code ({ cls := "java/lang/Object", name := "<init>", desc := "()V" } : Jvm.MethodName) object_method_1_code (1 : Nat) (Option.none : Option Jvm.ClassFile.FieldType), Jvm.Cond.code ({ cls := "com/example/change_gatherer/changegatherer/model/DocumentVersion", name := "<init>", desc := "(Ljava/lang/String;Ljava/lang/String;Ljava/lang/String;)V" } : Jvm.MethodName) prog_18_method_1_code (4 : Nat) (Option.none : Option Jvm.ClassFile.FieldType), Jvm.Cond.code ({ cls := "java/util/Objects", name := "requireNonNull", desc := "(Ljava/lang/Object;Ljava/lang/String;)Ljava/lang/Object;" } : Jvm.MethodName) jdk_31_method_11_code (2 : Nat) (Option.some (Jvm.ClassFile.FieldType.object "java/lang/Object")), Jvm.Cond.code ({ cls := "com/example/change_gatherer/changegatherer/io/FetchedDocument", name := "<init>", desc := "(Ljava/lang/String;Lcom/example/change_gatherer/changegatherer/model/DocumentVersion;)V" } : Jvm.MethodName) prog_8_method_1_code (3 : Nat) (Option.none : Option Jvm.ClassFile.FieldType), Jvm.Cond.code ({ cls := "com/example/change_gatherer/changegatherer/io/FetchedDocument", name := "isModified", desc := "()Z" } : Jvm.MethodName) prog_8_method_2_code (1 : Nat) (Option.some Jvm.ClassFile.FieldType.boolean), Jvm.Cond.code ({ cls := "com/example/change_gatherer/changegatherer/io/FetchedDocument", name := "getBody", desc := "()Ljava/lang/String;" } : Jvm.MethodName) prog_8_method_3_code (1 : Nat) (Option.some (Jvm.ClassFile.FieldType.object "java/lang/String")), Jvm.Cond.code ({ cls := "com/example/change_gatherer/changegatherer/io/FetchedDocument", name := "getVersion", desc := "()Lcom/example/change_gatherer/changegatherer/model/DocumentVersion;" } : Jvm.MethodName) prog_8_method_4_code (1 : Nat) (Option.some (Jvm.ClassFile.FieldType.object "com/example/change_gatherer/changegatherer/model/DocumentVersion")), Jvm.Cond.code ({ cls := "java/lang/String", name := "<init>", desc := "([C)V" } : Jvm.MethodName) jdk_42_method_3_code (2 : Nat) (Option.none : Option Jvm.ClassFile.FieldType), Jvm.Cond.code ({ cls := "java/lang/String", name := "<init>", desc := "([CIILjava/lang/Void;)V" } : Jvm.MethodName) jdk_42_method_149_code (6 : Nat) (Option.none : Option Jvm.ClassFile.FieldType), Jvm.Cond.code ({ cls := "java/lang/StringUTF16", name := "compress", desc := "([CII)[B" } : Jvm.MethodName) jdk_52_method_16_code (6 : Nat) (Option.some (Jvm.ClassFile.FieldType.array Jvm.ClassFile.FieldType.byte)), Jvm.Cond.code ({ cls := "java/lang/StringUTF16", name := "compress", desc := "([CI[BII)I" } : Jvm.MethodName) jdk_52_method_21_code (7 : Nat) (Option.some Jvm.ClassFile.FieldType.int), Jvm.Cond.code ({ cls := "java/lang/StringUTF16", name := "coderFromArrayLen", desc := "([BI)B" } : Jvm.MethodName) jdk_52_method_15_code (2 : Nat) (Option.some Jvm.ClassFile.FieldType.byte)]
set_option maxRecDepth 65536 in
theorem codes_eq : words1.filter isCode = codes1 := rfl
theorem w_codes : ∀ c ∈ words1.filter isCode, c.before args0 about1 = true := by
  rw [codes_eq]
  intro c hc
  simp only [codes1, List.mem_cons, List.not_mem_nil, or_false] at hc
  rcases hc with rfl | rfl | rfl | rfl | rfl | rfl | rfl | rfl | rfl | rfl | rfl | rfl | rfl | rfl | rfl | rfl | rfl
  · exact w_c0
  · exact w_c1
  · exact w_c2
  · exact w_c3
  · exact w_c4
  · exact w_c5
  · exact w_c6
  · exact w_c7
  · exact w_c8
  · exact w_c9
  · exact w_c10
  · exact w_c11
  · exact w_c12
  · exact w_c13
  · exact w_c14
  · exact w_c15
  · exact w_c16
set_option maxRecDepth 65536 in
theorem w_t1 : (words1.take 24).all (fun c => isCode c || c.before args0 about1) = true := by decide +kernel
set_option maxRecDepth 65536 in
theorem w_t2 : ((words1.drop 24).take 24).all (fun c => isCode c || c.before args0 about1) = true := by decide +kernel
set_option maxRecDepth 65536 in
theorem w_t3 : (((words1.drop 24).drop 24).take 24).all (fun c => isCode c || c.before args0 about1) = true := by decide +kernel
set_option maxRecDepth 65536 in
theorem w_t4 : (((words1.drop 24).drop 24).drop 24).all (fun c => isCode c || c.before args0 about1) = true := by decide +kernel
theorem w_tables : (allAtoms (Jvm.Cond.code x code maxLocals ret :: tables_1)).before args0 about1 = true := by
  rw [allAtoms_all]
  show words1.all (fun c => c.before args0 about1) = true
  refine all_split ?_ w_codes
  rw [← List.take_append_drop 24 words1, List.all_append, w_t1, ← List.take_append_drop 24 (words1.drop 24), List.all_append, w_t2, ← List.take_append_drop 24 ((words1.drop 24).drop 24), List.all_append, w_t3, w_t4]
  rfl
set_option maxRecDepth 65536 in
theorem w_rest : rest_1_c.before args0 about1 = true := by decide +kernel
set_option maxRecDepth 65536 in
theorem w_case : (Jvm.Cond.and given_1 narrow_1).before args0 about1 = true := by decide +kernel
set_option maxRecDepth 65536 in
theorem w_consts : constsHeld consts_1 about1 := Jvm.Lit.constsHeldB_iff.mp (by decide +kernel)
theorem w_applies : (headSpec (Jvm.Cond.code x code maxLocals ret :: tables_1) room_1).applies x e0.platform about1 = true :=
  (Spec.applies_iff w_frames).mpr ⟨w_running, w_runnable, w_alone, w_named, w_hears, w_ripe, w_room, w_tables⟩
theorem atStart : AtStart classFile x code maxLocals ret World_1 tables_1 room_1 Calls_1 rest_1 Pre_1 launch0 p0 e0 about1 theMethod args0 below0 :=
  ⟨lists_1, trivial, launch0.admits_env _ _ _, launch0.least_env, fairChoices_fair.cas, fairChoices_fair.clock, w_frames, w_args, w_heap, w_applies, ⟨w_consts, trivial⟩, w_rest, w_case⟩
end start1
theorem witness_1 : WitnessClaimed_1 := ⟨start1.p0, start1.e0, start1.about1, start1.theMethod, start1.args0, start1.below0, start1.atStart⟩
end Jvm.Pilot.@@N@@
