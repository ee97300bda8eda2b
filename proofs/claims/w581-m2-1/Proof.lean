import JvmDerived
import JvmDerived.Pilot.@@N@@Statement
import JvmDerived.Pilot.@@N@@Code
set_option linter.unusedVariables false
set_option linter.unusedSimpArgs false
@@BLOCK:NumsL.lean.txt@@
namespace Jvm.RoadKit
open Sem ClassFile Op Lib Jvm.Stand Jvm.Free Jvm.LawKit
section New
variable {p : Program} {l : Launch} {e : Env} {R : Room} {s : State} {m : MethodId} {args : Array Value} {below : List Frame} {meth : Method} {c : Code} {T : State} {locs : List Loc} {cells slots : Nat}
theorem retI (X : Stand p l e R s m args below meth c T locs cells slots) (hx : p.tables.exec = Jvm.exec) {pc : Nat} {Ls : Array Slot} {z : Int32} {rest : List Value} (hret : meth.sig.returnType = some .int) (hd : decode c.code pc = .ok (.ireturn, 1)) {fs : List Frame}
    (hl : ∀ (f : JFrame) (acts : List Action), f.method = m → f.locked = none → f.entered = [] → (doReturn e (T.setTop f) acts (some (.int z))).1 = T.setFrames fs) : Steps p.tables e below (T.setTop (mkF m pc Ls (.int z :: rest))) (T.setFrames fs) := by
  have hm' : T.vm.method? m = some meth := X.method'
  have hn : narrow .int (.int z) = .int z := rfl
  show Steps p.tables e below (T.setTop { method := m, pc := pc, locals := Ls, stack := _ :: rest, locked := none }) _
  jvm_step X.here [X.here.top, hx, hd, hm', hret, hn]
  first | (intro acts; rw [hl _ acts rfl rfl rfl]) | rw [hl _ _ rfl rfl rfl]
  exact Steps.refl _
end New
end Jvm.RoadKit
namespace Jvm.Pilot.@@N@@
open Jvm Jvm.ClassFile Sem Op Lib Jvm.Free Jvm.Stand Jvm.LawKit Jvm.RoadKit Bundle Jvm.Pilot.@@N@@.Jvm.D
theorem own_lcLt {x y : Int64} : lcmpW x y < 0 ↔ x < y := by rw [lcW]; exact lc_lt x y
theorem own_lcGt {x y : Int64} : 0 < lcmpW x y ↔ y < x := by rw [lcW]; exact lc_gt x y
theorem own_lcEq {x y : Int64} : lcmpW x y = 0 ↔ x = y := by rw [lcW]; exact lc_eq x y
def own_sel (x y z w j : Int32) : Int32 := if j = 0 then x else if j = 1 then y else if j = 2 then z else w
theorem own_sel_get (x y z w j : Int32) (d : Value) (h : ¬ j < 0 ∧ j < 4) : [(.int x), (.int y), (.int z), (.int w)].getD j.toNatClampNeg d = .int (own_sel x y z w j) := by
  have q := nat_of h.1
  have h2 := h.2
  rw [Int32.lt_iff_toInt_lt] at h2
  have e4 : (4 : Int32).toInt = 4 := rfl
  have e0 : (0 : Int32).toInt = 0 := rfl
  have e1 : (1 : Int32).toInt = 1 := rfl
  have e2 : (2 : Int32).toInt = 2 := rfl
  have hj : j.toNatClampNeg = 0 ∨ j.toNatClampNeg = 1 ∨ j.toNatClampNeg = 2 ∨ j.toNatClampNeg = 3 := by omega
  unfold own_sel
  rcases hj with hj | hj | hj | hj
  · rw [hj, if_pos (Int32.toInt_inj.mp (by omega))]; rfl
  · rw [hj, if_neg (fun e => by have e' := congrArg Int32.toInt e; omega), if_pos (Int32.toInt_inj.mp (by omega))]; rfl
  · rw [hj, if_neg (fun e => by have e' := congrArg Int32.toInt e; omega), if_neg (fun e => by have e' := congrArg Int32.toInt e; omega), if_pos (Int32.toInt_inj.mp (by omega))]; rfl
  · rw [hj, if_neg (fun e => by have e' := congrArg Int32.toInt e; omega), if_neg (fun e => by have e' := congrArg Int32.toInt e; omega), if_neg (fun e => by have e' := congrArg Int32.toInt e; omega)]; rfl
theorem own_and3 (p : Int32) : ¬ (p &&& (3 : Int32)) < 0 ∧ (p &&& (3 : Int32)) < 4 := by
  have e := Jvm.Kit.i32_mask p 3 (k := 2) (by decide) (by decide)
  have e4 : (4 : Int32).toInt = 4 := rfl
  have e0 : (0 : Int32).toInt = 0 := rfl
  rw [Int32.lt_iff_toInt_lt, Int32.lt_iff_toInt_lt]
  omega
theorem own_nn {p : Int32} (h : ¬ p < 0) : 0 ≤ p := by rw [Int32.lt_iff_toInt_lt] at h; rw [Int32.le_iff_toInt_le]; omega
theorem own_h12 {p : Int32} (h : ¬ p < 0 ∧ p < 4) : ((p.toUInt32 >>> ((12 : Int32) &&& 31).toUInt32).toInt32) = 0 := by
  have e := Jvm.Kit.i32_iushr (own_nn h.1) (n := ((12 : Int32) &&& 31).toUInt32) (k := 12) (by decide) (by decide)
  have h2 := h.2
  rw [Int32.lt_iff_toInt_lt] at h2
  have e4 : (4 : Int32).toInt = 4 := rfl
  have e0 : (0 : Int32).toInt = 0 := rfl
  have h1 := h.1
  rw [Int32.lt_iff_toInt_lt] at h1
  apply Int32.toInt_inj.mp
  omega
theorem own_h4095 {p : Int32} (h : ¬ p < 0 ∧ p < 4) : (p &&& (4095 : Int32)) = p := by
  have e := Jvm.Kit.i32_mask p 4095 (k := 12) (by decide) (by decide)
  have h2 := h.2
  rw [Int32.lt_iff_toInt_lt] at h2
  have e4 : (4 : Int32).toInt = 4 := rfl
  have e0 : (0 : Int32).toInt = 0 := rfl
  have h1 := h.1
  rw [Int32.lt_iff_toInt_lt] at h1
  apply Int32.toInt_inj.mp
  omega
theorem own_up {p : Int32} (h : ¬ p < 0 ∧ p < 4) : ¬ p < 0 ∧ p < 4096 := by
  have h2 := h.2
  rw [Int32.lt_iff_toInt_lt] at h2
  refine ⟨h.1, ?_⟩
  rw [Int32.lt_iff_toInt_lt]
  have e4 : (4 : Int32).toInt = 4 := rfl
  have e5 : (4096 : Int32).toInt = 4096 := rfl
  omega
theorem own_pn0 : plainName "com/example/taut_choreo/tautchoreo/explore/IntList" = true := by first | (simp [plainName, overriddenIn]; done) | decide +kernel
theorem own_ef_own_init (m : MethodId) (a_o : Addr) : entryFrame m #[(.ref a_o)] 1 = mkF m 0 #[.val (.ref a_o)] [] := by first | (simp [entryFrame, mkF, argsToLocals, Value.category]; done) | rfl
theorem own_d1_0 : decode prog_28_method_1_code 0 = .ok (.aload_n 0, 1) := by decide +kernel
theorem own_d1_1 : decode prog_28_method_1_code 1 = .ok (.invokespecial 3, 3) := by decide +kernel
theorem own_d1_4 : decode prog_28_method_1_code 4 = .ok (.aload_n 0, 1) := by decide +kernel
theorem own_d1_5 : decode prog_28_method_1_code 5 = .ok (.iconst 1, 1) := by decide +kernel
theorem own_d1_6 : decode prog_28_method_1_code 6 = .ok (.anewarray 9, 3) := by decide +kernel
theorem own_d1_9 : decode prog_28_method_1_code 9 = .ok (.putfield 11, 3) := by decide +kernel
theorem own_d1_12 : decode prog_28_method_1_code 12 = .ok (.return_, 1) := by decide +kernel
def Qown_init (Z : State) (a_o : Addr) (h0 : Heap) (n0 : Nat) (v : Option Value) (h : Heap) (L : List Loc) : Prop := ∃ p_o : Addr, ∃ k_p : ClassId, v = none ∧ Fr n0 L ∧ h0.size ≤ p_o ∧ Keep h0 h [a_o] ∧ Exa Z h a_o "com/example/taut_choreo/tautchoreo/explore/IntList" ∧ Fld Z h a_o "com/example/taut_choreo/tautchoreo/explore/IntList" "pages" "[[I" (.ref p_o) ∧ Fld Z h a_o "com/example/taut_choreo/tautchoreo/explore/IntList" "size" "I" (.int (0 : Int32)) ∧ Arv Z h p_o k_p (.array .int) (1 : Int32) [.null] .null ∧ OvrA Z k_p .int "[I"
set_option maxRecDepth 65536 in
set_option maxHeartbeats 40000000 in
theorem own_init (l : Launch) (Z : State) (a0 : Array Value) (hw : ∀ d ∈ tables_1, d.before a0 Z = true) (ws : List Jvm.Cond) (a_o : Addr) (h0 : Heap) (n0 : Nat) (Z0 : n0 ≤ h0.size) (Eo : Exa Z h0 a_o "com/example/taut_choreo/tautchoreo/explore/IntList") (F_p : Fld Z h0 a_o "com/example/taut_choreo/tautchoreo/explore/IntList" "pages" "[[I" .null) (F_s : Fld Z h0 a_o "com/example/taut_choreo/tautchoreo/explore/IntList" "size" "I" (.int (0 : Int32))) (ga : n0 ≤ a_o) :
    MetFree l (⟨"com/example/taut_choreo/tautchoreo/explore/IntList", "<init>", "()V"⟩ : MethodName) (head1 (Jvm.Cond.code (⟨"com/example/taut_choreo/tautchoreo/explore/IntList", "<init>", "()V"⟩ : MethodName) prog_28_method_1_code 1 none :: ws) ({ frames := 1, cells := 1, slots := 1, locals := 12 } : Room)) (fun a U => a = #[(.ref a_o)] ∧ Z.Warmed39 U.vm ∧ U.heap = h0) (fun _ _ _ _ _ => True) (fun _ U o U' => ∃ v L, o = .returned v ∧ Qown_init Z a_o h0 n0 v U'.heap L ∧ FrameEnd U o U' L ({ frames := 1, cells := 1, slots := 1, locals := 12 } : Room).cells ({ frames := 1, cells := 1, slots := 1, locals := 12 } : Room).slots) := by
  refine MetFree.of_bodySF (plainFor_of_name own_pn0) hisR ?_
  intro p e s m args below meth c s₁ Bd hml0 hP hK
  obtain ⟨rfl, hZ, hh⟩ := hP
  have hx := Bd.exec
  have hby := Bd.bytes
  have hml : c.maxLocals = 1 := hml0
  have hown : s.vm.findClass "com/example/taut_choreo/tautchoreo/explore/IntList" = some m.cls := findClass_of_methodNamed Bd.named
  have hnm := (name_of_methodNamed Bd.named Bd.method).1
  have X0 : Stand p l e ({ frames := 1, cells := 1, slots := 1, locals := 12 } : Room) s m #[(.ref a_o)] below meth c s₁ [] 0 0 := Stand.of_body Bd
  have e0 : s₁.heap = h0 := by rw [← hh, Bd.state]; rfl
  have N0 := Fr.nil n0
  have pre0 : ∀ t, Steps p.tables e below (s₁.setTop (mkF m 0 #[.val (.ref a_o)] [])) t → Steps p.tables e below (s₁.setTop (entryFrame m #[(.ref a_o)] 1)) t := fun t k => castTop (own_ef_own_init m a_o) k
  obtain ⟨T3, X3, e3, st3⟩ := initO X0 hx hZ hown (hw _ (List.mem_of_getElem? (i := 6) rfl)) (hw _ (List.mem_of_getElem? (i := 7) rfl)) (hw _ (List.mem_of_getElem? (i := 8) rfl)) e0 (g := (mkF m 1 #[.val (.ref a_o)] [(.ref a_o)])) rfl (by rw [hml]; rfl) rfl (hb hby own_d1_1) (by decide) (W := 0) (by show 2 * 0 + _ ≤ _; exact Nat.le_of_eq rfl) (by decide)
  obtain ⟨T7, h7, k7, X7, e7, E7, A7, Y7, O7, st7⟩ := newRA X3 hx hZ hown (C := "[I") (ty := .int) (by first | rfl | decide) (hw _ (List.mem_of_getElem? (i := 9) rfl)) (hw _ (List.mem_of_getElem? (i := 10) rfl)) e3 (g := (mkF m 6 #[.val (.ref a_o)] [(.int (1 : Int32)), (.ref a_o)])) rfl (hb hby own_d1_6) rfl (by decide) (cap := 1) (by decide) (by decide) (by decide) (by decide) (ad := "[[I") (by first | rfl | decide)
  obtain ⟨b7, g7⟩ : ∃ z, z = h0.size := ⟨_, rfl⟩
  rw [← g7] at A7 Y7 st7
  have Ne8 : a_o ≠ b7 := Nat.ne_of_lt (Nat.lt_of_lt_of_le Eo.lt (Nat.le_of_eq g7.symm))
  have Ge9 : n0 ≤ b7 := Nat.le_trans Z0 (Nat.le_of_eq g7.symm)
  have Sz10 : h0.size ≤ b7 := Nat.le_trans (Keep.refl h0 [a_o]).1 (Nat.le_of_eq g7.symm)
  have Kc11 : Keep h0 h7 [a_o] := (Keep.refl h0 [a_o]).ext E7
  have Zs12 : n0 ≤ h7.size := (Nat.le_trans Z0 E7.1)
  have V7 : Arv Z h7 b7 k7 (.array .int) (1 : Int32) [.null] .null := (Arv.new A7 (by decide)).pad (pad_rep [] .null 1)
  have Fq14 : Exa Z h7 a_o "com/example/taut_choreo/tautchoreo/explore/IntList" := (Eo.ext E7)
  have Fq15 : Fld Z h7 a_o "com/example/taut_choreo/tautchoreo/explore/IntList" "pages" "[[I" .null := (F_p.ext E7)
  obtain ⟨T16, h16, X16, e16, W16, st16⟩ := putF X7 hx hZ hown (host := "") (Or.inl (hw _ (List.mem_of_getElem? (i := 11) rfl))) Via.refl e7 Fq15 Fq14 (Or.inl (hw _ (List.mem_of_getElem? (i := 12) rfl))) (hw _ (List.mem_of_getElem? (i := 1) rfl)) (ty := (.array (.array .int))) (by decide) rfl rfl (g := (mkF m 9 #[.val (.ref a_o)] [(.ref b7), (.ref a_o)])) rfl rfl (hb hby own_d1_9)
  have Kc17 : Keep h0 h16 [a_o] := Kc11.wr W16 (Or.inl (List.mem_of_getElem? (i := 0) rfl))
  have Zs18 : n0 ≤ h16.size := Nat.le_trans Zs12 (Keep.of_wr W16).1
  have N19 := Fr.snoc X16 N0 ga
  have Fw16 : Fld Z h16 a_o "com/example/taut_choreo/tautchoreo/explore/IntList" "pages" "[[I" (.ref b7) := Fq15.same W16
  obtain ⟨fs, hr, hrun, hended, hW, hsame⟩ := X16.leave (v := none) (fun _ => rfl) (hlocks := BodyLoose.notSynchronized Bd)
  refine ⟨_, _, pre0 _ ?_, hrun, hended, _, _, rfl, ?_, ⟨_, rfl⟩, hW, hsame.mono (by decide) (by decide)⟩
  · show Steps p.tables e below (s₁.setTop (mkF m 0 #[.val (.ref a_o)] [])) _
    refine XS.aloadN X0.here hx rfl (hb hby own_d1_0) rfl rfl ?_
    show Steps p.tables e below (s₁.setTop (mkF m 1 #[.val (.ref a_o)] [(.ref a_o)])) _
    refine st3 _ ?_
    show Steps p.tables e below (T3.setTop (mkF m 4 #[.val (.ref a_o)] [])) _
    refine XS.aloadN X3.here hx rfl (hb hby own_d1_4) rfl rfl ?_
    show Steps p.tables e below (T3.setTop (mkF m 5 #[.val (.ref a_o)] [(.ref a_o)])) _
    refine XS.iconst X3.here hx rfl (hb hby own_d1_5) ?_
    show Steps p.tables e below (T3.setTop (mkF m 6 #[.val (.ref a_o)] [(.int (1 : Int32)), (.ref a_o)])) _
    refine st7 _ ?_
    show Steps p.tables e below (T7.setTop (mkF m 9 #[.val (.ref a_o)] [(.ref b7), (.ref a_o)])) _
    refine st16 _ ?_
    show Steps p.tables e below (T16.setTop (mkF m 12 #[.val (.ref a_o)] [])) _
    exact X16.returnOut hx Bd.returns (hb hby own_d1_12) hr
  · show Qown_init Z a_o h0 n0 _ T16.heap _
    rw [e16]
    have Fq21 : Exa Z h16 a_o "com/example/taut_choreo/tautchoreo/explore/IntList" := (Fq14.wr W16)
    have Fq22 : Fld Z h16 a_o "com/example/taut_choreo/tautchoreo/explore/IntList" "size" "I" (.int (0 : Int32)) := ((F_s.ext E7).other W16 (Or.inr (slot_ne (Or.inl (hw _ (List.mem_of_getElem? (i := 19) rfl))) (Or.inl (hw _ (List.mem_of_getElem? (i := 12) rfl))) (by decide) (t := .int) (t' := (.array (.array .int))) (by decide) (by decide))))
    have Fq23 : Arv Z h16 b7 k7 (.array .int) (1 : Int32) [.null] .null := (V7.other W16 (Ne.symm Ne8))
    exact ⟨b7, k7, rfl, N19, Sz10, Kc17, Fq21, Fw16, Fq22, Fq23, O7⟩
theorem own_ef_own_add0 (m : MethodId) (a_o : Addr) (x_1 : Int32) : entryFrame m #[(.ref a_o), (.int x_1)] 3 = mkF m 0 #[.val (.ref a_o), .val (.int x_1), .unset] [] := by first | (simp [entryFrame, mkF, argsToLocals, Value.category]; done) | rfl
theorem own_d3_0 : decode prog_28_method_3_code 0 = .ok (.aload_n 0, 1) := by decide +kernel
theorem own_d3_1 : decode prog_28_method_3_code 1 = .ok (.getfield 15, 3) := by decide +kernel
theorem own_d3_4 : decode prog_28_method_3_code 4 = .ok (.bipush 12, 2) := by decide +kernel
theorem own_d3_6 : decode prog_28_method_3_code 6 = .ok (.iushr, 1) := by decide +kernel
theorem own_d3_7 : decode prog_28_method_3_code 7 = .ok (.istore_n 2, 1) := by decide +kernel
theorem own_d3_8 : decode prog_28_method_3_code 8 = .ok (.iload_n 2, 1) := by decide +kernel
theorem own_d3_9 : decode prog_28_method_3_code 9 = .ok (.aload_n 0, 1) := by decide +kernel
theorem own_d3_10 : decode prog_28_method_3_code 10 = .ok (.getfield 11, 3) := by decide +kernel
theorem own_d3_13 : decode prog_28_method_3_code 13 = .ok (.arraylength, 1) := by decide +kernel
theorem own_d3_14 : decode prog_28_method_3_code 14 = .ok (.if_icmp .ne 24, 3) := by decide +kernel
theorem own_d3_38 : decode prog_28_method_3_code 38 = .ok (.aload_n 0, 1) := by decide +kernel
theorem own_d3_39 : decode prog_28_method_3_code 39 = .ok (.getfield 11, 3) := by decide +kernel
theorem own_d3_42 : decode prog_28_method_3_code 42 = .ok (.iload_n 2, 1) := by decide +kernel
theorem own_d3_43 : decode prog_28_method_3_code 43 = .ok (.aaload, 1) := by decide +kernel
theorem own_d3_44 : decode prog_28_method_3_code 44 = .ok (.ifnonnull 14, 3) := by decide +kernel
theorem own_d3_47 : decode prog_28_method_3_code 47 = .ok (.aload_n 0, 1) := by decide +kernel
theorem own_d3_48 : decode prog_28_method_3_code 48 = .ok (.getfield 11, 3) := by decide +kernel
theorem own_d3_51 : decode prog_28_method_3_code 51 = .ok (.iload_n 2, 1) := by decide +kernel
theorem own_d3_52 : decode prog_28_method_3_code 52 = .ok (.sipush 4096, 3) := by decide +kernel
theorem own_d3_55 : decode prog_28_method_3_code 55 = .ok (.newarray .int, 2) := by decide +kernel
theorem own_d3_57 : decode prog_28_method_3_code 57 = .ok (.aastore, 1) := by decide +kernel
theorem own_d3_58 : decode prog_28_method_3_code 58 = .ok (.aload_n 0, 1) := by decide +kernel
theorem own_d3_59 : decode prog_28_method_3_code 59 = .ok (.getfield 11, 3) := by decide +kernel
theorem own_d3_62 : decode prog_28_method_3_code 62 = .ok (.iload_n 2, 1) := by decide +kernel
theorem own_d3_63 : decode prog_28_method_3_code 63 = .ok (.aaload, 1) := by decide +kernel
theorem own_d3_64 : decode prog_28_method_3_code 64 = .ok (.aload_n 0, 1) := by decide +kernel
theorem own_d3_65 : decode prog_28_method_3_code 65 = .ok (.getfield 15, 3) := by decide +kernel
theorem own_d3_68 : decode prog_28_method_3_code 68 = .ok (.sipush 4095, 3) := by decide +kernel
theorem own_d3_71 : decode prog_28_method_3_code 71 = .ok (.iand, 1) := by decide +kernel
theorem own_d3_72 : decode prog_28_method_3_code 72 = .ok (.iload_n 1, 1) := by decide +kernel
theorem own_d3_73 : decode prog_28_method_3_code 73 = .ok (.iastore, 1) := by decide +kernel
theorem own_d3_74 : decode prog_28_method_3_code 74 = .ok (.aload_n 0, 1) := by decide +kernel
theorem own_d3_75 : decode prog_28_method_3_code 75 = .ok (.dup, 1) := by decide +kernel
theorem own_d3_76 : decode prog_28_method_3_code 76 = .ok (.getfield 15, 3) := by decide +kernel
theorem own_d3_79 : decode prog_28_method_3_code 79 = .ok (.iconst 1, 1) := by decide +kernel
theorem own_d3_80 : decode prog_28_method_3_code 80 = .ok (.iadd, 1) := by decide +kernel
theorem own_d3_81 : decode prog_28_method_3_code 81 = .ok (.putfield 15, 3) := by decide +kernel
theorem own_d3_84 : decode prog_28_method_3_code 84 = .ok (.return_, 1) := by decide +kernel
def Qown_add0 (Z : State) (a_o : Addr) (x_1 : Int32) (p_o : Addr) (k_p : ClassId) (h0 : Heap) (n0 : Nat) (v : Option Value) (h : Heap) (L : List Loc) : Prop := ∃ g_o : Addr, ∃ k_g : ClassId, v = none ∧ Fr n0 L ∧ h0.size ≤ g_o ∧ Keep h0 h [a_o, p_o] ∧ Exa Z h a_o "com/example/taut_choreo/tautchoreo/explore/IntList" ∧ Fld Z h a_o "com/example/taut_choreo/tautchoreo/explore/IntList" "pages" "[[I" (.ref p_o) ∧ Fld Z h a_o "com/example/taut_choreo/tautchoreo/explore/IntList" "size" "I" (.int (1 : Int32)) ∧ Arv Z h p_o k_p (.array .int) (1 : Int32) [(.ref g_o)] .null ∧ Arv Z h g_o k_g .int (4096 : Int32) [(.int x_1), (.int (0 : Int32)), (.int (0 : Int32)), (.int (0 : Int32))] (.int (0 : Int32))
set_option maxRecDepth 65536 in
set_option maxHeartbeats 40000000 in
theorem own_add0 (l : Launch) (Z : State) (a0 : Array Value) (hw : ∀ d ∈ tables_1, d.before a0 Z = true) (ws : List Jvm.Cond) (a_o : Addr) (x_1 : Int32) (p_o : Addr) (k_p : ClassId) (h0 : Heap) (n0 : Nat) (Z0 : n0 ≤ h0.size) (Eo : Exa Z h0 a_o "com/example/taut_choreo/tautchoreo/explore/IntList") (F_p : Fld Z h0 a_o "com/example/taut_choreo/tautchoreo/explore/IntList" "pages" "[[I" (.ref p_o)) (F_s : Fld Z h0 a_o "com/example/taut_choreo/tautchoreo/explore/IntList" "size" "I" (.int (0 : Int32))) (V_p : Arv Z h0 p_o k_p (.array .int) (1 : Int32) [.null] .null) (ga : n0 ≤ a_o) (gp : n0 ≤ p_o) (n1 : p_o ≠ a_o) (ho : OvrA Z k_p .int "[I") :
    MetFree l (⟨"com/example/taut_choreo/tautchoreo/explore/IntList", "add", "(I)V"⟩ : MethodName) (head1 (Jvm.Cond.code (⟨"com/example/taut_choreo/tautchoreo/explore/IntList", "add", "(I)V"⟩ : MethodName) prog_28_method_3_code 3 none :: ws) ({ frames := 0, cells := 1, slots := 4096, locals := 0 } : Room)) (fun a U => a = #[(.ref a_o), (.int x_1)] ∧ Z.Warmed39 U.vm ∧ U.heap = h0) (fun _ _ _ _ _ => True) (fun _ U o U' => ∃ v L, o = .returned v ∧ Qown_add0 Z a_o x_1 p_o k_p h0 n0 v U'.heap L ∧ FrameEnd U o U' L ({ frames := 0, cells := 1, slots := 4096, locals := 0 } : Room).cells ({ frames := 0, cells := 1, slots := 4096, locals := 0 } : Room).slots) := by
  refine MetFree.of_bodySF (plainFor_of_name own_pn0) hisR ?_
  intro p e s m args below meth c s₁ Bd hml0 hP hK
  obtain ⟨rfl, hZ, hh⟩ := hP
  have hx := Bd.exec
  have hby := Bd.bytes
  have hml : c.maxLocals = 3 := hml0
  have hown : s.vm.findClass "com/example/taut_choreo/tautchoreo/explore/IntList" = some m.cls := findClass_of_methodNamed Bd.named
  have hnm := (name_of_methodNamed Bd.named Bd.method).1
  have X0 : Stand p l e ({ frames := 0, cells := 1, slots := 4096, locals := 0 } : Room) s m #[(.ref a_o), (.int x_1)] below meth c s₁ [] 0 0 := Stand.of_body Bd
  have e0 : s₁.heap = h0 := by rw [← hh, Bd.state]; rfl
  have N0 := Fr.nil n0
  have pre0 : ∀ t, Steps p.tables e below (s₁.setTop (mkF m 0 #[.val (.ref a_o), .val (.int x_1), .unset] [])) t → Steps p.tables e below (s₁.setTop (entryFrame m #[(.ref a_o), (.int x_1)] 3)) t := fun t k => castTop (own_ef_own_add0 m a_o x_1) k
  obtain ⟨T3, X3, e3, st3⟩ := getF X0 hx hZ hown (host := "") (Or.inl (hw _ (List.mem_of_getElem? (i := 18) rfl))) Via.refl e0 F_s (g := (mkF m 1 #[.val (.ref a_o), .val (.int x_1), .unset] [(.ref a_o)])) rfl rfl (hb hby own_d3_1)
  obtain ⟨T10, X10, e10, st10⟩ := getF X3 hx hZ hown (host := "") (Or.inl (hw _ (List.mem_of_getElem? (i := 11) rfl))) Via.refl e3 F_p (g := (mkF m 10 #[.val (.ref a_o), .val (.int x_1), .val (.int (0 : Int32))] [(.ref a_o), (.int (0 : Int32))])) rfl rfl (hb hby own_d3_10)
  obtain ⟨cl12, Ar12, -, S12, M12, -, -⟩ := id V_p
  obtain ⟨T16, X16, e16, st16⟩ := getF X10 hx hZ hown (host := "") (Or.inl (hw _ (List.mem_of_getElem? (i := 11) rfl))) Via.refl e10 F_p (g := (mkF m 39 #[.val (.ref a_o), .val (.int x_1), .val (.int (0 : Int32))] [(.ref a_o)])) rfl rfl (hb hby own_d3_39)
  obtain ⟨cl19, Ar19, q19, S19, M19, H19, G19⟩ := id V_p
  have hin19 : ¬ ((0 : Int32) < 0 ∨ cl19.slots.size ≤ ((0 : Int32)).toNatClampNeg) := inb_of S19 ⟨by decide, by decide⟩
  have hat19 : cl19.slots[((0 : Int32)).toNatClampNeg]? = some .null := H19.at hin19 rfl
  obtain ⟨T23, X23, e23, st23⟩ := getF X16 hx hZ hown (host := "") (Or.inl (hw _ (List.mem_of_getElem? (i := 11) rfl))) Via.refl e16 F_p (g := (mkF m 48 #[.val (.ref a_o), .val (.int x_1), .val (.int (0 : Int32))] [(.ref a_o)])) rfl rfl (hb hby own_d3_48)
  obtain ⟨T27, h27, k27, X27, e27, E27, A27, Y27, st27⟩ := newPE X23 hx hZ (hw _ (List.mem_of_getElem? (i := 20) rfl)) e23 (g := (mkF m 55 #[.val (.ref a_o), .val (.int x_1), .val (.int (0 : Int32))] [(.int (4096 : Int32)), (.int (0 : Int32)), (.ref p_o)])) rfl (hb hby own_d3_55) rfl (by decide) (cap := 4096) (by decide) (by decide) (by decide) (by decide) (ad := "[I") (by first | rfl | decide)
  obtain ⟨b27, g27⟩ : ∃ z, z = h0.size := ⟨_, rfl⟩
  rw [← g27] at A27 Y27 st27
  have Ne28 : a_o ≠ b27 := Nat.ne_of_lt (Nat.lt_of_lt_of_le Eo.lt (Nat.le_of_eq g27.symm))
  have Ne29 : p_o ≠ b27 := Nat.ne_of_lt (Nat.lt_of_lt_of_le V_p.lt (Nat.le_of_eq g27.symm))
  have Ge30 : n0 ≤ b27 := Nat.le_trans Z0 (Nat.le_of_eq g27.symm)
  have Sz31 : h0.size ≤ b27 := Nat.le_trans (Keep.refl h0 [a_o, p_o]).1 (Nat.le_of_eq g27.symm)
  have Kc32 : Keep h0 h27 [a_o, p_o] := (Keep.refl h0 [a_o, p_o]).ext E27
  have Zs33 : n0 ≤ h27.size := (Nat.le_trans Z0 E27.1)
  have V27 : Arv Z h27 b27 k27 .int (4096 : Int32) [(.int (0 : Int32)), (.int (0 : Int32)), (.int (0 : Int32)), (.int (0 : Int32))] (.int (0 : Int32)) := (Arv.new A27 (by decide)).pad (pad_rep [] (.int (0 : Int32)) 4)
  have Fq35 : Arv Z h27 p_o k_p (.array .int) (1 : Int32) [.null] .null := (V_p.ext E27)
  obtain ⟨cl36, Ar36, q36, S36, M36, H36, G36⟩ := id Fq35
  have hin36 : ¬ ((0 : Int32) < 0 ∨ cl36.slots.size ≤ ((0 : Int32)).toNatClampNeg) := inb_of S36 ⟨by decide, by decide⟩
  obtain ⟨T37, h37, X37, e37, W37, st37⟩ := stR X27 hx hZ e27 Ar36 (j := (0 : Int32)) hin36 rfl (Sto.ofVA Ar36 q36 ho (Ins.self Y27)) (g := (mkF m 57 #[.val (.ref a_o), .val (.int x_1), .val (.int (0 : Int32))] [(.ref b27), (.int (0 : Int32)), (.ref p_o)])) rfl rfl (hb hby own_d3_57)
  have Kc39 : Keep h0 h37 [a_o, p_o] := Kc32.wr W37 (Or.inl (List.mem_of_getElem? (i := 1) rfl))
  have Zs40 : n0 ≤ h37.size := Nat.le_trans Zs33 (Keep.of_wr W37).1
  have N41 := Fr.snoc X37 N0 gp
  have Vm38 : Arv Z h37 p_o k_p (.array .int) (1 : Int32) [(.ref b27)] .null := Arv.set Ar36 q36 S36 M36 H36 G36 rfl W37 0 rfl (Nat.le_of_ble_eq_true rfl)
  have Fq44 : Fld Z h37 a_o "com/example/taut_choreo/tautchoreo/explore/IntList" "pages" "[[I" (.ref p_o) := ((F_p.ext E27).other W37 (Or.inl (Ne.symm n1)))
  obtain ⟨T45, X45, e45, st45⟩ := getF X37 hx hZ hown (host := "") (Or.inl (hw _ (List.mem_of_getElem? (i := 11) rfl))) Via.refl e37 Fq44 (g := (mkF m 59 #[.val (.ref a_o), .val (.int x_1), .val (.int (0 : Int32))] [(.ref a_o)])) rfl rfl (hb hby own_d3_59)
  obtain ⟨cl48, Ar48, q48, S48, M48, H48, G48⟩ := id Vm38
  have hin48 : ¬ ((0 : Int32) < 0 ∨ cl48.slots.size ≤ ((0 : Int32)).toNatClampNeg) := inb_of S48 ⟨by decide, by decide⟩
  have hat48 : cl48.slots[((0 : Int32)).toNatClampNeg]? = some (.ref b27) := H48.at hin48 rfl
  have Fq51 : Fld Z h37 a_o "com/example/taut_choreo/tautchoreo/explore/IntList" "size" "I" (.int (0 : Int32)) := ((F_s.ext E27).other W37 (Or.inl (Ne.symm n1)))
  obtain ⟨T52, X52, e52, st52⟩ := getF X45 hx hZ hown (host := "") (Or.inl (hw _ (List.mem_of_getElem? (i := 18) rfl))) Via.refl e45 Fq51 (g := (mkF m 65 #[.val (.ref a_o), .val (.int x_1), .val (.int (0 : Int32))] [(.ref a_o), (.ref b27)])) rfl rfl (hb hby own_d3_65)
  have Fq57 : Arv Z h37 b27 k27 .int (4096 : Int32) [(.int (0 : Int32)), (.int (0 : Int32)), (.int (0 : Int32)), (.int (0 : Int32))] (.int (0 : Int32)) := (V27.other W37 (Ne.symm Ne29))
  obtain ⟨cl58, Ar58, q58, S58, M58, H58, G58⟩ := id Fq57
  have hin58 : ¬ ((0 : Int32) < 0 ∨ cl58.slots.size ≤ ((0 : Int32)).toNatClampNeg) := inb_of S58 ⟨by decide, by decide⟩
  obtain ⟨T59, h59, X59, e59, W59, st59⟩ := stI X52 hx hZ e52 Ar58 (j := (0 : Int32)) hin58 (g := (mkF m 73 #[.val (.ref a_o), .val (.int x_1), .val (.int (0 : Int32))] [(.int x_1), (.int (0 : Int32)), (.ref b27)])) rfl rfl (hb hby own_d3_73)
  have Kc61 : Keep h0 h59 [a_o, p_o] := Kc39.wr W59 (Or.inr Sz31)
  have Zs62 : n0 ≤ h59.size := Nat.le_trans Zs40 (Keep.of_wr W59).1
  have N63 := Fr.snoc X59 N41 Ge30
  have Vm60 : Arv Z h59 b27 k27 .int (4096 : Int32) [(.int x_1), (.int (0 : Int32)), (.int (0 : Int32)), (.int (0 : Int32))] (.int (0 : Int32)) := Arv.set Ar58 q58 S58 M58 H58 G58 rfl W59 0 rfl (Nat.le_of_ble_eq_true rfl)
  have Fq67 : Fld Z h59 a_o "com/example/taut_choreo/tautchoreo/explore/IntList" "size" "I" (.int (0 : Int32)) := (Fq51.other W59 (Or.inl Ne28))
  obtain ⟨T68, X68, e68, st68⟩ := getF X59 hx hZ hown (host := "") (Or.inl (hw _ (List.mem_of_getElem? (i := 18) rfl))) Via.refl e59 Fq67 (g := (mkF m 76 #[.val (.ref a_o), .val (.int x_1), .val (.int (0 : Int32))] [(.ref a_o), (.ref a_o)])) rfl rfl (hb hby own_d3_76)
  have Fq72 : Exa Z h59 a_o "com/example/taut_choreo/tautchoreo/explore/IntList" := (((Eo.ext E27).wr W37).wr W59)
  obtain ⟨T73, h73, X73, e73, W73, st73⟩ := putF X68 hx hZ hown (host := "") (Or.inl (hw _ (List.mem_of_getElem? (i := 18) rfl))) Via.refl e68 Fq67 Fq72 (Or.inl (hw _ (List.mem_of_getElem? (i := 19) rfl))) (hw _ (List.mem_of_getElem? (i := 1) rfl)) (ty := .int) (by decide) rfl rfl (g := (mkF m 81 #[.val (.ref a_o), .val (.int x_1), .val (.int (0 : Int32))] [(.int (1 : Int32)), (.ref a_o)])) rfl rfl (hb hby own_d3_81)
  have Kc74 : Keep h0 h73 [a_o, p_o] := Kc61.wr W73 (Or.inl (List.mem_of_getElem? (i := 0) rfl))
  have Zs75 : n0 ≤ h73.size := Nat.le_trans Zs62 (Keep.of_wr W73).1
  have N76 := Fr.snoc X73 N63 ga
  have Fw73 : Fld Z h73 a_o "com/example/taut_choreo/tautchoreo/explore/IntList" "size" "I" (.int (1 : Int32)) := Fq67.same W73
  obtain ⟨fs, hr, hrun, hended, hW, hsame⟩ := X73.leave (v := none) (fun _ => rfl) (hlocks := BodyLoose.notSynchronized Bd)
  refine ⟨_, _, pre0 _ ?_, hrun, hended, _, _, rfl, ?_, ⟨_, rfl⟩, hW, hsame.mono (by decide) (by decide)⟩
  · show Steps p.tables e below (s₁.setTop (mkF m 0 #[.val (.ref a_o), .val (.int x_1), .unset] [])) _
    refine XS.aloadN X0.here hx rfl (hb hby own_d3_0) rfl rfl ?_
    show Steps p.tables e below (s₁.setTop (mkF m 1 #[.val (.ref a_o), .val (.int x_1), .unset] [(.ref a_o)])) _
    refine st3 _ ?_
    show Steps p.tables e below (T3.setTop (mkF m 4 #[.val (.ref a_o), .val (.int x_1), .unset] [(.int (0 : Int32))])) _
    refine XS.bipush X3.here hx rfl (hb hby own_d3_4) ?_
    show Steps p.tables e below (T3.setTop (mkF m 6 #[.val (.ref a_o), .val (.int x_1), .unset] [(.int (12 : Int32)), (.int (0 : Int32))])) _
    refine XS.iushr X3.here hx rfl (hb hby own_d3_6) rfl ?_
    show Steps p.tables e below (T3.setTop (mkF m 7 #[.val (.ref a_o), .val (.int x_1), .unset] [(.int (0 : Int32))])) _
    refine XS.istoreN X3.here hx rfl (hb hby own_d3_7) rfl (l' := #[.val (.ref a_o), .val (.int x_1), .val (.int (0 : Int32))]) rfl ?_
    show Steps p.tables e below (T3.setTop (mkF m 8 #[.val (.ref a_o), .val (.int x_1), .val (.int (0 : Int32))] [])) _
    refine XS.iloadN X3.here hx rfl (hb hby own_d3_8) rfl ?_
    show Steps p.tables e below (T3.setTop (mkF m 9 #[.val (.ref a_o), .val (.int x_1), .val (.int (0 : Int32))] [(.int (0 : Int32))])) _
    refine XS.aloadN X3.here hx rfl (hb hby own_d3_9) rfl rfl ?_
    show Steps p.tables e below (T3.setTop (mkF m 10 #[.val (.ref a_o), .val (.int x_1), .val (.int (0 : Int32))] [(.ref a_o), (.int (0 : Int32))])) _
    refine st10 _ ?_
    show Steps p.tables e below (T10.setTop (mkF m 13 #[.val (.ref a_o), .val (.int x_1), .val (.int (0 : Int32))] [(.ref p_o), (.int (0 : Int32))])) _
    refine X10.arraylength hx (by rw [e10]; exact Ar12.1) (State.isArrayOf_alike hZ.alike Ar12.2.1) (g := (mkF m 13 #[.val (.ref a_o), .val (.int x_1), .val (.int (0 : Int32))] [(.ref p_o), (.int (0 : Int32))])) rfl rfl (hb hby own_d3_13) _ ?_
    rw [len_of S12 M12]
    show Steps p.tables e below (T10.setTop (mkF m 14 #[.val (.ref a_o), .val (.int x_1), .val (.int (0 : Int32))] [(.int (1 : Int32)), (.int (0 : Int32))])) _
    refine XS.icmpYes X10.here hx rfl (pc0 := 14) (pc' := 38) rfl (hb hby own_d3_14) rfl (feq ((by decide) : ¬ ((0 : Int32) = (1 : Int32)))).2 (by decide) (by decide) ?_
    show Steps p.tables e below (T10.setTop (mkF m 38 #[.val (.ref a_o), .val (.int x_1), .val (.int (0 : Int32))] [])) _
    refine XS.aloadN X10.here hx rfl (hb hby own_d3_38) rfl rfl ?_
    show Steps p.tables e below (T10.setTop (mkF m 39 #[.val (.ref a_o), .val (.int x_1), .val (.int (0 : Int32))] [(.ref a_o)])) _
    refine st16 _ ?_
    show Steps p.tables e below (T16.setTop (mkF m 42 #[.val (.ref a_o), .val (.int x_1), .val (.int (0 : Int32))] [(.ref p_o)])) _
    refine XS.iloadN X16.here hx rfl (hb hby own_d3_42) rfl ?_
    show Steps p.tables e below (T16.setTop (mkF m 43 #[.val (.ref a_o), .val (.int x_1), .val (.int (0 : Int32))] [(.int (0 : Int32)), (.ref p_o)])) _
    refine X16.aaload hx (j := (0 : Int32)) (v := .null) (by rw [e16]; exact Ar19.1) (State.isArrayOf_alike hZ.alike Ar19.2.1) rfl Ar19.2.2 hin19 hat19 (g := (mkF m 43 #[.val (.ref a_o), .val (.int x_1), .val (.int (0 : Int32))] [(.int (0 : Int32)), (.ref p_o)])) rfl rfl (hb hby own_d3_43) _ ?_
    show Steps p.tables e below (T16.setTop (mkF m 44 #[.val (.ref a_o), .val (.int x_1), .val (.int (0 : Int32))] [.null])) _
    refine XS.ifnonnullNo X16.here hx rfl (hb hby own_d3_44) rfl ?_
    show Steps p.tables e below (T16.setTop (mkF m 47 #[.val (.ref a_o), .val (.int x_1), .val (.int (0 : Int32))] [])) _
    refine XS.aloadN X16.here hx rfl (hb hby own_d3_47) rfl rfl ?_
    show Steps p.tables e below (T16.setTop (mkF m 48 #[.val (.ref a_o), .val (.int x_1), .val (.int (0 : Int32))] [(.ref a_o)])) _
    refine st23 _ ?_
    show Steps p.tables e below (T23.setTop (mkF m 51 #[.val (.ref a_o), .val (.int x_1), .val (.int (0 : Int32))] [(.ref p_o)])) _
    refine XS.iloadN X23.here hx rfl (hb hby own_d3_51) rfl ?_
    show Steps p.tables e below (T23.setTop (mkF m 52 #[.val (.ref a_o), .val (.int x_1), .val (.int (0 : Int32))] [(.int (0 : Int32)), (.ref p_o)])) _
    refine XS.sipush X23.here hx rfl (hb hby own_d3_52) ?_
    show Steps p.tables e below (T23.setTop (mkF m 55 #[.val (.ref a_o), .val (.int x_1), .val (.int (0 : Int32))] [(.int (4096 : Int32)), (.int (0 : Int32)), (.ref p_o)])) _
    refine st27 _ ?_
    show Steps p.tables e below (T27.setTop (mkF m 57 #[.val (.ref a_o), .val (.int x_1), .val (.int (0 : Int32))] [(.ref b27), (.int (0 : Int32)), (.ref p_o)])) _
    refine st37 _ ?_
    show Steps p.tables e below (T37.setTop (mkF m 58 #[.val (.ref a_o), .val (.int x_1), .val (.int (0 : Int32))] [])) _
    refine XS.aloadN X37.here hx rfl (hb hby own_d3_58) rfl rfl ?_
    show Steps p.tables e below (T37.setTop (mkF m 59 #[.val (.ref a_o), .val (.int x_1), .val (.int (0 : Int32))] [(.ref a_o)])) _
    refine st45 _ ?_
    show Steps p.tables e below (T45.setTop (mkF m 62 #[.val (.ref a_o), .val (.int x_1), .val (.int (0 : Int32))] [(.ref p_o)])) _
    refine XS.iloadN X45.here hx rfl (hb hby own_d3_62) rfl ?_
    show Steps p.tables e below (T45.setTop (mkF m 63 #[.val (.ref a_o), .val (.int x_1), .val (.int (0 : Int32))] [(.int (0 : Int32)), (.ref p_o)])) _
    refine X45.aaload hx (j := (0 : Int32)) (v := (.ref b27)) (by rw [e45]; exact Ar48.1) (State.isArrayOf_alike hZ.alike Ar48.2.1) rfl Ar48.2.2 hin48 hat48 (g := (mkF m 63 #[.val (.ref a_o), .val (.int x_1), .val (.int (0 : Int32))] [(.int (0 : Int32)), (.ref p_o)])) rfl rfl (hb hby own_d3_63) _ ?_
    show Steps p.tables e below (T45.setTop (mkF m 64 #[.val (.ref a_o), .val (.int x_1), .val (.int (0 : Int32))] [(.ref b27)])) _
    refine XS.aloadN X45.here hx rfl (hb hby own_d3_64) rfl rfl ?_
    show Steps p.tables e below (T45.setTop (mkF m 65 #[.val (.ref a_o), .val (.int x_1), .val (.int (0 : Int32))] [(.ref a_o), (.ref b27)])) _
    refine st52 _ ?_
    show Steps p.tables e below (T52.setTop (mkF m 68 #[.val (.ref a_o), .val (.int x_1), .val (.int (0 : Int32))] [(.int (0 : Int32)), (.ref b27)])) _
    refine XS.sipush X52.here hx rfl (hb hby own_d3_68) ?_
    show Steps p.tables e below (T52.setTop (mkF m 71 #[.val (.ref a_o), .val (.int x_1), .val (.int (0 : Int32))] [(.int (4095 : Int32)), (.int (0 : Int32)), (.ref b27)])) _
    refine XS.iand X52.here hx rfl (hb hby own_d3_71) rfl ?_
    show Steps p.tables e below (T52.setTop (mkF m 72 #[.val (.ref a_o), .val (.int x_1), .val (.int (0 : Int32))] [(.int (0 : Int32)), (.ref b27)])) _
    refine XS.iloadN X52.here hx rfl (hb hby own_d3_72) rfl ?_
    show Steps p.tables e below (T52.setTop (mkF m 73 #[.val (.ref a_o), .val (.int x_1), .val (.int (0 : Int32))] [(.int x_1), (.int (0 : Int32)), (.ref b27)])) _
    refine st59 _ ?_
    show Steps p.tables e below (T59.setTop (mkF m 74 #[.val (.ref a_o), .val (.int x_1), .val (.int (0 : Int32))] [])) _
    refine XS.aloadN X59.here hx rfl (hb hby own_d3_74) rfl rfl ?_
    show Steps p.tables e below (T59.setTop (mkF m 75 #[.val (.ref a_o), .val (.int x_1), .val (.int (0 : Int32))] [(.ref a_o)])) _
    refine XS.dup X59.here hx rfl (hb hby own_d3_75) rfl rfl ?_
    show Steps p.tables e below (T59.setTop (mkF m 76 #[.val (.ref a_o), .val (.int x_1), .val (.int (0 : Int32))] [(.ref a_o), (.ref a_o)])) _
    refine st68 _ ?_
    show Steps p.tables e below (T68.setTop (mkF m 79 #[.val (.ref a_o), .val (.int x_1), .val (.int (0 : Int32))] [(.int (0 : Int32)), (.ref a_o)])) _
    refine XS.iconst X68.here hx rfl (hb hby own_d3_79) ?_
    show Steps p.tables e below (T68.setTop (mkF m 80 #[.val (.ref a_o), .val (.int x_1), .val (.int (0 : Int32))] [(.int (1 : Int32)), (.int (0 : Int32)), (.ref a_o)])) _
    refine XS.iadd X68.here hx rfl (hb hby own_d3_80) rfl ?_
    show Steps p.tables e below (T68.setTop (mkF m 81 #[.val (.ref a_o), .val (.int x_1), .val (.int (0 : Int32))] [(.int (1 : Int32)), (.ref a_o)])) _
    refine st73 _ ?_
    show Steps p.tables e below (T73.setTop (mkF m 84 #[.val (.ref a_o), .val (.int x_1), .val (.int (0 : Int32))] [])) _
    exact X73.returnOut hx Bd.returns (hb hby own_d3_84) hr
  · show Qown_add0 Z a_o x_1 p_o k_p h0 n0 _ T73.heap _
    rw [e73]
    have Fq78 : Exa Z h73 a_o "com/example/taut_choreo/tautchoreo/explore/IntList" := (Fq72.wr W73)
    have Fq79 : Fld Z h73 a_o "com/example/taut_choreo/tautchoreo/explore/IntList" "pages" "[[I" (.ref p_o) := ((Fq44.other W59 (Or.inl Ne28)).other W73 (Or.inr (slot_ne (Or.inl (hw _ (List.mem_of_getElem? (i := 12) rfl))) (Or.inl (hw _ (List.mem_of_getElem? (i := 19) rfl))) (by decide) (t := (.array (.array .int))) (t' := .int) (by decide) (by decide))))
    have Fq80 : Arv Z h73 p_o k_p (.array .int) (1 : Int32) [(.ref b27)] .null := ((Vm38.other W59 Ne29).other W73 n1)
    have Fq81 : Arv Z h73 b27 k27 .int (4096 : Int32) [(.int x_1), (.int (0 : Int32)), (.int (0 : Int32)), (.int (0 : Int32))] (.int (0 : Int32)) := (Vm60.other W73 (Ne.symm Ne28))
    exact ⟨b27, k27, rfl, N76, Sz31, Kc74, Fq78, Fq79, Fw73, Fq80, Fq81⟩
theorem own_ef_own_add1 (m : MethodId) (a_o : Addr) (x_1 : Int32) : entryFrame m #[(.ref a_o), (.int x_1)] 3 = mkF m 0 #[.val (.ref a_o), .val (.int x_1), .unset] [] := by first | (simp [entryFrame, mkF, argsToLocals, Value.category]; done) | rfl
def Qown_add1 (Z : State) (a_o : Addr) (x_1 : Int32) (p_o : Addr) (k_p : ClassId) (g_o : Addr) (k_g : ClassId) (v_0 : Value) (v_1 : Value) (v_2 : Value) (v_3 : Value) (h0 : Heap) (n0 : Nat) (v : Option Value) (h : Heap) (L : List Loc) : Prop := v = none ∧ Fr n0 L ∧ Keep h0 h [a_o, g_o] ∧ Exa Z h a_o "com/example/taut_choreo/tautchoreo/explore/IntList" ∧ Fld Z h a_o "com/example/taut_choreo/tautchoreo/explore/IntList" "pages" "[[I" (.ref p_o) ∧ Fld Z h a_o "com/example/taut_choreo/tautchoreo/explore/IntList" "size" "I" (.int (2 : Int32)) ∧ Arv Z h g_o k_g .int (4096 : Int32) [v_0, (.int x_1), v_2, v_3] (.int (0 : Int32))
set_option maxRecDepth 65536 in
set_option maxHeartbeats 40000000 in
theorem own_add1 (l : Launch) (Z : State) (a0 : Array Value) (hw : ∀ d ∈ tables_1, d.before a0 Z = true) (ws : List Jvm.Cond) (a_o : Addr) (x_1 : Int32) (p_o : Addr) (k_p : ClassId) (g_o : Addr) (k_g : ClassId) (v_0 : Value) (v_1 : Value) (v_2 : Value) (v_3 : Value) (h0 : Heap) (n0 : Nat) (Z0 : n0 ≤ h0.size) (Eo : Exa Z h0 a_o "com/example/taut_choreo/tautchoreo/explore/IntList") (F_p : Fld Z h0 a_o "com/example/taut_choreo/tautchoreo/explore/IntList" "pages" "[[I" (.ref p_o)) (F_s : Fld Z h0 a_o "com/example/taut_choreo/tautchoreo/explore/IntList" "size" "I" (.int (1 : Int32))) (V_p : Arv Z h0 p_o k_p (.array .int) (1 : Int32) [(.ref g_o)] .null) (V_g : Arv Z h0 g_o k_g .int (4096 : Int32) [v_0, v_1, v_2, v_3] (.int (0 : Int32))) (ga : n0 ≤ a_o) (gg : n0 ≤ g_o) (n1 : p_o ≠ a_o) (n2 : g_o ≠ a_o) (n3 : p_o ≠ g_o) :
    MetFree l (⟨"com/example/taut_choreo/tautchoreo/explore/IntList", "add", "(I)V"⟩ : MethodName) (head1 (Jvm.Cond.code (⟨"com/example/taut_choreo/tautchoreo/explore/IntList", "add", "(I)V"⟩ : MethodName) prog_28_method_3_code 3 none :: ws) ({ frames := 0, cells := 0, slots := 0, locals := 0 } : Room)) (fun a U => a = #[(.ref a_o), (.int x_1)] ∧ Z.Warmed39 U.vm ∧ U.heap = h0) (fun _ _ _ _ _ => True) (fun _ U o U' => ∃ v L, o = .returned v ∧ Qown_add1 Z a_o x_1 p_o k_p g_o k_g v_0 v_1 v_2 v_3 h0 n0 v U'.heap L ∧ FrameEnd U o U' L ({ frames := 0, cells := 0, slots := 0, locals := 0 } : Room).cells ({ frames := 0, cells := 0, slots := 0, locals := 0 } : Room).slots) := by
  refine MetFree.of_bodySF (plainFor_of_name own_pn0) hisR ?_
  intro p e s m args below meth c s₁ Bd hml0 hP hK
  obtain ⟨rfl, hZ, hh⟩ := hP
  have hx := Bd.exec
  have hby := Bd.bytes
  have hml : c.maxLocals = 3 := hml0
  have hown : s.vm.findClass "com/example/taut_choreo/tautchoreo/explore/IntList" = some m.cls := findClass_of_methodNamed Bd.named
  have hnm := (name_of_methodNamed Bd.named Bd.method).1
  have X0 : Stand p l e ({ frames := 0, cells := 0, slots := 0, locals := 0 } : Room) s m #[(.ref a_o), (.int x_1)] below meth c s₁ [] 0 0 := Stand.of_body Bd
  have e0 : s₁.heap = h0 := by rw [← hh, Bd.state]; rfl
  have N0 := Fr.nil n0
  have pre0 : ∀ t, Steps p.tables e below (s₁.setTop (mkF m 0 #[.val (.ref a_o), .val (.int x_1), .unset] [])) t → Steps p.tables e below (s₁.setTop (entryFrame m #[(.ref a_o), (.int x_1)] 3)) t := fun t k => castTop (own_ef_own_add1 m a_o x_1) k
  obtain ⟨T3, X3, e3, st3⟩ := getF X0 hx hZ hown (host := "") (Or.inl (hw _ (List.mem_of_getElem? (i := 18) rfl))) Via.refl e0 F_s (g := (mkF m 1 #[.val (.ref a_o), .val (.int x_1), .unset] [(.ref a_o)])) rfl rfl (hb hby own_d3_1)
  obtain ⟨T10, X10, e10, st10⟩ := getF X3 hx hZ hown (host := "") (Or.inl (hw _ (List.mem_of_getElem? (i := 11) rfl))) Via.refl e3 F_p (g := (mkF m 10 #[.val (.ref a_o), .val (.int x_1), .val (.int (0 : Int32))] [(.ref a_o), (.int (0 : Int32))])) rfl rfl (hb hby own_d3_10)
  obtain ⟨cl12, Ar12, -, S12, M12, -, -⟩ := id V_p
  obtain ⟨T16, X16, e16, st16⟩ := getF X10 hx hZ hown (host := "") (Or.inl (hw _ (List.mem_of_getElem? (i := 11) rfl))) Via.refl e10 F_p (g := (mkF m 39 #[.val (.ref a_o), .val (.int x_1), .val (.int (0 : Int32))] [(.ref a_o)])) rfl rfl (hb hby own_d3_39)
  obtain ⟨cl19, Ar19, q19, S19, M19, H19, G19⟩ := id V_p
  have hin19 : ¬ ((0 : Int32) < 0 ∨ cl19.slots.size ≤ ((0 : Int32)).toNatClampNeg) := inb_of S19 ⟨by decide, by decide⟩
  have hat19 : cl19.slots[((0 : Int32)).toNatClampNeg]? = some (.ref g_o) := H19.at hin19 rfl
  obtain ⟨T23, X23, e23, st23⟩ := getF X16 hx hZ hown (host := "") (Or.inl (hw _ (List.mem_of_getElem? (i := 11) rfl))) Via.refl e16 F_p (g := (mkF m 59 #[.val (.ref a_o), .val (.int x_1), .val (.int (0 : Int32))] [(.ref a_o)])) rfl rfl (hb hby own_d3_59)
  obtain ⟨cl26, Ar26, q26, S26, M26, H26, G26⟩ := id V_p
  have hin26 : ¬ ((0 : Int32) < 0 ∨ cl26.slots.size ≤ ((0 : Int32)).toNatClampNeg) := inb_of S26 ⟨by decide, by decide⟩
  have hat26 : cl26.slots[((0 : Int32)).toNatClampNeg]? = some (.ref g_o) := H26.at hin26 rfl
  obtain ⟨T29, X29, e29, st29⟩ := getF X23 hx hZ hown (host := "") (Or.inl (hw _ (List.mem_of_getElem? (i := 18) rfl))) Via.refl e23 F_s (g := (mkF m 65 #[.val (.ref a_o), .val (.int x_1), .val (.int (0 : Int32))] [(.ref a_o), (.ref g_o)])) rfl rfl (hb hby own_d3_65)
  obtain ⟨cl34, Ar34, q34, S34, M34, H34, G34⟩ := id V_g
  have hin34 : ¬ ((1 : Int32) < 0 ∨ cl34.slots.size ≤ ((1 : Int32)).toNatClampNeg) := inb_of S34 ⟨by decide, by decide⟩
  obtain ⟨T35, h35, X35, e35, W35, st35⟩ := stI X29 hx hZ e29 Ar34 (j := (1 : Int32)) hin34 (g := (mkF m 73 #[.val (.ref a_o), .val (.int x_1), .val (.int (0 : Int32))] [(.int x_1), (.int (1 : Int32)), (.ref g_o)])) rfl rfl (hb hby own_d3_73)
  have Kc37 : Keep h0 h35 [a_o, g_o] := (Keep.refl h0 [a_o, g_o]).wr W35 (Or.inl (List.mem_of_getElem? (i := 1) rfl))
  have Zs38 : n0 ≤ h35.size := Nat.le_trans Z0 (Keep.of_wr W35).1
  have N39 := Fr.snoc X35 N0 gg
  have Vm36 : Arv Z h35 g_o k_g .int (4096 : Int32) [v_0, (.int x_1), v_2, v_3] (.int (0 : Int32)) := Arv.set Ar34 q34 S34 M34 H34 G34 rfl W35 1 rfl (Nat.le_of_ble_eq_true rfl)
  have Fq43 : Fld Z h35 a_o "com/example/taut_choreo/tautchoreo/explore/IntList" "size" "I" (.int (1 : Int32)) := (F_s.other W35 (Or.inl (Ne.symm n2)))
  obtain ⟨T44, X44, e44, st44⟩ := getF X35 hx hZ hown (host := "") (Or.inl (hw _ (List.mem_of_getElem? (i := 18) rfl))) Via.refl e35 Fq43 (g := (mkF m 76 #[.val (.ref a_o), .val (.int x_1), .val (.int (0 : Int32))] [(.ref a_o), (.ref a_o)])) rfl rfl (hb hby own_d3_76)
  have Fq48 : Exa Z h35 a_o "com/example/taut_choreo/tautchoreo/explore/IntList" := (Eo.wr W35)
  obtain ⟨T49, h49, X49, e49, W49, st49⟩ := putF X44 hx hZ hown (host := "") (Or.inl (hw _ (List.mem_of_getElem? (i := 18) rfl))) Via.refl e44 Fq43 Fq48 (Or.inl (hw _ (List.mem_of_getElem? (i := 19) rfl))) (hw _ (List.mem_of_getElem? (i := 1) rfl)) (ty := .int) (by decide) rfl rfl (g := (mkF m 81 #[.val (.ref a_o), .val (.int x_1), .val (.int (0 : Int32))] [(.int (2 : Int32)), (.ref a_o)])) rfl rfl (hb hby own_d3_81)
  have Kc50 : Keep h0 h49 [a_o, g_o] := Kc37.wr W49 (Or.inl (List.mem_of_getElem? (i := 0) rfl))
  have Zs51 : n0 ≤ h49.size := Nat.le_trans Zs38 (Keep.of_wr W49).1
  have N52 := Fr.snoc X49 N39 ga
  have Fw49 : Fld Z h49 a_o "com/example/taut_choreo/tautchoreo/explore/IntList" "size" "I" (.int (2 : Int32)) := Fq43.same W49
  obtain ⟨fs, hr, hrun, hended, hW, hsame⟩ := X49.leave (v := none) (fun _ => rfl) (hlocks := BodyLoose.notSynchronized Bd)
  refine ⟨_, _, pre0 _ ?_, hrun, hended, _, _, rfl, ?_, ⟨_, rfl⟩, hW, hsame.mono (by decide) (by decide)⟩
  · show Steps p.tables e below (s₁.setTop (mkF m 0 #[.val (.ref a_o), .val (.int x_1), .unset] [])) _
    refine XS.aloadN X0.here hx rfl (hb hby own_d3_0) rfl rfl ?_
    show Steps p.tables e below (s₁.setTop (mkF m 1 #[.val (.ref a_o), .val (.int x_1), .unset] [(.ref a_o)])) _
    refine st3 _ ?_
    show Steps p.tables e below (T3.setTop (mkF m 4 #[.val (.ref a_o), .val (.int x_1), .unset] [(.int (1 : Int32))])) _
    refine XS.bipush X3.here hx rfl (hb hby own_d3_4) ?_
    show Steps p.tables e below (T3.setTop (mkF m 6 #[.val (.ref a_o), .val (.int x_1), .unset] [(.int (12 : Int32)), (.int (1 : Int32))])) _
    refine XS.iushr X3.here hx rfl (hb hby own_d3_6) rfl ?_
    show Steps p.tables e below (T3.setTop (mkF m 7 #[.val (.ref a_o), .val (.int x_1), .unset] [(.int (0 : Int32))])) _
    refine XS.istoreN X3.here hx rfl (hb hby own_d3_7) rfl (l' := #[.val (.ref a_o), .val (.int x_1), .val (.int (0 : Int32))]) rfl ?_
    show Steps p.tables e below (T3.setTop (mkF m 8 #[.val (.ref a_o), .val (.int x_1), .val (.int (0 : Int32))] [])) _
    refine XS.iloadN X3.here hx rfl (hb hby own_d3_8) rfl ?_
    show Steps p.tables e below (T3.setTop (mkF m 9 #[.val (.ref a_o), .val (.int x_1), .val (.int (0 : Int32))] [(.int (0 : Int32))])) _
    refine XS.aloadN X3.here hx rfl (hb hby own_d3_9) rfl rfl ?_
    show Steps p.tables e below (T3.setTop (mkF m 10 #[.val (.ref a_o), .val (.int x_1), .val (.int (0 : Int32))] [(.ref a_o), (.int (0 : Int32))])) _
    refine st10 _ ?_
    show Steps p.tables e below (T10.setTop (mkF m 13 #[.val (.ref a_o), .val (.int x_1), .val (.int (0 : Int32))] [(.ref p_o), (.int (0 : Int32))])) _
    refine X10.arraylength hx (by rw [e10]; exact Ar12.1) (State.isArrayOf_alike hZ.alike Ar12.2.1) (g := (mkF m 13 #[.val (.ref a_o), .val (.int x_1), .val (.int (0 : Int32))] [(.ref p_o), (.int (0 : Int32))])) rfl rfl (hb hby own_d3_13) _ ?_
    rw [len_of S12 M12]
    show Steps p.tables e below (T10.setTop (mkF m 14 #[.val (.ref a_o), .val (.int x_1), .val (.int (0 : Int32))] [(.int (1 : Int32)), (.int (0 : Int32))])) _
    refine XS.icmpYes X10.here hx rfl (pc0 := 14) (pc' := 38) rfl (hb hby own_d3_14) rfl (feq ((by decide) : ¬ ((0 : Int32) = (1 : Int32)))).2 (by decide) (by decide) ?_
    show Steps p.tables e below (T10.setTop (mkF m 38 #[.val (.ref a_o), .val (.int x_1), .val (.int (0 : Int32))] [])) _
    refine XS.aloadN X10.here hx rfl (hb hby own_d3_38) rfl rfl ?_
    show Steps p.tables e below (T10.setTop (mkF m 39 #[.val (.ref a_o), .val (.int x_1), .val (.int (0 : Int32))] [(.ref a_o)])) _
    refine st16 _ ?_
    show Steps p.tables e below (T16.setTop (mkF m 42 #[.val (.ref a_o), .val (.int x_1), .val (.int (0 : Int32))] [(.ref p_o)])) _
    refine XS.iloadN X16.here hx rfl (hb hby own_d3_42) rfl ?_
    show Steps p.tables e below (T16.setTop (mkF m 43 #[.val (.ref a_o), .val (.int x_1), .val (.int (0 : Int32))] [(.int (0 : Int32)), (.ref p_o)])) _
    refine X16.aaload hx (j := (0 : Int32)) (v := (.ref g_o)) (by rw [e16]; exact Ar19.1) (State.isArrayOf_alike hZ.alike Ar19.2.1) rfl Ar19.2.2 hin19 hat19 (g := (mkF m 43 #[.val (.ref a_o), .val (.int x_1), .val (.int (0 : Int32))] [(.int (0 : Int32)), (.ref p_o)])) rfl rfl (hb hby own_d3_43) _ ?_
    show Steps p.tables e below (T16.setTop (mkF m 44 #[.val (.ref a_o), .val (.int x_1), .val (.int (0 : Int32))] [(.ref g_o)])) _
    refine XS.ifnonnullYes X16.here hx rfl (pc0 := 44) (pc' := 58) rfl (hb hby own_d3_44) rfl (by decide) (by decide) ?_
    show Steps p.tables e below (T16.setTop (mkF m 58 #[.val (.ref a_o), .val (.int x_1), .val (.int (0 : Int32))] [])) _
    refine XS.aloadN X16.here hx rfl (hb hby own_d3_58) rfl rfl ?_
    show Steps p.tables e below (T16.setTop (mkF m 59 #[.val (.ref a_o), .val (.int x_1), .val (.int (0 : Int32))] [(.ref a_o)])) _
    refine st23 _ ?_
    show Steps p.tables e below (T23.setTop (mkF m 62 #[.val (.ref a_o), .val (.int x_1), .val (.int (0 : Int32))] [(.ref p_o)])) _
    refine XS.iloadN X23.here hx rfl (hb hby own_d3_62) rfl ?_
    show Steps p.tables e below (T23.setTop (mkF m 63 #[.val (.ref a_o), .val (.int x_1), .val (.int (0 : Int32))] [(.int (0 : Int32)), (.ref p_o)])) _
    refine X23.aaload hx (j := (0 : Int32)) (v := (.ref g_o)) (by rw [e23]; exact Ar26.1) (State.isArrayOf_alike hZ.alike Ar26.2.1) rfl Ar26.2.2 hin26 hat26 (g := (mkF m 63 #[.val (.ref a_o), .val (.int x_1), .val (.int (0 : Int32))] [(.int (0 : Int32)), (.ref p_o)])) rfl rfl (hb hby own_d3_63) _ ?_
    show Steps p.tables e below (T23.setTop (mkF m 64 #[.val (.ref a_o), .val (.int x_1), .val (.int (0 : Int32))] [(.ref g_o)])) _
    refine XS.aloadN X23.here hx rfl (hb hby own_d3_64) rfl rfl ?_
    show Steps p.tables e below (T23.setTop (mkF m 65 #[.val (.ref a_o), .val (.int x_1), .val (.int (0 : Int32))] [(.ref a_o), (.ref g_o)])) _
    refine st29 _ ?_
    show Steps p.tables e below (T29.setTop (mkF m 68 #[.val (.ref a_o), .val (.int x_1), .val (.int (0 : Int32))] [(.int (1 : Int32)), (.ref g_o)])) _
    refine XS.sipush X29.here hx rfl (hb hby own_d3_68) ?_
    show Steps p.tables e below (T29.setTop (mkF m 71 #[.val (.ref a_o), .val (.int x_1), .val (.int (0 : Int32))] [(.int (4095 : Int32)), (.int (1 : Int32)), (.ref g_o)])) _
    refine XS.iand X29.here hx rfl (hb hby own_d3_71) rfl ?_
    show Steps p.tables e below (T29.setTop (mkF m 72 #[.val (.ref a_o), .val (.int x_1), .val (.int (0 : Int32))] [(.int (1 : Int32)), (.ref g_o)])) _
    refine XS.iloadN X29.here hx rfl (hb hby own_d3_72) rfl ?_
    show Steps p.tables e below (T29.setTop (mkF m 73 #[.val (.ref a_o), .val (.int x_1), .val (.int (0 : Int32))] [(.int x_1), (.int (1 : Int32)), (.ref g_o)])) _
    refine st35 _ ?_
    show Steps p.tables e below (T35.setTop (mkF m 74 #[.val (.ref a_o), .val (.int x_1), .val (.int (0 : Int32))] [])) _
    refine XS.aloadN X35.here hx rfl (hb hby own_d3_74) rfl rfl ?_
    show Steps p.tables e below (T35.setTop (mkF m 75 #[.val (.ref a_o), .val (.int x_1), .val (.int (0 : Int32))] [(.ref a_o)])) _
    refine XS.dup X35.here hx rfl (hb hby own_d3_75) rfl rfl ?_
    show Steps p.tables e below (T35.setTop (mkF m 76 #[.val (.ref a_o), .val (.int x_1), .val (.int (0 : Int32))] [(.ref a_o), (.ref a_o)])) _
    refine st44 _ ?_
    show Steps p.tables e below (T44.setTop (mkF m 79 #[.val (.ref a_o), .val (.int x_1), .val (.int (0 : Int32))] [(.int (1 : Int32)), (.ref a_o)])) _
    refine XS.iconst X44.here hx rfl (hb hby own_d3_79) ?_
    show Steps p.tables e below (T44.setTop (mkF m 80 #[.val (.ref a_o), .val (.int x_1), .val (.int (0 : Int32))] [(.int (1 : Int32)), (.int (1 : Int32)), (.ref a_o)])) _
    refine XS.iadd X44.here hx rfl (hb hby own_d3_80) rfl ?_
    show Steps p.tables e below (T44.setTop (mkF m 81 #[.val (.ref a_o), .val (.int x_1), .val (.int (0 : Int32))] [(.int (2 : Int32)), (.ref a_o)])) _
    refine st49 _ ?_
    show Steps p.tables e below (T49.setTop (mkF m 84 #[.val (.ref a_o), .val (.int x_1), .val (.int (0 : Int32))] [])) _
    exact X49.returnOut hx Bd.returns (hb hby own_d3_84) hr
  · show Qown_add1 Z a_o x_1 p_o k_p g_o k_g v_0 v_1 v_2 v_3 h0 n0 _ T49.heap _
    rw [e49]
    have Fq54 : Exa Z h49 a_o "com/example/taut_choreo/tautchoreo/explore/IntList" := (Fq48.wr W49)
    have Fq55 : Fld Z h49 a_o "com/example/taut_choreo/tautchoreo/explore/IntList" "pages" "[[I" (.ref p_o) := ((F_p.other W35 (Or.inl (Ne.symm n2))).other W49 (Or.inr (slot_ne (Or.inl (hw _ (List.mem_of_getElem? (i := 12) rfl))) (Or.inl (hw _ (List.mem_of_getElem? (i := 19) rfl))) (by decide) (t := (.array (.array .int))) (t' := .int) (by decide) (by decide))))
    have Fq56 : Arv Z h49 g_o k_g .int (4096 : Int32) [v_0, (.int x_1), v_2, v_3] (.int (0 : Int32)) := (Vm36.other W49 n2)
    exact ⟨rfl, N52, Kc50, Fq54, Fq55, Fw49, Fq56⟩
theorem own_ef_own_add2 (m : MethodId) (a_o : Addr) (x_1 : Int32) : entryFrame m #[(.ref a_o), (.int x_1)] 3 = mkF m 0 #[.val (.ref a_o), .val (.int x_1), .unset] [] := by first | (simp [entryFrame, mkF, argsToLocals, Value.category]; done) | rfl
def Qown_add2 (Z : State) (a_o : Addr) (x_1 : Int32) (p_o : Addr) (k_p : ClassId) (g_o : Addr) (k_g : ClassId) (v_0 : Value) (v_1 : Value) (v_2 : Value) (v_3 : Value) (h0 : Heap) (n0 : Nat) (v : Option Value) (h : Heap) (L : List Loc) : Prop := v = none ∧ Fr n0 L ∧ Keep h0 h [a_o, g_o] ∧ Exa Z h a_o "com/example/taut_choreo/tautchoreo/explore/IntList" ∧ Fld Z h a_o "com/example/taut_choreo/tautchoreo/explore/IntList" "pages" "[[I" (.ref p_o) ∧ Fld Z h a_o "com/example/taut_choreo/tautchoreo/explore/IntList" "size" "I" (.int (3 : Int32)) ∧ Arv Z h g_o k_g .int (4096 : Int32) [v_0, v_1, (.int x_1), v_3] (.int (0 : Int32))
set_option maxRecDepth 65536 in
set_option maxHeartbeats 40000000 in
theorem own_add2 (l : Launch) (Z : State) (a0 : Array Value) (hw : ∀ d ∈ tables_1, d.before a0 Z = true) (ws : List Jvm.Cond) (a_o : Addr) (x_1 : Int32) (p_o : Addr) (k_p : ClassId) (g_o : Addr) (k_g : ClassId) (v_0 : Value) (v_1 : Value) (v_2 : Value) (v_3 : Value) (h0 : Heap) (n0 : Nat) (Z0 : n0 ≤ h0.size) (Eo : Exa Z h0 a_o "com/example/taut_choreo/tautchoreo/explore/IntList") (F_p : Fld Z h0 a_o "com/example/taut_choreo/tautchoreo/explore/IntList" "pages" "[[I" (.ref p_o)) (F_s : Fld Z h0 a_o "com/example/taut_choreo/tautchoreo/explore/IntList" "size" "I" (.int (2 : Int32))) (V_p : Arv Z h0 p_o k_p (.array .int) (1 : Int32) [(.ref g_o)] .null) (V_g : Arv Z h0 g_o k_g .int (4096 : Int32) [v_0, v_1, v_2, v_3] (.int (0 : Int32))) (ga : n0 ≤ a_o) (gg : n0 ≤ g_o) (n1 : p_o ≠ a_o) (n2 : g_o ≠ a_o) (n3 : p_o ≠ g_o) :
    MetFree l (⟨"com/example/taut_choreo/tautchoreo/explore/IntList", "add", "(I)V"⟩ : MethodName) (head1 (Jvm.Cond.code (⟨"com/example/taut_choreo/tautchoreo/explore/IntList", "add", "(I)V"⟩ : MethodName) prog_28_method_3_code 3 none :: ws) ({ frames := 0, cells := 0, slots := 0, locals := 0 } : Room)) (fun a U => a = #[(.ref a_o), (.int x_1)] ∧ Z.Warmed39 U.vm ∧ U.heap = h0) (fun _ _ _ _ _ => True) (fun _ U o U' => ∃ v L, o = .returned v ∧ Qown_add2 Z a_o x_1 p_o k_p g_o k_g v_0 v_1 v_2 v_3 h0 n0 v U'.heap L ∧ FrameEnd U o U' L ({ frames := 0, cells := 0, slots := 0, locals := 0 } : Room).cells ({ frames := 0, cells := 0, slots := 0, locals := 0 } : Room).slots) := by
  refine MetFree.of_bodySF (plainFor_of_name own_pn0) hisR ?_
  intro p e s m args below meth c s₁ Bd hml0 hP hK
  obtain ⟨rfl, hZ, hh⟩ := hP
  have hx := Bd.exec
  have hby := Bd.bytes
  have hml : c.maxLocals = 3 := hml0
  have hown : s.vm.findClass "com/example/taut_choreo/tautchoreo/explore/IntList" = some m.cls := findClass_of_methodNamed Bd.named
  have hnm := (name_of_methodNamed Bd.named Bd.method).1
  have X0 : Stand p l e ({ frames := 0, cells := 0, slots := 0, locals := 0 } : Room) s m #[(.ref a_o), (.int x_1)] below meth c s₁ [] 0 0 := Stand.of_body Bd
  have e0 : s₁.heap = h0 := by rw [← hh, Bd.state]; rfl
  have N0 := Fr.nil n0
  have pre0 : ∀ t, Steps p.tables e below (s₁.setTop (mkF m 0 #[.val (.ref a_o), .val (.int x_1), .unset] [])) t → Steps p.tables e below (s₁.setTop (entryFrame m #[(.ref a_o), (.int x_1)] 3)) t := fun t k => castTop (own_ef_own_add2 m a_o x_1) k
  obtain ⟨T3, X3, e3, st3⟩ := getF X0 hx hZ hown (host := "") (Or.inl (hw _ (List.mem_of_getElem? (i := 18) rfl))) Via.refl e0 F_s (g := (mkF m 1 #[.val (.ref a_o), .val (.int x_1), .unset] [(.ref a_o)])) rfl rfl (hb hby own_d3_1)
  obtain ⟨T10, X10, e10, st10⟩ := getF X3 hx hZ hown (host := "") (Or.inl (hw _ (List.mem_of_getElem? (i := 11) rfl))) Via.refl e3 F_p (g := (mkF m 10 #[.val (.ref a_o), .val (.int x_1), .val (.int (0 : Int32))] [(.ref a_o), (.int (0 : Int32))])) rfl rfl (hb hby own_d3_10)
  obtain ⟨cl12, Ar12, -, S12, M12, -, -⟩ := id V_p
  obtain ⟨T16, X16, e16, st16⟩ := getF X10 hx hZ hown (host := "") (Or.inl (hw _ (List.mem_of_getElem? (i := 11) rfl))) Via.refl e10 F_p (g := (mkF m 39 #[.val (.ref a_o), .val (.int x_1), .val (.int (0 : Int32))] [(.ref a_o)])) rfl rfl (hb hby own_d3_39)
  obtain ⟨cl19, Ar19, q19, S19, M19, H19, G19⟩ := id V_p
  have hin19 : ¬ ((0 : Int32) < 0 ∨ cl19.slots.size ≤ ((0 : Int32)).toNatClampNeg) := inb_of S19 ⟨by decide, by decide⟩
  have hat19 : cl19.slots[((0 : Int32)).toNatClampNeg]? = some (.ref g_o) := H19.at hin19 rfl
  obtain ⟨T23, X23, e23, st23⟩ := getF X16 hx hZ hown (host := "") (Or.inl (hw _ (List.mem_of_getElem? (i := 11) rfl))) Via.refl e16 F_p (g := (mkF m 59 #[.val (.ref a_o), .val (.int x_1), .val (.int (0 : Int32))] [(.ref a_o)])) rfl rfl (hb hby own_d3_59)
  obtain ⟨cl26, Ar26, q26, S26, M26, H26, G26⟩ := id V_p
  have hin26 : ¬ ((0 : Int32) < 0 ∨ cl26.slots.size ≤ ((0 : Int32)).toNatClampNeg) := inb_of S26 ⟨by decide, by decide⟩
  have hat26 : cl26.slots[((0 : Int32)).toNatClampNeg]? = some (.ref g_o) := H26.at hin26 rfl
  obtain ⟨T29, X29, e29, st29⟩ := getF X23 hx hZ hown (host := "") (Or.inl (hw _ (List.mem_of_getElem? (i := 18) rfl))) Via.refl e23 F_s (g := (mkF m 65 #[.val (.ref a_o), .val (.int x_1), .val (.int (0 : Int32))] [(.ref a_o), (.ref g_o)])) rfl rfl (hb hby own_d3_65)
  obtain ⟨cl34, Ar34, q34, S34, M34, H34, G34⟩ := id V_g
  have hin34 : ¬ ((2 : Int32) < 0 ∨ cl34.slots.size ≤ ((2 : Int32)).toNatClampNeg) := inb_of S34 ⟨by decide, by decide⟩
  obtain ⟨T35, h35, X35, e35, W35, st35⟩ := stI X29 hx hZ e29 Ar34 (j := (2 : Int32)) hin34 (g := (mkF m 73 #[.val (.ref a_o), .val (.int x_1), .val (.int (0 : Int32))] [(.int x_1), (.int (2 : Int32)), (.ref g_o)])) rfl rfl (hb hby own_d3_73)
  have Kc37 : Keep h0 h35 [a_o, g_o] := (Keep.refl h0 [a_o, g_o]).wr W35 (Or.inl (List.mem_of_getElem? (i := 1) rfl))
  have Zs38 : n0 ≤ h35.size := Nat.le_trans Z0 (Keep.of_wr W35).1
  have N39 := Fr.snoc X35 N0 gg
  have Vm36 : Arv Z h35 g_o k_g .int (4096 : Int32) [v_0, v_1, (.int x_1), v_3] (.int (0 : Int32)) := Arv.set Ar34 q34 S34 M34 H34 G34 rfl W35 2 rfl (Nat.le_of_ble_eq_true rfl)
  have Fq43 : Fld Z h35 a_o "com/example/taut_choreo/tautchoreo/explore/IntList" "size" "I" (.int (2 : Int32)) := (F_s.other W35 (Or.inl (Ne.symm n2)))
  obtain ⟨T44, X44, e44, st44⟩ := getF X35 hx hZ hown (host := "") (Or.inl (hw _ (List.mem_of_getElem? (i := 18) rfl))) Via.refl e35 Fq43 (g := (mkF m 76 #[.val (.ref a_o), .val (.int x_1), .val (.int (0 : Int32))] [(.ref a_o), (.ref a_o)])) rfl rfl (hb hby own_d3_76)
  have Fq48 : Exa Z h35 a_o "com/example/taut_choreo/tautchoreo/explore/IntList" := (Eo.wr W35)
  obtain ⟨T49, h49, X49, e49, W49, st49⟩ := putF X44 hx hZ hown (host := "") (Or.inl (hw _ (List.mem_of_getElem? (i := 18) rfl))) Via.refl e44 Fq43 Fq48 (Or.inl (hw _ (List.mem_of_getElem? (i := 19) rfl))) (hw _ (List.mem_of_getElem? (i := 1) rfl)) (ty := .int) (by decide) rfl rfl (g := (mkF m 81 #[.val (.ref a_o), .val (.int x_1), .val (.int (0 : Int32))] [(.int (3 : Int32)), (.ref a_o)])) rfl rfl (hb hby own_d3_81)
  have Kc50 : Keep h0 h49 [a_o, g_o] := Kc37.wr W49 (Or.inl (List.mem_of_getElem? (i := 0) rfl))
  have Zs51 : n0 ≤ h49.size := Nat.le_trans Zs38 (Keep.of_wr W49).1
  have N52 := Fr.snoc X49 N39 ga
  have Fw49 : Fld Z h49 a_o "com/example/taut_choreo/tautchoreo/explore/IntList" "size" "I" (.int (3 : Int32)) := Fq43.same W49
  obtain ⟨fs, hr, hrun, hended, hW, hsame⟩ := X49.leave (v := none) (fun _ => rfl) (hlocks := BodyLoose.notSynchronized Bd)
  refine ⟨_, _, pre0 _ ?_, hrun, hended, _, _, rfl, ?_, ⟨_, rfl⟩, hW, hsame.mono (by decide) (by decide)⟩
  · show Steps p.tables e below (s₁.setTop (mkF m 0 #[.val (.ref a_o), .val (.int x_1), .unset] [])) _
    refine XS.aloadN X0.here hx rfl (hb hby own_d3_0) rfl rfl ?_
    show Steps p.tables e below (s₁.setTop (mkF m 1 #[.val (.ref a_o), .val (.int x_1), .unset] [(.ref a_o)])) _
    refine st3 _ ?_
    show Steps p.tables e below (T3.setTop (mkF m 4 #[.val (.ref a_o), .val (.int x_1), .unset] [(.int (2 : Int32))])) _
    refine XS.bipush X3.here hx rfl (hb hby own_d3_4) ?_
    show Steps p.tables e below (T3.setTop (mkF m 6 #[.val (.ref a_o), .val (.int x_1), .unset] [(.int (12 : Int32)), (.int (2 : Int32))])) _
    refine XS.iushr X3.here hx rfl (hb hby own_d3_6) rfl ?_
    show Steps p.tables e below (T3.setTop (mkF m 7 #[.val (.ref a_o), .val (.int x_1), .unset] [(.int (0 : Int32))])) _
    refine XS.istoreN X3.here hx rfl (hb hby own_d3_7) rfl (l' := #[.val (.ref a_o), .val (.int x_1), .val (.int (0 : Int32))]) rfl ?_
    show Steps p.tables e below (T3.setTop (mkF m 8 #[.val (.ref a_o), .val (.int x_1), .val (.int (0 : Int32))] [])) _
    refine XS.iloadN X3.here hx rfl (hb hby own_d3_8) rfl ?_
    show Steps p.tables e below (T3.setTop (mkF m 9 #[.val (.ref a_o), .val (.int x_1), .val (.int (0 : Int32))] [(.int (0 : Int32))])) _
    refine XS.aloadN X3.here hx rfl (hb hby own_d3_9) rfl rfl ?_
    show Steps p.tables e below (T3.setTop (mkF m 10 #[.val (.ref a_o), .val (.int x_1), .val (.int (0 : Int32))] [(.ref a_o), (.int (0 : Int32))])) _
    refine st10 _ ?_
    show Steps p.tables e below (T10.setTop (mkF m 13 #[.val (.ref a_o), .val (.int x_1), .val (.int (0 : Int32))] [(.ref p_o), (.int (0 : Int32))])) _
    refine X10.arraylength hx (by rw [e10]; exact Ar12.1) (State.isArrayOf_alike hZ.alike Ar12.2.1) (g := (mkF m 13 #[.val (.ref a_o), .val (.int x_1), .val (.int (0 : Int32))] [(.ref p_o), (.int (0 : Int32))])) rfl rfl (hb hby own_d3_13) _ ?_
    rw [len_of S12 M12]
    show Steps p.tables e below (T10.setTop (mkF m 14 #[.val (.ref a_o), .val (.int x_1), .val (.int (0 : Int32))] [(.int (1 : Int32)), (.int (0 : Int32))])) _
    refine XS.icmpYes X10.here hx rfl (pc0 := 14) (pc' := 38) rfl (hb hby own_d3_14) rfl (feq ((by decide) : ¬ ((0 : Int32) = (1 : Int32)))).2 (by decide) (by decide) ?_
    show Steps p.tables e below (T10.setTop (mkF m 38 #[.val (.ref a_o), .val (.int x_1), .val (.int (0 : Int32))] [])) _
    refine XS.aloadN X10.here hx rfl (hb hby own_d3_38) rfl rfl ?_
    show Steps p.tables e below (T10.setTop (mkF m 39 #[.val (.ref a_o), .val (.int x_1), .val (.int (0 : Int32))] [(.ref a_o)])) _
    refine st16 _ ?_
    show Steps p.tables e below (T16.setTop (mkF m 42 #[.val (.ref a_o), .val (.int x_1), .val (.int (0 : Int32))] [(.ref p_o)])) _
    refine XS.iloadN X16.here hx rfl (hb hby own_d3_42) rfl ?_
    show Steps p.tables e below (T16.setTop (mkF m 43 #[.val (.ref a_o), .val (.int x_1), .val (.int (0 : Int32))] [(.int (0 : Int32)), (.ref p_o)])) _
    refine X16.aaload hx (j := (0 : Int32)) (v := (.ref g_o)) (by rw [e16]; exact Ar19.1) (State.isArrayOf_alike hZ.alike Ar19.2.1) rfl Ar19.2.2 hin19 hat19 (g := (mkF m 43 #[.val (.ref a_o), .val (.int x_1), .val (.int (0 : Int32))] [(.int (0 : Int32)), (.ref p_o)])) rfl rfl (hb hby own_d3_43) _ ?_
    show Steps p.tables e below (T16.setTop (mkF m 44 #[.val (.ref a_o), .val (.int x_1), .val (.int (0 : Int32))] [(.ref g_o)])) _
    refine XS.ifnonnullYes X16.here hx rfl (pc0 := 44) (pc' := 58) rfl (hb hby own_d3_44) rfl (by decide) (by decide) ?_
    show Steps p.tables e below (T16.setTop (mkF m 58 #[.val (.ref a_o), .val (.int x_1), .val (.int (0 : Int32))] [])) _
    refine XS.aloadN X16.here hx rfl (hb hby own_d3_58) rfl rfl ?_
    show Steps p.tables e below (T16.setTop (mkF m 59 #[.val (.ref a_o), .val (.int x_1), .val (.int (0 : Int32))] [(.ref a_o)])) _
    refine st23 _ ?_
    show Steps p.tables e below (T23.setTop (mkF m 62 #[.val (.ref a_o), .val (.int x_1), .val (.int (0 : Int32))] [(.ref p_o)])) _
    refine XS.iloadN X23.here hx rfl (hb hby own_d3_62) rfl ?_
    show Steps p.tables e below (T23.setTop (mkF m 63 #[.val (.ref a_o), .val (.int x_1), .val (.int (0 : Int32))] [(.int (0 : Int32)), (.ref p_o)])) _
    refine X23.aaload hx (j := (0 : Int32)) (v := (.ref g_o)) (by rw [e23]; exact Ar26.1) (State.isArrayOf_alike hZ.alike Ar26.2.1) rfl Ar26.2.2 hin26 hat26 (g := (mkF m 63 #[.val (.ref a_o), .val (.int x_1), .val (.int (0 : Int32))] [(.int (0 : Int32)), (.ref p_o)])) rfl rfl (hb hby own_d3_63) _ ?_
    show Steps p.tables e below (T23.setTop (mkF m 64 #[.val (.ref a_o), .val (.int x_1), .val (.int (0 : Int32))] [(.ref g_o)])) _
    refine XS.aloadN X23.here hx rfl (hb hby own_d3_64) rfl rfl ?_
    show Steps p.tables e below (T23.setTop (mkF m 65 #[.val (.ref a_o), .val (.int x_1), .val (.int (0 : Int32))] [(.ref a_o), (.ref g_o)])) _
    refine st29 _ ?_
    show Steps p.tables e below (T29.setTop (mkF m 68 #[.val (.ref a_o), .val (.int x_1), .val (.int (0 : Int32))] [(.int (2 : Int32)), (.ref g_o)])) _
    refine XS.sipush X29.here hx rfl (hb hby own_d3_68) ?_
    show Steps p.tables e below (T29.setTop (mkF m 71 #[.val (.ref a_o), .val (.int x_1), .val (.int (0 : Int32))] [(.int (4095 : Int32)), (.int (2 : Int32)), (.ref g_o)])) _
    refine XS.iand X29.here hx rfl (hb hby own_d3_71) rfl ?_
    show Steps p.tables e below (T29.setTop (mkF m 72 #[.val (.ref a_o), .val (.int x_1), .val (.int (0 : Int32))] [(.int (2 : Int32)), (.ref g_o)])) _
    refine XS.iloadN X29.here hx rfl (hb hby own_d3_72) rfl ?_
    show Steps p.tables e below (T29.setTop (mkF m 73 #[.val (.ref a_o), .val (.int x_1), .val (.int (0 : Int32))] [(.int x_1), (.int (2 : Int32)), (.ref g_o)])) _
    refine st35 _ ?_
    show Steps p.tables e below (T35.setTop (mkF m 74 #[.val (.ref a_o), .val (.int x_1), .val (.int (0 : Int32))] [])) _
    refine XS.aloadN X35.here hx rfl (hb hby own_d3_74) rfl rfl ?_
    show Steps p.tables e below (T35.setTop (mkF m 75 #[.val (.ref a_o), .val (.int x_1), .val (.int (0 : Int32))] [(.ref a_o)])) _
    refine XS.dup X35.here hx rfl (hb hby own_d3_75) rfl rfl ?_
    show Steps p.tables e below (T35.setTop (mkF m 76 #[.val (.ref a_o), .val (.int x_1), .val (.int (0 : Int32))] [(.ref a_o), (.ref a_o)])) _
    refine st44 _ ?_
    show Steps p.tables e below (T44.setTop (mkF m 79 #[.val (.ref a_o), .val (.int x_1), .val (.int (0 : Int32))] [(.int (2 : Int32)), (.ref a_o)])) _
    refine XS.iconst X44.here hx rfl (hb hby own_d3_79) ?_
    show Steps p.tables e below (T44.setTop (mkF m 80 #[.val (.ref a_o), .val (.int x_1), .val (.int (0 : Int32))] [(.int (1 : Int32)), (.int (2 : Int32)), (.ref a_o)])) _
    refine XS.iadd X44.here hx rfl (hb hby own_d3_80) rfl ?_
    show Steps p.tables e below (T44.setTop (mkF m 81 #[.val (.ref a_o), .val (.int x_1), .val (.int (0 : Int32))] [(.int (3 : Int32)), (.ref a_o)])) _
    refine st49 _ ?_
    show Steps p.tables e below (T49.setTop (mkF m 84 #[.val (.ref a_o), .val (.int x_1), .val (.int (0 : Int32))] [])) _
    exact X49.returnOut hx Bd.returns (hb hby own_d3_84) hr
  · show Qown_add2 Z a_o x_1 p_o k_p g_o k_g v_0 v_1 v_2 v_3 h0 n0 _ T49.heap _
    rw [e49]
    have Fq54 : Exa Z h49 a_o "com/example/taut_choreo/tautchoreo/explore/IntList" := (Fq48.wr W49)
    have Fq55 : Fld Z h49 a_o "com/example/taut_choreo/tautchoreo/explore/IntList" "pages" "[[I" (.ref p_o) := ((F_p.other W35 (Or.inl (Ne.symm n2))).other W49 (Or.inr (slot_ne (Or.inl (hw _ (List.mem_of_getElem? (i := 12) rfl))) (Or.inl (hw _ (List.mem_of_getElem? (i := 19) rfl))) (by decide) (t := (.array (.array .int))) (t' := .int) (by decide) (by decide))))
    have Fq56 : Arv Z h49 g_o k_g .int (4096 : Int32) [v_0, v_1, (.int x_1), v_3] (.int (0 : Int32)) := (Vm36.other W49 n2)
    exact ⟨rfl, N52, Kc50, Fq54, Fq55, Fw49, Fq56⟩
theorem own_ef_own_add3 (m : MethodId) (a_o : Addr) (x_1 : Int32) : entryFrame m #[(.ref a_o), (.int x_1)] 3 = mkF m 0 #[.val (.ref a_o), .val (.int x_1), .unset] [] := by first | (simp [entryFrame, mkF, argsToLocals, Value.category]; done) | rfl
def Qown_add3 (Z : State) (a_o : Addr) (x_1 : Int32) (p_o : Addr) (k_p : ClassId) (g_o : Addr) (k_g : ClassId) (v_0 : Value) (v_1 : Value) (v_2 : Value) (v_3 : Value) (h0 : Heap) (n0 : Nat) (v : Option Value) (h : Heap) (L : List Loc) : Prop := v = none ∧ Fr n0 L ∧ Keep h0 h [a_o, g_o] ∧ Exa Z h a_o "com/example/taut_choreo/tautchoreo/explore/IntList" ∧ Fld Z h a_o "com/example/taut_choreo/tautchoreo/explore/IntList" "pages" "[[I" (.ref p_o) ∧ Fld Z h a_o "com/example/taut_choreo/tautchoreo/explore/IntList" "size" "I" (.int (4 : Int32)) ∧ Arv Z h g_o k_g .int (4096 : Int32) [v_0, v_1, v_2, (.int x_1)] (.int (0 : Int32))
set_option maxRecDepth 65536 in
set_option maxHeartbeats 40000000 in
theorem own_add3 (l : Launch) (Z : State) (a0 : Array Value) (hw : ∀ d ∈ tables_1, d.before a0 Z = true) (ws : List Jvm.Cond) (a_o : Addr) (x_1 : Int32) (p_o : Addr) (k_p : ClassId) (g_o : Addr) (k_g : ClassId) (v_0 : Value) (v_1 : Value) (v_2 : Value) (v_3 : Value) (h0 : Heap) (n0 : Nat) (Z0 : n0 ≤ h0.size) (Eo : Exa Z h0 a_o "com/example/taut_choreo/tautchoreo/explore/IntList") (F_p : Fld Z h0 a_o "com/example/taut_choreo/tautchoreo/explore/IntList" "pages" "[[I" (.ref p_o)) (F_s : Fld Z h0 a_o "com/example/taut_choreo/tautchoreo/explore/IntList" "size" "I" (.int (3 : Int32))) (V_p : Arv Z h0 p_o k_p (.array .int) (1 : Int32) [(.ref g_o)] .null) (V_g : Arv Z h0 g_o k_g .int (4096 : Int32) [v_0, v_1, v_2, v_3] (.int (0 : Int32))) (ga : n0 ≤ a_o) (gg : n0 ≤ g_o) (n1 : p_o ≠ a_o) (n2 : g_o ≠ a_o) (n3 : p_o ≠ g_o) :
    MetFree l (⟨"com/example/taut_choreo/tautchoreo/explore/IntList", "add", "(I)V"⟩ : MethodName) (head1 (Jvm.Cond.code (⟨"com/example/taut_choreo/tautchoreo/explore/IntList", "add", "(I)V"⟩ : MethodName) prog_28_method_3_code 3 none :: ws) ({ frames := 0, cells := 0, slots := 0, locals := 0 } : Room)) (fun a U => a = #[(.ref a_o), (.int x_1)] ∧ Z.Warmed39 U.vm ∧ U.heap = h0) (fun _ _ _ _ _ => True) (fun _ U o U' => ∃ v L, o = .returned v ∧ Qown_add3 Z a_o x_1 p_o k_p g_o k_g v_0 v_1 v_2 v_3 h0 n0 v U'.heap L ∧ FrameEnd U o U' L ({ frames := 0, cells := 0, slots := 0, locals := 0 } : Room).cells ({ frames := 0, cells := 0, slots := 0, locals := 0 } : Room).slots) := by
  refine MetFree.of_bodySF (plainFor_of_name own_pn0) hisR ?_
  intro p e s m args below meth c s₁ Bd hml0 hP hK
  obtain ⟨rfl, hZ, hh⟩ := hP
  have hx := Bd.exec
  have hby := Bd.bytes
  have hml : c.maxLocals = 3 := hml0
  have hown : s.vm.findClass "com/example/taut_choreo/tautchoreo/explore/IntList" = some m.cls := findClass_of_methodNamed Bd.named
  have hnm := (name_of_methodNamed Bd.named Bd.method).1
  have X0 : Stand p l e ({ frames := 0, cells := 0, slots := 0, locals := 0 } : Room) s m #[(.ref a_o), (.int x_1)] below meth c s₁ [] 0 0 := Stand.of_body Bd
  have e0 : s₁.heap = h0 := by rw [← hh, Bd.state]; rfl
  have N0 := Fr.nil n0
  have pre0 : ∀ t, Steps p.tables e below (s₁.setTop (mkF m 0 #[.val (.ref a_o), .val (.int x_1), .unset] [])) t → Steps p.tables e below (s₁.setTop (entryFrame m #[(.ref a_o), (.int x_1)] 3)) t := fun t k => castTop (own_ef_own_add3 m a_o x_1) k
  obtain ⟨T3, X3, e3, st3⟩ := getF X0 hx hZ hown (host := "") (Or.inl (hw _ (List.mem_of_getElem? (i := 18) rfl))) Via.refl e0 F_s (g := (mkF m 1 #[.val (.ref a_o), .val (.int x_1), .unset] [(.ref a_o)])) rfl rfl (hb hby own_d3_1)
  obtain ⟨T10, X10, e10, st10⟩ := getF X3 hx hZ hown (host := "") (Or.inl (hw _ (List.mem_of_getElem? (i := 11) rfl))) Via.refl e3 F_p (g := (mkF m 10 #[.val (.ref a_o), .val (.int x_1), .val (.int (0 : Int32))] [(.ref a_o), (.int (0 : Int32))])) rfl rfl (hb hby own_d3_10)
  obtain ⟨cl12, Ar12, -, S12, M12, -, -⟩ := id V_p
  obtain ⟨T16, X16, e16, st16⟩ := getF X10 hx hZ hown (host := "") (Or.inl (hw _ (List.mem_of_getElem? (i := 11) rfl))) Via.refl e10 F_p (g := (mkF m 39 #[.val (.ref a_o), .val (.int x_1), .val (.int (0 : Int32))] [(.ref a_o)])) rfl rfl (hb hby own_d3_39)
  obtain ⟨cl19, Ar19, q19, S19, M19, H19, G19⟩ := id V_p
  have hin19 : ¬ ((0 : Int32) < 0 ∨ cl19.slots.size ≤ ((0 : Int32)).toNatClampNeg) := inb_of S19 ⟨by decide, by decide⟩
  have hat19 : cl19.slots[((0 : Int32)).toNatClampNeg]? = some (.ref g_o) := H19.at hin19 rfl
  obtain ⟨T23, X23, e23, st23⟩ := getF X16 hx hZ hown (host := "") (Or.inl (hw _ (List.mem_of_getElem? (i := 11) rfl))) Via.refl e16 F_p (g := (mkF m 59 #[.val (.ref a_o), .val (.int x_1), .val (.int (0 : Int32))] [(.ref a_o)])) rfl rfl (hb hby own_d3_59)
  obtain ⟨cl26, Ar26, q26, S26, M26, H26, G26⟩ := id V_p
  have hin26 : ¬ ((0 : Int32) < 0 ∨ cl26.slots.size ≤ ((0 : Int32)).toNatClampNeg) := inb_of S26 ⟨by decide, by decide⟩
  have hat26 : cl26.slots[((0 : Int32)).toNatClampNeg]? = some (.ref g_o) := H26.at hin26 rfl
  obtain ⟨T29, X29, e29, st29⟩ := getF X23 hx hZ hown (host := "") (Or.inl (hw _ (List.mem_of_getElem? (i := 18) rfl))) Via.refl e23 F_s (g := (mkF m 65 #[.val (.ref a_o), .val (.int x_1), .val (.int (0 : Int32))] [(.ref a_o), (.ref g_o)])) rfl rfl (hb hby own_d3_65)
  obtain ⟨cl34, Ar34, q34, S34, M34, H34, G34⟩ := id V_g
  have hin34 : ¬ ((3 : Int32) < 0 ∨ cl34.slots.size ≤ ((3 : Int32)).toNatClampNeg) := inb_of S34 ⟨by decide, by decide⟩
  obtain ⟨T35, h35, X35, e35, W35, st35⟩ := stI X29 hx hZ e29 Ar34 (j := (3 : Int32)) hin34 (g := (mkF m 73 #[.val (.ref a_o), .val (.int x_1), .val (.int (0 : Int32))] [(.int x_1), (.int (3 : Int32)), (.ref g_o)])) rfl rfl (hb hby own_d3_73)
  have Kc37 : Keep h0 h35 [a_o, g_o] := (Keep.refl h0 [a_o, g_o]).wr W35 (Or.inl (List.mem_of_getElem? (i := 1) rfl))
  have Zs38 : n0 ≤ h35.size := Nat.le_trans Z0 (Keep.of_wr W35).1
  have N39 := Fr.snoc X35 N0 gg
  have Vm36 : Arv Z h35 g_o k_g .int (4096 : Int32) [v_0, v_1, v_2, (.int x_1)] (.int (0 : Int32)) := Arv.set Ar34 q34 S34 M34 H34 G34 rfl W35 3 rfl (Nat.le_of_ble_eq_true rfl)
  have Fq43 : Fld Z h35 a_o "com/example/taut_choreo/tautchoreo/explore/IntList" "size" "I" (.int (3 : Int32)) := (F_s.other W35 (Or.inl (Ne.symm n2)))
  obtain ⟨T44, X44, e44, st44⟩ := getF X35 hx hZ hown (host := "") (Or.inl (hw _ (List.mem_of_getElem? (i := 18) rfl))) Via.refl e35 Fq43 (g := (mkF m 76 #[.val (.ref a_o), .val (.int x_1), .val (.int (0 : Int32))] [(.ref a_o), (.ref a_o)])) rfl rfl (hb hby own_d3_76)
  have Fq48 : Exa Z h35 a_o "com/example/taut_choreo/tautchoreo/explore/IntList" := (Eo.wr W35)
  obtain ⟨T49, h49, X49, e49, W49, st49⟩ := putF X44 hx hZ hown (host := "") (Or.inl (hw _ (List.mem_of_getElem? (i := 18) rfl))) Via.refl e44 Fq43 Fq48 (Or.inl (hw _ (List.mem_of_getElem? (i := 19) rfl))) (hw _ (List.mem_of_getElem? (i := 1) rfl)) (ty := .int) (by decide) rfl rfl (g := (mkF m 81 #[.val (.ref a_o), .val (.int x_1), .val (.int (0 : Int32))] [(.int (4 : Int32)), (.ref a_o)])) rfl rfl (hb hby own_d3_81)
  have Kc50 : Keep h0 h49 [a_o, g_o] := Kc37.wr W49 (Or.inl (List.mem_of_getElem? (i := 0) rfl))
  have Zs51 : n0 ≤ h49.size := Nat.le_trans Zs38 (Keep.of_wr W49).1
  have N52 := Fr.snoc X49 N39 ga
  have Fw49 : Fld Z h49 a_o "com/example/taut_choreo/tautchoreo/explore/IntList" "size" "I" (.int (4 : Int32)) := Fq43.same W49
  obtain ⟨fs, hr, hrun, hended, hW, hsame⟩ := X49.leave (v := none) (fun _ => rfl) (hlocks := BodyLoose.notSynchronized Bd)
  refine ⟨_, _, pre0 _ ?_, hrun, hended, _, _, rfl, ?_, ⟨_, rfl⟩, hW, hsame.mono (by decide) (by decide)⟩
  · show Steps p.tables e below (s₁.setTop (mkF m 0 #[.val (.ref a_o), .val (.int x_1), .unset] [])) _
    refine XS.aloadN X0.here hx rfl (hb hby own_d3_0) rfl rfl ?_
    show Steps p.tables e below (s₁.setTop (mkF m 1 #[.val (.ref a_o), .val (.int x_1), .unset] [(.ref a_o)])) _
    refine st3 _ ?_
    show Steps p.tables e below (T3.setTop (mkF m 4 #[.val (.ref a_o), .val (.int x_1), .unset] [(.int (3 : Int32))])) _
    refine XS.bipush X3.here hx rfl (hb hby own_d3_4) ?_
    show Steps p.tables e below (T3.setTop (mkF m 6 #[.val (.ref a_o), .val (.int x_1), .unset] [(.int (12 : Int32)), (.int (3 : Int32))])) _
    refine XS.iushr X3.here hx rfl (hb hby own_d3_6) rfl ?_
    show Steps p.tables e below (T3.setTop (mkF m 7 #[.val (.ref a_o), .val (.int x_1), .unset] [(.int (0 : Int32))])) _
    refine XS.istoreN X3.here hx rfl (hb hby own_d3_7) rfl (l' := #[.val (.ref a_o), .val (.int x_1), .val (.int (0 : Int32))]) rfl ?_
    show Steps p.tables e below (T3.setTop (mkF m 8 #[.val (.ref a_o), .val (.int x_1), .val (.int (0 : Int32))] [])) _
    refine XS.iloadN X3.here hx rfl (hb hby own_d3_8) rfl ?_
    show Steps p.tables e below (T3.setTop (mkF m 9 #[.val (.ref a_o), .val (.int x_1), .val (.int (0 : Int32))] [(.int (0 : Int32))])) _
    refine XS.aloadN X3.here hx rfl (hb hby own_d3_9) rfl rfl ?_
    show Steps p.tables e below (T3.setTop (mkF m 10 #[.val (.ref a_o), .val (.int x_1), .val (.int (0 : Int32))] [(.ref a_o), (.int (0 : Int32))])) _
    refine st10 _ ?_
    show Steps p.tables e below (T10.setTop (mkF m 13 #[.val (.ref a_o), .val (.int x_1), .val (.int (0 : Int32))] [(.ref p_o), (.int (0 : Int32))])) _
    refine X10.arraylength hx (by rw [e10]; exact Ar12.1) (State.isArrayOf_alike hZ.alike Ar12.2.1) (g := (mkF m 13 #[.val (.ref a_o), .val (.int x_1), .val (.int (0 : Int32))] [(.ref p_o), (.int (0 : Int32))])) rfl rfl (hb hby own_d3_13) _ ?_
    rw [len_of S12 M12]
    show Steps p.tables e below (T10.setTop (mkF m 14 #[.val (.ref a_o), .val (.int x_1), .val (.int (0 : Int32))] [(.int (1 : Int32)), (.int (0 : Int32))])) _
    refine XS.icmpYes X10.here hx rfl (pc0 := 14) (pc' := 38) rfl (hb hby own_d3_14) rfl (feq ((by decide) : ¬ ((0 : Int32) = (1 : Int32)))).2 (by decide) (by decide) ?_
    show Steps p.tables e below (T10.setTop (mkF m 38 #[.val (.ref a_o), .val (.int x_1), .val (.int (0 : Int32))] [])) _
    refine XS.aloadN X10.here hx rfl (hb hby own_d3_38) rfl rfl ?_
    show Steps p.tables e below (T10.setTop (mkF m 39 #[.val (.ref a_o), .val (.int x_1), .val (.int (0 : Int32))] [(.ref a_o)])) _
    refine st16 _ ?_
    show Steps p.tables e below (T16.setTop (mkF m 42 #[.val (.ref a_o), .val (.int x_1), .val (.int (0 : Int32))] [(.ref p_o)])) _
    refine XS.iloadN X16.here hx rfl (hb hby own_d3_42) rfl ?_
    show Steps p.tables e below (T16.setTop (mkF m 43 #[.val (.ref a_o), .val (.int x_1), .val (.int (0 : Int32))] [(.int (0 : Int32)), (.ref p_o)])) _
    refine X16.aaload hx (j := (0 : Int32)) (v := (.ref g_o)) (by rw [e16]; exact Ar19.1) (State.isArrayOf_alike hZ.alike Ar19.2.1) rfl Ar19.2.2 hin19 hat19 (g := (mkF m 43 #[.val (.ref a_o), .val (.int x_1), .val (.int (0 : Int32))] [(.int (0 : Int32)), (.ref p_o)])) rfl rfl (hb hby own_d3_43) _ ?_
    show Steps p.tables e below (T16.setTop (mkF m 44 #[.val (.ref a_o), .val (.int x_1), .val (.int (0 : Int32))] [(.ref g_o)])) _
    refine XS.ifnonnullYes X16.here hx rfl (pc0 := 44) (pc' := 58) rfl (hb hby own_d3_44) rfl (by decide) (by decide) ?_
    show Steps p.tables e below (T16.setTop (mkF m 58 #[.val (.ref a_o), .val (.int x_1), .val (.int (0 : Int32))] [])) _
    refine XS.aloadN X16.here hx rfl (hb hby own_d3_58) rfl rfl ?_
    show Steps p.tables e below (T16.setTop (mkF m 59 #[.val (.ref a_o), .val (.int x_1), .val (.int (0 : Int32))] [(.ref a_o)])) _
    refine st23 _ ?_
    show Steps p.tables e below (T23.setTop (mkF m 62 #[.val (.ref a_o), .val (.int x_1), .val (.int (0 : Int32))] [(.ref p_o)])) _
    refine XS.iloadN X23.here hx rfl (hb hby own_d3_62) rfl ?_
    show Steps p.tables e below (T23.setTop (mkF m 63 #[.val (.ref a_o), .val (.int x_1), .val (.int (0 : Int32))] [(.int (0 : Int32)), (.ref p_o)])) _
    refine X23.aaload hx (j := (0 : Int32)) (v := (.ref g_o)) (by rw [e23]; exact Ar26.1) (State.isArrayOf_alike hZ.alike Ar26.2.1) rfl Ar26.2.2 hin26 hat26 (g := (mkF m 63 #[.val (.ref a_o), .val (.int x_1), .val (.int (0 : Int32))] [(.int (0 : Int32)), (.ref p_o)])) rfl rfl (hb hby own_d3_63) _ ?_
    show Steps p.tables e below (T23.setTop (mkF m 64 #[.val (.ref a_o), .val (.int x_1), .val (.int (0 : Int32))] [(.ref g_o)])) _
    refine XS.aloadN X23.here hx rfl (hb hby own_d3_64) rfl rfl ?_
    show Steps p.tables e below (T23.setTop (mkF m 65 #[.val (.ref a_o), .val (.int x_1), .val (.int (0 : Int32))] [(.ref a_o), (.ref g_o)])) _
    refine st29 _ ?_
    show Steps p.tables e below (T29.setTop (mkF m 68 #[.val (.ref a_o), .val (.int x_1), .val (.int (0 : Int32))] [(.int (3 : Int32)), (.ref g_o)])) _
    refine XS.sipush X29.here hx rfl (hb hby own_d3_68) ?_
    show Steps p.tables e below (T29.setTop (mkF m 71 #[.val (.ref a_o), .val (.int x_1), .val (.int (0 : Int32))] [(.int (4095 : Int32)), (.int (3 : Int32)), (.ref g_o)])) _
    refine XS.iand X29.here hx rfl (hb hby own_d3_71) rfl ?_
    show Steps p.tables e below (T29.setTop (mkF m 72 #[.val (.ref a_o), .val (.int x_1), .val (.int (0 : Int32))] [(.int (3 : Int32)), (.ref g_o)])) _
    refine XS.iloadN X29.here hx rfl (hb hby own_d3_72) rfl ?_
    show Steps p.tables e below (T29.setTop (mkF m 73 #[.val (.ref a_o), .val (.int x_1), .val (.int (0 : Int32))] [(.int x_1), (.int (3 : Int32)), (.ref g_o)])) _
    refine st35 _ ?_
    show Steps p.tables e below (T35.setTop (mkF m 74 #[.val (.ref a_o), .val (.int x_1), .val (.int (0 : Int32))] [])) _
    refine XS.aloadN X35.here hx rfl (hb hby own_d3_74) rfl rfl ?_
    show Steps p.tables e below (T35.setTop (mkF m 75 #[.val (.ref a_o), .val (.int x_1), .val (.int (0 : Int32))] [(.ref a_o)])) _
    refine XS.dup X35.here hx rfl (hb hby own_d3_75) rfl rfl ?_
    show Steps p.tables e below (T35.setTop (mkF m 76 #[.val (.ref a_o), .val (.int x_1), .val (.int (0 : Int32))] [(.ref a_o), (.ref a_o)])) _
    refine st44 _ ?_
    show Steps p.tables e below (T44.setTop (mkF m 79 #[.val (.ref a_o), .val (.int x_1), .val (.int (0 : Int32))] [(.int (3 : Int32)), (.ref a_o)])) _
    refine XS.iconst X44.here hx rfl (hb hby own_d3_79) ?_
    show Steps p.tables e below (T44.setTop (mkF m 80 #[.val (.ref a_o), .val (.int x_1), .val (.int (0 : Int32))] [(.int (1 : Int32)), (.int (3 : Int32)), (.ref a_o)])) _
    refine XS.iadd X44.here hx rfl (hb hby own_d3_80) rfl ?_
    show Steps p.tables e below (T44.setTop (mkF m 81 #[.val (.ref a_o), .val (.int x_1), .val (.int (0 : Int32))] [(.int (4 : Int32)), (.ref a_o)])) _
    refine st49 _ ?_
    show Steps p.tables e below (T49.setTop (mkF m 84 #[.val (.ref a_o), .val (.int x_1), .val (.int (0 : Int32))] [])) _
    exact X49.returnOut hx Bd.returns (hb hby own_d3_84) hr
  · show Qown_add3 Z a_o x_1 p_o k_p g_o k_g v_0 v_1 v_2 v_3 h0 n0 _ T49.heap _
    rw [e49]
    have Fq54 : Exa Z h49 a_o "com/example/taut_choreo/tautchoreo/explore/IntList" := (Fq48.wr W49)
    have Fq55 : Fld Z h49 a_o "com/example/taut_choreo/tautchoreo/explore/IntList" "pages" "[[I" (.ref p_o) := ((F_p.other W35 (Or.inl (Ne.symm n2))).other W49 (Or.inr (slot_ne (Or.inl (hw _ (List.mem_of_getElem? (i := 12) rfl))) (Or.inl (hw _ (List.mem_of_getElem? (i := 19) rfl))) (by decide) (t := (.array (.array .int))) (t' := .int) (by decide) (by decide))))
    have Fq56 : Arv Z h49 g_o k_g .int (4096 : Int32) [v_0, v_1, v_2, (.int x_1)] (.int (0 : Int32)) := (Vm36.other W49 n2)
    exact ⟨rfl, N52, Kc50, Fq54, Fq55, Fw49, Fq56⟩
theorem own_ef_own_get (m : MethodId) (a_o : Addr) (p_1 : Int32) : entryFrame m #[(.ref a_o), (.int p_1)] 2 = mkF m 0 #[.val (.ref a_o), .val (.int p_1)] [] := by first | (simp [entryFrame, mkF, argsToLocals, Value.category]; done) | rfl
theorem own_d4_0 : decode prog_28_method_4_code 0 = .ok (.aload_n 0, 1) := by decide +kernel
theorem own_d4_1 : decode prog_28_method_4_code 1 = .ok (.getfield 11, 3) := by decide +kernel
theorem own_d4_4 : decode prog_28_method_4_code 4 = .ok (.iload_n 1, 1) := by decide +kernel
theorem own_d4_5 : decode prog_28_method_4_code 5 = .ok (.bipush 12, 2) := by decide +kernel
theorem own_d4_7 : decode prog_28_method_4_code 7 = .ok (.iushr, 1) := by decide +kernel
theorem own_d4_8 : decode prog_28_method_4_code 8 = .ok (.aaload, 1) := by decide +kernel
theorem own_d4_9 : decode prog_28_method_4_code 9 = .ok (.iload_n 1, 1) := by decide +kernel
theorem own_d4_10 : decode prog_28_method_4_code 10 = .ok (.sipush 4095, 3) := by decide +kernel
theorem own_d4_13 : decode prog_28_method_4_code 13 = .ok (.iand, 1) := by decide +kernel
theorem own_d4_14 : decode prog_28_method_4_code 14 = .ok (.iaload, 1) := by decide +kernel
theorem own_d4_15 : decode prog_28_method_4_code 15 = .ok (.ireturn, 1) := by decide +kernel
def Qown_get (Z : State) (a_o : Addr) (p_1 : Int32) (p_o : Addr) (k_p : ClassId) (g_o : Addr) (k_g : ClassId) (x_0 : Int32) (x_1 : Int32) (x_2 : Int32) (x_3 : Int32) (h0 : Heap) (n0 : Nat) (v : Option Value) (h : Heap) (L : List Loc) : Prop := v = some (.int (own_sel x_0 x_1 x_2 x_3 p_1)) ∧ Fr n0 L ∧ h = h0
set_option maxRecDepth 65536 in
set_option maxHeartbeats 40000000 in
theorem own_get (l : Launch) (Z : State) (a0 : Array Value) (hw : ∀ d ∈ tables_1, d.before a0 Z = true) (ws : List Jvm.Cond) (a_o : Addr) (p_1 : Int32) (p_o : Addr) (k_p : ClassId) (g_o : Addr) (k_g : ClassId) (x_0 : Int32) (x_1 : Int32) (x_2 : Int32) (x_3 : Int32) (h0 : Heap) (n0 : Nat) (Z0 : n0 ≤ h0.size) (F_p : Fld Z h0 a_o "com/example/taut_choreo/tautchoreo/explore/IntList" "pages" "[[I" (.ref p_o)) (V_p : Arv Z h0 p_o k_p (.array .int) (1 : Int32) [(.ref g_o)] .null) (V_g : Arv Z h0 g_o k_g .int (4096 : Int32) [(.int x_0), (.int x_1), (.int x_2), (.int x_3)] (.int (0 : Int32))) (hp : ¬ p_1 < 0 ∧ p_1 < 4) :
    MetFree l (⟨"com/example/taut_choreo/tautchoreo/explore/IntList", "get", "(I)I"⟩ : MethodName) (head1 (Jvm.Cond.code (⟨"com/example/taut_choreo/tautchoreo/explore/IntList", "get", "(I)I"⟩ : MethodName) prog_28_method_4_code 2 (some .int) :: ws) ({ frames := 0, cells := 0, slots := 0, locals := 0 } : Room)) (fun a U => a = #[(.ref a_o), (.int p_1)] ∧ Z.Warmed39 U.vm ∧ U.heap = h0) (fun _ _ _ _ _ => True) (fun _ U o U' => ∃ v L, o = .returned v ∧ Qown_get Z a_o p_1 p_o k_p g_o k_g x_0 x_1 x_2 x_3 h0 n0 v U'.heap L ∧ FrameEnd U o U' L ({ frames := 0, cells := 0, slots := 0, locals := 0 } : Room).cells ({ frames := 0, cells := 0, slots := 0, locals := 0 } : Room).slots) := by
  refine MetFree.of_bodySF (plainFor_of_name own_pn0) hisR ?_
  intro p e s m args below meth c s₁ Bd hml0 hP hK
  obtain ⟨rfl, hZ, hh⟩ := hP
  have hx := Bd.exec
  have hby := Bd.bytes
  have hml : c.maxLocals = 2 := hml0
  have hown : s.vm.findClass "com/example/taut_choreo/tautchoreo/explore/IntList" = some m.cls := findClass_of_methodNamed Bd.named
  have hnm := (name_of_methodNamed Bd.named Bd.method).1
  have X0 : Stand p l e ({ frames := 0, cells := 0, slots := 0, locals := 0 } : Room) s m #[(.ref a_o), (.int p_1)] below meth c s₁ [] 0 0 := Stand.of_body Bd
  have e0 : s₁.heap = h0 := by rw [← hh, Bd.state]; rfl
  have N0 := Fr.nil n0
  have pre0 : ∀ t, Steps p.tables e below (s₁.setTop (mkF m 0 #[.val (.ref a_o), .val (.int p_1)] [])) t → Steps p.tables e below (s₁.setTop (entryFrame m #[(.ref a_o), (.int p_1)] 2)) t := fun t k => castTop (own_ef_own_get m a_o p_1) k
  obtain ⟨T3, X3, e3, st3⟩ := getF X0 hx hZ hown (host := "") (Or.inl (hw _ (List.mem_of_getElem? (i := 11) rfl))) Via.refl e0 F_p (g := (mkF m 1 #[.val (.ref a_o), .val (.int p_1)] [(.ref a_o)])) rfl rfl (hb hby own_d4_1)
  obtain ⟨cl8, Ar8, q8, S8, M8, H8, G8⟩ := id V_p
  have hin8 : ¬ ((0 : Int32) < 0 ∨ cl8.slots.size ≤ ((0 : Int32)).toNatClampNeg) := inb_of S8 ⟨by decide, by decide⟩
  have hat8 : cl8.slots[((0 : Int32)).toNatClampNeg]? = some (.ref g_o) := H8.at hin8 rfl
  obtain ⟨cl13, Ar13, q13, S13, M13, H13, G13⟩ := id V_g
  have hin13 : ¬ (p_1 < 0 ∨ cl13.slots.size ≤ (p_1).toNatClampNeg) := inb_of S13 (own_up hp)
  have hat13 : cl13.slots[(p_1).toNatClampNeg]? = some (.int (own_sel x_0 x_1 x_2 x_3 p_1)) := H13.at hin13 (own_sel_get _ _ _ _ _ _ hp)
  obtain ⟨fs, hr, hrun, hended, hW, hsame⟩ := X3.leave (v := some (.int (own_sel x_0 x_1 x_2 x_3 p_1))) (fun h => by rw [Bd.returns] at h; cases h) (hlocks := BodyLoose.notSynchronized Bd)
  refine ⟨_, _, pre0 _ ?_, hrun, hended, _, _, rfl, ?_, ⟨_, rfl⟩, hW, hsame.mono (by decide) (by decide)⟩
  · show Steps p.tables e below (s₁.setTop (mkF m 0 #[.val (.ref a_o), .val (.int p_1)] [])) _
    refine XS.aloadN X0.here hx rfl (hb hby own_d4_0) rfl rfl ?_
    show Steps p.tables e below (s₁.setTop (mkF m 1 #[.val (.ref a_o), .val (.int p_1)] [(.ref a_o)])) _
    refine st3 _ ?_
    show Steps p.tables e below (T3.setTop (mkF m 4 #[.val (.ref a_o), .val (.int p_1)] [(.ref p_o)])) _
    refine XS.iloadN X3.here hx rfl (hb hby own_d4_4) rfl ?_
    show Steps p.tables e below (T3.setTop (mkF m 5 #[.val (.ref a_o), .val (.int p_1)] [(.int p_1), (.ref p_o)])) _
    refine XS.bipush X3.here hx rfl (hb hby own_d4_5) ?_
    show Steps p.tables e below (T3.setTop (mkF m 7 #[.val (.ref a_o), .val (.int p_1)] [(.int (12 : Int32)), (.int p_1), (.ref p_o)])) _
    refine XS.iushr X3.here hx rfl (hb hby own_d4_7) rfl ?_
    rw [own_h12 hp]
    show Steps p.tables e below (T3.setTop (mkF m 8 #[.val (.ref a_o), .val (.int p_1)] [(.int (0 : Int32)), (.ref p_o)])) _
    refine X3.aaload hx (j := (0 : Int32)) (v := (.ref g_o)) (by rw [e3]; exact Ar8.1) (State.isArrayOf_alike hZ.alike Ar8.2.1) rfl Ar8.2.2 hin8 hat8 (g := (mkF m 8 #[.val (.ref a_o), .val (.int p_1)] [(.int (0 : Int32)), (.ref p_o)])) rfl rfl (hb hby own_d4_8) _ ?_
    show Steps p.tables e below (T3.setTop (mkF m 9 #[.val (.ref a_o), .val (.int p_1)] [(.ref g_o)])) _
    refine XS.iloadN X3.here hx rfl (hb hby own_d4_9) rfl ?_
    show Steps p.tables e below (T3.setTop (mkF m 10 #[.val (.ref a_o), .val (.int p_1)] [(.int p_1), (.ref g_o)])) _
    refine XS.sipush X3.here hx rfl (hb hby own_d4_10) ?_
    show Steps p.tables e below (T3.setTop (mkF m 13 #[.val (.ref a_o), .val (.int p_1)] [(.int (4095 : Int32)), (.int p_1), (.ref g_o)])) _
    refine XS.iand X3.here hx rfl (hb hby own_d4_13) rfl ?_
    rw [own_h4095 hp]
    show Steps p.tables e below (T3.setTop (mkF m 14 #[.val (.ref a_o), .val (.int p_1)] [(.int p_1), (.ref g_o)])) _
    refine X3.iaload hx (j := p_1) (v := (.int (own_sel x_0 x_1 x_2 x_3 p_1))) (by rw [e3]; exact Ar13.1) (State.isArrayOf_alike hZ.alike Ar13.2.1) Ar13.2.2 hin13 hat13 (g := (mkF m 14 #[.val (.ref a_o), .val (.int p_1)] [(.int p_1), (.ref g_o)])) rfl rfl (hb hby own_d4_14) _ ?_
    show Steps p.tables e below (T3.setTop (mkF m 15 #[.val (.ref a_o), .val (.int p_1)] [(.int (own_sel x_0 x_1 x_2 x_3 p_1))])) _
    exact retI X3 hx Bd.returns (hb hby own_d4_15) hr
  · show Qown_get Z a_o p_1 p_o k_p g_o k_g x_0 x_1 x_2 x_3 h0 n0 _ T3.heap _
    rw [e3]
    exact ⟨rfl, N0, rfl⟩
theorem own_pn1 : plainName "com/example/taut_choreo/tautchoreo/explore/IntListGetPinLaw" = true := by first | (simp [plainName, overriddenIn]; done) | decide +kernel
theorem own_ef_own_pick (m : MethodId) (p0 : Int32) (p1 : Int32) (p2 : Int32) (p3 : Int32) (p4 : Int32) : entryFrame m #[(.int p0), (.int p1), (.int p2), (.int p3), (.int p4)] 5 = mkF m 0 #[.val (.int p0), .val (.int p1), .val (.int p2), .val (.int p3), .val (.int p4)] [] := by first | (simp [entryFrame, mkF, argsToLocals, Value.category]; done) | rfl
theorem own_d5_0 : decode method_3_code 0 = .ok (.iload 4, 2) := by decide +kernel
theorem own_d5_2 : decode method_3_code 2 = .ok (.ifCond .ne 5, 3) := by decide +kernel
theorem own_d5_5 : decode method_3_code 5 = .ok (.iload_n 0, 1) := by decide +kernel
theorem own_d5_6 : decode method_3_code 6 = .ok (.ireturn, 1) := by decide +kernel
theorem own_d5_7 : decode method_3_code 7 = .ok (.iload 4, 2) := by decide +kernel
theorem own_d5_9 : decode method_3_code 9 = .ok (.iconst 1, 1) := by decide +kernel
theorem own_d5_10 : decode method_3_code 10 = .ok (.if_icmp .ne 5, 3) := by decide +kernel
theorem own_d5_13 : decode method_3_code 13 = .ok (.iload_n 1, 1) := by decide +kernel
theorem own_d5_14 : decode method_3_code 14 = .ok (.ireturn, 1) := by decide +kernel
theorem own_d5_15 : decode method_3_code 15 = .ok (.iload 4, 2) := by decide +kernel
theorem own_d5_17 : decode method_3_code 17 = .ok (.iconst 2, 1) := by decide +kernel
theorem own_d5_18 : decode method_3_code 18 = .ok (.if_icmp .ne 5, 3) := by decide +kernel
theorem own_d5_21 : decode method_3_code 21 = .ok (.iload_n 2, 1) := by decide +kernel
theorem own_d5_22 : decode method_3_code 22 = .ok (.ireturn, 1) := by decide +kernel
theorem own_d5_23 : decode method_3_code 23 = .ok (.iload_n 3, 1) := by decide +kernel
theorem own_d5_24 : decode method_3_code 24 = .ok (.ireturn, 1) := by decide +kernel
def own_pick_f (p0 : Int32) (p1 : Int32) (p2 : Int32) (p3 : Int32) (p4 : Int32) : Int32 := (if p4 = (0 : Int32) then p0 else (if p4 = (1 : Int32) then p1 else (if p4 = (2 : Int32) then p2 else p3)))
def Qown_pick (Z : State) (p0 : Int32) (p1 : Int32) (p2 : Int32) (p3 : Int32) (p4 : Int32) (h0 : Heap) (n0 : Nat) (v : Option Value) (h : Heap) (L : List Loc) : Prop := v = some (.int (own_pick_f p0 p1 p2 p3 p4)) ∧ Fr n0 L ∧ h = h0
set_option maxRecDepth 65536 in
set_option maxHeartbeats 40000000 in
theorem own_pick (l : Launch) (Z : State) (a0 : Array Value) (hw : ∀ d ∈ tables_1, d.before a0 Z = true) (ws : List Jvm.Cond) (p0 : Int32) (p1 : Int32) (p2 : Int32) (p3 : Int32) (p4 : Int32) (h0 : Heap) (n0 : Nat) (Z0 : n0 ≤ h0.size) :
    MetFree l (⟨"com/example/taut_choreo/tautchoreo/explore/IntListGetPinLaw", "pick", "(IIIII)I"⟩ : MethodName) (head1 (Jvm.Cond.code (⟨"com/example/taut_choreo/tautchoreo/explore/IntListGetPinLaw", "pick", "(IIIII)I"⟩ : MethodName) method_3_code 5 (some .int) :: ws) ({ frames := 0, cells := 0, slots := 0, locals := 0 } : Room)) (fun a U => a = #[(.int p0), (.int p1), (.int p2), (.int p3), (.int p4)] ∧ Z.Warmed39 U.vm ∧ U.heap = h0) (fun _ _ _ _ _ => True) (fun _ U o U' => ∃ v L, o = .returned v ∧ Qown_pick Z p0 p1 p2 p3 p4 h0 n0 v U'.heap L ∧ FrameEnd U o U' L ({ frames := 0, cells := 0, slots := 0, locals := 0 } : Room).cells ({ frames := 0, cells := 0, slots := 0, locals := 0 } : Room).slots) := by
  refine MetFree.of_bodySF (plainFor_of_name own_pn1) hisR ?_
  intro p e s m args below meth c s₁ Bd hml0 hP hK
  obtain ⟨rfl, hZ, hh⟩ := hP
  have hx := Bd.exec
  have hby := Bd.bytes
  have hml : c.maxLocals = 5 := hml0
  have hown : s.vm.findClass "com/example/taut_choreo/tautchoreo/explore/IntListGetPinLaw" = some m.cls := findClass_of_methodNamed Bd.named
  have hnm := (name_of_methodNamed Bd.named Bd.method).1
  have X0 : Stand p l e ({ frames := 0, cells := 0, slots := 0, locals := 0 } : Room) s m #[(.int p0), (.int p1), (.int p2), (.int p3), (.int p4)] below meth c s₁ [] 0 0 := Stand.of_body Bd
  have e0 : s₁.heap = h0 := by rw [← hh, Bd.state]; rfl
  have N0 := Fr.nil n0
  have pre0 : ∀ t, Steps p.tables e below (s₁.setTop (mkF m 0 #[.val (.int p0), .val (.int p1), .val (.int p2), .val (.int p3), .val (.int p4)] [])) t → Steps p.tables e below (s₁.setTop (entryFrame m #[(.int p0), (.int p1), (.int p2), (.int p3), (.int p4)] 5)) t := fun t k => castTop (own_ef_own_pick m p0 p1 p2 p3 p4) k
  have pre3 : ∀ t, Steps p.tables e below (s₁.setTop (mkF m 2 #[.val (.int p0), .val (.int p1), .val (.int p2), .val (.int p3), .val (.int p4)] [(.int p4)])) t → Steps p.tables e below (s₁.setTop (entryFrame m #[(.int p0), (.int p1), (.int p2), (.int p3), (.int p4)] 5)) t := by
    intro t kt
    refine pre0 _ ?_
    show Steps p.tables e below (s₁.setTop (mkF m 0 #[.val (.int p0), .val (.int p1), .val (.int p2), .val (.int p3), .val (.int p4)] [])) _
    refine XS.iload X0.here hx rfl (hb hby own_d5_0) rfl ?_
    exact kt
  by_cases hc2_4 : p4 = (0 : Int32)
  · obtain ⟨fs, hr, hrun, hended, hW, hsame⟩ := X0.leave (v := some (.int p0)) (fun h => by rw [Bd.returns] at h; cases h) (hlocks := BodyLoose.notSynchronized Bd)
    refine ⟨_, _, pre3 _ ?_, hrun, hended, _, _, rfl, ?_, ⟨_, rfl⟩, hW, hsame.mono (by decide) (by decide)⟩
    · show Steps p.tables e below (s₁.setTop (mkF m 2 #[.val (.int p0), .val (.int p1), .val (.int p2), .val (.int p3), .val (.int p4)] [(.int p4)])) _
      refine XS.ifNo X0.here hx rfl (hb hby own_d5_2) rfl ((if0 _ _).trans (teq hc2_4).2) ?_
      show Steps p.tables e below (s₁.setTop (mkF m 5 #[.val (.int p0), .val (.int p1), .val (.int p2), .val (.int p3), .val (.int p4)] [])) _
      refine XS.iloadN X0.here hx rfl (hb hby own_d5_5) rfl ?_
      show Steps p.tables e below (s₁.setTop (mkF m 6 #[.val (.int p0), .val (.int p1), .val (.int p2), .val (.int p3), .val (.int p4)] [(.int p0)])) _
      exact retI X0 hx Bd.returns (hb hby own_d5_6) hr
    · show Qown_pick Z p0 p1 p2 p3 p4 h0 n0 _ s₁.heap _
      rw [e0]
      have hv : (own_pick_f p0 p1 p2 p3 p4) = p0 := by unfold own_pick_f; rw [if_pos hc2_4]
      exact ⟨(by rw [hv]), N0, rfl⟩
  · have pre10 : ∀ t, Steps p.tables e below (s₁.setTop (mkF m 10 #[.val (.int p0), .val (.int p1), .val (.int p2), .val (.int p3), .val (.int p4)] [(.int (1 : Int32)), (.int p4)])) t → Steps p.tables e below (s₁.setTop (entryFrame m #[(.int p0), (.int p1), (.int p2), (.int p3), (.int p4)] 5)) t := by
      intro t kt
      refine pre3 _ ?_
      show Steps p.tables e below (s₁.setTop (mkF m 2 #[.val (.int p0), .val (.int p1), .val (.int p2), .val (.int p3), .val (.int p4)] [(.int p4)])) _
      refine XS.ifYes X0.here hx rfl (pc0 := 2) (pc' := 7) rfl (hb hby own_d5_2) rfl ((if0 _ _).trans (feq hc2_4).2) (by decide) (by decide) ?_
      show Steps p.tables e below (s₁.setTop (mkF m 7 #[.val (.int p0), .val (.int p1), .val (.int p2), .val (.int p3), .val (.int p4)] [])) _
      refine XS.iload X0.here hx rfl (hb hby own_d5_7) rfl ?_
      show Steps p.tables e below (s₁.setTop (mkF m 9 #[.val (.int p0), .val (.int p1), .val (.int p2), .val (.int p3), .val (.int p4)] [(.int p4)])) _
      refine XS.iconst X0.here hx rfl (hb hby own_d5_9) ?_
      exact kt
    by_cases hc10_11 : p4 = (1 : Int32)
    · obtain ⟨fs, hr, hrun, hended, hW, hsame⟩ := X0.leave (v := some (.int p1)) (fun h => by rw [Bd.returns] at h; cases h) (hlocks := BodyLoose.notSynchronized Bd)
      refine ⟨_, _, pre10 _ ?_, hrun, hended, _, _, rfl, ?_, ⟨_, rfl⟩, hW, hsame.mono (by decide) (by decide)⟩
      · show Steps p.tables e below (s₁.setTop (mkF m 10 #[.val (.int p0), .val (.int p1), .val (.int p2), .val (.int p3), .val (.int p4)] [(.int (1 : Int32)), (.int p4)])) _
        refine XS.icmpNo X0.here hx rfl (hb hby own_d5_10) rfl (teq hc10_11).2 ?_
        show Steps p.tables e below (s₁.setTop (mkF m 13 #[.val (.int p0), .val (.int p1), .val (.int p2), .val (.int p3), .val (.int p4)] [])) _
        refine XS.iloadN X0.here hx rfl (hb hby own_d5_13) rfl ?_
        show Steps p.tables e below (s₁.setTop (mkF m 14 #[.val (.int p0), .val (.int p1), .val (.int p2), .val (.int p3), .val (.int p4)] [(.int p1)])) _
        exact retI X0 hx Bd.returns (hb hby own_d5_14) hr
      · show Qown_pick Z p0 p1 p2 p3 p4 h0 n0 _ s₁.heap _
        rw [e0]
        have hv : (own_pick_f p0 p1 p2 p3 p4) = p1 := by unfold own_pick_f; rw [if_neg hc2_4, if_pos hc10_11]
        exact ⟨(by rw [hv]), N0, rfl⟩
    · have pre17 : ∀ t, Steps p.tables e below (s₁.setTop (mkF m 18 #[.val (.int p0), .val (.int p1), .val (.int p2), .val (.int p3), .val (.int p4)] [(.int (2 : Int32)), (.int p4)])) t → Steps p.tables e below (s₁.setTop (entryFrame m #[(.int p0), (.int p1), (.int p2), (.int p3), (.int p4)] 5)) t := by
        intro t kt
        refine pre10 _ ?_
        show Steps p.tables e below (s₁.setTop (mkF m 10 #[.val (.int p0), .val (.int p1), .val (.int p2), .val (.int p3), .val (.int p4)] [(.int (1 : Int32)), (.int p4)])) _
        refine XS.icmpYes X0.here hx rfl (pc0 := 10) (pc' := 15) rfl (hb hby own_d5_10) rfl (feq hc10_11).2 (by decide) (by decide) ?_
        show Steps p.tables e below (s₁.setTop (mkF m 15 #[.val (.int p0), .val (.int p1), .val (.int p2), .val (.int p3), .val (.int p4)] [])) _
        refine XS.iload X0.here hx rfl (hb hby own_d5_15) rfl ?_
        show Steps p.tables e below (s₁.setTop (mkF m 17 #[.val (.int p0), .val (.int p1), .val (.int p2), .val (.int p3), .val (.int p4)] [(.int p4)])) _
        refine XS.iconst X0.here hx rfl (hb hby own_d5_17) ?_
        exact kt
      by_cases hc18_18 : p4 = (2 : Int32)
      · obtain ⟨fs, hr, hrun, hended, hW, hsame⟩ := X0.leave (v := some (.int p2)) (fun h => by rw [Bd.returns] at h; cases h) (hlocks := BodyLoose.notSynchronized Bd)
        refine ⟨_, _, pre17 _ ?_, hrun, hended, _, _, rfl, ?_, ⟨_, rfl⟩, hW, hsame.mono (by decide) (by decide)⟩
        · show Steps p.tables e below (s₁.setTop (mkF m 18 #[.val (.int p0), .val (.int p1), .val (.int p2), .val (.int p3), .val (.int p4)] [(.int (2 : Int32)), (.int p4)])) _
          refine XS.icmpNo X0.here hx rfl (hb hby own_d5_18) rfl (teq hc18_18).2 ?_
          show Steps p.tables e below (s₁.setTop (mkF m 21 #[.val (.int p0), .val (.int p1), .val (.int p2), .val (.int p3), .val (.int p4)] [])) _
          refine XS.iloadN X0.here hx rfl (hb hby own_d5_21) rfl ?_
          show Steps p.tables e below (s₁.setTop (mkF m 22 #[.val (.int p0), .val (.int p1), .val (.int p2), .val (.int p3), .val (.int p4)] [(.int p2)])) _
          exact retI X0 hx Bd.returns (hb hby own_d5_22) hr
        · show Qown_pick Z p0 p1 p2 p3 p4 h0 n0 _ s₁.heap _
          rw [e0]
          have hv : (own_pick_f p0 p1 p2 p3 p4) = p2 := by unfold own_pick_f; rw [if_neg hc2_4, if_neg hc10_11, if_pos hc18_18]
          exact ⟨(by rw [hv]), N0, rfl⟩
      · obtain ⟨fs, hr, hrun, hended, hW, hsame⟩ := X0.leave (v := some (.int p3)) (fun h => by rw [Bd.returns] at h; cases h) (hlocks := BodyLoose.notSynchronized Bd)
        refine ⟨_, _, pre17 _ ?_, hrun, hended, _, _, rfl, ?_, ⟨_, rfl⟩, hW, hsame.mono (by decide) (by decide)⟩
        · show Steps p.tables e below (s₁.setTop (mkF m 18 #[.val (.int p0), .val (.int p1), .val (.int p2), .val (.int p3), .val (.int p4)] [(.int (2 : Int32)), (.int p4)])) _
          refine XS.icmpYes X0.here hx rfl (pc0 := 18) (pc' := 23) rfl (hb hby own_d5_18) rfl (feq hc18_18).2 (by decide) (by decide) ?_
          show Steps p.tables e below (s₁.setTop (mkF m 23 #[.val (.int p0), .val (.int p1), .val (.int p2), .val (.int p3), .val (.int p4)] [])) _
          refine XS.iloadN X0.here hx rfl (hb hby own_d5_23) rfl ?_
          show Steps p.tables e below (s₁.setTop (mkF m 24 #[.val (.int p0), .val (.int p1), .val (.int p2), .val (.int p3), .val (.int p4)] [(.int p3)])) _
          exact retI X0 hx Bd.returns (hb hby own_d5_24) hr
        · show Qown_pick Z p0 p1 p2 p3 p4 h0 n0 _ s₁.heap _
          rw [e0]
          have hv : (own_pick_f p0 p1 p2 p3 p4) = p3 := by unfold own_pick_f; rw [if_neg hc2_4, if_neg hc10_11, if_neg hc18_18]
          exact ⟨(by rw [hv]), N0, rfl⟩
theorem own_m (a b c d k : Int32) : own_sel a b c d k = own_pick_f a b c d k := by unfold own_sel own_pick_f; rfl
theorem own_ef_own_law (m : MethodId) (p0 : Int32) (p1 : Int32) (p2 : Int32) (p3 : Int32) (p4 : Int32) (p5 : Int32) : entryFrame m #[(.int p0), (.int p1), (.int p2), (.int p3), (.int p4), (.int p5)] maxLocals = mkF m 0 #[.val (.int p0), .val (.int p1), .val (.int p2), .val (.int p3), .val (.int p4), .val (.int p5), .unset, .unset, .unset, .unset, .unset] [] := by first | (simp [entryFrame, mkF, argsToLocals, Value.category, maxLocals]; done) | rfl
theorem own_pd0 : parseMethodDescriptor "()V" = some ⟨[], none⟩ := by decide +kernel
theorem own_pd1 : parseMethodDescriptor "(I)V" = some ⟨[.int], none⟩ := by decide +kernel
theorem own_pd2 : parseMethodDescriptor "(I)I" = some ⟨[.int], some .int⟩ := by decide +kernel
theorem own_pd3 : parseMethodDescriptor "(IIIII)I" = some ⟨[.int, .int, .int, .int, .int], some .int⟩ := by decide +kernel
def Qown_law (Z : State) (p0 : Int32) (p1 : Int32) (p2 : Int32) (p3 : Int32) (p4 : Int32) (p5 : Int32) (h0 : Heap) (n0 : Nat) (v : Option Value) (h : Heap) (L : List Loc) : Prop := v = some (.int (1 : Int32)) ∧ Fr n0 L
set_option maxRecDepth 65536 in
set_option maxHeartbeats 40000000 in
theorem own_law (l : Launch) (Z : State) (a0 : Array Value) (hw : ∀ d ∈ tables_1, d.before a0 Z = true) (ws : List Jvm.Cond) (p0 : Int32) (p1 : Int32) (p2 : Int32) (p3 : Int32) (p4 : Int32) (p5 : Int32) (h0 : Heap) (n0 : Nat) (Z0 : n0 ≤ h0.size) :
    MetFree l x (head1 (Jvm.Cond.code x code maxLocals ret :: ws) room_1) (fun a U => a = #[(.int p0), (.int p1), (.int p2), (.int p3), (.int p4), (.int p5)] ∧ Z.Warmed39 U.vm ∧ U.heap = h0) (fun _ _ _ _ _ => True) (fun _ U o U' => ∃ v L, o = .returned v ∧ Qown_law Z p0 p1 p2 p3 p4 p5 h0 n0 v U'.heap L ∧ FrameEnd U o U' L room_1.cells room_1.slots) := by
  refine MetFree.of_bodySF (plainFor_of_name own_pn1) hisR ?_
  intro p e s m args below meth c s₁ Bd hml0 hP hK
  obtain ⟨rfl, hZ, hh⟩ := hP
  have hx := Bd.exec
  have hby := Bd.bytes
  have hml : c.maxLocals = 11 := hml0
  have hown : s.vm.findClass "com/example/taut_choreo/tautchoreo/explore/IntListGetPinLaw" = some m.cls := findClass_of_methodNamed Bd.named
  have hnm := (name_of_methodNamed Bd.named Bd.method).1
  have X0 : Stand p l e room_1 s m #[(.int p0), (.int p1), (.int p2), (.int p3), (.int p4), (.int p5)] below meth c s₁ [] 0 0 := Stand.of_body Bd
  have e0 : s₁.heap = h0 := by rw [← hh, Bd.state]; rfl
  have N0 := Fr.nil n0
  have pre0 : ∀ t, Steps p.tables e below (s₁.setTop (mkF m 0 #[.val (.int p0), .val (.int p1), .val (.int p2), .val (.int p3), .val (.int p4), .val (.int p5), .unset, .unset, .unset, .unset, .unset] [])) t → Steps p.tables e below (s₁.setTop (entryFrame m #[(.int p0), (.int p1), (.int p2), (.int p3), (.int p4), (.int p5)] maxLocals)) t := fun t k => castTop (own_ef_own_law m p0 p1 p2 p3 p4 p5) k
  obtain ⟨T2, h2, X2, e2, E2, A2, D2, -, st2⟩ := newO X0 hx hZ hown (hw _ (List.mem_of_getElem? (i := 0) rfl)) (hw _ (List.mem_of_getElem? (i := 1) rfl)) (hw _ (List.mem_of_getElem? (i := 2) rfl)) e0 (g := (mkF m 0 #[.val (.int p0), .val (.int p1), .val (.int p2), .val (.int p3), .val (.int p4), .val (.int p5), .unset, .unset, .unset, .unset, .unset] [])) rfl (hb hby at_0) (by decide) (by decide)
  obtain ⟨b2, g2⟩ : ∃ z, z = h0.size := ⟨_, rfl⟩
  rw [← g2] at A2 D2 st2
  have Ge3 : n0 ≤ b2 := Nat.le_trans Z0 (Nat.le_of_eq g2.symm)
  have Sz4 : h0.size ≤ b2 := Nat.le_trans (Keep.refl h0 []).1 (Nat.le_of_eq g2.symm)
  have Kc5 : Keep h0 h2 [] := (Keep.refl h0 []).ext E2
  have Zs6 : n0 ≤ h2.size := (Nat.le_trans Z0 E2.1)
  have F2_pages : Fld Z h2 b2 "com/example/taut_choreo/tautchoreo/explore/IntList" "pages" "[[I" .null := D2 (Or.inl (hw _ (List.mem_of_getElem? (i := 12) rfl))) (ty := (.array (.array .int))) (by decide)
  have F2_size : Fld Z h2 b2 "com/example/taut_choreo/tautchoreo/explore/IntList" "size" "I" (.int (0 : Int32)) := D2 (Or.inl (hw _ (List.mem_of_getElem? (i := 19) rfl))) (ty := .int) (by decide)
  obtain ⟨_, _, ⟨T9, L9, k9, n9⟩, -, X9, ⟨Lc9, hQ9, l9, y9, z9⟩, st9⟩ := X2.specialBack hx (y := (⟨"com/example/taut_choreo/tautchoreo/explore/IntList", "<init>", "()V"⟩ : MethodName)) rfl hown (mvT hZ (hw _ (List.mem_of_getElem? (i := 3) rfl))) (mvT hZ (hw _ (List.mem_of_getElem? (i := 4) rfl))) (mvT hZ (hw _ (List.mem_of_getElem? (i := 5) rfl))) (by decide) (backOf (W := 1) (own_init l Z a0 hw [] b2 h2 n0 Zs6 A2 F2_pages F2_size Ge3) hZ (hw _ (List.mem_of_getElem? (i := 5) rfl)) (hw _ (List.mem_of_getElem? (i := 2) rfl)) (by decide) (by decide)) (g := (mkF m 4 #[.val (.int p0), .val (.int p1), .val (.int p2), .val (.int p3), .val (.int p4), .val (.int p5), .unset, .unset, .unset, .unset, .unset] [(.ref b2), (.ref b2)])) rfl (by rw [hml]; rfl) (Steps.refl _) (a := b2) (argsL := []) (rest := [(.ref b2)]) (lenOf own_pd0 rfl) rfl (by show 2 * 0 + _ ≤ _; exact Nat.le_of_eq rfl) (hb hby at_4) (fun _ _ => ⟨rfl, e2, (by decide : 1 + 1 ≤ _), (by decide : 2 + 1 ≤ _)⟩)
  dsimp only [Pt.U, Pt.locs, Pt.cells, Pt.slots] at X9 l9 y9 z9 st9 hQ9
  subst l9 y9 z9
  obtain ⟨p_o_9, k_p_9, rfl, Nq9, sz9_p_o, K9, Pf9_0, Pf9_1, Pf9_2, Pf9_3, Pf9_4⟩ := hQ9
  have N10 := Fr.app N0 Nq9
  have Ne11 : b2 ≠ p_o_9 := Nat.ne_of_lt (Nat.lt_of_lt_of_le A2.lt sz9_p_o)
  have Ge12 : n0 ≤ p_o_9 := Nat.le_trans Zs6 sz9_p_o
  have Sz13 : h0.size ≤ p_o_9 := Nat.le_trans Kc5.1 sz9_p_o
  have Kc14 : Keep h0 T9.heap [] := Kc5.trans K9 (allS (Or.inr Sz4) all0)
  have Zs15 : n0 ≤ T9.heap.size := Nat.le_trans Zs6 K9.1
  obtain ⟨cq20, kq20, q20a, q20b, q20c⟩ := isOf hZ rfl Pf9_0
  obtain ⟨_, _, ⟨T20, L20, k20, n20⟩, -, X20, ⟨Lc20, hQ20, l20, y20, z20⟩, st20⟩ := X9.virtualBack hx (y := (⟨"com/example/taut_choreo/tautchoreo/explore/IntList", "add", "(I)V"⟩ : MethodName)) (z := (⟨"com/example/taut_choreo/tautchoreo/explore/IntList", "add", "(I)V"⟩ : MethodName)) hown (mvT hZ (hw _ (List.mem_of_getElem? (i := 13) rfl))) (mvT hZ (hw _ (List.mem_of_getElem? (i := 14) rfl))) (notFace_of_selects (args := #[]) (mvT hZ (hw _ (List.mem_of_getElem? (i := 16) rfl)))) (mvT hZ (hw _ (List.mem_of_getElem? (i := 16) rfl))) (mvT hZ (hw _ (List.mem_of_getElem? (i := 15) rfl))) (by decide) (backOf (W := 0) (own_add0 l Z a0 hw [] b2 p0 p_o_9 k_p_9 T9.heap n0 Zs15 Pf9_0 Pf9_1 Pf9_2 Pf9_3 Ge3 Ge12 (Ne.symm Ne11) Pf9_4) hZ (hw _ (List.mem_of_getElem? (i := 17) rfl)) (hw _ (List.mem_of_getElem? (i := 2) rfl)) (by decide) (by decide)) q20a q20c (g := (mkF m 12 #[.val (.int p0), .val (.int p1), .val (.int p2), .val (.int p3), .val (.int p4), .val (.int p5), .val (.ref b2), .unset, .unset, .unset, .unset] [(.int p0), (.ref b2)])) rfl (by rw [hml]; rfl) (Steps.refl _) (argsL := [(.int p0)]) (rest := []) (lenOf own_pd1 rfl) rfl (by show 2 * 0 + _ ≤ _; exact Nat.le_of_eq rfl) (hb hby at_12) (fun _ _ => ⟨rfl, rfl, (by decide : 2 + 1 ≤ _), (by decide : 3 + 4096 ≤ _)⟩)
  dsimp only [Pt.U, Pt.locs, Pt.cells, Pt.slots] at X20 l20 y20 z20 st20 hQ20
  subst l20 y20 z20
  obtain ⟨g_o_20, k_g_20, rfl, Nq20, sz20_g_o, K20, Pf20_0, Pf20_1, Pf20_2, Pf20_3, Pf20_4⟩ := hQ20
  have N21 := Fr.app N10 Nq20
  have Ne22 : b2 ≠ g_o_20 := Nat.ne_of_lt (Nat.lt_of_lt_of_le Pf9_0.lt sz20_g_o)
  have Ne23 : p_o_9 ≠ g_o_20 := Nat.ne_of_lt (Nat.lt_of_lt_of_le Pf9_3.lt sz20_g_o)
  have Ge24 : n0 ≤ g_o_20 := Nat.le_trans Zs15 sz20_g_o
  have Sz25 : h0.size ≤ g_o_20 := Nat.le_trans Kc14.1 sz20_g_o
  have Kc26 : Keep h0 T20.heap [] := Kc14.trans K20 (allS (Or.inr Sz4) (allS (Or.inr Sz13) all0))
  have Zs27 : n0 ≤ T20.heap.size := Nat.le_trans Zs15 K20.1
  obtain ⟨cq31, kq31, q31a, q31b, q31c⟩ := isOf hZ rfl Pf20_0
  obtain ⟨_, _, ⟨T31, L31, k31, n31⟩, -, X31, ⟨Lc31, hQ31, l31, y31, z31⟩, st31⟩ := X20.virtualBack hx (y := (⟨"com/example/taut_choreo/tautchoreo/explore/IntList", "add", "(I)V"⟩ : MethodName)) (z := (⟨"com/example/taut_choreo/tautchoreo/explore/IntList", "add", "(I)V"⟩ : MethodName)) hown (mvT hZ (hw _ (List.mem_of_getElem? (i := 13) rfl))) (mvT hZ (hw _ (List.mem_of_getElem? (i := 14) rfl))) (notFace_of_selects (args := #[]) (mvT hZ (hw _ (List.mem_of_getElem? (i := 16) rfl)))) (mvT hZ (hw _ (List.mem_of_getElem? (i := 16) rfl))) (mvT hZ (hw _ (List.mem_of_getElem? (i := 15) rfl))) (by decide) (backOf (W := 0) (own_add1 l Z a0 hw [] b2 p1 p_o_9 k_p_9 g_o_20 k_g_20 (.int p0) (.int (0 : Int32)) (.int (0 : Int32)) (.int (0 : Int32)) T20.heap n0 Zs27 Pf20_0 Pf20_1 Pf20_2 Pf20_3 Pf20_4 Ge3 Ge24 (Ne.symm Ne11) (Ne.symm Ne22) Ne23) hZ (hw _ (List.mem_of_getElem? (i := 17) rfl)) (hw _ (List.mem_of_getElem? (i := 2) rfl)) (by decide) (by decide)) q31a q31c (g := (mkF m 18 #[.val (.int p0), .val (.int p1), .val (.int p2), .val (.int p3), .val (.int p4), .val (.int p5), .val (.ref b2), .unset, .unset, .unset, .unset] [(.int p1), (.ref b2)])) rfl (by rw [hml]; rfl) (Steps.refl _) (argsL := [(.int p1)]) (rest := []) (lenOf own_pd1 rfl) rfl (by show 2 * 0 + _ ≤ _; exact Nat.le_of_eq rfl) (hb hby at_18) (fun _ _ => ⟨rfl, rfl, (by decide : 3 + 0 ≤ _), (by decide : 4099 + 0 ≤ _)⟩)
  dsimp only [Pt.U, Pt.locs, Pt.cells, Pt.slots] at X31 l31 y31 z31 st31 hQ31
  subst l31 y31 z31
  obtain ⟨rfl, Nq31, K31, Pf31_0, Pf31_1, Pf31_2, Pf31_3⟩ := hQ31
  have N32 := Fr.app N21 Nq31
  have Kc33 : Keep h0 T31.heap [] := Kc26.trans K31 (allS (Or.inr Sz4) (allS (Or.inr Sz25) all0))
  have Zs34 : n0 ≤ T31.heap.size := Nat.le_trans Zs27 K31.1
  have Fq39 : Arv Z T31.heap p_o_9 k_p_9 (.array .int) (1 : Int32) [(.ref g_o_20)] .null := (Pf20_3.keep K31 (ninS (Ne.symm Ne11) (ninS Ne23 nin0)))
  obtain ⟨cq38, kq38, q38a, q38b, q38c⟩ := isOf hZ rfl Pf31_0
  obtain ⟨_, _, ⟨T38, L38, k38, n38⟩, -, X38, ⟨Lc38, hQ38, l38, y38, z38⟩, st38⟩ := X31.virtualBack hx (y := (⟨"com/example/taut_choreo/tautchoreo/explore/IntList", "add", "(I)V"⟩ : MethodName)) (z := (⟨"com/example/taut_choreo/tautchoreo/explore/IntList", "add", "(I)V"⟩ : MethodName)) hown (mvT hZ (hw _ (List.mem_of_getElem? (i := 13) rfl))) (mvT hZ (hw _ (List.mem_of_getElem? (i := 14) rfl))) (notFace_of_selects (args := #[]) (mvT hZ (hw _ (List.mem_of_getElem? (i := 16) rfl)))) (mvT hZ (hw _ (List.mem_of_getElem? (i := 16) rfl))) (mvT hZ (hw _ (List.mem_of_getElem? (i := 15) rfl))) (by decide) (backOf (W := 0) (own_add2 l Z a0 hw [] b2 p2 p_o_9 k_p_9 g_o_20 k_g_20 (.int p0) (.int p1) (.int (0 : Int32)) (.int (0 : Int32)) T31.heap n0 Zs34 Pf31_0 Pf31_1 Pf31_2 Fq39 Pf31_3 Ge3 Ge24 (Ne.symm Ne11) (Ne.symm Ne22) Ne23) hZ (hw _ (List.mem_of_getElem? (i := 17) rfl)) (hw _ (List.mem_of_getElem? (i := 2) rfl)) (by decide) (by decide)) q38a q38c (g := (mkF m 24 #[.val (.int p0), .val (.int p1), .val (.int p2), .val (.int p3), .val (.int p4), .val (.int p5), .val (.ref b2), .unset, .unset, .unset, .unset] [(.int p2), (.ref b2)])) rfl (by rw [hml]; rfl) (Steps.refl _) (argsL := [(.int p2)]) (rest := []) (lenOf own_pd1 rfl) rfl (by show 2 * 0 + _ ≤ _; exact Nat.le_of_eq rfl) (hb hby at_24) (fun _ _ => ⟨rfl, rfl, (by decide : 3 + 0 ≤ _), (by decide : 4099 + 0 ≤ _)⟩)
  dsimp only [Pt.U, Pt.locs, Pt.cells, Pt.slots] at X38 l38 y38 z38 st38 hQ38
  subst l38 y38 z38
  obtain ⟨rfl, Nq38, K38, Pf38_0, Pf38_1, Pf38_2, Pf38_3⟩ := hQ38
  have N40 := Fr.app N32 Nq38
  have Kc41 : Keep h0 T38.heap [] := Kc33.trans K38 (allS (Or.inr Sz4) (allS (Or.inr Sz25) all0))
  have Zs42 : n0 ≤ T38.heap.size := Nat.le_trans Zs34 K38.1
  have Fq47 : Arv Z T38.heap p_o_9 k_p_9 (.array .int) (1 : Int32) [(.ref g_o_20)] .null := (Fq39.keep K38 (ninS (Ne.symm Ne11) (ninS Ne23 nin0)))
  obtain ⟨cq46, kq46, q46a, q46b, q46c⟩ := isOf hZ rfl Pf38_0
  obtain ⟨_, _, ⟨T46, L46, k46, n46⟩, -, X46, ⟨Lc46, hQ46, l46, y46, z46⟩, st46⟩ := X38.virtualBack hx (y := (⟨"com/example/taut_choreo/tautchoreo/explore/IntList", "add", "(I)V"⟩ : MethodName)) (z := (⟨"com/example/taut_choreo/tautchoreo/explore/IntList", "add", "(I)V"⟩ : MethodName)) hown (mvT hZ (hw _ (List.mem_of_getElem? (i := 13) rfl))) (mvT hZ (hw _ (List.mem_of_getElem? (i := 14) rfl))) (notFace_of_selects (args := #[]) (mvT hZ (hw _ (List.mem_of_getElem? (i := 16) rfl)))) (mvT hZ (hw _ (List.mem_of_getElem? (i := 16) rfl))) (mvT hZ (hw _ (List.mem_of_getElem? (i := 15) rfl))) (by decide) (backOf (W := 0) (own_add3 l Z a0 hw [] b2 p3 p_o_9 k_p_9 g_o_20 k_g_20 (.int p0) (.int p1) (.int p2) (.int (0 : Int32)) T38.heap n0 Zs42 Pf38_0 Pf38_1 Pf38_2 Fq47 Pf38_3 Ge3 Ge24 (Ne.symm Ne11) (Ne.symm Ne22) Ne23) hZ (hw _ (List.mem_of_getElem? (i := 17) rfl)) (hw _ (List.mem_of_getElem? (i := 2) rfl)) (by decide) (by decide)) q46a q46c (g := (mkF m 30 #[.val (.int p0), .val (.int p1), .val (.int p2), .val (.int p3), .val (.int p4), .val (.int p5), .val (.ref b2), .unset, .unset, .unset, .unset] [(.int p3), (.ref b2)])) rfl (by rw [hml]; rfl) (Steps.refl _) (argsL := [(.int p3)]) (rest := []) (lenOf own_pd1 rfl) rfl (by show 2 * 0 + _ ≤ _; exact Nat.le_of_eq rfl) (hb hby at_30) (fun _ _ => ⟨rfl, rfl, (by decide : 3 + 0 ≤ _), (by decide : 4099 + 0 ≤ _)⟩)
  dsimp only [Pt.U, Pt.locs, Pt.cells, Pt.slots] at X46 l46 y46 z46 st46 hQ46
  subst l46 y46 z46
  obtain ⟨rfl, Nq46, K46, Pf46_0, Pf46_1, Pf46_2, Pf46_3⟩ := hQ46
  have N48 := Fr.app N40 Nq46
  have Kc49 : Keep h0 T46.heap [] := Kc41.trans K46 (allS (Or.inr Sz4) (allS (Or.inr Sz25) all0))
  have Zs50 : n0 ≤ T46.heap.size := Nat.le_trans Zs42 K46.1
  have Fq63 : Arv Z T46.heap p_o_9 k_p_9 (.array .int) (1 : Int32) [(.ref g_o_20)] .null := (Fq47.keep K46 (ninS (Ne.symm Ne11) (ninS Ne23 nin0)))
  obtain ⟨cq62, kq62, q62a, q62b, q62c⟩ := isOf hZ rfl Pf46_0
  obtain ⟨_, _, ⟨T62, L62, k62, n62⟩, -, X62, ⟨Lc62, hQ62, l62, y62, z62⟩, st62⟩ := X46.virtualBack hx (y := (⟨"com/example/taut_choreo/tautchoreo/explore/IntList", "get", "(I)I"⟩ : MethodName)) (z := (⟨"com/example/taut_choreo/tautchoreo/explore/IntList", "get", "(I)I"⟩ : MethodName)) hown (mvT hZ (hw _ (List.mem_of_getElem? (i := 22) rfl))) (mvT hZ (hw _ (List.mem_of_getElem? (i := 23) rfl))) (notFace_of_selects (args := #[]) (mvT hZ (hw _ (List.mem_of_getElem? (i := 25) rfl)))) (mvT hZ (hw _ (List.mem_of_getElem? (i := 25) rfl))) (mvT hZ (hw _ (List.mem_of_getElem? (i := 24) rfl))) (by decide) (backOf (W := 0) (own_get l Z a0 hw [] b2 (p4 &&& (3 : Int32)) p_o_9 k_p_9 g_o_20 k_g_20 p0 p1 p2 p3 T46.heap n0 Zs50 Pf46_1 Fq63 Pf46_3 (own_and3 _)) hZ (hw _ (List.mem_of_getElem? (i := 26) rfl)) (hw _ (List.mem_of_getElem? (i := 2) rfl)) (by decide) (by decide)) q62a q62c (g := (mkF m 49 #[.val (.int p0), .val (.int p1), .val (.int p2), .val (.int p3), .val (.int p4), .val (.int p5), .val (.ref b2), .val (.int (p4 &&& (3 : Int32))), .val (.int (p5 &&& (3 : Int32))), .unset, .unset] [(.int (p4 &&& (3 : Int32))), (.ref b2)])) rfl (by rw [hml]; rfl) (Steps.refl _) (argsL := [(.int (p4 &&& (3 : Int32)))]) (rest := []) (lenOf own_pd2 rfl) rfl (by show 2 * 0 + _ ≤ _; exact Nat.le_of_eq rfl) (hb hby at_49) (fun _ _ => ⟨rfl, rfl, (by decide : 3 + 0 ≤ _), (by decide : 4099 + 0 ≤ _)⟩)
  dsimp only [Pt.U, Pt.locs, Pt.cells, Pt.slots] at X62 l62 y62 z62 st62 hQ62
  subst l62 y62 z62
  obtain ⟨rfl, Nq62, eh62⟩ := hQ62
  have N64 := Fr.app N48 Nq62
  obtain ⟨cq69, kq69, q69a, q69b, q69c⟩ := isOf hZ eh62 Pf46_0
  obtain ⟨_, _, ⟨T69, L69, k69, n69⟩, -, X69, ⟨Lc69, hQ69, l69, y69, z69⟩, st69⟩ := X62.virtualBack hx (y := (⟨"com/example/taut_choreo/tautchoreo/explore/IntList", "get", "(I)I"⟩ : MethodName)) (z := (⟨"com/example/taut_choreo/tautchoreo/explore/IntList", "get", "(I)I"⟩ : MethodName)) hown (mvT hZ (hw _ (List.mem_of_getElem? (i := 22) rfl))) (mvT hZ (hw _ (List.mem_of_getElem? (i := 23) rfl))) (notFace_of_selects (args := #[]) (mvT hZ (hw _ (List.mem_of_getElem? (i := 25) rfl)))) (mvT hZ (hw _ (List.mem_of_getElem? (i := 25) rfl))) (mvT hZ (hw _ (List.mem_of_getElem? (i := 24) rfl))) (by decide) (backOf (W := 0) (own_get l Z a0 hw [] b2 (p5 &&& (3 : Int32)) p_o_9 k_p_9 g_o_20 k_g_20 p0 p1 p2 p3 T46.heap n0 Zs50 Pf46_1 Fq63 Pf46_3 (own_and3 _)) hZ (hw _ (List.mem_of_getElem? (i := 26) rfl)) (hw _ (List.mem_of_getElem? (i := 2) rfl)) (by decide) (by decide)) q69a q69c (g := (mkF m 58 #[.val (.int p0), .val (.int p1), .val (.int p2), .val (.int p3), .val (.int p4), .val (.int p5), .val (.ref b2), .val (.int (p4 &&& (3 : Int32))), .val (.int (p5 &&& (3 : Int32))), .val (.int (own_sel p0 p1 p2 p3 (p4 &&& (3 : Int32)))), .unset] [(.int (p5 &&& (3 : Int32))), (.ref b2)])) rfl (by rw [hml]; rfl) (Steps.refl _) (argsL := [(.int (p5 &&& (3 : Int32)))]) (rest := []) (lenOf own_pd2 rfl) rfl (by show 2 * 0 + _ ≤ _; exact Nat.le_of_eq rfl) (hb hby at_58) (fun _ _ => ⟨rfl, eh62, (by decide : 3 + 0 ≤ _), (by decide : 4099 + 0 ≤ _)⟩)
  dsimp only [Pt.U, Pt.locs, Pt.cells, Pt.slots] at X69 l69 y69 z69 st69 hQ69
  subst l69 y69 z69
  obtain ⟨rfl, Nq69, eh69⟩ := hQ69
  have N70 := Fr.app N64 Nq69
  obtain ⟨_, _, ⟨T79, L79, k79, n79⟩, -, X79, ⟨Lc79, hQ79, l79, y79, z79⟩, st79⟩ := Jvm.LawKit.callS X69 hx (y := (⟨"com/example/taut_choreo/tautchoreo/explore/IntListGetPinLaw", "pick", "(IIIII)I"⟩ : MethodName)) hown (mvT hZ (hw _ (List.mem_of_getElem? (i := 27) rfl))) (mvT hZ (hw _ (List.mem_of_getElem? (i := 28) rfl))) (mvT hZ (hw _ (List.mem_of_getElem? (i := 29) rfl))) (mvT hZ (hw _ (List.mem_of_getElem? (i := 30) rfl))) (by decide) (backOf (W := 1) (own_pick l Z a0 hw [] p0 p1 p2 p3 (p4 &&& (3 : Int32)) T46.heap n0 Zs50 ) hZ (hw _ (List.mem_of_getElem? (i := 30) rfl)) (hw _ (List.mem_of_getElem? (i := 29) rfl)) (by decide) (by decide)) (g := (mkF m 71 #[.val (.int p0), .val (.int p1), .val (.int p2), .val (.int p3), .val (.int p4), .val (.int p5), .val (.ref b2), .val (.int (p4 &&& (3 : Int32))), .val (.int (p5 &&& (3 : Int32))), .val (.int (own_sel p0 p1 p2 p3 (p4 &&& (3 : Int32)))), .val (.int (own_sel p0 p1 p2 p3 (p5 &&& (3 : Int32))))] [(.int (p4 &&& (3 : Int32))), (.int p3), (.int p2), (.int p1), (.int p0), (.int (own_sel p0 p1 p2 p3 (p4 &&& (3 : Int32))))])) rfl (by rw [hml]; rfl) (argsL := [(.int p0), (.int p1), (.int p2), (.int p3), (.int (p4 &&& (3 : Int32)))]) (rest := [(.int (own_sel p0 p1 p2 p3 (p4 &&& (3 : Int32))))]) (lenOf own_pd3 rfl) rfl (by show 2 * 0 + _ ≤ _; exact Nat.le_of_eq rfl) (hb hby at_71) (fun _ _ => ⟨rfl, eh69, (by decide : 3 + 0 ≤ _), (by decide : 4099 + 0 ≤ _)⟩)
  dsimp only [Pt.U, Pt.locs, Pt.cells, Pt.slots] at X79 l79 y79 z79 st79 hQ79
  subst l79 y79 z79
  obtain ⟨rfl, Nq79, eh79⟩ := hQ79
  have N80 := Fr.app N70 Nq79
  obtain ⟨_, _, ⟨T89, L89, k89, n89⟩, -, X89, ⟨Lc89, hQ89, l89, y89, z89⟩, st89⟩ := Jvm.LawKit.callS X79 hx (y := (⟨"com/example/taut_choreo/tautchoreo/explore/IntListGetPinLaw", "pick", "(IIIII)I"⟩ : MethodName)) hown (mvT hZ (hw _ (List.mem_of_getElem? (i := 27) rfl))) (mvT hZ (hw _ (List.mem_of_getElem? (i := 28) rfl))) (mvT hZ (hw _ (List.mem_of_getElem? (i := 29) rfl))) (mvT hZ (hw _ (List.mem_of_getElem? (i := 30) rfl))) (by decide) (backOf (W := 1) (own_pick l Z a0 hw [] p0 p1 p2 p3 (p5 &&& (3 : Int32)) T46.heap n0 Zs50 ) hZ (hw _ (List.mem_of_getElem? (i := 30) rfl)) (hw _ (List.mem_of_getElem? (i := 29) rfl)) (by decide) (by decide)) (g := (mkF m 85 #[.val (.int p0), .val (.int p1), .val (.int p2), .val (.int p3), .val (.int p4), .val (.int p5), .val (.ref b2), .val (.int (p4 &&& (3 : Int32))), .val (.int (p5 &&& (3 : Int32))), .val (.int (own_sel p0 p1 p2 p3 (p4 &&& (3 : Int32)))), .val (.int (own_sel p0 p1 p2 p3 (p5 &&& (3 : Int32))))] [(.int (p5 &&& (3 : Int32))), (.int p3), (.int p2), (.int p1), (.int p0), (.int (own_sel p0 p1 p2 p3 (p5 &&& (3 : Int32))))])) rfl (by rw [hml]; rfl) (argsL := [(.int p0), (.int p1), (.int p2), (.int p3), (.int (p5 &&& (3 : Int32)))]) (rest := [(.int (own_sel p0 p1 p2 p3 (p5 &&& (3 : Int32))))]) (lenOf own_pd3 rfl) rfl (by show 2 * 0 + _ ≤ _; exact Nat.le_of_eq rfl) (hb hby at_85) (fun _ _ => ⟨rfl, eh79, (by decide : 3 + 0 ≤ _), (by decide : 4099 + 0 ≤ _)⟩)
  dsimp only [Pt.U, Pt.locs, Pt.cells, Pt.slots] at X89 l89 y89 z89 st89 hQ89
  subst l89 y89 z89
  obtain ⟨rfl, Nq89, eh89⟩ := hQ89
  have N90 := Fr.app N80 Nq89
  obtain ⟨fs, hr, hrun, hended, hW, hsame⟩ := X89.leave (v := some (.int (1 : Int32))) (fun h => by rw [Bd.returns] at h; cases h) (hlocks := BodyLoose.notSynchronized Bd)
  refine ⟨_, _, pre0 _ ?_, hrun, hended, _, _, rfl, ?_, ⟨_, rfl⟩, hW, hsame.mono (by decide) (by decide)⟩
  · show Steps p.tables e below (s₁.setTop (mkF m 0 #[.val (.int p0), .val (.int p1), .val (.int p2), .val (.int p3), .val (.int p4), .val (.int p5), .unset, .unset, .unset, .unset, .unset] [])) _
    refine st2 _ ?_
    show Steps p.tables e below (T2.setTop (mkF m 3 #[.val (.int p0), .val (.int p1), .val (.int p2), .val (.int p3), .val (.int p4), .val (.int p5), .unset, .unset, .unset, .unset, .unset] [(.ref b2)])) _
    refine XS.dup X2.here hx rfl (hb hby at_3) rfl rfl ?_
    show Steps p.tables e below (T2.setTop (mkF m 4 #[.val (.int p0), .val (.int p1), .val (.int p2), .val (.int p3), .val (.int p4), .val (.int p5), .unset, .unset, .unset, .unset, .unset] [(.ref b2), (.ref b2)])) _
    refine st9.trans ?_
    show Steps p.tables e below (T9.setTop (mkF m 7 #[.val (.int p0), .val (.int p1), .val (.int p2), .val (.int p3), .val (.int p4), .val (.int p5), .unset, .unset, .unset, .unset, .unset] [(.ref b2)])) _
    refine XS.astore X9.here hx rfl (hb hby at_7) rfl rfl (l' := #[.val (.int p0), .val (.int p1), .val (.int p2), .val (.int p3), .val (.int p4), .val (.int p5), .val (.ref b2), .unset, .unset, .unset, .unset]) rfl ?_
    show Steps p.tables e below (T9.setTop (mkF m 9 #[.val (.int p0), .val (.int p1), .val (.int p2), .val (.int p3), .val (.int p4), .val (.int p5), .val (.ref b2), .unset, .unset, .unset, .unset] [])) _
    refine XS.aload X9.here hx rfl (hb hby at_9) rfl rfl ?_
    show Steps p.tables e below (T9.setTop (mkF m 11 #[.val (.int p0), .val (.int p1), .val (.int p2), .val (.int p3), .val (.int p4), .val (.int p5), .val (.ref b2), .unset, .unset, .unset, .unset] [(.ref b2)])) _
    refine XS.iloadN X9.here hx rfl (hb hby at_11) rfl ?_
    show Steps p.tables e below (T9.setTop (mkF m 12 #[.val (.int p0), .val (.int p1), .val (.int p2), .val (.int p3), .val (.int p4), .val (.int p5), .val (.ref b2), .unset, .unset, .unset, .unset] [(.int p0), (.ref b2)])) _
    refine st20.trans ?_
    show Steps p.tables e below (T20.setTop (mkF m 15 #[.val (.int p0), .val (.int p1), .val (.int p2), .val (.int p3), .val (.int p4), .val (.int p5), .val (.ref b2), .unset, .unset, .unset, .unset] [])) _
    refine XS.aload X20.here hx rfl (hb hby at_15) rfl rfl ?_
    show Steps p.tables e below (T20.setTop (mkF m 17 #[.val (.int p0), .val (.int p1), .val (.int p2), .val (.int p3), .val (.int p4), .val (.int p5), .val (.ref b2), .unset, .unset, .unset, .unset] [(.ref b2)])) _
    refine XS.iloadN X20.here hx rfl (hb hby at_17) rfl ?_
    show Steps p.tables e below (T20.setTop (mkF m 18 #[.val (.int p0), .val (.int p1), .val (.int p2), .val (.int p3), .val (.int p4), .val (.int p5), .val (.ref b2), .unset, .unset, .unset, .unset] [(.int p1), (.ref b2)])) _
    refine st31.trans ?_
    show Steps p.tables e below (T31.setTop (mkF m 21 #[.val (.int p0), .val (.int p1), .val (.int p2), .val (.int p3), .val (.int p4), .val (.int p5), .val (.ref b2), .unset, .unset, .unset, .unset] [])) _
    refine XS.aload X31.here hx rfl (hb hby at_21) rfl rfl ?_
    show Steps p.tables e below (T31.setTop (mkF m 23 #[.val (.int p0), .val (.int p1), .val (.int p2), .val (.int p3), .val (.int p4), .val (.int p5), .val (.ref b2), .unset, .unset, .unset, .unset] [(.ref b2)])) _
    refine XS.iloadN X31.here hx rfl (hb hby at_23) rfl ?_
    show Steps p.tables e below (T31.setTop (mkF m 24 #[.val (.int p0), .val (.int p1), .val (.int p2), .val (.int p3), .val (.int p4), .val (.int p5), .val (.ref b2), .unset, .unset, .unset, .unset] [(.int p2), (.ref b2)])) _
    refine st38.trans ?_
    show Steps p.tables e below (T38.setTop (mkF m 27 #[.val (.int p0), .val (.int p1), .val (.int p2), .val (.int p3), .val (.int p4), .val (.int p5), .val (.ref b2), .unset, .unset, .unset, .unset] [])) _
    refine XS.aload X38.here hx rfl (hb hby at_27) rfl rfl ?_
    show Steps p.tables e below (T38.setTop (mkF m 29 #[.val (.int p0), .val (.int p1), .val (.int p2), .val (.int p3), .val (.int p4), .val (.int p5), .val (.ref b2), .unset, .unset, .unset, .unset] [(.ref b2)])) _
    refine XS.iloadN X38.here hx rfl (hb hby at_29) rfl ?_
    show Steps p.tables e below (T38.setTop (mkF m 30 #[.val (.int p0), .val (.int p1), .val (.int p2), .val (.int p3), .val (.int p4), .val (.int p5), .val (.ref b2), .unset, .unset, .unset, .unset] [(.int p3), (.ref b2)])) _
    refine st46.trans ?_
    show Steps p.tables e below (T46.setTop (mkF m 33 #[.val (.int p0), .val (.int p1), .val (.int p2), .val (.int p3), .val (.int p4), .val (.int p5), .val (.ref b2), .unset, .unset, .unset, .unset] [])) _
    refine XS.iload X46.here hx rfl (hb hby at_33) rfl ?_
    show Steps p.tables e below (T46.setTop (mkF m 35 #[.val (.int p0), .val (.int p1), .val (.int p2), .val (.int p3), .val (.int p4), .val (.int p5), .val (.ref b2), .unset, .unset, .unset, .unset] [(.int p4)])) _
    refine XS.iconst X46.here hx rfl (hb hby at_35) ?_
    show Steps p.tables e below (T46.setTop (mkF m 36 #[.val (.int p0), .val (.int p1), .val (.int p2), .val (.int p3), .val (.int p4), .val (.int p5), .val (.ref b2), .unset, .unset, .unset, .unset] [(.int (3 : Int32)), (.int p4)])) _
    refine XS.iand X46.here hx rfl (hb hby at_36) rfl ?_
    show Steps p.tables e below (T46.setTop (mkF m 37 #[.val (.int p0), .val (.int p1), .val (.int p2), .val (.int p3), .val (.int p4), .val (.int p5), .val (.ref b2), .unset, .unset, .unset, .unset] [(.int (p4 &&& (3 : Int32)))])) _
    refine XS.istore X46.here hx rfl (hb hby at_37) rfl (l' := #[.val (.int p0), .val (.int p1), .val (.int p2), .val (.int p3), .val (.int p4), .val (.int p5), .val (.ref b2), .val (.int (p4 &&& (3 : Int32))), .unset, .unset, .unset]) rfl ?_
    show Steps p.tables e below (T46.setTop (mkF m 39 #[.val (.int p0), .val (.int p1), .val (.int p2), .val (.int p3), .val (.int p4), .val (.int p5), .val (.ref b2), .val (.int (p4 &&& (3 : Int32))), .unset, .unset, .unset] [])) _
    refine XS.iload X46.here hx rfl (hb hby at_39) rfl ?_
    show Steps p.tables e below (T46.setTop (mkF m 41 #[.val (.int p0), .val (.int p1), .val (.int p2), .val (.int p3), .val (.int p4), .val (.int p5), .val (.ref b2), .val (.int (p4 &&& (3 : Int32))), .unset, .unset, .unset] [(.int p5)])) _
    refine XS.iconst X46.here hx rfl (hb hby at_41) ?_
    show Steps p.tables e below (T46.setTop (mkF m 42 #[.val (.int p0), .val (.int p1), .val (.int p2), .val (.int p3), .val (.int p4), .val (.int p5), .val (.ref b2), .val (.int (p4 &&& (3 : Int32))), .unset, .unset, .unset] [(.int (3 : Int32)), (.int p5)])) _
    refine XS.iand X46.here hx rfl (hb hby at_42) rfl ?_
    show Steps p.tables e below (T46.setTop (mkF m 43 #[.val (.int p0), .val (.int p1), .val (.int p2), .val (.int p3), .val (.int p4), .val (.int p5), .val (.ref b2), .val (.int (p4 &&& (3 : Int32))), .unset, .unset, .unset] [(.int (p5 &&& (3 : Int32)))])) _
    refine XS.istore X46.here hx rfl (hb hby at_43) rfl (l' := #[.val (.int p0), .val (.int p1), .val (.int p2), .val (.int p3), .val (.int p4), .val (.int p5), .val (.ref b2), .val (.int (p4 &&& (3 : Int32))), .val (.int (p5 &&& (3 : Int32))), .unset, .unset]) rfl ?_
    show Steps p.tables e below (T46.setTop (mkF m 45 #[.val (.int p0), .val (.int p1), .val (.int p2), .val (.int p3), .val (.int p4), .val (.int p5), .val (.ref b2), .val (.int (p4 &&& (3 : Int32))), .val (.int (p5 &&& (3 : Int32))), .unset, .unset] [])) _
    refine XS.aload X46.here hx rfl (hb hby at_45) rfl rfl ?_
    show Steps p.tables e below (T46.setTop (mkF m 47 #[.val (.int p0), .val (.int p1), .val (.int p2), .val (.int p3), .val (.int p4), .val (.int p5), .val (.ref b2), .val (.int (p4 &&& (3 : Int32))), .val (.int (p5 &&& (3 : Int32))), .unset, .unset] [(.ref b2)])) _
    refine XS.iload X46.here hx rfl (hb hby at_47) rfl ?_
    show Steps p.tables e below (T46.setTop (mkF m 49 #[.val (.int p0), .val (.int p1), .val (.int p2), .val (.int p3), .val (.int p4), .val (.int p5), .val (.ref b2), .val (.int (p4 &&& (3 : Int32))), .val (.int (p5 &&& (3 : Int32))), .unset, .unset] [(.int (p4 &&& (3 : Int32))), (.ref b2)])) _
    refine st62.trans ?_
    show Steps p.tables e below (T62.setTop (mkF m 52 #[.val (.int p0), .val (.int p1), .val (.int p2), .val (.int p3), .val (.int p4), .val (.int p5), .val (.ref b2), .val (.int (p4 &&& (3 : Int32))), .val (.int (p5 &&& (3 : Int32))), .unset, .unset] [(.int (own_sel p0 p1 p2 p3 (p4 &&& (3 : Int32))))])) _
    refine XS.istore X62.here hx rfl (hb hby at_52) rfl (l' := #[.val (.int p0), .val (.int p1), .val (.int p2), .val (.int p3), .val (.int p4), .val (.int p5), .val (.ref b2), .val (.int (p4 &&& (3 : Int32))), .val (.int (p5 &&& (3 : Int32))), .val (.int (own_sel p0 p1 p2 p3 (p4 &&& (3 : Int32)))), .unset]) rfl ?_
    show Steps p.tables e below (T62.setTop (mkF m 54 #[.val (.int p0), .val (.int p1), .val (.int p2), .val (.int p3), .val (.int p4), .val (.int p5), .val (.ref b2), .val (.int (p4 &&& (3 : Int32))), .val (.int (p5 &&& (3 : Int32))), .val (.int (own_sel p0 p1 p2 p3 (p4 &&& (3 : Int32)))), .unset] [])) _
    refine XS.aload X62.here hx rfl (hb hby at_54) rfl rfl ?_
    show Steps p.tables e below (T62.setTop (mkF m 56 #[.val (.int p0), .val (.int p1), .val (.int p2), .val (.int p3), .val (.int p4), .val (.int p5), .val (.ref b2), .val (.int (p4 &&& (3 : Int32))), .val (.int (p5 &&& (3 : Int32))), .val (.int (own_sel p0 p1 p2 p3 (p4 &&& (3 : Int32)))), .unset] [(.ref b2)])) _
    refine XS.iload X62.here hx rfl (hb hby at_56) rfl ?_
    show Steps p.tables e below (T62.setTop (mkF m 58 #[.val (.int p0), .val (.int p1), .val (.int p2), .val (.int p3), .val (.int p4), .val (.int p5), .val (.ref b2), .val (.int (p4 &&& (3 : Int32))), .val (.int (p5 &&& (3 : Int32))), .val (.int (own_sel p0 p1 p2 p3 (p4 &&& (3 : Int32)))), .unset] [(.int (p5 &&& (3 : Int32))), (.ref b2)])) _
    refine st69.trans ?_
    show Steps p.tables e below (T69.setTop (mkF m 61 #[.val (.int p0), .val (.int p1), .val (.int p2), .val (.int p3), .val (.int p4), .val (.int p5), .val (.ref b2), .val (.int (p4 &&& (3 : Int32))), .val (.int (p5 &&& (3 : Int32))), .val (.int (own_sel p0 p1 p2 p3 (p4 &&& (3 : Int32)))), .unset] [(.int (own_sel p0 p1 p2 p3 (p5 &&& (3 : Int32))))])) _
    refine XS.istore X69.here hx rfl (hb hby at_61) rfl (l' := #[.val (.int p0), .val (.int p1), .val (.int p2), .val (.int p3), .val (.int p4), .val (.int p5), .val (.ref b2), .val (.int (p4 &&& (3 : Int32))), .val (.int (p5 &&& (3 : Int32))), .val (.int (own_sel p0 p1 p2 p3 (p4 &&& (3 : Int32)))), .val (.int (own_sel p0 p1 p2 p3 (p5 &&& (3 : Int32))))]) rfl ?_
    show Steps p.tables e below (T69.setTop (mkF m 63 #[.val (.int p0), .val (.int p1), .val (.int p2), .val (.int p3), .val (.int p4), .val (.int p5), .val (.ref b2), .val (.int (p4 &&& (3 : Int32))), .val (.int (p5 &&& (3 : Int32))), .val (.int (own_sel p0 p1 p2 p3 (p4 &&& (3 : Int32)))), .val (.int (own_sel p0 p1 p2 p3 (p5 &&& (3 : Int32))))] [])) _
    refine XS.iload X69.here hx rfl (hb hby at_63) rfl ?_
    show Steps p.tables e below (T69.setTop (mkF m 65 #[.val (.int p0), .val (.int p1), .val (.int p2), .val (.int p3), .val (.int p4), .val (.int p5), .val (.ref b2), .val (.int (p4 &&& (3 : Int32))), .val (.int (p5 &&& (3 : Int32))), .val (.int (own_sel p0 p1 p2 p3 (p4 &&& (3 : Int32)))), .val (.int (own_sel p0 p1 p2 p3 (p5 &&& (3 : Int32))))] [(.int (own_sel p0 p1 p2 p3 (p4 &&& (3 : Int32))))])) _
    refine XS.iloadN X69.here hx rfl (hb hby at_65) rfl ?_
    show Steps p.tables e below (T69.setTop (mkF m 66 #[.val (.int p0), .val (.int p1), .val (.int p2), .val (.int p3), .val (.int p4), .val (.int p5), .val (.ref b2), .val (.int (p4 &&& (3 : Int32))), .val (.int (p5 &&& (3 : Int32))), .val (.int (own_sel p0 p1 p2 p3 (p4 &&& (3 : Int32)))), .val (.int (own_sel p0 p1 p2 p3 (p5 &&& (3 : Int32))))] [(.int p0), (.int (own_sel p0 p1 p2 p3 (p4 &&& (3 : Int32))))])) _
    refine XS.iloadN X69.here hx rfl (hb hby at_66) rfl ?_
    show Steps p.tables e below (T69.setTop (mkF m 67 #[.val (.int p0), .val (.int p1), .val (.int p2), .val (.int p3), .val (.int p4), .val (.int p5), .val (.ref b2), .val (.int (p4 &&& (3 : Int32))), .val (.int (p5 &&& (3 : Int32))), .val (.int (own_sel p0 p1 p2 p3 (p4 &&& (3 : Int32)))), .val (.int (own_sel p0 p1 p2 p3 (p5 &&& (3 : Int32))))] [(.int p1), (.int p0), (.int (own_sel p0 p1 p2 p3 (p4 &&& (3 : Int32))))])) _
    refine XS.iloadN X69.here hx rfl (hb hby at_67) rfl ?_
    show Steps p.tables e below (T69.setTop (mkF m 68 #[.val (.int p0), .val (.int p1), .val (.int p2), .val (.int p3), .val (.int p4), .val (.int p5), .val (.ref b2), .val (.int (p4 &&& (3 : Int32))), .val (.int (p5 &&& (3 : Int32))), .val (.int (own_sel p0 p1 p2 p3 (p4 &&& (3 : Int32)))), .val (.int (own_sel p0 p1 p2 p3 (p5 &&& (3 : Int32))))] [(.int p2), (.int p1), (.int p0), (.int (own_sel p0 p1 p2 p3 (p4 &&& (3 : Int32))))])) _
    refine XS.iloadN X69.here hx rfl (hb hby at_68) rfl ?_
    show Steps p.tables e below (T69.setTop (mkF m 69 #[.val (.int p0), .val (.int p1), .val (.int p2), .val (.int p3), .val (.int p4), .val (.int p5), .val (.ref b2), .val (.int (p4 &&& (3 : Int32))), .val (.int (p5 &&& (3 : Int32))), .val (.int (own_sel p0 p1 p2 p3 (p4 &&& (3 : Int32)))), .val (.int (own_sel p0 p1 p2 p3 (p5 &&& (3 : Int32))))] [(.int p3), (.int p2), (.int p1), (.int p0), (.int (own_sel p0 p1 p2 p3 (p4 &&& (3 : Int32))))])) _
    refine XS.iload X69.here hx rfl (hb hby at_69) rfl ?_
    show Steps p.tables e below (T69.setTop (mkF m 71 #[.val (.int p0), .val (.int p1), .val (.int p2), .val (.int p3), .val (.int p4), .val (.int p5), .val (.ref b2), .val (.int (p4 &&& (3 : Int32))), .val (.int (p5 &&& (3 : Int32))), .val (.int (own_sel p0 p1 p2 p3 (p4 &&& (3 : Int32)))), .val (.int (own_sel p0 p1 p2 p3 (p5 &&& (3 : Int32))))] [(.int (p4 &&& (3 : Int32))), (.int p3), (.int p2), (.int p1), (.int p0), (.int (own_sel p0 p1 p2 p3 (p4 &&& (3 : Int32))))])) _
    refine st79 _ ?_
    show Steps p.tables e below (T79.setTop (mkF m 74 #[.val (.int p0), .val (.int p1), .val (.int p2), .val (.int p3), .val (.int p4), .val (.int p5), .val (.ref b2), .val (.int (p4 &&& (3 : Int32))), .val (.int (p5 &&& (3 : Int32))), .val (.int (own_sel p0 p1 p2 p3 (p4 &&& (3 : Int32)))), .val (.int (own_sel p0 p1 p2 p3 (p5 &&& (3 : Int32))))] [(.int (own_pick_f p0 p1 p2 p3 (p4 &&& (3 : Int32)))), (.int (own_sel p0 p1 p2 p3 (p4 &&& (3 : Int32))))])) _
    refine XS.icmpNo X79.here hx rfl (hb hby at_74) rfl (teq (own_m _ _ _ _ _ : (own_sel p0 p1 p2 p3 (p4 &&& (3 : Int32))) = (own_pick_f p0 p1 p2 p3 (p4 &&& (3 : Int32))))).2 ?_
    show Steps p.tables e below (T79.setTop (mkF m 77 #[.val (.int p0), .val (.int p1), .val (.int p2), .val (.int p3), .val (.int p4), .val (.int p5), .val (.ref b2), .val (.int (p4 &&& (3 : Int32))), .val (.int (p5 &&& (3 : Int32))), .val (.int (own_sel p0 p1 p2 p3 (p4 &&& (3 : Int32)))), .val (.int (own_sel p0 p1 p2 p3 (p5 &&& (3 : Int32))))] [])) _
    refine XS.iload X79.here hx rfl (hb hby at_77) rfl ?_
    show Steps p.tables e below (T79.setTop (mkF m 79 #[.val (.int p0), .val (.int p1), .val (.int p2), .val (.int p3), .val (.int p4), .val (.int p5), .val (.ref b2), .val (.int (p4 &&& (3 : Int32))), .val (.int (p5 &&& (3 : Int32))), .val (.int (own_sel p0 p1 p2 p3 (p4 &&& (3 : Int32)))), .val (.int (own_sel p0 p1 p2 p3 (p5 &&& (3 : Int32))))] [(.int (own_sel p0 p1 p2 p3 (p5 &&& (3 : Int32))))])) _
    refine XS.iloadN X79.here hx rfl (hb hby at_79) rfl ?_
    show Steps p.tables e below (T79.setTop (mkF m 80 #[.val (.int p0), .val (.int p1), .val (.int p2), .val (.int p3), .val (.int p4), .val (.int p5), .val (.ref b2), .val (.int (p4 &&& (3 : Int32))), .val (.int (p5 &&& (3 : Int32))), .val (.int (own_sel p0 p1 p2 p3 (p4 &&& (3 : Int32)))), .val (.int (own_sel p0 p1 p2 p3 (p5 &&& (3 : Int32))))] [(.int p0), (.int (own_sel p0 p1 p2 p3 (p5 &&& (3 : Int32))))])) _
    refine XS.iloadN X79.here hx rfl (hb hby at_80) rfl ?_
    show Steps p.tables e below (T79.setTop (mkF m 81 #[.val (.int p0), .val (.int p1), .val (.int p2), .val (.int p3), .val (.int p4), .val (.int p5), .val (.ref b2), .val (.int (p4 &&& (3 : Int32))), .val (.int (p5 &&& (3 : Int32))), .val (.int (own_sel p0 p1 p2 p3 (p4 &&& (3 : Int32)))), .val (.int (own_sel p0 p1 p2 p3 (p5 &&& (3 : Int32))))] [(.int p1), (.int p0), (.int (own_sel p0 p1 p2 p3 (p5 &&& (3 : Int32))))])) _
    refine XS.iloadN X79.here hx rfl (hb hby at_81) rfl ?_
    show Steps p.tables e below (T79.setTop (mkF m 82 #[.val (.int p0), .val (.int p1), .val (.int p2), .val (.int p3), .val (.int p4), .val (.int p5), .val (.ref b2), .val (.int (p4 &&& (3 : Int32))), .val (.int (p5 &&& (3 : Int32))), .val (.int (own_sel p0 p1 p2 p3 (p4 &&& (3 : Int32)))), .val (.int (own_sel p0 p1 p2 p3 (p5 &&& (3 : Int32))))] [(.int p2), (.int p1), (.int p0), (.int (own_sel p0 p1 p2 p3 (p5 &&& (3 : Int32))))])) _
    refine XS.iloadN X79.here hx rfl (hb hby at_82) rfl ?_
    show Steps p.tables e below (T79.setTop (mkF m 83 #[.val (.int p0), .val (.int p1), .val (.int p2), .val (.int p3), .val (.int p4), .val (.int p5), .val (.ref b2), .val (.int (p4 &&& (3 : Int32))), .val (.int (p5 &&& (3 : Int32))), .val (.int (own_sel p0 p1 p2 p3 (p4 &&& (3 : Int32)))), .val (.int (own_sel p0 p1 p2 p3 (p5 &&& (3 : Int32))))] [(.int p3), (.int p2), (.int p1), (.int p0), (.int (own_sel p0 p1 p2 p3 (p5 &&& (3 : Int32))))])) _
    refine XS.iload X79.here hx rfl (hb hby at_83) rfl ?_
    show Steps p.tables e below (T79.setTop (mkF m 85 #[.val (.int p0), .val (.int p1), .val (.int p2), .val (.int p3), .val (.int p4), .val (.int p5), .val (.ref b2), .val (.int (p4 &&& (3 : Int32))), .val (.int (p5 &&& (3 : Int32))), .val (.int (own_sel p0 p1 p2 p3 (p4 &&& (3 : Int32)))), .val (.int (own_sel p0 p1 p2 p3 (p5 &&& (3 : Int32))))] [(.int (p5 &&& (3 : Int32))), (.int p3), (.int p2), (.int p1), (.int p0), (.int (own_sel p0 p1 p2 p3 (p5 &&& (3 : Int32))))])) _
    refine st89 _ ?_
    show Steps p.tables e below (T89.setTop (mkF m 88 #[.val (.int p0), .val (.int p1), .val (.int p2), .val (.int p3), .val (.int p4), .val (.int p5), .val (.ref b2), .val (.int (p4 &&& (3 : Int32))), .val (.int (p5 &&& (3 : Int32))), .val (.int (own_sel p0 p1 p2 p3 (p4 &&& (3 : Int32)))), .val (.int (own_sel p0 p1 p2 p3 (p5 &&& (3 : Int32))))] [(.int (own_pick_f p0 p1 p2 p3 (p5 &&& (3 : Int32)))), (.int (own_sel p0 p1 p2 p3 (p5 &&& (3 : Int32))))])) _
    refine XS.icmpNo X89.here hx rfl (hb hby at_88) rfl (teq (own_m _ _ _ _ _ : (own_sel p0 p1 p2 p3 (p5 &&& (3 : Int32))) = (own_pick_f p0 p1 p2 p3 (p5 &&& (3 : Int32))))).2 ?_
    show Steps p.tables e below (T89.setTop (mkF m 91 #[.val (.int p0), .val (.int p1), .val (.int p2), .val (.int p3), .val (.int p4), .val (.int p5), .val (.ref b2), .val (.int (p4 &&& (3 : Int32))), .val (.int (p5 &&& (3 : Int32))), .val (.int (own_sel p0 p1 p2 p3 (p4 &&& (3 : Int32)))), .val (.int (own_sel p0 p1 p2 p3 (p5 &&& (3 : Int32))))] [])) _
    refine XS.iconst X89.here hx rfl (hb hby at_91) ?_
    show Steps p.tables e below (T89.setTop (mkF m 92 #[.val (.int p0), .val (.int p1), .val (.int p2), .val (.int p3), .val (.int p4), .val (.int p5), .val (.ref b2), .val (.int (p4 &&& (3 : Int32))), .val (.int (p5 &&& (3 : Int32))), .val (.int (own_sel p0 p1 p2 p3 (p4 &&& (3 : Int32)))), .val (.int (own_sel p0 p1 p2 p3 (p5 &&& (3 : Int32))))] [(.int (1 : Int32))])) _
    refine XS.goto X89.here hx rfl (pc0 := 92) (pc' := 96) rfl (hb hby at_92) (by decide) (by decide) ?_
    show Steps p.tables e below (T89.setTop (mkF m 96 #[.val (.int p0), .val (.int p1), .val (.int p2), .val (.int p3), .val (.int p4), .val (.int p5), .val (.ref b2), .val (.int (p4 &&& (3 : Int32))), .val (.int (p5 &&& (3 : Int32))), .val (.int (own_sel p0 p1 p2 p3 (p4 &&& (3 : Int32)))), .val (.int (own_sel p0 p1 p2 p3 (p5 &&& (3 : Int32))))] [(.int (1 : Int32))])) _
    exact retN X89 hx (t := .boolean) Bd.returns (by simp) (hb hby at_96) hr
  · show Qown_law Z p0 p1 p2 p3 p4 p5 h0 n0 _ T89.heap _
    rw [eh89]
    exact ⟨rfl, N90⟩
set_option maxRecDepth 65536 in
set_option maxHeartbeats 40000000 in
theorem comes_1 {Post : Tables → Env → Array Value → State → Outcome → State → Prop} (hpost : ∀ tb e args s v u, (limb_1_1.after args s (.returned v) u = true ∧ limb_1_2.after args s (.returned v) u = true ∧ True) → FrameEnd s (.returned v) u (Jvm.fieldLocs frame_1_writes args s ++ Jvm.arrayLocs frame_1_arrays args s ++ Jvm.staticLocs frame_1_statics s) 16 8320 → Post tb e args s (.returned v) u) :
    ArmFor flags0 classFile x code maxLocals ret World_1 tables_1 room_1 Calls_1 rest_1 Pre_1 Post := by
  intro l hfl _ _ p e ha hc hk s m args below hf hA hF happ hP
  obtain ⟨hcalls, hrest, hpre⟩ := hP
  obtain ⟨-, -, -, hnamed, -, -, -, hat⟩ := (Spec.applies_iff hf).mp happ
  obtain ⟨hg, hn⟩ := and_e (Cond.before_iff.mp (show (Jvm.Cond.and given_1 narrow_1).before args s = true from hpre))
  obtain ⟨gg1, gg2⟩ := and_e hg
  obtain ⟨gg3, gg4⟩ := and_e gg2
  obtain ⟨gg5, gg6⟩ := and_e gg4
  obtain ⟨gg7, gg8⟩ := and_e gg6
  obtain ⟨gg9, gg10⟩ := and_e gg8
  obtain ⟨gg11, gg12⟩ := and_e gg10
  obtain ⟨w0, w1, w2, w3, w4, w5, rfl⟩ : ∃ w0 w1 w2 w3 w4 w5 : Value, args = #[w0, w1, w2, w3, w4, w5] := by
    have hs : args.size = 6 := by simpa [Cond.value, given_1] using gg1
    obtain ⟨L⟩ := args
    match L, hs with
    | [w0, w1, w2, w3, w4, w5], _ => exact ⟨w0, w1, w2, w3, w4, w5, rfl⟩
  have hw := fun d (hd : d ∈ tables_1) => atoms_spec (ws := Jvm.Cond.code x code maxLocals ret :: tables_1) hat d (List.mem_cons_of_mem _ hd)
  obtain ⟨i0, ei0⟩ := is_v gg3
  obtain rfl : w0 = (.int i0) := Option.some.inj ei0
  obtain ⟨i1, ei1⟩ := is_v gg5
  obtain rfl : w1 = (.int i1) := Option.some.inj ei1
  obtain ⟨i2, ei2⟩ := is_v gg7
  obtain rfl : w2 = (.int i2) := Option.some.inj ei2
  obtain ⟨i3, ei3⟩ := is_v gg9
  obtain rfl : w3 = (.int i3) := Option.some.inj ei3
  obtain ⟨i4, ei4⟩ := is_v gg11
  obtain rfl : w4 = (.int i4) := Option.some.inj ei4
  obtain ⟨i5, ei5⟩ := is_v gg12
  obtain rfl : w5 = (.int i5) := Option.some.inj ei5
  obtain ⟨n, o, h1, h2, h3, _, L, rfl, ⟨rfl, N⟩, hq⟩ := own_law l s _ hw tables_1 i0 i1 i2 i3 i4 i5 s.heap s.heap.size (Nat.le_refl _) p e ha hc hk s m _ below hf ((Spec.applies_iff_loose hf).mp happ).1 ⟨rfl, State.Warmed39.refl s, rfl⟩ trivial
  refine ⟨n, _, h1, h2, h3, hpost _ _ _ _ _ _ ⟨Cond.after_iff.mpr rfl, Cond.after_iff.mpr (eq_i res_at (Term.int_eval (1)) rfl), trivial⟩ ⟨hq.1, hq.2.1, (hq.2.2.sift fun y hy => Or.inr (N y hy)).mono (by decide) (by decide)⟩⟩
theorem main_1_1 : Claimed_1_1 := comes_1 fun _ _ _ _ _ _ h hF => ⟨h.1, hF⟩
theorem main_1_2 : Claimed_1_2 := comes_1 fun _ _ _ _ _ _ h hF => ⟨h.2.1, hF⟩
end Jvm.Pilot.@@N@@
namespace Jvm.Pilot.@@N@@
open Jvm Jvm.ClassFile Sem Op Lib Jvm.Free Jvm.Stand Jvm.Pilot.@@N@@.Jvm.D
/-! MADE BY PROGRAM (witnessworld.py) out of the Statement's table words and the real class files: 9 classes; the members and pool entries that the words name. The judged class is class 1, her method 1. -/
namespace start1
open Jvm.ClassFile
def u (s : String) : CpInfo := .utf8 (stringToUtf16 s)
/-- a pool by its gaps: so many unusable entries, then the entry; so many at the end -/
def gap : Nat → List CpInfo → List CpInfo
  | 0, r => r
  | n + 1, r => .unusable :: gap n r
def poolList (es : List (Nat × CpInfo)) (last : Nat) : List CpInfo := es.foldr (fun e r => gap e.1 (e.2 :: r)) (gap last [])
def pool (es : List (Nat × CpInfo)) (last : Nat) : Array CpInfo := ⟨poolList es last⟩
def fileOf (pool : Array CpInfo) (this : Nat) (attrs : Array Attribute := #[]) (ms : Array MethodInfo := #[]) (fl : Nat := 33) (sup : Nat := 0) (ifs : Array Nat := #[]) (fds : Array FieldInfo := #[]) : ClassFile where
  minorVersion := 0
  majorVersion := 65
  constantPool := pool
  accessFlags := fl
  thisClass := this
  superClass := sup
  interfaces := ifs
  fields := fds
  methods := ms
  attributes := attrs
def plain (name : String) (sup : Option ClassId) : Class where
  name := name
  kind := .ordinary
  loader := none
  accessFlags := 33
  super := sup
  interfaces := #[]
  cf := none
  fields := #[]
  methods := #[]
  instanceTypes := #[]
  staticTypes := #[]
  resolved := #[]
  callSites := []
  init := .initialized
  statics := none
  mirror := none

def pool0 : Array CpInfo := pool [(5, u "<init>"), (0, u "()V"), (1, .class_ 10), (1, u "java/lang/Object")] 113

def k0c0 : Code := { maxStack := 0, maxLocals := 1, code := object_method_1_code, exceptionTable := #[], attributes := #[] }
def k0m0 : Method := { name := "<init>", desc := "()V", sig := { parameters := [], returnType := none }, accessFlags := 1, code := some k0c0 }
/-- java/lang/Object -/
def k0 : Class := { plain "java/lang/Object" none with
  accessFlags := 33
  interfaces := #[]
  cf := some (fileOf pool0 8 #[] #[{ accessFlags := 1, nameIndex := 5, descriptorIndex := 6, attributes := #[] }] 33 0 #[] #[])
  fields := #[]
  methods := #[k0m0]
  instanceTypes := #[]
  staticTypes := #[]
  resolved := Array.replicate 124 none
  statics := none }

def pool1 : Array CpInfo := pool [(2, .class_ 4), (0, .nameAndType 5 6), (0, u "java/lang/Object"), (0, u "<init>"), (0, u "()V"), (0, .class_ 8), (0, u "com/example/taut_choreo/tautchoreo/explore/IntList"), (0, .methodref 7 3), (0, .methodref 7 11), (0, .nameAndType 12 13), (0, u "add"), (0, u "(I)V"), (0, .methodref 7 15), (0, .nameAndType 16 17), (0, u "get"), (0, u "(I)I"), (0, .methodref 19 20), (0, .class_ 21), (0, .nameAndType 22 23), (0, u "com/example/taut_choreo/tautchoreo/explore/IntListGetPinLaw"), (0, u "pick"), (0, u "(IIIII)I"), (2, u "law"), (0, u "(IIIIII)Z")] 3

def k1m0 : Method := { name := "<init>", desc := "()V", sig := { parameters := [], returnType := none }, accessFlags := 1, code := none }
def k1c1 : Code := { maxStack := 6, maxLocals := 11, code := code, exceptionTable := #[], attributes := #[] }
def k1m1 : Method := { name := "law", desc := "(IIIIII)Z", sig := { parameters := [.int, .int, .int, .int, .int, .int], returnType := some .boolean }, accessFlags := 9, code := some k1c1 }
def k1c2 : Code := { maxStack := 2, maxLocals := 5, code := method_3_code, exceptionTable := #[], attributes := #[] }
def k1m2 : Method := { name := "pick", desc := "(IIIII)I", sig := { parameters := [.int, .int, .int, .int, .int], returnType := some .int }, accessFlags := 10, code := some k1c2 }
/-- com/example/taut_choreo/tautchoreo/explore/IntListGetPinLaw -/
def k1 : Class := { plain "com/example/taut_choreo/tautchoreo/explore/IntListGetPinLaw" (some 0) with
  accessFlags := 49
  interfaces := #[]
  cf := some (fileOf pool1 19 #[] #[{ accessFlags := 1, nameIndex := 5, descriptorIndex := 6, attributes := #[] }, { accessFlags := 9, nameIndex := 26, descriptorIndex := 27, attributes := #[] }, { accessFlags := 10, nameIndex := 22, descriptorIndex := 23, attributes := #[] }] 49 2 #[] #[])
  fields := #[]
  methods := #[k1m0, k1m1, k1m2]
  instanceTypes := #[]
  staticTypes := #[]
  resolved := Array.replicate 31 none
  statics := none }

def pool2 : Array CpInfo := pool [(1, .class_ 2), (0, u "com/example/taut_choreo/tautchoreo/explore/IntList"), (0, .methodref 4 5), (0, .class_ 6), (0, .nameAndType 7 8), (0, u "java/lang/Object"), (0, u "<init>"), (0, u "()V"), (0, .class_ 10), (0, u "[I"), (0, .fieldref 1 12), (0, .nameAndType 13 14), (0, u "pages"), (0, u "[[I"), (0, .fieldref 1 16), (0, .nameAndType 17 18), (0, u "size"), (0, u "I"), (7, u "PAGE_BITS"), (2, u "PAGE_MASK"), (4, u "add"), (0, u "(I)V"), (1, u "get"), (0, u "(I)I")] 2

def k2c0 : Code := { maxStack := 2, maxLocals := 1, code := prog_28_method_1_code, exceptionTable := #[], attributes := #[] }
def k2m0 : Method := { name := "<init>", desc := "()V", sig := { parameters := [], returnType := none }, accessFlags := 1, code := some k2c0 }
def k2c1 : Code := { maxStack := 4, maxLocals := 3, code := prog_28_method_3_code, exceptionTable := #[], attributes := #[] }
def k2m1 : Method := { name := "add", desc := "(I)V", sig := { parameters := [.int], returnType := none }, accessFlags := 1, code := some k2c1 }
def k2c2 : Code := { maxStack := 3, maxLocals := 2, code := prog_28_method_4_code, exceptionTable := #[], attributes := #[] }
def k2m2 : Method := { name := "get", desc := "(I)I", sig := { parameters := [.int], returnType := some .int }, accessFlags := 1, code := some k2c2 }
/-- com/example/taut_choreo/tautchoreo/explore/IntList -/
def k2 : Class := { plain "com/example/taut_choreo/tautchoreo/explore/IntList" (some 0) with
  accessFlags := 49
  interfaces := #[]
  cf := some (fileOf pool2 1 #[] #[{ accessFlags := 1, nameIndex := 7, descriptorIndex := 8, attributes := #[] }, { accessFlags := 1, nameIndex := 34, descriptorIndex := 35, attributes := #[] }, { accessFlags := 1, nameIndex := 37, descriptorIndex := 38, attributes := #[] }] 49 4 #[] #[{ accessFlags := 26, nameIndex := 26, descriptorIndex := 18, attributes := #[] }, { accessFlags := 26, nameIndex := 29, descriptorIndex := 18, attributes := #[] }, { accessFlags := 2, nameIndex := 13, descriptorIndex := 14, attributes := #[] }, { accessFlags := 2, nameIndex := 17, descriptorIndex := 18, attributes := #[] }])
  fields := #[{ name := "PAGE_BITS", type := .int, accessFlags := 26, slot := 0, constantValue := 0 }, { name := "PAGE_MASK", type := .int, accessFlags := 26, slot := 1, constantValue := 0 }, { name := "pages", type := (.array (.array .int)), accessFlags := 2, slot := 0, constantValue := 0 }, { name := "size", type := .int, accessFlags := 2, slot := 1, constantValue := 0 }]
  methods := #[k2m0, k2m1, k2m2]
  instanceTypes := #[(.array (.array .int)), .int]
  staticTypes := #[.int, .int]
  resolved := Array.replicate 41 none
  statics := none }

def pool3 : Array CpInfo := pool [(1, u "java/lang/Cloneable"), (0, .class_ 1), (0, u "java/lang/Object"), (0, .class_ 3)] 3

/-- java/lang/Cloneable -/
def k3 : Class := { plain "java/lang/Cloneable" (some 0) with
  accessFlags := 1537
  interfaces := #[]
  cf := some (fileOf pool3 2 #[] #[] 1537 4 #[] #[])
  fields := #[]
  methods := #[]
  instanceTypes := #[]
  staticTypes := #[]
  resolved := Array.replicate 8 none
  statics := none }

def pool4 : Array CpInfo := pool [(1, u "java/io/Serializable"), (0, .class_ 1), (0, u "java/lang/Object"), (0, .class_ 3)] 3

/-- java/io/Serializable -/
def k4 : Class := { plain "java/io/Serializable" (some 0) with
  accessFlags := 1537
  interfaces := #[]
  cf := some (fileOf pool4 2 #[] #[] 1537 4 #[] #[])
  fields := #[]
  methods := #[]
  instanceTypes := #[]
  staticTypes := #[]
  resolved := Array.replicate 8 none
  statics := none }

/-- the primitive byte -/
def k5 : Class := { plain "byte" none with kind := .primitive 'B', accessFlags := 0x411 }
/-- [B -/
def k6 : Class := { plain "[B" (some 0) with kind := .array 5 .byte, interfaces := #[3, 4], accessFlags := 1041 }

/-- the primitive int -/
def k7 : Class := { plain "int" none with kind := .primitive 'I', accessFlags := 0x411 }
/-- [I -/
def k8 : Class := { plain "[I" (some 0) with kind := .array 7 .int, interfaces := #[3, 4], accessFlags := 1041 }

/-- [[I -/
def k9 : Class := { plain "[[I" (some 0) with kind := .array 8 (.array .int), interfaces := #[3, 4], accessFlags := 1041 }
def heap : Heap := #[]
def classes : Array Class := #[k0, k1, k2, k3, k4, k5, k6, k7, k8, k9]
def interned : List (Array UInt16 × Addr) := []
def slotsUsed : Nat := 0
def theMethod : MethodId := ⟨1, 1⟩
def args0 : Array Value := #[.int 5, .int 7, .int 3, .int 1, .int 1, .int 2]
def aboutOver (below : List Frame) : State where
  vm := { classes := classes, interned := interned.toArray }
  heap := heap
  slotsUsed := slotsUsed
  threads := #[{ frames := .invoking theMethod args0 :: below }]
def below0 : List Frame := [.native { method := ⟨0, 0⟩, args := #[] }]
def about1 : State := aboutOver below0
def p0 : Program := .bare "" "" ""
def e0 : Env := launch0.env 0 0 0
theorem w_frames : about1.frames = Frame.invoking theMethod args0 :: below0 := rfl
set_option maxRecDepth 65536 in
theorem w_args : argsFit about1.vm theMethod args0 = true := by decide +kernel
set_option maxRecDepth 65536 in
theorem w_heap : heapFits about1 = true := by decide +kernel
set_option maxRecDepth 65536 in
theorem w_runnable : about1.curStatus? = some .runnable := by decide +kernel
set_option maxRecDepth 65536 in
theorem w_alone : about1.alone = true := by decide +kernel
set_option maxRecDepth 65536 in
theorem w_named : about1.methodNamed? x = some theMethod := by decide +kernel
set_option maxRecDepth 65536 in
theorem w_hears : about1.hears theMethod below0 = true := by decide +kernel
set_option maxRecDepth 65536 in
theorem w_ripe : about1.ripe theMethod args0 below0 = true := by decide +kernel
theorem w_running : about1.status = .running := rfl
set_option maxRecDepth 65536 in
theorem w_room : about1.hasRoom e0.platform room_1 = true :=
  launch0.hasRoom_least _ room_1 (by decide +kernel) (by decide +kernel) (by decide +kernel) (by decide +kernel) (by decide +kernel) (by decide +kernel)
theorem allAtoms_all (ts : List Jvm.Cond) (a : Array Jvm.Value) (st : Jvm.State) : (allAtoms ts).before a st = ts.all (fun c => c.before a st) := by
  induction ts with
  | nil => rfl
  | cons c t ih =>
    show (Jvm.Cond.and c (allAtoms t)).before a st = _
    rw [Jvm.Cond.before_and, ih, List.all_cons]
def words1 : List Jvm.Cond := Jvm.Cond.code x code maxLocals ret :: tables_1
/-- a 'code' word, met by the world's own term for the bytes: nothing is compared byte by byte -/
theorem code_word {y : MethodName} {bytes : ByteArray} {mx : Nat} {rt : Option FieldType} {a : Array Value} {s : State} {m : MethodId} {meth : Method} {c : Code} (h1 : s.methodNamed? y = some m) (h2 : s.vm.method? m = some meth) (h3 : meth.code = some c) (h4 : c.code = bytes)
    (h5 : (c.maxLocals == mx && c.exceptionTable.isEmpty && decide (c.maxStack ≤ mostOperands) && decide (meth.sig.returnType = rt) && !meth.locks && decide (parseMethodDescriptor y.desc = some meth.sig)) = true) : (Jvm.Cond.code y bytes mx rt).before a s = true := by
  simp only [Bool.and_eq_true, beq_iff_eq, Bool.not_eq_true', decide_eq_true_eq] at h5
  obtain ⟨⟨⟨⟨⟨g1, g2⟩, g3⟩, g4⟩, g5⟩, g6⟩ := h5
  simp [Cond.before, Cond.holds, Cond.value, h1, h2, h3, h4, g1, g2, g3, g4, g5, g6]
def isCode : Jvm.Cond → Bool
  | .code _ _ _ _ => true
  | _ => false
theorem all_split {L : List Jvm.Cond} {P : Jvm.Cond → Bool} (h1 : L.all (fun c => isCode c || P c) = true) (h2 : ∀ c ∈ L.filter isCode, P c = true) : L.all P = true := by
  refine List.all_eq_true.mpr fun c hc => ?_
  have h := List.all_eq_true.mp h1 c hc
  rcases Bool.eq_false_or_eq_true (isCode c) with hi | hi
  · exact h2 c (List.mem_filter.mpr ⟨hc, hi⟩)
  · simpa [hi] using h
set_option maxRecDepth 65536 in
theorem w_c0 : (Jvm.Cond.code x code maxLocals ret).before args0 about1 = true := code_word (m := ⟨1, 1⟩) (meth := k1m1) (c := k1c1) (by decide +kernel) rfl rfl rfl (by decide +kernel)
set_option maxRecDepth 65536 in
theorem w_c1 : (Jvm.Cond.code ({ cls := "com/example/taut_choreo/tautchoreo/explore/IntList", name := "<init>", desc := "()V" } : Jvm.MethodName) prog_28_method_1_code (1 : Nat) (Option.none : Option Jvm.ClassFile.FieldType)).before args0 about1 = true := code_word (m := ⟨2, 0⟩) (meth := k2m0) (c := k2c0) (by decide +kernel) rfl rfl rfl (by decide +kernel)
set_option maxRecDepth 65536 in
theorem w_c2 : (Jvm.Cond.code ({ cls := "java/lang/Object", name := "<init>", desc := "()V" } : Jvm.MethodName) object_method_1_code (1 : Nat) (Option.none : Option Jvm.ClassFile.FieldType)).before args0 about1 = true := code_word (m := ⟨0, 0⟩) (meth := k0m0) (c := k0c0) (by decide +kernel) rfl rfl rfl (by decide +kernel)
set_option maxRecDepth 65536 in
theorem w_c3 : (Jvm.Cond.code ({ cls := "com/example/taut_choreo/tautchoreo/explore/IntList", name := "add", desc := "(I)V" } : Jvm.MethodName) prog_28_method_3_code (3 : Nat) (Option.none : Option Jvm.ClassFile.FieldType)).before args0 about1 = true := code_word (m := ⟨2, 1⟩) (meth := k2m1) (c := k2c1) (by decide +kernel) rfl rfl rfl (by decide +kernel)
set_option maxRecDepth 65536 in
theorem w_c4 : (Jvm.Cond.code ({ cls := "com/example/taut_choreo/tautchoreo/explore/IntList", name := "get", desc := "(I)I" } : Jvm.MethodName) prog_28_method_4_code (2 : Nat) (Option.some Jvm.ClassFile.FieldType.int)).before args0 about1 = true := code_word (m := ⟨2, 2⟩) (meth := k2m2) (c := k2c2) (by decide +kernel) rfl rfl rfl (by decide +kernel)
set_option maxRecDepth 65536 in
theorem w_c5 : (Jvm.Cond.code ({ cls := "com/example/taut_choreo/tautchoreo/explore/IntListGetPinLaw", name := "pick", desc := "(IIIII)I" } : Jvm.MethodName) method_3_code (5 : Nat) (Option.some Jvm.ClassFile.FieldType.int)).before args0 about1 = true := code_word (m := ⟨1, 2⟩) (meth := k1m2) (c := k1c2) (by decide +kernel) rfl rfl rfl (by decide +kernel)
def codes1 : List Jvm.Cond := [Jvm.Cond.code x code maxLocals ret, Jvm.Cond.code ({ cls := "com/example/taut_choreo/tautchoreo/explore/IntList", name := "<init>", desc := "()V" } : Jvm.MethodName) prog_28_method_1_code (1 : Nat) (Option.none : Option Jvm.ClassFile.FieldType), Jvm.Cond.code ({ cls := "java/lang/Object", name := "<init>", desc := "()V" } : Jvm.MethodName) object_method_1_code (1 : Nat) (Option.none : Option Jvm.ClassFile.FieldType), Jvm.Cond.code ({ cls := "com/example/taut_choreo/tautchoreo/explore/IntList", name := "add", desc := "(I)V" } : Jvm.MethodName) prog_28_method_3_code (3 : Nat) (Option.none : Option Jvm.ClassFile.FieldType), Jvm.Cond.code ({ cls := "com/example/taut_choreo/tautchoreo/explore/IntList", name := "get", desc := "(I)I" } : Jvm.MethodName) prog_28_method_4_code (2 : Nat) (Option.some Jvm.ClassFile.FieldType.int), Jvm.Cond.code ({ cls := "com/example/taut_choreo/tautchoreo/explore/IntListGetPinLaw", name := "pick", desc := "(IIIII)I" } : Jvm.MethodName) method_3_code (5 : Nat) (Option.some Jvm.ClassFile.FieldType.int)]
set_option maxRecDepth 65536 in
theorem codes_eq : words1.filter isCode = codes1 := rfl
theorem w_codes : ∀ c ∈ words1.filter isCode, c.before args0 about1 = true := by
  rw [codes_eq]
  intro c hc
  simp only [codes1, List.mem_cons, List.not_mem_nil, or_false] at hc
  rcases hc with rfl | rfl | rfl | rfl | rfl | rfl
  · exact w_c0
  · exact w_c1
  · exact w_c2
  · exact w_c3
  · exact w_c4
  · exact w_c5
set_option maxRecDepth 65536 in
theorem w_t1 : (words1.take 24).all (fun c => isCode c || c.before args0 about1) = true := by decide +kernel
set_option maxRecDepth 65536 in
theorem w_t2 : (words1.drop 24).all (fun c => isCode c || c.before args0 about1) = true := by decide +kernel
theorem w_tables : (allAtoms (Jvm.Cond.code x code maxLocals ret :: tables_1)).before args0 about1 = true := by
  rw [allAtoms_all]
  show words1.all (fun c => c.before args0 about1) = true
  refine all_split ?_ w_codes
  rw [← List.take_append_drop 24 words1, List.all_append, w_t1, w_t2]
  rfl
set_option maxRecDepth 65536 in
theorem w_case : (Jvm.Cond.and given_1 narrow_1).before args0 about1 = true := by decide +kernel
theorem w_applies : (headSpec (Jvm.Cond.code x code maxLocals ret :: tables_1) room_1).applies x e0.platform about1 = true :=
  (Spec.applies_iff w_frames).mpr ⟨w_running, w_runnable, w_alone, w_named, w_hears, w_ripe, w_room, w_tables⟩
theorem atStart : AtStart classFile x code maxLocals ret World_1 tables_1 room_1 Calls_1 rest_1 Pre_1 launch0 p0 e0 about1 theMethod args0 below0 :=
  ⟨lists_1, trivial, launch0.admits_env _ _ _, launch0.least_env, fairChoices_fair.cas, fairChoices_fair.clock, w_frames, w_args, w_heap, w_applies, trivial, trivial, w_case⟩
end start1
theorem witness_1 : WitnessClaimed_1 := ⟨start1.p0, start1.e0, start1.about1, start1.theMethod, start1.args0, start1.below0, start1.atStart⟩
end Jvm.Pilot.@@N@@
