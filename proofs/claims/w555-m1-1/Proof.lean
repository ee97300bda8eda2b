import JvmDerived
import JvmDerived.Pilot.@@N@@Statement
import JvmDerived.Pilot.@@N@@Code
set_option linter.unusedVariables false
set_option linter.unusedSimpArgs false
@@BLOCK:NumsL.lean.txt@@
namespace Jvm.RoadKit
open Sem ClassFile Op Lib Jvm.Stand Jvm.Free Jvm.LawKit
section New
variable {p : Program} {l : Launch} {e : Env} {R : Room} {s : State} {m : MethodId} {args : Array Value} {below : List Frame} {meth : Method} {c : Code} {T : State} {locs : List Loc} {cells slots : Nat}
theorem retI (X : Stand p l e R s m args below meth c T locs cells slots) (hx : p.tables.exec = Jvm.exec) {pc : Nat} {Ls : Array Slot} {z : Int32} {rest : List Value} (hret : meth.sig.returnType = some .int) (hd : decode c.code pc = .ok (.ireturn, 1)) {fs : List Frame}
    (hl : ∀ (f : JFrame) (acts : List Action), f.method = m → f.locked = none → f.entered = [] → (doReturn e (T.setTop f) acts (some (.int z))).1 = T.setFrames fs) : Steps p.tables e below (T.setTop (mkF m pc Ls (.int z :: rest))) (T.setFrames fs) := by
  have hm' : T.vm.method? m = some meth := X.method'
  have hn : narrow .int (.int z) = .int z := rfl
  show Steps p.tables e below (T.setTop { method := m, pc := pc, locals := Ls, stack := _ :: rest, locked := none }) _
  jvm_step X.here [X.here.top, hx, hd, hm', hret, hn]
  first | (intro acts; rw [hl _ acts rfl rfl rfl]) | rw [hl _ _ rfl rfl rfl]
  exact Steps.refl _
end New
end Jvm.RoadKit
namespace Jvm.Pilot.@@N@@
open Jvm Jvm.ClassFile Sem Op Lib Jvm.Free Jvm.Stand Jvm.LawKit Jvm.RoadKit Bundle Jvm.Pilot.@@N@@.Jvm.D
theorem own_lcLt {x y : Int64} : lcmpW x y < 0 ↔ x < y := by rw [lcW]; exact lc_lt x y
theorem own_lcGt {x y : Int64} : 0 < lcmpW x y ↔ y < x := by rw [lcW]; exact lc_gt x y
theorem own_lcEq {x y : Int64} : lcmpW x y = 0 ↔ x = y := by rw [lcW]; exact lc_eq x y
theorem own_cut3 {Z : State} {h : Heap} {a : Addr} {k : ClassId} {ty : FieldType} {z : Int32} {d v0 v1 v2 w0 w1 w2 : Value} (F : Arv Z h a k ty z [w0, w1, w2] d) (hz : ¬ (3 : Int32) < z)
    (h0 : (0 : Int32) < z → v0 = w0) (h1 : (1 : Int32) < z → v1 = w1) (h2 : (2 : Int32) < z → v2 = w2) : Arv Z h a k ty z [v0, v1, v2] d := by
  obtain ⟨c, A, r1, r2, r3, H, G⟩ := F
  have key : ∀ i, i < c.slots.size → [v0, v1, v2].getD i d = [w0, w1, w2].getD i d := fun i hi => by
    rw [r2] at hi
    have q := nat_of r3
    rw [Int32.lt_iff_toInt_lt] at hz h0 h1 h2
    have e0 : (0 : Int32).toInt = 0 := rfl
    have e1 : (1 : Int32).toInt = 1 := rfl
    have e2 : (2 : Int32).toInt = 2 := rfl
    have e3 : (3 : Int32).toInt = 3 := rfl
    match i, hi with
    | 0, hi => show v0 = w0; exact h0 (by omega)
    | 1, hi => show v1 = w1; exact h1 (by omega)
    | 2, hi => show v2 = w2; exact h2 (by omega)
    | i + 3, hi => omega
  exact ⟨c, A, r1, r2, r3, fun i hi => by rw [key i hi]; exact H i hi, fun i hi => by rw [key i hi]; exact G i hi⟩
def own_sel (x y z w j : Int32) : Int32 := if j = 0 then x else if j = 1 then y else if j = 2 then z else w
theorem own_sel_get (x y z w j : Int32) (d : Value) (h : ¬ j < 0 ∧ j < 4) : [(.int x), (.int y), (.int z), (.int w)].getD j.toNatClampNeg d = .int (own_sel x y z w j) := by
  have q := nat_of h.1
  have h2 := h.2
  rw [Int32.lt_iff_toInt_lt] at h2
  have e4 : (4 : Int32).toInt = 4 := rfl
  have e0 : (0 : Int32).toInt = 0 := rfl
  have e1 : (1 : Int32).toInt = 1 := rfl
  have e2 : (2 : Int32).toInt = 2 := rfl
  have hj : j.toNatClampNeg = 0 ∨ j.toNatClampNeg = 1 ∨ j.toNatClampNeg = 2 ∨ j.toNatClampNeg = 3 := by omega
  unfold own_sel
  rcases hj with hj | hj | hj | hj
  · rw [hj, if_pos (Int32.toInt_inj.mp (by omega))]; rfl
  · rw [hj, if_neg (fun e => by have e' := congrArg Int32.toInt e; omega), if_pos (Int32.toInt_inj.mp (by omega))]; rfl
  · rw [hj, if_neg (fun e => by have e' := congrArg Int32.toInt e; omega), if_neg (fun e => by have e' := congrArg Int32.toInt e; omega), if_pos (Int32.toInt_inj.mp (by omega))]; rfl
  · rw [hj, if_neg (fun e => by have e' := congrArg Int32.toInt e; omega), if_neg (fun e => by have e' := congrArg Int32.toInt e; omega), if_neg (fun e => by have e' := congrArg Int32.toInt e; omega)]; rfl
theorem own_and3 (p : Int32) : ¬ (p &&& (3 : Int32)) < 0 ∧ ¬ (3 : Int32) < (p &&& (3 : Int32)) := by
  have e := Jvm.Kit.i32_mask p 3 (k := 2) (by decide) (by decide)
  have e3 : (3 : Int32).toInt = 3 := rfl
  have e0 : (0 : Int32).toInt = 0 := rfl
  rw [Int32.lt_iff_toInt_lt, Int32.lt_iff_toInt_lt]
  omega
theorem own_and4 (p : Int32) : ¬ (p &&& (3 : Int32)) < 0 ∧ (p &&& (3 : Int32)) < 4 := by
  have e := Jvm.Kit.i32_mask p 3 (k := 2) (by decide) (by decide)
  have e3 : (4 : Int32).toInt = 4 := rfl
  have e0 : (0 : Int32).toInt = 0 := rfl
  rw [Int32.lt_iff_toInt_lt, Int32.lt_iff_toInt_lt]
  omega
theorem own_neg3 {p : Int32} (h : ¬ p < 0) (g : ¬ (3 : Int32) < p) : p.toNatClampNeg ≤ 3 := by
  have q := nat_of h
  rw [Int32.lt_iff_toInt_lt] at g
  have e3 : (3 : Int32).toInt = 3 := rfl
  omega
theorem own_root {Z : State} {a0 : Array Value} {O K : String} {n : Nat} (w : (Cond.noSuperclass O).before a0 Z = true) (wk : (Cond.instantiable K n).before a0 Z = true) (hn : O ≠ K) : NS Z O K := by
  obtain ⟨c, k, h1, h2, h3, -, -⟩ := Cond.noSuperclass_spec w
  obtain ⟨t, -, g1, -⟩ := Cond.instantiable_spec wk
  have ne := ids_ne h1 g1 hn
  refine ⟨c, t, h1, g1, fun fuel => ?_⟩
  cases fuel with
  | zero => rfl
  | succ f => simp [Vm.isSubclassAux, ne, h2, h3]
theorem own_no {Z : State} {a0 : Array Value} {C S K : String} {n : Nat} (w : (Cond.superclass C S).before a0 Z = true) (wk : (Cond.instantiable K n).before a0 Z = true) (N : NS Z C K) (hn : C ≠ K) : ∃ c t, Z.vm.findClass C = some c ∧ Z.vm.findClass K = some t ∧ Z.vm.assignable c t = false := by
  obtain ⟨c, t, h0, g0, n3⟩ := N
  obtain ⟨p, k, kp, h1, h2, h3, h4, h5, -, h7⟩ := Cond.superclass_spec h0 w
  obtain ⟨t', k', g1, g2, g5, g7, -⟩ := Cond.instantiable_spec wk
  cases g0.symm.trans g1
  have ne := ids_ne h0 g0 hn
  have g8 : k'.isInterface = false := by simp only [Bool.or_eq_false_iff] at g7; exact g7.1
  refine ⟨c, t, h0, g0, ?_⟩
  show Z.vm.assignableAux (255 + 1) c t = false
  simp [Vm.assignableAux, ne, h2, g2, h5, g5, g8, Vm.isSubclass, n3]
theorem own_cb {p : Int32} (h1 : ¬ p < (-128 : Int32)) (h2 : ¬ (127 : Int32) < p) : ¬ (p + (128 : Int32)) < 0 ∧ (p + (128 : Int32)) < 256 := by
  rw [Int32.lt_iff_toInt_lt] at h1 h2
  have e1 : (-128 : Int32).toInt = -128 := rfl
  have e2 : (127 : Int32).toInt = 127 := rfl
  have e3 : (128 : Int32).toInt = 128 := rfl
  have e4 : (256 : Int32).toInt = 256 := rfl
  have e0 : (0 : Int32).toInt = 0 := rfl
  have s := Jvm.Kit.i32_add (p := p) (q := 128) (by omega) (by omega)
  rw [Int32.lt_iff_toInt_lt, Int32.lt_iff_toInt_lt]
  omega
theorem own_pn0 : plainName "com/example/fovea/fovea/KeyEqualsPinLaw" = true := by first | (simp [plainName, overriddenIn]; done) | decide +kernel
theorem own_ef_own_slots (m : MethodId) (p_0 : Int32) (p_1 : Int32) : entryFrame m #[(.int p_0), (.int p_1)] 3 = mkF m 0 #[.val (.int p_0), .val (.int p_1), .unset] [] := by first | (simp [entryFrame, mkF, argsToLocals, Value.category]; done) | rfl
theorem own_d1_0 : decode method_3_code 0 = .ok (.iload_n 0, 1) := by decide +kernel
theorem own_d1_1 : decode method_3_code 1 = .ok (.newarray .int, 2) := by decide +kernel
theorem own_d1_3 : decode method_3_code 3 = .ok (.astore_n 2, 1) := by decide +kernel
theorem own_d1_4 : decode method_3_code 4 = .ok (.iload_n 0, 1) := by decide +kernel
theorem own_d1_5 : decode method_3_code 5 = .ok (.ifCond .le 9, 3) := by decide +kernel
theorem own_d1_8 : decode method_3_code 8 = .ok (.aload_n 2, 1) := by decide +kernel
theorem own_d1_9 : decode method_3_code 9 = .ok (.iconst 0, 1) := by decide +kernel
theorem own_d1_10 : decode method_3_code 10 = .ok (.iload_n 1, 1) := by decide +kernel
theorem own_d1_11 : decode method_3_code 11 = .ok (.iconst 3, 1) := by decide +kernel
theorem own_d1_12 : decode method_3_code 12 = .ok (.iand, 1) := by decide +kernel
theorem own_d1_13 : decode method_3_code 13 = .ok (.iastore, 1) := by decide +kernel
theorem own_d1_14 : decode method_3_code 14 = .ok (.iload_n 0, 1) := by decide +kernel
theorem own_d1_15 : decode method_3_code 15 = .ok (.iconst 1, 1) := by decide +kernel
theorem own_d1_16 : decode method_3_code 16 = .ok (.if_icmp .le 11, 3) := by decide +kernel
theorem own_d1_19 : decode method_3_code 19 = .ok (.aload_n 2, 1) := by decide +kernel
theorem own_d1_20 : decode method_3_code 20 = .ok (.iconst 1, 1) := by decide +kernel
theorem own_d1_21 : decode method_3_code 21 = .ok (.iload_n 1, 1) := by decide +kernel
theorem own_d1_22 : decode method_3_code 22 = .ok (.iconst 2, 1) := by decide +kernel
theorem own_d1_23 : decode method_3_code 23 = .ok (.iushr, 1) := by decide +kernel
theorem own_d1_24 : decode method_3_code 24 = .ok (.iconst 3, 1) := by decide +kernel
theorem own_d1_25 : decode method_3_code 25 = .ok (.iand, 1) := by decide +kernel
theorem own_d1_26 : decode method_3_code 26 = .ok (.iastore, 1) := by decide +kernel
theorem own_d1_27 : decode method_3_code 27 = .ok (.iload_n 0, 1) := by decide +kernel
theorem own_d1_28 : decode method_3_code 28 = .ok (.iconst 2, 1) := by decide +kernel
theorem own_d1_29 : decode method_3_code 29 = .ok (.if_icmp .le 11, 3) := by decide +kernel
theorem own_d1_32 : decode method_3_code 32 = .ok (.aload_n 2, 1) := by decide +kernel
theorem own_d1_33 : decode method_3_code 33 = .ok (.iconst 2, 1) := by decide +kernel
theorem own_d1_34 : decode method_3_code 34 = .ok (.iload_n 1, 1) := by decide +kernel
theorem own_d1_35 : decode method_3_code 35 = .ok (.iconst 4, 1) := by decide +kernel
theorem own_d1_36 : decode method_3_code 36 = .ok (.iushr, 1) := by decide +kernel
theorem own_d1_37 : decode method_3_code 37 = .ok (.iconst 3, 1) := by decide +kernel
theorem own_d1_38 : decode method_3_code 38 = .ok (.iand, 1) := by decide +kernel
theorem own_d1_39 : decode method_3_code 39 = .ok (.iastore, 1) := by decide +kernel
theorem own_d1_40 : decode method_3_code 40 = .ok (.aload_n 2, 1) := by decide +kernel
theorem own_d1_41 : decode method_3_code 41 = .ok (.areturn, 1) := by decide +kernel
def Qown_slots (Z : State) (p_0 : Int32) (p_1 : Int32) (h0 : Heap) (n0 : Nat) (v : Option Value) (h : Heap) (L : List Loc) : Prop := ∃ r_o : Addr, ∃ k_r : ClassId, v = some (.ref r_o) ∧ Fr n0 L ∧ h0.size ≤ r_o ∧ Keep h0 h [] ∧ Arv Z h r_o k_r .int p_0 [(.int (p_1 &&& (3 : Int32))), (.int (((p_1.toUInt32 >>> ((2 : Int32) &&& 31).toUInt32).toInt32) &&& (3 : Int32))), (.int (((p_1.toUInt32 >>> ((4 : Int32) &&& 31).toUInt32).toInt32) &&& (3 : Int32)))] (.int (0 : Int32))
set_option maxRecDepth 65536 in
set_option maxHeartbeats 40000000 in
theorem own_slots (l : Launch) (Z : State) (a0 : Array Value) (hw : ∀ d ∈ tables_1, d.before a0 Z = true) (ws : List Jvm.Cond) (p_0 : Int32) (p_1 : Int32) (h0 : Heap) (n0 : Nat) (Z0 : n0 ≤ h0.size) (hz0 : ¬ p_0 < (0 : Int32)) (hz3 : ¬ (3 : Int32) < p_0) :
    MetFree l (⟨"com/example/fovea/fovea/KeyEqualsPinLaw", "slots", "(II)[I"⟩ : MethodName) (head1 (Jvm.Cond.code (⟨"com/example/fovea/fovea/KeyEqualsPinLaw", "slots", "(II)[I"⟩ : MethodName) method_3_code 3 (some (.array .int)) :: ws) ({ frames := 0, cells := 1, slots := 3, locals := 0 } : Room)) (fun a U => a = #[(.int p_0), (.int p_1)] ∧ Z.Warmed39 U.vm ∧ U.heap = h0) (fun _ _ _ _ _ => True) (fun _ U o U' => ∃ v L, o = .returned v ∧ Qown_slots Z p_0 p_1 h0 n0 v U'.heap L ∧ FrameEnd U o U' L ({ frames := 0, cells := 1, slots := 3, locals := 0 } : Room).cells ({ frames := 0, cells := 1, slots := 3, locals := 0 } : Room).slots) := by
  refine MetFree.of_bodySF (plainFor_of_name own_pn0) hisR ?_
  intro p e s m args below meth c s₁ Bd hml0 hP hK
  obtain ⟨rfl, hZ, hh⟩ := hP
  have hx := Bd.exec
  have hby := Bd.bytes
  have hml : c.maxLocals = 3 := hml0
  have hown : s.vm.findClass "com/example/fovea/fovea/KeyEqualsPinLaw" = some m.cls := findClass_of_methodNamed Bd.named
  have hnm := (name_of_methodNamed Bd.named Bd.method).1
  have X0 : Stand p l e ({ frames := 0, cells := 1, slots := 3, locals := 0 } : Room) s m #[(.int p_0), (.int p_1)] below meth c s₁ [] 0 0 := Stand.of_body Bd
  have e0 : s₁.heap = h0 := by rw [← hh, Bd.state]; rfl
  have N0 := Fr.nil n0
  have pre0 : ∀ t, Steps p.tables e below (s₁.setTop (mkF m 0 #[.val (.int p_0), .val (.int p_1), .unset] [])) t → Steps p.tables e below (s₁.setTop (entryFrame m #[(.int p_0), (.int p_1)] 3)) t := fun t k => castTop (own_ef_own_slots m p_0 p_1) k
  obtain ⟨T3, h3, k3, X3, e3, E3, A3, Y3, st3⟩ := newPE X0 hx hZ (hw _ (List.mem_of_getElem? (i := 0) rfl)) e0 (g := (mkF m 1 #[.val (.int p_0), .val (.int p_1), .unset] [(.int p_0)])) rfl (hb hby own_d1_1) rfl hz0 (cap := 3) (own_neg3 hz0 hz3) (by decide) (by decide) (by decide) (ad := "[I") (by first | rfl | decide)
  obtain ⟨b3, g3⟩ : ∃ z, z = h0.size := ⟨_, rfl⟩
  rw [← g3] at A3 Y3 st3
  have Ge4 : n0 ≤ b3 := Nat.le_trans Z0 (Nat.le_of_eq g3.symm)
  have Sz5 : h0.size ≤ b3 := Nat.le_trans (Keep.refl h0 []).1 (Nat.le_of_eq g3.symm)
  have Kc6 : Keep h0 h3 [] := (Keep.refl h0 []).ext E3
  have Zs7 : n0 ≤ h3.size := (Nat.le_trans Z0 E3.1)
  have V3 : Arv Z h3 b3 k3 .int p_0 [(.int (0 : Int32)), (.int (0 : Int32)), (.int (0 : Int32))] (.int (0 : Int32)) := (Arv.new A3 hz0).pad (pad_rep [] (.int (0 : Int32)) 3)
  have pre11 : ∀ t, Steps p.tables e below (T3.setTop (mkF m 5 #[.val (.int p_0), .val (.int p_1), .val (.ref b3)] [(.int p_0)])) t → Steps p.tables e below (s₁.setTop (entryFrame m #[(.int p_0), (.int p_1)] 3)) t := by
    intro t kt
    refine pre0 _ ?_
    show Steps p.tables e below (s₁.setTop (mkF m 0 #[.val (.int p_0), .val (.int p_1), .unset] [])) _
    refine XS.iloadN X0.here hx rfl (hb hby own_d1_0) rfl ?_
    show Steps p.tables e below (s₁.setTop (mkF m 1 #[.val (.int p_0), .val (.int p_1), .unset] [(.int p_0)])) _
    refine st3 _ ?_
    show Steps p.tables e below (T3.setTop (mkF m 3 #[.val (.int p_0), .val (.int p_1), .unset] [(.ref b3)])) _
    refine XS.astoreN X3.here hx rfl (hb hby own_d1_3) rfl rfl (l' := #[.val (.int p_0), .val (.int p_1), .val (.ref b3)]) rfl ?_
    show Steps p.tables e below (T3.setTop (mkF m 4 #[.val (.int p_0), .val (.int p_1), .val (.ref b3)] [])) _
    refine XS.iloadN X3.here hx rfl (hb hby own_d1_4) rfl ?_
    exact kt
  by_cases hc5_12 : (0 : Int32) < p_0
  · obtain ⟨cl19, Ar19, q19, S19, M19, H19, G19⟩ := id V3
    have hin19 : ¬ ((0 : Int32) < 0 ∨ cl19.slots.size ≤ ((0 : Int32)).toNatClampNeg) := inb_of S19 ⟨by decide, hc5_12⟩
    obtain ⟨T20, h20, X20, e20, W20, st20⟩ := stI X3 hx hZ e3 Ar19 (j := (0 : Int32)) hin19 (g := (mkF m 13 #[.val (.int p_0), .val (.int p_1), .val (.ref b3)] [(.int (p_1 &&& (3 : Int32))), (.int (0 : Int32)), (.ref b3)])) rfl rfl (hb hby own_d1_13)
    have Kc22 : Keep h0 h20 [] := Kc6.wr W20 (Or.inr Sz5)
    have Zs23 : n0 ≤ h20.size := Nat.le_trans Zs7 (Keep.of_wr W20).1
    have N24 := Fr.snoc X20 N0 Ge4
    have Vm21 : Arv Z h20 b3 k3 .int p_0 [(.int (p_1 &&& (3 : Int32))), (.int (0 : Int32)), (.int (0 : Int32))] (.int (0 : Int32)) := Arv.set Ar19 q19 S19 M19 H19 G19 rfl W20 0 rfl (Nat.le_of_ble_eq_true rfl)
    have pre28 : ∀ t, Steps p.tables e below (T20.setTop (mkF m 16 #[.val (.int p_0), .val (.int p_1), .val (.ref b3)] [(.int (1 : Int32)), (.int p_0)])) t → Steps p.tables e below (s₁.setTop (entryFrame m #[(.int p_0), (.int p_1)] 3)) t := by
      intro t kt
      refine pre11 _ ?_
      show Steps p.tables e below (T3.setTop (mkF m 5 #[.val (.int p_0), .val (.int p_1), .val (.ref b3)] [(.int p_0)])) _
      refine XS.ifNo X3.here hx rfl (hb hby own_d1_5) rfl ((if0 _ _).trans (tlt hc5_12).2.2.2) ?_
      show Steps p.tables e below (T3.setTop (mkF m 8 #[.val (.int p_0), .val (.int p_1), .val (.ref b3)] [])) _
      refine XS.aloadN X3.here hx rfl (hb hby own_d1_8) rfl rfl ?_
      show Steps p.tables e below (T3.setTop (mkF m 9 #[.val (.int p_0), .val (.int p_1), .val (.ref b3)] [(.ref b3)])) _
      refine XS.iconst X3.here hx rfl (hb hby own_d1_9) ?_
      show Steps p.tables e below (T3.setTop (mkF m 10 #[.val (.int p_0), .val (.int p_1), .val (.ref b3)] [(.int (0 : Int32)), (.ref b3)])) _
      refine XS.iloadN X3.here hx rfl (hb hby own_d1_10) rfl ?_
      show Steps p.tables e below (T3.setTop (mkF m 11 #[.val (.int p_0), .val (.int p_1), .val (.ref b3)] [(.int p_1), (.int (0 : Int32)), (.ref b3)])) _
      refine XS.iconst X3.here hx rfl (hb hby own_d1_11) ?_
      show Steps p.tables e below (T3.setTop (mkF m 12 #[.val (.int p_0), .val (.int p_1), .val (.ref b3)] [(.int (3 : Int32)), (.int p_1), (.int (0 : Int32)), (.ref b3)])) _
      refine XS.iand X3.here hx rfl (hb hby own_d1_12) rfl ?_
      show Steps p.tables e below (T3.setTop (mkF m 13 #[.val (.int p_0), .val (.int p_1), .val (.ref b3)] [(.int (p_1 &&& (3 : Int32))), (.int (0 : Int32)), (.ref b3)])) _
      refine st20 _ ?_
      show Steps p.tables e below (T20.setTop (mkF m 14 #[.val (.int p_0), .val (.int p_1), .val (.ref b3)] [])) _
      refine XS.iloadN X20.here hx rfl (hb hby own_d1_14) rfl ?_
      show Steps p.tables e below (T20.setTop (mkF m 15 #[.val (.int p_0), .val (.int p_1), .val (.ref b3)] [(.int p_0)])) _
      refine XS.iconst X20.here hx rfl (hb hby own_d1_15) ?_
      exact kt
    by_cases hc16_29 : (1 : Int32) < p_0
    · obtain ⟨cl38, Ar38, q38, S38, M38, H38, G38⟩ := id Vm21
      have hin38 : ¬ ((1 : Int32) < 0 ∨ cl38.slots.size ≤ ((1 : Int32)).toNatClampNeg) := inb_of S38 ⟨by decide, hc16_29⟩
      obtain ⟨T39, h39, X39, e39, W39, st39⟩ := stI X20 hx hZ e20 Ar38 (j := (1 : Int32)) hin38 (g := (mkF m 26 #[.val (.int p_0), .val (.int p_1), .val (.ref b3)] [(.int (((p_1.toUInt32 >>> ((2 : Int32) &&& 31).toUInt32).toInt32) &&& (3 : Int32))), (.int (1 : Int32)), (.ref b3)])) rfl rfl (hb hby own_d1_26)
      have Kc41 : Keep h0 h39 [] := Kc22.wr W39 (Or.inr Sz5)
      have Zs42 : n0 ≤ h39.size := Nat.le_trans Zs23 (Keep.of_wr W39).1
      have N43 := Fr.snoc X39 N24 Ge4
      have Vm40 : Arv Z h39 b3 k3 .int p_0 [(.int (p_1 &&& (3 : Int32))), (.int (((p_1.toUInt32 >>> ((2 : Int32) &&& 31).toUInt32).toInt32) &&& (3 : Int32))), (.int (0 : Int32))] (.int (0 : Int32)) := Arv.set Ar38 q38 S38 M38 H38 G38 rfl W39 1 rfl (Nat.le_of_ble_eq_true rfl)
      have pre47 : ∀ t, Steps p.tables e below (T39.setTop (mkF m 29 #[.val (.int p_0), .val (.int p_1), .val (.ref b3)] [(.int (2 : Int32)), (.int p_0)])) t → Steps p.tables e below (s₁.setTop (entryFrame m #[(.int p_0), (.int p_1)] 3)) t := by
        intro t kt
        refine pre28 _ ?_
        show Steps p.tables e below (T20.setTop (mkF m 16 #[.val (.int p_0), .val (.int p_1), .val (.ref b3)] [(.int (1 : Int32)), (.int p_0)])) _
        refine XS.icmpNo X20.here hx rfl (hb hby own_d1_16) rfl (tlt hc16_29).2.2.2 ?_
        show Steps p.tables e below (T20.setTop (mkF m 19 #[.val (.int p_0), .val (.int p_1), .val (.ref b3)] [])) _
        refine XS.aloadN X20.here hx rfl (hb hby own_d1_19) rfl rfl ?_
        show Steps p.tables e below (T20.setTop (mkF m 20 #[.val (.int p_0), .val (.int p_1), .val (.ref b3)] [(.ref b3)])) _
        refine XS.iconst X20.here hx rfl (hb hby own_d1_20) ?_
        show Steps p.tables e below (T20.setTop (mkF m 21 #[.val (.int p_0), .val (.int p_1), .val (.ref b3)] [(.int (1 : Int32)), (.ref b3)])) _
        refine XS.iloadN X20.here hx rfl (hb hby own_d1_21) rfl ?_
        show Steps p.tables e below (T20.setTop (mkF m 22 #[.val (.int p_0), .val (.int p_1), .val (.ref b3)] [(.int p_1), (.int (1 : Int32)), (.ref b3)])) _
        refine XS.iconst X20.here hx rfl (hb hby own_d1_22) ?_
        show Steps p.tables e below (T20.setTop (mkF m 23 #[.val (.int p_0), .val (.int p_1), .val (.ref b3)] [(.int (2 : Int32)), (.int p_1), (.int (1 : Int32)), (.ref b3)])) _
        refine XS.iushr X20.here hx rfl (hb hby own_d1_23) rfl ?_
        show Steps p.tables e below (T20.setTop (mkF m 24 #[.val (.int p_0), .val (.int p_1), .val (.ref b3)] [(.int ((p_1.toUInt32 >>> ((2 : Int32) &&& 31).toUInt32).toInt32)), (.int (1 : Int32)), (.ref b3)])) _
        refine XS.iconst X20.here hx rfl (hb hby own_d1_24) ?_
        show Steps p.tables e below (T20.setTop (mkF m 25 #[.val (.int p_0), .val (.int p_1), .val (.ref b3)] [(.int (3 : Int32)), (.int ((p_1.toUInt32 >>> ((2 : Int32) &&& 31).toUInt32).toInt32)), (.int (1 : Int32)), (.ref b3)])) _
        refine XS.iand X20.here hx rfl (hb hby own_d1_25) rfl ?_
        show Steps p.tables e below (T20.setTop (mkF m 26 #[.val (.int p_0), .val (.int p_1), .val (.ref b3)] [(.int (((p_1.toUInt32 >>> ((2 : Int32) &&& 31).toUInt32).toInt32) &&& (3 : Int32))), (.int (1 : Int32)), (.ref b3)])) _
        refine st39 _ ?_
        show Steps p.tables e below (T39.setTop (mkF m 27 #[.val (.int p_0), .val (.int p_1), .val (.ref b3)] [])) _
        refine XS.iloadN X39.here hx rfl (hb hby own_d1_27) rfl ?_
        show Steps p.tables e below (T39.setTop (mkF m 28 #[.val (.int p_0), .val (.int p_1), .val (.ref b3)] [(.int p_0)])) _
        refine XS.iconst X39.here hx rfl (hb hby own_d1_28) ?_
        exact kt
      by_cases hc29_48 : (2 : Int32) < p_0
      · obtain ⟨cl57, Ar57, q57, S57, M57, H57, G57⟩ := id Vm40
        have hin57 : ¬ ((2 : Int32) < 0 ∨ cl57.slots.size ≤ ((2 : Int32)).toNatClampNeg) := inb_of S57 ⟨by decide, hc29_48⟩
        obtain ⟨T58, h58, X58, e58, W58, st58⟩ := stI X39 hx hZ e39 Ar57 (j := (2 : Int32)) hin57 (g := (mkF m 39 #[.val (.int p_0), .val (.int p_1), .val (.ref b3)] [(.int (((p_1.toUInt32 >>> ((4 : Int32) &&& 31).toUInt32).toInt32) &&& (3 : Int32))), (.int (2 : Int32)), (.ref b3)])) rfl rfl (hb hby own_d1_39)
        have Kc60 : Keep h0 h58 [] := Kc41.wr W58 (Or.inr Sz5)
        have Zs61 : n0 ≤ h58.size := Nat.le_trans Zs42 (Keep.of_wr W58).1
        have N62 := Fr.snoc X58 N43 Ge4
        have Vm59 : Arv Z h58 b3 k3 .int p_0 [(.int (p_1 &&& (3 : Int32))), (.int (((p_1.toUInt32 >>> ((2 : Int32) &&& 31).toUInt32).toInt32) &&& (3 : Int32))), (.int (((p_1.toUInt32 >>> ((4 : Int32) &&& 31).toUInt32).toInt32) &&& (3 : Int32)))] (.int (0 : Int32)) := Arv.set Ar57 q57 S57 M57 H57 G57 rfl W58 2 rfl (Nat.le_of_ble_eq_true rfl)
        obtain ⟨fs, hr, hrun, hended, hW, hsame⟩ := X58.leave (v := some (.ref b3)) (fun h => by rw [Bd.returns] at h; cases h) (hlocks := BodyLoose.notSynchronized Bd)
        refine ⟨_, _, pre47 _ ?_, hrun, hended, _, _, rfl, ?_, ⟨_, rfl⟩, hW, hsame.mono (by decide) (by decide)⟩
        · show Steps p.tables e below (T39.setTop (mkF m 29 #[.val (.int p_0), .val (.int p_1), .val (.ref b3)] [(.int (2 : Int32)), (.int p_0)])) _
          refine XS.icmpNo X39.here hx rfl (hb hby own_d1_29) rfl (tlt hc29_48).2.2.2 ?_
          show Steps p.tables e below (T39.setTop (mkF m 32 #[.val (.int p_0), .val (.int p_1), .val (.ref b3)] [])) _
          refine XS.aloadN X39.here hx rfl (hb hby own_d1_32) rfl rfl ?_
          show Steps p.tables e below (T39.setTop (mkF m 33 #[.val (.int p_0), .val (.int p_1), .val (.ref b3)] [(.ref b3)])) _
          refine XS.iconst X39.here hx rfl (hb hby own_d1_33) ?_
          show Steps p.tables e below (T39.setTop (mkF m 34 #[.val (.int p_0), .val (.int p_1), .val (.ref b3)] [(.int (2 : Int32)), (.ref b3)])) _
          refine XS.iloadN X39.here hx rfl (hb hby own_d1_34) rfl ?_
          show Steps p.tables e below (T39.setTop (mkF m 35 #[.val (.int p_0), .val (.int p_1), .val (.ref b3)] [(.int p_1), (.int (2 : Int32)), (.ref b3)])) _
          refine XS.iconst X39.here hx rfl (hb hby own_d1_35) ?_
          show Steps p.tables e below (T39.setTop (mkF m 36 #[.val (.int p_0), .val (.int p_1), .val (.ref b3)] [(.int (4 : Int32)), (.int p_1), (.int (2 : Int32)), (.ref b3)])) _
          refine XS.iushr X39.here hx rfl (hb hby own_d1_36) rfl ?_
          show Steps p.tables e below (T39.setTop (mkF m 37 #[.val (.int p_0), .val (.int p_1), .val (.ref b3)] [(.int ((p_1.toUInt32 >>> ((4 : Int32) &&& 31).toUInt32).toInt32)), (.int (2 : Int32)), (.ref b3)])) _
          refine XS.iconst X39.here hx rfl (hb hby own_d1_37) ?_
          show Steps p.tables e below (T39.setTop (mkF m 38 #[.val (.int p_0), .val (.int p_1), .val (.ref b3)] [(.int (3 : Int32)), (.int ((p_1.toUInt32 >>> ((4 : Int32) &&& 31).toUInt32).toInt32)), (.int (2 : Int32)), (.ref b3)])) _
          refine XS.iand X39.here hx rfl (hb hby own_d1_38) rfl ?_
          show Steps p.tables e below (T39.setTop (mkF m 39 #[.val (.int p_0), .val (.int p_1), .val (.ref b3)] [(.int (((p_1.toUInt32 >>> ((4 : Int32) &&& 31).toUInt32).toInt32) &&& (3 : Int32))), (.int (2 : Int32)), (.ref b3)])) _
          refine st58 _ ?_
          show Steps p.tables e below (T58.setTop (mkF m 40 #[.val (.int p_0), .val (.int p_1), .val (.ref b3)] [])) _
          refine XS.aloadN X58.here hx rfl (hb hby own_d1_40) rfl rfl ?_
          show Steps p.tables e below (T58.setTop (mkF m 41 #[.val (.int p_0), .val (.int p_1), .val (.ref b3)] [(.ref b3)])) _
          jvm_step X58.here [X58.here.top, hx, (hb hby own_d1_41), X58.method', Bd.returns, Value.isRef, FieldType.isReference]
          first | (intro acts; rw [hr _ acts rfl rfl rfl]) | rw [hr _ _ rfl rfl rfl]
          exact Steps.refl _
        · show Qown_slots Z p_0 p_1 h0 n0 _ T58.heap _
          rw [e58]
          exact ⟨b3, k3, rfl, N62, Sz5, Kc60, (own_cut3 Vm59 hz3 (fun q => rfl) (fun q => rfl) (fun q => rfl))⟩
      · obtain ⟨fs, hr, hrun, hended, hW, hsame⟩ := X39.leave (v := some (.ref b3)) (fun h => by rw [Bd.returns] at h; cases h) (hlocks := BodyLoose.notSynchronized Bd)
        refine ⟨_, _, pre47 _ ?_, hrun, hended, _, _, rfl, ?_, ⟨_, rfl⟩, hW, hsame.mono (by decide) (by decide)⟩
        · show Steps p.tables e below (T39.setTop (mkF m 29 #[.val (.int p_0), .val (.int p_1), .val (.ref b3)] [(.int (2 : Int32)), (.int p_0)])) _
          refine XS.icmpYes X39.here hx rfl (pc0 := 29) (pc' := 40) rfl (hb hby own_d1_29) rfl (flt hc29_48).2.2.2 (by decide) (by decide) ?_
          show Steps p.tables e below (T39.setTop (mkF m 40 #[.val (.int p_0), .val (.int p_1), .val (.ref b3)] [])) _
          refine XS.aloadN X39.here hx rfl (hb hby own_d1_40) rfl rfl ?_
          show Steps p.tables e below (T39.setTop (mkF m 41 #[.val (.int p_0), .val (.int p_1), .val (.ref b3)] [(.ref b3)])) _
          jvm_step X39.here [X39.here.top, hx, (hb hby own_d1_41), X39.method', Bd.returns, Value.isRef, FieldType.isReference]
          first | (intro acts; rw [hr _ acts rfl rfl rfl]) | rw [hr _ _ rfl rfl rfl]
          exact Steps.refl _
        · show Qown_slots Z p_0 p_1 h0 n0 _ T39.heap _
          rw [e39]
          exact ⟨b3, k3, rfl, N43, Sz5, Kc41, (own_cut3 Vm40 hz3 (fun q => rfl) (fun q => rfl) (fun q => absurd q hc29_48))⟩
    · have pre70 : ∀ t, Steps p.tables e below (T20.setTop (mkF m 29 #[.val (.int p_0), .val (.int p_1), .val (.ref b3)] [(.int (2 : Int32)), (.int p_0)])) t → Steps p.tables e below (s₁.setTop (entryFrame m #[(.int p_0), (.int p_1)] 3)) t := by
        intro t kt
        refine pre28 _ ?_
        show Steps p.tables e below (T20.setTop (mkF m 16 #[.val (.int p_0), .val (.int p_1), .val (.ref b3)] [(.int (1 : Int32)), (.int p_0)])) _
        refine XS.icmpYes X20.here hx rfl (pc0 := 16) (pc' := 27) rfl (hb hby own_d1_16) rfl (flt hc16_29).2.2.2 (by decide) (by decide) ?_
        show Steps p.tables e below (T20.setTop (mkF m 27 #[.val (.int p_0), .val (.int p_1), .val (.ref b3)] [])) _
        refine XS.iloadN X20.here hx rfl (hb hby own_d1_27) rfl ?_
        show Steps p.tables e below (T20.setTop (mkF m 28 #[.val (.int p_0), .val (.int p_1), .val (.ref b3)] [(.int p_0)])) _
        refine XS.iconst X20.here hx rfl (hb hby own_d1_28) ?_
        exact kt
      by_cases hc29_71 : (2 : Int32) < p_0
      · obtain ⟨cl80, Ar80, q80, S80, M80, H80, G80⟩ := id Vm21
        have hin80 : ¬ ((2 : Int32) < 0 ∨ cl80.slots.size ≤ ((2 : Int32)).toNatClampNeg) := inb_of S80 ⟨by decide, hc29_71⟩
        obtain ⟨T81, h81, X81, e81, W81, st81⟩ := stI X20 hx hZ e20 Ar80 (j := (2 : Int32)) hin80 (g := (mkF m 39 #[.val (.int p_0), .val (.int p_1), .val (.ref b3)] [(.int (((p_1.toUInt32 >>> ((4 : Int32) &&& 31).toUInt32).toInt32) &&& (3 : Int32))), (.int (2 : Int32)), (.ref b3)])) rfl rfl (hb hby own_d1_39)
        have Kc83 : Keep h0 h81 [] := Kc22.wr W81 (Or.inr Sz5)
        have Zs84 : n0 ≤ h81.size := Nat.le_trans Zs23 (Keep.of_wr W81).1
        have N85 := Fr.snoc X81 N24 Ge4
        have Vm82 : Arv Z h81 b3 k3 .int p_0 [(.int (p_1 &&& (3 : Int32))), (.int (0 : Int32)), (.int (((p_1.toUInt32 >>> ((4 : Int32) &&& 31).toUInt32).toInt32) &&& (3 : Int32)))] (.int (0 : Int32)) := Arv.set Ar80 q80 S80 M80 H80 G80 rfl W81 2 rfl (Nat.le_of_ble_eq_true rfl)
        obtain ⟨fs, hr, hrun, hended, hW, hsame⟩ := X81.leave (v := some (.ref b3)) (fun h => by rw [Bd.returns] at h; cases h) (hlocks := BodyLoose.notSynchronized Bd)
        refine ⟨_, _, pre70 _ ?_, hrun, hended, _, _, rfl, ?_, ⟨_, rfl⟩, hW, hsame.mono (by decide) (by decide)⟩
        · show Steps p.tables e below (T20.setTop (mkF m 29 #[.val (.int p_0), .val (.int p_1), .val (.ref b3)] [(.int (2 : Int32)), (.int p_0)])) _
          refine XS.icmpNo X20.here hx rfl (hb hby own_d1_29) rfl (tlt hc29_71).2.2.2 ?_
          show Steps p.tables e below (T20.setTop (mkF m 32 #[.val (.int p_0), .val (.int p_1), .val (.ref b3)] [])) _
          refine XS.aloadN X20.here hx rfl (hb hby own_d1_32) rfl rfl ?_
          show Steps p.tables e below (T20.setTop (mkF m 33 #[.val (.int p_0), .val (.int p_1), .val (.ref b3)] [(.ref b3)])) _
          refine XS.iconst X20.here hx rfl (hb hby own_d1_33) ?_
          show Steps p.tables e below (T20.setTop (mkF m 34 #[.val (.int p_0), .val (.int p_1), .val (.ref b3)] [(.int (2 : Int32)), (.ref b3)])) _
          refine XS.iloadN X20.here hx rfl (hb hby own_d1_34) rfl ?_
          show Steps p.tables e below (T20.setTop (mkF m 35 #[.val (.int p_0), .val (.int p_1), .val (.ref b3)] [(.int p_1), (.int (2 : Int32)), (.ref b3)])) _
          refine XS.iconst X20.here hx rfl (hb hby own_d1_35) ?_
          show Steps p.tables e below (T20.setTop (mkF m 36 #[.val (.int p_0), .val (.int p_1), .val (.ref b3)] [(.int (4 : Int32)), (.int p_1), (.int (2 : Int32)), (.ref b3)])) _
          refine XS.iushr X20.here hx rfl (hb hby own_d1_36) rfl ?_
          show Steps p.tables e below (T20.setTop (mkF m 37 #[.val (.int p_0), .val (.int p_1), .val (.ref b3)] [(.int ((p_1.toUInt32 >>> ((4 : Int32) &&& 31).toUInt32).toInt32)), (.int (2 : Int32)), (.ref b3)])) _
          refine XS.iconst X20.here hx rfl (hb hby own_d1_37) ?_
          show Steps p.tables e below (T20.setTop (mkF m 38 #[.val (.int p_0), .val (.int p_1), .val (.ref b3)] [(.int (3 : Int32)), (.int ((p_1.toUInt32 >>> ((4 : Int32) &&& 31).toUInt32).toInt32)), (.int (2 : Int32)), (.ref b3)])) _
          refine XS.iand X20.here hx rfl (hb hby own_d1_38) rfl ?_
          show Steps p.tables e below (T20.setTop (mkF m 39 #[.val (.int p_0), .val (.int p_1), .val (.ref b3)] [(.int (((p_1.toUInt32 >>> ((4 : Int32) &&& 31).toUInt32).toInt32) &&& (3 : Int32))), (.int (2 : Int32)), (.ref b3)])) _
          refine st81 _ ?_
          show Steps p.tables e below (T81.setTop (mkF m 40 #[.val (.int p_0), .val (.int p_1), .val (.ref b3)] [])) _
          refine XS.aloadN X81.here hx rfl (hb hby own_d1_40) rfl rfl ?_
          show Steps p.tables e below (T81.setTop (mkF m 41 #[.val (.int p_0), .val (.int p_1), .val (.ref b3)] [(.ref b3)])) _
          jvm_step X81.here [X81.here.top, hx, (hb hby own_d1_41), X81.method', Bd.returns, Value.isRef, FieldType.isReference]
          first | (intro acts; rw [hr _ acts rfl rfl rfl]) | rw [hr _ _ rfl rfl rfl]
          exact Steps.refl _
        · show Qown_slots Z p_0 p_1 h0 n0 _ T81.heap _
          rw [e81]
          exact ⟨b3, k3, rfl, N85, Sz5, Kc83, (own_cut3 Vm82 hz3 (fun q => rfl) (fun q => absurd q hc16_29) (fun q => rfl))⟩
      · obtain ⟨fs, hr, hrun, hended, hW, hsame⟩ := X20.leave (v := some (.ref b3)) (fun h => by rw [Bd.returns] at h; cases h) (hlocks := BodyLoose.notSynchronized Bd)
        refine ⟨_, _, pre70 _ ?_, hrun, hended, _, _, rfl, ?_, ⟨_, rfl⟩, hW, hsame.mono (by decide) (by decide)⟩
        · show Steps p.tables e below (T20.setTop (mkF m 29 #[.val (.int p_0), .val (.int p_1), .val (.ref b3)] [(.int (2 : Int32)), (.int p_0)])) _
          refine XS.icmpYes X20.here hx rfl (pc0 := 29) (pc' := 40) rfl (hb hby own_d1_29) rfl (flt hc29_71).2.2.2 (by decide) (by decide) ?_
          show Steps p.tables e below (T20.setTop (mkF m 40 #[.val (.int p_0), .val (.int p_1), .val (.ref b3)] [])) _
          refine XS.aloadN X20.here hx rfl (hb hby own_d1_40) rfl rfl ?_
          show Steps p.tables e below (T20.setTop (mkF m 41 #[.val (.int p_0), .val (.int p_1), .val (.ref b3)] [(.ref b3)])) _
          jvm_step X20.here [X20.here.top, hx, (hb hby own_d1_41), X20.method', Bd.returns, Value.isRef, FieldType.isReference]
          first | (intro acts; rw [hr _ acts rfl rfl rfl]) | rw [hr _ _ rfl rfl rfl]
          exact Steps.refl _
        · show Qown_slots Z p_0 p_1 h0 n0 _ T20.heap _
          rw [e20]
          exact ⟨b3, k3, rfl, N24, Sz5, Kc22, (own_cut3 Vm21 hz3 (fun q => rfl) (fun q => absurd q hc16_29) (fun q => absurd q hc29_71))⟩
  · have pre93 : ∀ t, Steps p.tables e below (T3.setTop (mkF m 16 #[.val (.int p_0), .val (.int p_1), .val (.ref b3)] [(.int (1 : Int32)), (.int p_0)])) t → Steps p.tables e below (s₁.setTop (entryFrame m #[(.int p_0), (.int p_1)] 3)) t := by
      intro t kt
      refine pre11 _ ?_
      show Steps p.tables e below (T3.setTop (mkF m 5 #[.val (.int p_0), .val (.int p_1), .val (.ref b3)] [(.int p_0)])) _
      refine XS.ifYes X3.here hx rfl (pc0 := 5) (pc' := 14) rfl (hb hby own_d1_5) rfl ((if0 _ _).trans (flt hc5_12).2.2.2) (by decide) (by decide) ?_
      show Steps p.tables e below (T3.setTop (mkF m 14 #[.val (.int p_0), .val (.int p_1), .val (.ref b3)] [])) _
      refine XS.iloadN X3.here hx rfl (hb hby own_d1_14) rfl ?_
      show Steps p.tables e below (T3.setTop (mkF m 15 #[.val (.int p_0), .val (.int p_1), .val (.ref b3)] [(.int p_0)])) _
      refine XS.iconst X3.here hx rfl (hb hby own_d1_15) ?_
      exact kt
    by_cases hc16_94 : (1 : Int32) < p_0
    · obtain ⟨cl103, Ar103, q103, S103, M103, H103, G103⟩ := id V3
      have hin103 : ¬ ((1 : Int32) < 0 ∨ cl103.slots.size ≤ ((1 : Int32)).toNatClampNeg) := inb_of S103 ⟨by decide, hc16_94⟩
      obtain ⟨T104, h104, X104, e104, W104, st104⟩ := stI X3 hx hZ e3 Ar103 (j := (1 : Int32)) hin103 (g := (mkF m 26 #[.val (.int p_0), .val (.int p_1), .val (.ref b3)] [(.int (((p_1.toUInt32 >>> ((2 : Int32) &&& 31).toUInt32).toInt32) &&& (3 : Int32))), (.int (1 : Int32)), (.ref b3)])) rfl rfl (hb hby own_d1_26)
      have Kc106 : Keep h0 h104 [] := Kc6.wr W104 (Or.inr Sz5)
      have Zs107 : n0 ≤ h104.size := Nat.le_trans Zs7 (Keep.of_wr W104).1
      have N108 := Fr.snoc X104 N0 Ge4
      have Vm105 : Arv Z h104 b3 k3 .int p_0 [(.int (0 : Int32)), (.int (((p_1.toUInt32 >>> ((2 : Int32) &&& 31).toUInt32).toInt32) &&& (3 : Int32))), (.int (0 : Int32))] (.int (0 : Int32)) := Arv.set Ar103 q103 S103 M103 H103 G103 rfl W104 1 rfl (Nat.le_of_ble_eq_true rfl)
      have pre112 : ∀ t, Steps p.tables e below (T104.setTop (mkF m 29 #[.val (.int p_0), .val (.int p_1), .val (.ref b3)] [(.int (2 : Int32)), (.int p_0)])) t → Steps p.tables e below (s₁.setTop (entryFrame m #[(.int p_0), (.int p_1)] 3)) t := by
        intro t kt
        refine pre93 _ ?_
        show Steps p.tables e below (T3.setTop (mkF m 16 #[.val (.int p_0), .val (.int p_1), .val (.ref b3)] [(.int (1 : Int32)), (.int p_0)])) _
        refine XS.icmpNo X3.here hx rfl (hb hby own_d1_16) rfl (tlt hc16_94).2.2.2 ?_
        show Steps p.tables e below (T3.setTop (mkF m 19 #[.val (.int p_0), .val (.int p_1), .val (.ref b3)] [])) _
        refine XS.aloadN X3.here hx rfl (hb hby own_d1_19) rfl rfl ?_
        show Steps p.tables e below (T3.setTop (mkF m 20 #[.val (.int p_0), .val (.int p_1), .val (.ref b3)] [(.ref b3)])) _
        refine XS.iconst X3.here hx rfl (hb hby own_d1_20) ?_
        show Steps p.tables e below (T3.setTop (mkF m 21 #[.val (.int p_0), .val (.int p_1), .val (.ref b3)] [(.int (1 : Int32)), (.ref b3)])) _
        refine XS.iloadN X3.here hx rfl (hb hby own_d1_21) rfl ?_
        show Steps p.tables e below (T3.setTop (mkF m 22 #[.val (.int p_0), .val (.int p_1), .val (.ref b3)] [(.int p_1), (.int (1 : Int32)), (.ref b3)])) _
        refine XS.iconst X3.here hx rfl (hb hby own_d1_22) ?_
        show Steps p.tables e below (T3.setTop (mkF m 23 #[.val (.int p_0), .val (.int p_1), .val (.ref b3)] [(.int (2 : Int32)), (.int p_1), (.int (1 : Int32)), (.ref b3)])) _
        refine XS.iushr X3.here hx rfl (hb hby own_d1_23) rfl ?_
        show Steps p.tables e below (T3.setTop (mkF m 24 #[.val (.int p_0), .val (.int p_1), .val (.ref b3)] [(.int ((p_1.toUInt32 >>> ((2 : Int32) &&& 31).toUInt32).toInt32)), (.int (1 : Int32)), (.ref b3)])) _
        refine XS.iconst X3.here hx rfl (hb hby own_d1_24) ?_
        show Steps p.tables e below (T3.setTop (mkF m 25 #[.val (.int p_0), .val (.int p_1), .val (.ref b3)] [(.int (3 : Int32)), (.int ((p_1.toUInt32 >>> ((2 : Int32) &&& 31).toUInt32).toInt32)), (.int (1 : Int32)), (.ref b3)])) _
        refine XS.iand X3.here hx rfl (hb hby own_d1_25) rfl ?_
        show Steps p.tables e below (T3.setTop (mkF m 26 #[.val (.int p_0), .val (.int p_1), .val (.ref b3)] [(.int (((p_1.toUInt32 >>> ((2 : Int32) &&& 31).toUInt32).toInt32) &&& (3 : Int32))), (.int (1 : Int32)), (.ref b3)])) _
        refine st104 _ ?_
        show Steps p.tables e below (T104.setTop (mkF m 27 #[.val (.int p_0), .val (.int p_1), .val (.ref b3)] [])) _
        refine XS.iloadN X104.here hx rfl (hb hby own_d1_27) rfl ?_
        show Steps p.tables e below (T104.setTop (mkF m 28 #[.val (.int p_0), .val (.int p_1), .val (.ref b3)] [(.int p_0)])) _
        refine XS.iconst X104.here hx rfl (hb hby own_d1_28) ?_
        exact kt
      by_cases hc29_113 : (2 : Int32) < p_0
      · obtain ⟨cl122, Ar122, q122, S122, M122, H122, G122⟩ := id Vm105
        have hin122 : ¬ ((2 : Int32) < 0 ∨ cl122.slots.size ≤ ((2 : Int32)).toNatClampNeg) := inb_of S122 ⟨by decide, hc29_113⟩
        obtain ⟨T123, h123, X123, e123, W123, st123⟩ := stI X104 hx hZ e104 Ar122 (j := (2 : Int32)) hin122 (g := (mkF m 39 #[.val (.int p_0), .val (.int p_1), .val (.ref b3)] [(.int (((p_1.toUInt32 >>> ((4 : Int32) &&& 31).toUInt32).toInt32) &&& (3 : Int32))), (.int (2 : Int32)), (.ref b3)])) rfl rfl (hb hby own_d1_39)
        have Kc125 : Keep h0 h123 [] := Kc106.wr W123 (Or.inr Sz5)
        have Zs126 : n0 ≤ h123.size := Nat.le_trans Zs107 (Keep.of_wr W123).1
        have N127 := Fr.snoc X123 N108 Ge4
        have Vm124 : Arv Z h123 b3 k3 .int p_0 [(.int (0 : Int32)), (.int (((p_1.toUInt32 >>> ((2 : Int32) &&& 31).toUInt32).toInt32) &&& (3 : Int32))), (.int (((p_1.toUInt32 >>> ((4 : Int32) &&& 31).toUInt32).toInt32) &&& (3 : Int32)))] (.int (0 : Int32)) := Arv.set Ar122 q122 S122 M122 H122 G122 rfl W123 2 rfl (Nat.le_of_ble_eq_true rfl)
        obtain ⟨fs, hr, hrun, hended, hW, hsame⟩ := X123.leave (v := some (.ref b3)) (fun h => by rw [Bd.returns] at h; cases h) (hlocks := BodyLoose.notSynchronized Bd)
        refine ⟨_, _, pre112 _ ?_, hrun, hended, _, _, rfl, ?_, ⟨_, rfl⟩, hW, hsame.mono (by decide) (by decide)⟩
        · show Steps p.tables e below (T104.setTop (mkF m 29 #[.val (.int p_0), .val (.int p_1), .val (.ref b3)] [(.int (2 : Int32)), (.int p_0)])) _
          refine XS.icmpNo X104.here hx rfl (hb hby own_d1_29) rfl (tlt hc29_113).2.2.2 ?_
          show Steps p.tables e below (T104.setTop (mkF m 32 #[.val (.int p_0), .val (.int p_1), .val (.ref b3)] [])) _
          refine XS.aloadN X104.here hx rfl (hb hby own_d1_32) rfl rfl ?_
          show Steps p.tables e below (T104.setTop (mkF m 33 #[.val (.int p_0), .val (.int p_1), .val (.ref b3)] [(.ref b3)])) _
          refine XS.iconst X104.here hx rfl (hb hby own_d1_33) ?_
          show Steps p.tables e below (T104.setTop (mkF m 34 #[.val (.int p_0), .val (.int p_1), .val (.ref b3)] [(.int (2 : Int32)), (.ref b3)])) _
          refine XS.iloadN X104.here hx rfl (hb hby own_d1_34) rfl ?_
          show Steps p.tables e below (T104.setTop (mkF m 35 #[.val (.int p_0), .val (.int p_1), .val (.ref b3)] [(.int p_1), (.int (2 : Int32)), (.ref b3)])) _
          refine XS.iconst X104.here hx rfl (hb hby own_d1_35) ?_
          show Steps p.tables e below (T104.setTop (mkF m 36 #[.val (.int p_0), .val (.int p_1), .val (.ref b3)] [(.int (4 : Int32)), (.int p_1), (.int (2 : Int32)), (.ref b3)])) _
          refine XS.iushr X104.here hx rfl (hb hby own_d1_36) rfl ?_
          show Steps p.tables e below (T104.setTop (mkF m 37 #[.val (.int p_0), .val (.int p_1), .val (.ref b3)] [(.int ((p_1.toUInt32 >>> ((4 : Int32) &&& 31).toUInt32).toInt32)), (.int (2 : Int32)), (.ref b3)])) _
          refine XS.iconst X104.here hx rfl (hb hby own_d1_37) ?_
          show Steps p.tables e below (T104.setTop (mkF m 38 #[.val (.int p_0), .val (.int p_1), .val (.ref b3)] [(.int (3 : Int32)), (.int ((p_1.toUInt32 >>> ((4 : Int32) &&& 31).toUInt32).toInt32)), (.int (2 : Int32)), (.ref b3)])) _
          refine XS.iand X104.here hx rfl (hb hby own_d1_38) rfl ?_
          show Steps p.tables e below (T104.setTop (mkF m 39 #[.val (.int p_0), .val (.int p_1), .val (.ref b3)] [(.int (((p_1.toUInt32 >>> ((4 : Int32) &&& 31).toUInt32).toInt32) &&& (3 : Int32))), (.int (2 : Int32)), (.ref b3)])) _
          refine st123 _ ?_
          show Steps p.tables e below (T123.setTop (mkF m 40 #[.val (.int p_0), .val (.int p_1), .val (.ref b3)] [])) _
          refine XS.aloadN X123.here hx rfl (hb hby own_d1_40) rfl rfl ?_
          show Steps p.tables e below (T123.setTop (mkF m 41 #[.val (.int p_0), .val (.int p_1), .val (.ref b3)] [(.ref b3)])) _
          jvm_step X123.here [X123.here.top, hx, (hb hby own_d1_41), X123.method', Bd.returns, Value.isRef, FieldType.isReference]
          first | (intro acts; rw [hr _ acts rfl rfl rfl]) | rw [hr _ _ rfl rfl rfl]
          exact Steps.refl _
        · show Qown_slots Z p_0 p_1 h0 n0 _ T123.heap _
          rw [e123]
          exact ⟨b3, k3, rfl, N127, Sz5, Kc125, (own_cut3 Vm124 hz3 (fun q => absurd q hc5_12) (fun q => rfl) (fun q => rfl))⟩
      · obtain ⟨fs, hr, hrun, hended, hW, hsame⟩ := X104.leave (v := some (.ref b3)) (fun h => by rw [Bd.returns] at h; cases h) (hlocks := BodyLoose.notSynchronized Bd)
        refine ⟨_, _, pre112 _ ?_, hrun, hended, _, _, rfl, ?_, ⟨_, rfl⟩, hW, hsame.mono (by decide) (by decide)⟩
        · show Steps p.tables e below (T104.setTop (mkF m 29 #[.val (.int p_0), .val (.int p_1), .val (.ref b3)] [(.int (2 : Int32)), (.int p_0)])) _
          refine XS.icmpYes X104.here hx rfl (pc0 := 29) (pc' := 40) rfl (hb hby own_d1_29) rfl (flt hc29_113).2.2.2 (by decide) (by decide) ?_
          show Steps p.tables e below (T104.setTop (mkF m 40 #[.val (.int p_0), .val (.int p_1), .val (.ref b3)] [])) _
          refine XS.aloadN X104.here hx rfl (hb hby own_d1_40) rfl rfl ?_
          show Steps p.tables e below (T104.setTop (mkF m 41 #[.val (.int p_0), .val (.int p_1), .val (.ref b3)] [(.ref b3)])) _
          jvm_step X104.here [X104.here.top, hx, (hb hby own_d1_41), X104.method', Bd.returns, Value.isRef, FieldType.isReference]
          first | (intro acts; rw [hr _ acts rfl rfl rfl]) | rw [hr _ _ rfl rfl rfl]
          exact Steps.refl _
        · show Qown_slots Z p_0 p_1 h0 n0 _ T104.heap _
          rw [e104]
          exact ⟨b3, k3, rfl, N108, Sz5, Kc106, (own_cut3 Vm105 hz3 (fun q => absurd q hc5_12) (fun q => rfl) (fun q => absurd q hc29_113))⟩
    · have pre135 : ∀ t, Steps p.tables e below (T3.setTop (mkF m 29 #[.val (.int p_0), .val (.int p_1), .val (.ref b3)] [(.int (2 : Int32)), (.int p_0)])) t → Steps p.tables e below (s₁.setTop (entryFrame m #[(.int p_0), (.int p_1)] 3)) t := by
        intro t kt
        refine pre93 _ ?_
        show Steps p.tables e below (T3.setTop (mkF m 16 #[.val (.int p_0), .val (.int p_1), .val (.ref b3)] [(.int (1 : Int32)), (.int p_0)])) _
        refine XS.icmpYes X3.here hx rfl (pc0 := 16) (pc' := 27) rfl (hb hby own_d1_16) rfl (flt hc16_94).2.2.2 (by decide) (by decide) ?_
        show Steps p.tables e below (T3.setTop (mkF m 27 #[.val (.int p_0), .val (.int p_1), .val (.ref b3)] [])) _
        refine XS.iloadN X3.here hx rfl (hb hby own_d1_27) rfl ?_
        show Steps p.tables e below (T3.setTop (mkF m 28 #[.val (.int p_0), .val (.int p_1), .val (.ref b3)] [(.int p_0)])) _
        refine XS.iconst X3.here hx rfl (hb hby own_d1_28) ?_
        exact kt
      by_cases hc29_136 : (2 : Int32) < p_0
      · obtain ⟨cl145, Ar145, q145, S145, M145, H145, G145⟩ := id V3
        have hin145 : ¬ ((2 : Int32) < 0 ∨ cl145.slots.size ≤ ((2 : Int32)).toNatClampNeg) := inb_of S145 ⟨by decide, hc29_136⟩
        obtain ⟨T146, h146, X146, e146, W146, st146⟩ := stI X3 hx hZ e3 Ar145 (j := (2 : Int32)) hin145 (g := (mkF m 39 #[.val (.int p_0), .val (.int p_1), .val (.ref b3)] [(.int (((p_1.toUInt32 >>> ((4 : Int32) &&& 31).toUInt32).toInt32) &&& (3 : Int32))), (.int (2 : Int32)), (.ref b3)])) rfl rfl (hb hby own_d1_39)
        have Kc148 : Keep h0 h146 [] := Kc6.wr W146 (Or.inr Sz5)
        have Zs149 : n0 ≤ h146.size := Nat.le_trans Zs7 (Keep.of_wr W146).1
        have N150 := Fr.snoc X146 N0 Ge4
        have Vm147 : Arv Z h146 b3 k3 .int p_0 [(.int (0 : Int32)), (.int (0 : Int32)), (.int (((p_1.toUInt32 >>> ((4 : Int32) &&& 31).toUInt32).toInt32) &&& (3 : Int32)))] (.int (0 : Int32)) := Arv.set Ar145 q145 S145 M145 H145 G145 rfl W146 2 rfl (Nat.le_of_ble_eq_true rfl)
        obtain ⟨fs, hr, hrun, hended, hW, hsame⟩ := X146.leave (v := some (.ref b3)) (fun h => by rw [Bd.returns] at h; cases h) (hlocks := BodyLoose.notSynchronized Bd)
        refine ⟨_, _, pre135 _ ?_, hrun, hended, _, _, rfl, ?_, ⟨_, rfl⟩, hW, hsame.mono (by decide) (by decide)⟩
        · show Steps p.tables e below (T3.setTop (mkF m 29 #[.val (.int p_0), .val (.int p_1), .val (.ref b3)] [(.int (2 : Int32)), (.int p_0)])) _
          refine XS.icmpNo X3.here hx rfl (hb hby own_d1_29) rfl (tlt hc29_136).2.2.2 ?_
          show Steps p.tables e below (T3.setTop (mkF m 32 #[.val (.int p_0), .val (.int p_1), .val (.ref b3)] [])) _
          refine XS.aloadN X3.here hx rfl (hb hby own_d1_32) rfl rfl ?_
          show Steps p.tables e below (T3.setTop (mkF m 33 #[.val (.int p_0), .val (.int p_1), .val (.ref b3)] [(.ref b3)])) _
          refine XS.iconst X3.here hx rfl (hb hby own_d1_33) ?_
          show Steps p.tables e below (T3.setTop (mkF m 34 #[.val (.int p_0), .val (.int p_1), .val (.ref b3)] [(.int (2 : Int32)), (.ref b3)])) _
          refine XS.iloadN X3.here hx rfl (hb hby own_d1_34) rfl ?_
          show Steps p.tables e below (T3.setTop (mkF m 35 #[.val (.int p_0), .val (.int p_1), .val (.ref b3)] [(.int p_1), (.int (2 : Int32)), (.ref b3)])) _
          refine XS.iconst X3.here hx rfl (hb hby own_d1_35) ?_
          show Steps p.tables e below (T3.setTop (mkF m 36 #[.val (.int p_0), .val (.int p_1), .val (.ref b3)] [(.int (4 : Int32)), (.int p_1), (.int (2 : Int32)), (.ref b3)])) _
          refine XS.iushr X3.here hx rfl (hb hby own_d1_36) rfl ?_
          show Steps p.tables e below (T3.setTop (mkF m 37 #[.val (.int p_0), .val (.int p_1), .val (.ref b3)] [(.int ((p_1.toUInt32 >>> ((4 : Int32) &&& 31).toUInt32).toInt32)), (.int (2 : Int32)), (.ref b3)])) _
          refine XS.iconst X3.here hx rfl (hb hby own_d1_37) ?_
          show Steps p.tables e below (T3.setTop (mkF m 38 #[.val (.int p_0), .val (.int p_1), .val (.ref b3)] [(.int (3 : Int32)), (.int ((p_1.toUInt32 >>> ((4 : Int32) &&& 31).toUInt32).toInt32)), (.int (2 : Int32)), (.ref b3)])) _
          refine XS.iand X3.here hx rfl (hb hby own_d1_38) rfl ?_
          show Steps p.tables e below (T3.setTop (mkF m 39 #[.val (.int p_0), .val (.int p_1), .val (.ref b3)] [(.int (((p_1.toUInt32 >>> ((4 : Int32) &&& 31).toUInt32).toInt32) &&& (3 : Int32))), (.int (2 : Int32)), (.ref b3)])) _
          refine st146 _ ?_
          show Steps p.tables e below (T146.setTop (mkF m 40 #[.val (.int p_0), .val (.int p_1), .val (.ref b3)] [])) _
          refine XS.aloadN X146.here hx rfl (hb hby own_d1_40) rfl rfl ?_
          show Steps p.tables e below (T146.setTop (mkF m 41 #[.val (.int p_0), .val (.int p_1), .val (.ref b3)] [(.ref b3)])) _
          jvm_step X146.here [X146.here.top, hx, (hb hby own_d1_41), X146.method', Bd.returns, Value.isRef, FieldType.isReference]
          first | (intro acts; rw [hr _ acts rfl rfl rfl]) | rw [hr _ _ rfl rfl rfl]
          exact Steps.refl _
        · show Qown_slots Z p_0 p_1 h0 n0 _ T146.heap _
          rw [e146]
          exact ⟨b3, k3, rfl, N150, Sz5, Kc148, (own_cut3 Vm147 hz3 (fun q => absurd q hc5_12) (fun q => absurd q hc16_94) (fun q => rfl))⟩
      · obtain ⟨fs, hr, hrun, hended, hW, hsame⟩ := X3.leave (v := some (.ref b3)) (fun h => by rw [Bd.returns] at h; cases h) (hlocks := BodyLoose.notSynchronized Bd)
        refine ⟨_, _, pre135 _ ?_, hrun, hended, _, _, rfl, ?_, ⟨_, rfl⟩, hW, hsame.mono (by decide) (by decide)⟩
        · show Steps p.tables e below (T3.setTop (mkF m 29 #[.val (.int p_0), .val (.int p_1), .val (.ref b3)] [(.int (2 : Int32)), (.int p_0)])) _
          refine XS.icmpYes X3.here hx rfl (pc0 := 29) (pc' := 40) rfl (hb hby own_d1_29) rfl (flt hc29_136).2.2.2 (by decide) (by decide) ?_
          show Steps p.tables e below (T3.setTop (mkF m 40 #[.val (.int p_0), .val (.int p_1), .val (.ref b3)] [])) _
          refine XS.aloadN X3.here hx rfl (hb hby own_d1_40) rfl rfl ?_
          show Steps p.tables e below (T3.setTop (mkF m 41 #[.val (.int p_0), .val (.int p_1), .val (.ref b3)] [(.ref b3)])) _
          jvm_step X3.here [X3.here.top, hx, (hb hby own_d1_41), X3.method', Bd.returns, Value.isRef, FieldType.isReference]
          first | (intro acts; rw [hr _ acts rfl rfl rfl]) | rw [hr _ _ rfl rfl rfl]
          exact Steps.refl _
        · show Qown_slots Z p_0 p_1 h0 n0 _ T3.heap _
          rw [e3]
          exact ⟨b3, k3, rfl, N0, Sz5, Kc6, (own_cut3 V3 hz3 (fun q => absurd q hc5_12) (fun q => absurd q hc16_94) (fun q => absurd q hc29_136))⟩
theorem own_pn1 : plainName "com/example/fovea/fovea/Memory$Key" = true := by first | (simp [plainName, overriddenIn]; done) | decide +kernel
theorem own_ef_own_init (m : MethodId) (a_o : Addr) : entryFrame m #[(.ref a_o)] 1 = mkF m 0 #[.val (.ref a_o)] [] := by first | (simp [entryFrame, mkF, argsToLocals, Value.category]; done) | rfl
theorem own_d2_0 : decode prog_37_method_1_code 0 = .ok (.aload_n 0, 1) := by decide +kernel
theorem own_d2_1 : decode prog_37_method_1_code 1 = .ok (.invokespecial 1, 3) := by decide +kernel
theorem own_d2_4 : decode prog_37_method_1_code 4 = .ok (.return_, 1) := by decide +kernel
def Qown_init (Z : State) (a_o : Addr) (h0 : Heap) (n0 : Nat) (v : Option Value) (h : Heap) (L : List Loc) : Prop := v = none ∧ Fr n0 L ∧ h = h0
set_option maxRecDepth 65536 in
set_option maxHeartbeats 40000000 in
theorem own_init (l : Launch) (Z : State) (a0 : Array Value) (hw : ∀ d ∈ tables_1, d.before a0 Z = true) (ws : List Jvm.Cond) (a_o : Addr) (h0 : Heap) (n0 : Nat) (Z0 : n0 ≤ h0.size) :
    MetFree l (⟨"com/example/fovea/fovea/Memory$Key", "<init>", "()V"⟩ : MethodName) (head1 (Jvm.Cond.code (⟨"com/example/fovea/fovea/Memory$Key", "<init>", "()V"⟩ : MethodName) prog_37_method_1_code 1 none :: ws) ({ frames := 1, cells := 0, slots := 0, locals := 12 } : Room)) (fun a U => a = #[(.ref a_o)] ∧ Z.Warmed39 U.vm ∧ U.heap = h0) (fun _ _ _ _ _ => True) (fun _ U o U' => ∃ v L, o = .returned v ∧ Qown_init Z a_o h0 n0 v U'.heap L ∧ FrameEnd U o U' L ({ frames := 1, cells := 0, slots := 0, locals := 12 } : Room).cells ({ frames := 1, cells := 0, slots := 0, locals := 12 } : Room).slots) := by
  refine MetFree.of_bodySF (plainFor_of_name own_pn1) hisR ?_
  intro p e s m args below meth c s₁ Bd hml0 hP hK
  obtain ⟨rfl, hZ, hh⟩ := hP
  have hx := Bd.exec
  have hby := Bd.bytes
  have hml : c.maxLocals = 1 := hml0
  have hown : s.vm.findClass "com/example/fovea/fovea/Memory$Key" = some m.cls := findClass_of_methodNamed Bd.named
  have hnm := (name_of_methodNamed Bd.named Bd.method).1
  have X0 : Stand p l e ({ frames := 1, cells := 0, slots := 0, locals := 12 } : Room) s m #[(.ref a_o)] below meth c s₁ [] 0 0 := Stand.of_body Bd
  have e0 : s₁.heap = h0 := by rw [← hh, Bd.state]; rfl
  have N0 := Fr.nil n0
  have pre0 : ∀ t, Steps p.tables e below (s₁.setTop (mkF m 0 #[.val (.ref a_o)] [])) t → Steps p.tables e below (s₁.setTop (entryFrame m #[(.ref a_o)] 1)) t := fun t k => castTop (own_ef_own_init m a_o) k
  obtain ⟨T3, X3, e3, st3⟩ := initO X0 hx hZ hown (hw _ (List.mem_of_getElem? (i := 11) rfl)) (hw _ (List.mem_of_getElem? (i := 12) rfl)) (hw _ (List.mem_of_getElem? (i := 13) rfl)) e0 (g := (mkF m 1 #[.val (.ref a_o)] [(.ref a_o)])) rfl (by rw [hml]; rfl) rfl (hb hby own_d2_1) (by decide) (W := 0) (by show 2 * 0 + _ ≤ _; exact Nat.le_of_eq rfl) (by decide)
  obtain ⟨fs, hr, hrun, hended, hW, hsame⟩ := X3.leave (v := none) (fun _ => rfl) (hlocks := BodyLoose.notSynchronized Bd)
  refine ⟨_, _, pre0 _ ?_, hrun, hended, _, _, rfl, ?_, ⟨_, rfl⟩, hW, hsame.mono (by decide) (by decide)⟩
  · show Steps p.tables e below (s₁.setTop (mkF m 0 #[.val (.ref a_o)] [])) _
    refine XS.aloadN X0.here hx rfl (hb hby own_d2_0) rfl rfl ?_
    show Steps p.tables e below (s₁.setTop (mkF m 1 #[.val (.ref a_o)] [(.ref a_o)])) _
    refine st3 _ ?_
    show Steps p.tables e below (T3.setTop (mkF m 4 #[.val (.ref a_o)] [])) _
    exact X3.returnOut hx Bd.returns (hb hby own_d2_4) hr
  · show Qown_init Z a_o h0 n0 _ T3.heap _
    rw [e3]
    exact ⟨rfl, N0, rfl⟩
theorem own_ef_own_of (m : MethodId) (a_o : Addr) (e_o : Addr) (s_o : Addr) : entryFrame m #[(.ref a_o), (.ref e_o), (.ref s_o)] 8 = mkF m 0 #[.val (.ref a_o), .val (.ref e_o), .val (.ref s_o), .unset, .unset, .unset, .unset, .unset] [] := by first | (simp [entryFrame, mkF, argsToLocals, Value.category]; done) | rfl
theorem own_d4_0 : decode prog_37_method_2_code 0 = .ok (.aload_n 0, 1) := by decide +kernel
theorem own_d4_1 : decode prog_37_method_2_code 1 = .ok (.aload_n 1, 1) := by decide +kernel
theorem own_d4_2 : decode prog_37_method_2_code 2 = .ok (.putfield 7, 3) := by decide +kernel
theorem own_d4_5 : decode prog_37_method_2_code 5 = .ok (.aload_n 0, 1) := by decide +kernel
theorem own_d4_6 : decode prog_37_method_2_code 6 = .ok (.aload_n 2, 1) := by decide +kernel
theorem own_d4_7 : decode prog_37_method_2_code 7 = .ok (.putfield 13, 3) := by decide +kernel
theorem own_d4_10 : decode prog_37_method_2_code 10 = .ok (.iconst 1, 1) := by decide +kernel
theorem own_d4_11 : decode prog_37_method_2_code 11 = .ok (.istore_n 3, 1) := by decide +kernel
theorem own_d4_12 : decode prog_37_method_2_code 12 = .ok (.aload_n 2, 1) := by decide +kernel
theorem own_d4_13 : decode prog_37_method_2_code 13 = .ok (.astore 4, 2) := by decide +kernel
theorem own_d4_15 : decode prog_37_method_2_code 15 = .ok (.aload 4, 2) := by decide +kernel
theorem own_d4_17 : decode prog_37_method_2_code 17 = .ok (.arraylength, 1) := by decide +kernel
theorem own_d4_18 : decode prog_37_method_2_code 18 = .ok (.istore 5, 2) := by decide +kernel
theorem own_d4_20 : decode prog_37_method_2_code 20 = .ok (.iconst 0, 1) := by decide +kernel
theorem own_d4_21 : decode prog_37_method_2_code 21 = .ok (.istore 6, 2) := by decide +kernel
theorem own_d4_23 : decode prog_37_method_2_code 23 = .ok (.iload 6, 2) := by decide +kernel
theorem own_d4_25 : decode prog_37_method_2_code 25 = .ok (.iload 5, 2) := by decide +kernel
theorem own_d4_27 : decode prog_37_method_2_code 27 = .ok (.if_icmp .ge 26, 3) := by decide +kernel
theorem own_d4_30 : decode prog_37_method_2_code 30 = .ok (.aload 4, 2) := by decide +kernel
theorem own_d4_32 : decode prog_37_method_2_code 32 = .ok (.iload 6, 2) := by decide +kernel
theorem own_d4_34 : decode prog_37_method_2_code 34 = .ok (.iaload, 1) := by decide +kernel
theorem own_d4_35 : decode prog_37_method_2_code 35 = .ok (.istore 7, 2) := by decide +kernel
theorem own_d4_37 : decode prog_37_method_2_code 37 = .ok (.bipush 31, 2) := by decide +kernel
theorem own_d4_39 : decode prog_37_method_2_code 39 = .ok (.iload_n 3, 1) := by decide +kernel
theorem own_d4_40 : decode prog_37_method_2_code 40 = .ok (.imul, 1) := by decide +kernel
theorem own_d4_41 : decode prog_37_method_2_code 41 = .ok (.aload_n 1, 1) := by decide +kernel
theorem own_d4_42 : decode prog_37_method_2_code 42 = .ok (.iload 7, 2) := by decide +kernel
theorem own_d4_44 : decode prog_37_method_2_code 44 = .ok (.iaload, 1) := by decide +kernel
theorem own_d4_45 : decode prog_37_method_2_code 45 = .ok (.iadd, 1) := by decide +kernel
theorem own_d4_46 : decode prog_37_method_2_code 46 = .ok (.istore_n 3, 1) := by decide +kernel
theorem own_d4_47 : decode prog_37_method_2_code 47 = .ok (.iinc 6 1, 3) := by decide +kernel
theorem own_d4_50 : decode prog_37_method_2_code 50 = .ok (.goto (-27), 3) := by decide +kernel
theorem own_d4_53 : decode prog_37_method_2_code 53 = .ok (.aload_n 0, 1) := by decide +kernel
theorem own_d4_54 : decode prog_37_method_2_code 54 = .ok (.iload_n 3, 1) := by decide +kernel
theorem own_d4_55 : decode prog_37_method_2_code 55 = .ok (.putfield 16, 3) := by decide +kernel
theorem own_d4_58 : decode prog_37_method_2_code 58 = .ok (.aload_n 0, 1) := by decide +kernel
theorem own_d4_59 : decode prog_37_method_2_code 59 = .ok (.areturn, 1) := by decide +kernel
def Qown_of (Z : State) (a_o : Addr) (e_o : Addr) (s_o : Addr) (k_e : ClassId) (k_s : ClassId) (u_e : Value) (u_s : Value) (u_h : Value) (n_1 : Int32) (x_0 : Int32) (x_1 : Int32) (x_2 : Int32) (x_3 : Int32) (s_0 : Int32) (s_1 : Int32) (s_2 : Int32) (h0 : Heap) (n0 : Nat) (v : Option Value) (h : Heap) (L : List Loc) : Prop := v = some (.ref a_o) ∧ Fr n0 L ∧ Keep h0 h [a_o] ∧ Exa Z h a_o "com/example/fovea/fovea/Memory$Key" ∧ Fld Z h a_o "com/example/fovea/fovea/Memory$Key" "entry" "[I" (.ref e_o) ∧ Fld Z h a_o "com/example/fovea/fovea/Memory$Key" "slots" "[I" (.ref s_o)
set_option maxRecDepth 65536 in
set_option maxHeartbeats 40000000 in
theorem own_of (l : Launch) (Z : State) (a0 : Array Value) (hw : ∀ d ∈ tables_1, d.before a0 Z = true) (ws : List Jvm.Cond) (a_o : Addr) (e_o : Addr) (s_o : Addr) (k_e : ClassId) (k_s : ClassId) (u_e : Value) (u_s : Value) (u_h : Value) (n_1 : Int32) (x_0 : Int32) (x_1 : Int32) (x_2 : Int32) (x_3 : Int32) (s_0 : Int32) (s_1 : Int32) (s_2 : Int32) (h0 : Heap) (n0 : Nat) (Z0 : n0 ≤ h0.size) (Eo : Exa Z h0 a_o "com/example/fovea/fovea/Memory$Key") (F_e : Fld Z h0 a_o "com/example/fovea/fovea/Memory$Key" "entry" "[I" u_e) (F_s : Fld Z h0 a_o "com/example/fovea/fovea/Memory$Key" "slots" "[I" u_s) (F_h : Fld Z h0 a_o "com/example/fovea/fovea/Memory$Key" "hash" "I" u_h) (V_e : Arv Z h0 e_o k_e .int (4 : Int32) [(.int x_0), (.int x_1), (.int x_2), (.int x_3)] (.int (0 : Int32))) (V_s : Arv Z h0 s_o k_s .int n_1 [(.int s_0), (.int s_1), (.int s_2)] (.int (0 : Int32))) (ga : n0 ≤ a_o) (n1 : e_o ≠ a_o) (n2 : s_o ≠ a_o) (hn : ¬ (3 : Int32) < n_1) (hb0 : ¬ s_0 < 0 ∧ s_0 < 4) (hb1 : ¬ s_1 < 0 ∧ s_1 < 4) (hb2 : ¬ s_2 < 0 ∧ s_2 < 4) :
    MetFree l (⟨"com/example/fovea/fovea/Memory$Key", "of", "([I[I)Lcom/example/fovea/fovea/Memory$Key;"⟩ : MethodName) (head1 (Jvm.Cond.code (⟨"com/example/fovea/fovea/Memory$Key", "of", "([I[I)Lcom/example/fovea/fovea/Memory$Key;"⟩ : MethodName) prog_37_method_2_code 8 (some (.object "com/example/fovea/fovea/Memory$Key")) :: ws) ({ frames := 0, cells := 0, slots := 0, locals := 0 } : Room)) (fun a U => a = #[(.ref a_o), (.ref e_o), (.ref s_o)] ∧ Z.Warmed39 U.vm ∧ U.heap = h0) (fun _ _ _ _ _ => True) (fun _ U o U' => ∃ v L, o = .returned v ∧ Qown_of Z a_o e_o s_o k_e k_s u_e u_s u_h n_1 x_0 x_1 x_2 x_3 s_0 s_1 s_2 h0 n0 v U'.heap L ∧ FrameEnd U o U' L ({ frames := 0, cells := 0, slots := 0, locals := 0 } : Room).cells ({ frames := 0, cells := 0, slots := 0, locals := 0 } : Room).slots) := by
  refine MetFree.of_bodySF (plainFor_of_name own_pn1) hisR ?_
  intro p e s m args below meth c s₁ Bd hml0 hP hK
  obtain ⟨rfl, hZ, hh⟩ := hP
  have hx := Bd.exec
  have hby := Bd.bytes
  have hml : c.maxLocals = 8 := hml0
  have hown : s.vm.findClass "com/example/fovea/fovea/Memory$Key" = some m.cls := findClass_of_methodNamed Bd.named
  have hnm := (name_of_methodNamed Bd.named Bd.method).1
  have X0 : Stand p l e ({ frames := 0, cells := 0, slots := 0, locals := 0 } : Room) s m #[(.ref a_o), (.ref e_o), (.ref s_o)] below meth c s₁ [] 0 0 := Stand.of_body Bd
  have e0 : s₁.heap = h0 := by rw [← hh, Bd.state]; rfl
  have N0 := Fr.nil n0
  have pre0 : ∀ t, Steps p.tables e below (s₁.setTop (mkF m 0 #[.val (.ref a_o), .val (.ref e_o), .val (.ref s_o), .unset, .unset, .unset, .unset, .unset] [])) t → Steps p.tables e below (s₁.setTop (entryFrame m #[(.ref a_o), (.ref e_o), (.ref s_o)] 8)) t := fun t k => castTop (own_ef_own_of m a_o e_o s_o) k
  obtain ⟨T4, h4, X4, e4, W4, st4⟩ := putF X0 hx hZ hown (host := "") (Or.inl (hw _ (List.mem_of_getElem? (i := 19) rfl))) Via.refl e0 F_e Eo (Or.inl (hw _ (List.mem_of_getElem? (i := 20) rfl))) (hw _ (List.mem_of_getElem? (i := 6) rfl)) (ty := (.array .int)) (by decide) rfl rfl (g := (mkF m 2 #[.val (.ref a_o), .val (.ref e_o), .val (.ref s_o), .unset, .unset, .unset, .unset, .unset] [(.ref e_o), (.ref a_o)])) rfl rfl (hb hby own_d4_2)
  have Kc5 : Keep h0 h4 [a_o] := (Keep.refl h0 [a_o]).wr W4 (Or.inl (List.mem_of_getElem? (i := 0) rfl))
  have Zs6 : n0 ≤ h4.size := Nat.le_trans Z0 (Keep.of_wr W4).1
  have N7 := Fr.snoc X4 N0 ga
  have Fw4 : Fld Z h4 a_o "com/example/fovea/fovea/Memory$Key" "entry" "[I" (.ref e_o) := F_e.same W4
  have Fq11 : Exa Z h4 a_o "com/example/fovea/fovea/Memory$Key" := (Eo.wr W4)
  have Fq12 : Fld Z h4 a_o "com/example/fovea/fovea/Memory$Key" "slots" "[I" u_s := (F_s.other W4 (Or.inr (slot_ne (Or.inl (hw _ (List.mem_of_getElem? (i := 22) rfl))) (Or.inl (hw _ (List.mem_of_getElem? (i := 20) rfl))) (by decide) (t := (.array .int)) (t' := (.array .int)) (by decide) (by decide))))
  obtain ⟨T13, h13, X13, e13, W13, st13⟩ := putF X4 hx hZ hown (host := "") (Or.inl (hw _ (List.mem_of_getElem? (i := 21) rfl))) Via.refl e4 Fq12 Fq11 (Or.inl (hw _ (List.mem_of_getElem? (i := 22) rfl))) (hw _ (List.mem_of_getElem? (i := 6) rfl)) (ty := (.array .int)) (by decide) rfl rfl (g := (mkF m 7 #[.val (.ref a_o), .val (.ref e_o), .val (.ref s_o), .unset, .unset, .unset, .unset, .unset] [(.ref s_o), (.ref a_o)])) rfl rfl (hb hby own_d4_7)
  have Kc14 : Keep h0 h13 [a_o] := Kc5.wr W13 (Or.inl (List.mem_of_getElem? (i := 0) rfl))
  have Zs15 : n0 ≤ h13.size := Nat.le_trans Zs6 (Keep.of_wr W13).1
  have N16 := Fr.snoc X13 N7 ga
  have Fw13 : Fld Z h13 a_o "com/example/fovea/fovea/Memory$Key" "slots" "[I" (.ref s_o) := Fq12.same W13
  have Fq23 : Arv Z h13 s_o k_s .int n_1 [(.int s_0), (.int s_1), (.int s_2)] (.int (0 : Int32)) := ((V_s.other W4 n2).other W13 n2)
  obtain ⟨cl24, Ar24, -, S24, M24, -, -⟩ := id Fq23
  have pre31 : ∀ t, Steps p.tables e below (T13.setTop (mkF m 27 #[.val (.ref a_o), .val (.ref e_o), .val (.ref s_o), .val (.int (1 : Int32)), .val (.ref s_o), .val (.int n_1), .val (.int (0 : Int32)), .unset] [(.int n_1), (.int (0 : Int32))])) t → Steps p.tables e below (s₁.setTop (entryFrame m #[(.ref a_o), (.ref e_o), (.ref s_o)] 8)) t := by
    intro t kt
    refine pre0 _ ?_
    show Steps p.tables e below (s₁.setTop (mkF m 0 #[.val (.ref a_o), .val (.ref e_o), .val (.ref s_o), .unset, .unset, .unset, .unset, .unset] [])) _
    refine XS.aloadN X0.here hx rfl (hb hby own_d4_0) rfl rfl ?_
    show Steps p.tables e below (s₁.setTop (mkF m 1 #[.val (.ref a_o), .val (.ref e_o), .val (.ref s_o), .unset, .unset, .unset, .unset, .unset] [(.ref a_o)])) _
    refine XS.aloadN X0.here hx rfl (hb hby own_d4_1) rfl rfl ?_
    show Steps p.tables e below (s₁.setTop (mkF m 2 #[.val (.ref a_o), .val (.ref e_o), .val (.ref s_o), .unset, .unset, .unset, .unset, .unset] [(.ref e_o), (.ref a_o)])) _
    refine st4 _ ?_
    show Steps p.tables e below (T4.setTop (mkF m 5 #[.val (.ref a_o), .val (.ref e_o), .val (.ref s_o), .unset, .unset, .unset, .unset, .unset] [])) _
    refine XS.aloadN X4.here hx rfl (hb hby own_d4_5) rfl rfl ?_
    show Steps p.tables e below (T4.setTop (mkF m 6 #[.val (.ref a_o), .val (.ref e_o), .val (.ref s_o), .unset, .unset, .unset, .unset, .unset] [(.ref a_o)])) _
    refine XS.aloadN X4.here hx rfl (hb hby own_d4_6) rfl rfl ?_
    show Steps p.tables e below (T4.setTop (mkF m 7 #[.val (.ref a_o), .val (.ref e_o), .val (.ref s_o), .unset, .unset, .unset, .unset, .unset] [(.ref s_o), (.ref a_o)])) _
    refine st13 _ ?_
    show Steps p.tables e below (T13.setTop (mkF m 10 #[.val (.ref a_o), .val (.ref e_o), .val (.ref s_o), .unset, .unset, .unset, .unset, .unset] [])) _
    refine XS.iconst X13.here hx rfl (hb hby own_d4_10) ?_
    show Steps p.tables e below (T13.setTop (mkF m 11 #[.val (.ref a_o), .val (.ref e_o), .val (.ref s_o), .unset, .unset, .unset, .unset, .unset] [(.int (1 : Int32))])) _
    refine XS.istoreN X13.here hx rfl (hb hby own_d4_11) rfl (l' := #[.val (.ref a_o), .val (.ref e_o), .val (.ref s_o), .val (.int (1 : Int32)), .unset, .unset, .unset, .unset]) rfl ?_
    show Steps p.tables e below (T13.setTop (mkF m 12 #[.val (.ref a_o), .val (.ref e_o), .val (.ref s_o), .val (.int (1 : Int32)), .unset, .unset, .unset, .unset] [])) _
    refine XS.aloadN X13.here hx rfl (hb hby own_d4_12) rfl rfl ?_
    show Steps p.tables e below (T13.setTop (mkF m 13 #[.val (.ref a_o), .val (.ref e_o), .val (.ref s_o), .val (.int (1 : Int32)), .unset, .unset, .unset, .unset] [(.ref s_o)])) _
    refine XS.astore X13.here hx rfl (hb hby own_d4_13) rfl rfl (l' := #[.val (.ref a_o), .val (.ref e_o), .val (.ref s_o), .val (.int (1 : Int32)), .val (.ref s_o), .unset, .unset, .unset]) rfl ?_
    show Steps p.tables e below (T13.setTop (mkF m 15 #[.val (.ref a_o), .val (.ref e_o), .val (.ref s_o), .val (.int (1 : Int32)), .val (.ref s_o), .unset, .unset, .unset] [])) _
    refine XS.aload X13.here hx rfl (hb hby own_d4_15) rfl rfl ?_
    show Steps p.tables e below (T13.setTop (mkF m 17 #[.val (.ref a_o), .val (.ref e_o), .val (.ref s_o), .val (.int (1 : Int32)), .val (.ref s_o), .unset, .unset, .unset] [(.ref s_o)])) _
    refine X13.arraylength hx (by rw [e13]; exact Ar24.1) (State.isArrayOf_alike hZ.alike Ar24.2.1) (g := (mkF m 17 #[.val (.ref a_o), .val (.ref e_o), .val (.ref s_o), .val (.int (1 : Int32)), .val (.ref s_o), .unset, .unset, .unset] [(.ref s_o)])) rfl rfl (hb hby own_d4_17) _ ?_
    rw [len_of S24 M24]
    show Steps p.tables e below (T13.setTop (mkF m 18 #[.val (.ref a_o), .val (.ref e_o), .val (.ref s_o), .val (.int (1 : Int32)), .val (.ref s_o), .unset, .unset, .unset] [(.int n_1)])) _
    refine XS.istore X13.here hx rfl (hb hby own_d4_18) rfl (l' := #[.val (.ref a_o), .val (.ref e_o), .val (.ref s_o), .val (.int (1 : Int32)), .val (.ref s_o), .val (.int n_1), .unset, .unset]) rfl ?_
    show Steps p.tables e below (T13.setTop (mkF m 20 #[.val (.ref a_o), .val (.ref e_o), .val (.ref s_o), .val (.int (1 : Int32)), .val (.ref s_o), .val (.int n_1), .unset, .unset] [])) _
    refine XS.iconst X13.here hx rfl (hb hby own_d4_20) ?_
    show Steps p.tables e below (T13.setTop (mkF m 21 #[.val (.ref a_o), .val (.ref e_o), .val (.ref s_o), .val (.int (1 : Int32)), .val (.ref s_o), .val (.int n_1), .unset, .unset] [(.int (0 : Int32))])) _
    refine XS.istore X13.here hx rfl (hb hby own_d4_21) rfl (l' := #[.val (.ref a_o), .val (.ref e_o), .val (.ref s_o), .val (.int (1 : Int32)), .val (.ref s_o), .val (.int n_1), .val (.int (0 : Int32)), .unset]) rfl ?_
    show Steps p.tables e below (T13.setTop (mkF m 23 #[.val (.ref a_o), .val (.ref e_o), .val (.ref s_o), .val (.int (1 : Int32)), .val (.ref s_o), .val (.int n_1), .val (.int (0 : Int32)), .unset] [])) _
    refine XS.iload X13.here hx rfl (hb hby own_d4_23) rfl ?_
    show Steps p.tables e below (T13.setTop (mkF m 25 #[.val (.ref a_o), .val (.ref e_o), .val (.ref s_o), .val (.int (1 : Int32)), .val (.ref s_o), .val (.int n_1), .val (.int (0 : Int32)), .unset] [(.int (0 : Int32))])) _
    refine XS.iload X13.here hx rfl (hb hby own_d4_25) rfl ?_
    exact kt
  by_cases hc27_32 : (0 : Int32) < n_1
  · obtain ⟨cl36, Ar36, q36, S36, M36, H36, G36⟩ := id Fq23
    have hin36 : ¬ ((0 : Int32) < 0 ∨ cl36.slots.size ≤ ((0 : Int32)).toNatClampNeg) := inb_of S36 ⟨by decide, hc27_32⟩
    have hat36 : cl36.slots[((0 : Int32)).toNatClampNeg]? = some (.int s_0) := H36.at hin36 rfl
    have Fq44 : Arv Z h13 e_o k_e .int (4 : Int32) [(.int x_0), (.int x_1), (.int x_2), (.int x_3)] (.int (0 : Int32)) := ((V_e.other W4 n1).other W13 n1)
    obtain ⟨cl45, Ar45, q45, S45, M45, H45, G45⟩ := id Fq44
    have hin45 : ¬ (s_0 < 0 ∨ cl45.slots.size ≤ (s_0).toNatClampNeg) := inb_of S45 hb0
    have hat45 : cl45.slots[(s_0).toNatClampNeg]? = some (.int (own_sel x_0 x_1 x_2 x_3 s_0)) := H45.at hin45 (own_sel_get _ _ _ _ _ _ hb0)
    have pre53 : ∀ t, Steps p.tables e below (T13.setTop (mkF m 27 #[.val (.ref a_o), .val (.ref e_o), .val (.ref s_o), .val (.int ((31 : Int32) + (own_sel x_0 x_1 x_2 x_3 s_0))), .val (.ref s_o), .val (.int n_1), .val (.int (1 : Int32)), .val (.int s_0)] [(.int n_1), (.int (1 : Int32))])) t → Steps p.tables e below (s₁.setTop (entryFrame m #[(.ref a_o), (.ref e_o), (.ref s_o)] 8)) t := by
      intro t kt
      refine pre31 _ ?_
      show Steps p.tables e below (T13.setTop (mkF m 27 #[.val (.ref a_o), .val (.ref e_o), .val (.ref s_o), .val (.int (1 : Int32)), .val (.ref s_o), .val (.int n_1), .val (.int (0 : Int32)), .unset] [(.int n_1), (.int (0 : Int32))])) _
      refine XS.icmpNo X13.here hx rfl (hb hby own_d4_27) rfl (tlt hc27_32).2.1 ?_
      show Steps p.tables e below (T13.setTop (mkF m 30 #[.val (.ref a_o), .val (.ref e_o), .val (.ref s_o), .val (.int (1 : Int32)), .val (.ref s_o), .val (.int n_1), .val (.int (0 : Int32)), .unset] [])) _
      refine XS.aload X13.here hx rfl (hb hby own_d4_30) rfl rfl ?_
      show Steps p.tables e below (T13.setTop (mkF m 32 #[.val (.ref a_o), .val (.ref e_o), .val (.ref s_o), .val (.int (1 : Int32)), .val (.ref s_o), .val (.int n_1), .val (.int (0 : Int32)), .unset] [(.ref s_o)])) _
      refine XS.iload X13.here hx rfl (hb hby own_d4_32) rfl ?_
      show Steps p.tables e below (T13.setTop (mkF m 34 #[.val (.ref a_o), .val (.ref e_o), .val (.ref s_o), .val (.int (1 : Int32)), .val (.ref s_o), .val (.int n_1), .val (.int (0 : Int32)), .unset] [(.int (0 : Int32)), (.ref s_o)])) _
      refine X13.iaload hx (j := (0 : Int32)) (v := (.int s_0)) (by rw [e13]; exact Ar36.1) (State.isArrayOf_alike hZ.alike Ar36.2.1) Ar36.2.2 hin36 hat36 (g := (mkF m 34 #[.val (.ref a_o), .val (.ref e_o), .val (.ref s_o), .val (.int (1 : Int32)), .val (.ref s_o), .val (.int n_1), .val (.int (0 : Int32)), .unset] [(.int (0 : Int32)), (.ref s_o)])) rfl rfl (hb hby own_d4_34) _ ?_
      show Steps p.tables e below (T13.setTop (mkF m 35 #[.val (.ref a_o), .val (.ref e_o), .val (.ref s_o), .val (.int (1 : Int32)), .val (.ref s_o), .val (.int n_1), .val (.int (0 : Int32)), .unset] [(.int s_0)])) _
      refine XS.istore X13.here hx rfl (hb hby own_d4_35) rfl (l' := #[.val (.ref a_o), .val (.ref e_o), .val (.ref s_o), .val (.int (1 : Int32)), .val (.ref s_o), .val (.int n_1), .val (.int (0 : Int32)), .val (.int s_0)]) rfl ?_
      show Steps p.tables e below (T13.setTop (mkF m 37 #[.val (.ref a_o), .val (.ref e_o), .val (.ref s_o), .val (.int (1 : Int32)), .val (.ref s_o), .val (.int n_1), .val (.int (0 : Int32)), .val (.int s_0)] [])) _
      refine XS.bipush X13.here hx rfl (hb hby own_d4_37) ?_
      show Steps p.tables e below (T13.setTop (mkF m 39 #[.val (.ref a_o), .val (.ref e_o), .val (.ref s_o), .val (.int (1 : Int32)), .val (.ref s_o), .val (.int n_1), .val (.int (0 : Int32)), .val (.int s_0)] [(.int (31 : Int32))])) _
      refine XS.iloadN X13.here hx rfl (hb hby own_d4_39) rfl ?_
      show Steps p.tables e below (T13.setTop (mkF m 40 #[.val (.ref a_o), .val (.ref e_o), .val (.ref s_o), .val (.int (1 : Int32)), .val (.ref s_o), .val (.int n_1), .val (.int (0 : Int32)), .val (.int s_0)] [(.int (1 : Int32)), (.int (31 : Int32))])) _
      refine XS.imul X13.here hx rfl (hb hby own_d4_40) rfl ?_
      show Steps p.tables e below (T13.setTop (mkF m 41 #[.val (.ref a_o), .val (.ref e_o), .val (.ref s_o), .val (.int (1 : Int32)), .val (.ref s_o), .val (.int n_1), .val (.int (0 : Int32)), .val (.int s_0)] [(.int (31 : Int32))])) _
      refine XS.aloadN X13.here hx rfl (hb hby own_d4_41) rfl rfl ?_
      show Steps p.tables e below (T13.setTop (mkF m 42 #[.val (.ref a_o), .val (.ref e_o), .val (.ref s_o), .val (.int (1 : Int32)), .val (.ref s_o), .val (.int n_1), .val (.int (0 : Int32)), .val (.int s_0)] [(.ref e_o), (.int (31 : Int32))])) _
      refine XS.iload X13.here hx rfl (hb hby own_d4_42) rfl ?_
      show Steps p.tables e below (T13.setTop (mkF m 44 #[.val (.ref a_o), .val (.ref e_o), .val (.ref s_o), .val (.int (1 : Int32)), .val (.ref s_o), .val (.int n_1), .val (.int (0 : Int32)), .val (.int s_0)] [(.int s_0), (.ref e_o), (.int (31 : Int32))])) _
      refine X13.iaload hx (j := s_0) (v := (.int (own_sel x_0 x_1 x_2 x_3 s_0))) (by rw [e13]; exact Ar45.1) (State.isArrayOf_alike hZ.alike Ar45.2.1) Ar45.2.2 hin45 hat45 (g := (mkF m 44 #[.val (.ref a_o), .val (.ref e_o), .val (.ref s_o), .val (.int (1 : Int32)), .val (.ref s_o), .val (.int n_1), .val (.int (0 : Int32)), .val (.int s_0)] [(.int s_0), (.ref e_o), (.int (31 : Int32))])) rfl rfl (hb hby own_d4_44) _ ?_
      show Steps p.tables e below (T13.setTop (mkF m 45 #[.val (.ref a_o), .val (.ref e_o), .val (.ref s_o), .val (.int (1 : Int32)), .val (.ref s_o), .val (.int n_1), .val (.int (0 : Int32)), .val (.int s_0)] [(.int (own_sel x_0 x_1 x_2 x_3 s_0)), (.int (31 : Int32))])) _
      refine XS.iadd X13.here hx rfl (hb hby own_d4_45) rfl ?_
      show Steps p.tables e below (T13.setTop (mkF m 46 #[.val (.ref a_o), .val (.ref e_o), .val (.ref s_o), .val (.int (1 : Int32)), .val (.ref s_o), .val (.int n_1), .val (.int (0 : Int32)), .val (.int s_0)] [(.int ((31 : Int32) + (own_sel x_0 x_1 x_2 x_3 s_0)))])) _
      refine XS.istoreN X13.here hx rfl (hb hby own_d4_46) rfl (l' := #[.val (.ref a_o), .val (.ref e_o), .val (.ref s_o), .val (.int ((31 : Int32) + (own_sel x_0 x_1 x_2 x_3 s_0))), .val (.ref s_o), .val (.int n_1), .val (.int (0 : Int32)), .val (.int s_0)]) rfl ?_
      show Steps p.tables e below (T13.setTop (mkF m 47 #[.val (.ref a_o), .val (.ref e_o), .val (.ref s_o), .val (.int ((31 : Int32) + (own_sel x_0 x_1 x_2 x_3 s_0))), .val (.ref s_o), .val (.int n_1), .val (.int (0 : Int32)), .val (.int s_0)] [])) _
      refine XS.iinc X13.here hx rfl (hb hby own_d4_47) rfl (l' := #[.val (.ref a_o), .val (.ref e_o), .val (.ref s_o), .val (.int ((31 : Int32) + (own_sel x_0 x_1 x_2 x_3 s_0))), .val (.ref s_o), .val (.int n_1), .val (.int (1 : Int32)), .val (.int s_0)]) rfl ?_
      show Steps p.tables e below (T13.setTop (mkF m 50 #[.val (.ref a_o), .val (.ref e_o), .val (.ref s_o), .val (.int ((31 : Int32) + (own_sel x_0 x_1 x_2 x_3 s_0))), .val (.ref s_o), .val (.int n_1), .val (.int (1 : Int32)), .val (.int s_0)] [])) _
      refine XS.goto X13.here hx rfl (pc0 := 50) (pc' := 23) rfl (hb hby own_d4_50) (by decide) (by decide) ?_
      show Steps p.tables e below (T13.setTop (mkF m 23 #[.val (.ref a_o), .val (.ref e_o), .val (.ref s_o), .val (.int ((31 : Int32) + (own_sel x_0 x_1 x_2 x_3 s_0))), .val (.ref s_o), .val (.int n_1), .val (.int (1 : Int32)), .val (.int s_0)] [])) _
      refine XS.iload X13.here hx rfl (hb hby own_d4_23) rfl ?_
      show Steps p.tables e below (T13.setTop (mkF m 25 #[.val (.ref a_o), .val (.ref e_o), .val (.ref s_o), .val (.int ((31 : Int32) + (own_sel x_0 x_1 x_2 x_3 s_0))), .val (.ref s_o), .val (.int n_1), .val (.int (1 : Int32)), .val (.int s_0)] [(.int (1 : Int32))])) _
      refine XS.iload X13.here hx rfl (hb hby own_d4_25) rfl ?_
      exact kt
    by_cases hc27_54 : (1 : Int32) < n_1
    · obtain ⟨cl58, Ar58, q58, S58, M58, H58, G58⟩ := id Fq23
      have hin58 : ¬ ((1 : Int32) < 0 ∨ cl58.slots.size ≤ ((1 : Int32)).toNatClampNeg) := inb_of S58 ⟨by decide, hc27_54⟩
      have hat58 : cl58.slots[((1 : Int32)).toNatClampNeg]? = some (.int s_1) := H58.at hin58 rfl
      obtain ⟨cl66, Ar66, q66, S66, M66, H66, G66⟩ := id Fq44
      have hin66 : ¬ (s_1 < 0 ∨ cl66.slots.size ≤ (s_1).toNatClampNeg) := inb_of S66 hb1
      have hat66 : cl66.slots[(s_1).toNatClampNeg]? = some (.int (own_sel x_0 x_1 x_2 x_3 s_1)) := H66.at hin66 (own_sel_get _ _ _ _ _ _ hb1)
      have pre74 : ∀ t, Steps p.tables e below (T13.setTop (mkF m 27 #[.val (.ref a_o), .val (.ref e_o), .val (.ref s_o), .val (.int (((31 : Int32) * ((31 : Int32) + (own_sel x_0 x_1 x_2 x_3 s_0))) + (own_sel x_0 x_1 x_2 x_3 s_1))), .val (.ref s_o), .val (.int n_1), .val (.int (2 : Int32)), .val (.int s_1)] [(.int n_1), (.int (2 : Int32))])) t → Steps p.tables e below (s₁.setTop (entryFrame m #[(.ref a_o), (.ref e_o), (.ref s_o)] 8)) t := by
        intro t kt
        refine pre53 _ ?_
        show Steps p.tables e below (T13.setTop (mkF m 27 #[.val (.ref a_o), .val (.ref e_o), .val (.ref s_o), .val (.int ((31 : Int32) + (own_sel x_0 x_1 x_2 x_3 s_0))), .val (.ref s_o), .val (.int n_1), .val (.int (1 : Int32)), .val (.int s_0)] [(.int n_1), (.int (1 : Int32))])) _
        refine XS.icmpNo X13.here hx rfl (hb hby own_d4_27) rfl (tlt hc27_54).2.1 ?_
        show Steps p.tables e below (T13.setTop (mkF m 30 #[.val (.ref a_o), .val (.ref e_o), .val (.ref s_o), .val (.int ((31 : Int32) + (own_sel x_0 x_1 x_2 x_3 s_0))), .val (.ref s_o), .val (.int n_1), .val (.int (1 : Int32)), .val (.int s_0)] [])) _
        refine XS.aload X13.here hx rfl (hb hby own_d4_30) rfl rfl ?_
        show Steps p.tables e below (T13.setTop (mkF m 32 #[.val (.ref a_o), .val (.ref e_o), .val (.ref s_o), .val (.int ((31 : Int32) + (own_sel x_0 x_1 x_2 x_3 s_0))), .val (.ref s_o), .val (.int n_1), .val (.int (1 : Int32)), .val (.int s_0)] [(.ref s_o)])) _
        refine XS.iload X13.here hx rfl (hb hby own_d4_32) rfl ?_
        show Steps p.tables e below (T13.setTop (mkF m 34 #[.val (.ref a_o), .val (.ref e_o), .val (.ref s_o), .val (.int ((31 : Int32) + (own_sel x_0 x_1 x_2 x_3 s_0))), .val (.ref s_o), .val (.int n_1), .val (.int (1 : Int32)), .val (.int s_0)] [(.int (1 : Int32)), (.ref s_o)])) _
        refine X13.iaload hx (j := (1 : Int32)) (v := (.int s_1)) (by rw [e13]; exact Ar58.1) (State.isArrayOf_alike hZ.alike Ar58.2.1) Ar58.2.2 hin58 hat58 (g := (mkF m 34 #[.val (.ref a_o), .val (.ref e_o), .val (.ref s_o), .val (.int ((31 : Int32) + (own_sel x_0 x_1 x_2 x_3 s_0))), .val (.ref s_o), .val (.int n_1), .val (.int (1 : Int32)), .val (.int s_0)] [(.int (1 : Int32)), (.ref s_o)])) rfl rfl (hb hby own_d4_34) _ ?_
        show Steps p.tables e below (T13.setTop (mkF m 35 #[.val (.ref a_o), .val (.ref e_o), .val (.ref s_o), .val (.int ((31 : Int32) + (own_sel x_0 x_1 x_2 x_3 s_0))), .val (.ref s_o), .val (.int n_1), .val (.int (1 : Int32)), .val (.int s_0)] [(.int s_1)])) _
        refine XS.istore X13.here hx rfl (hb hby own_d4_35) rfl (l' := #[.val (.ref a_o), .val (.ref e_o), .val (.ref s_o), .val (.int ((31 : Int32) + (own_sel x_0 x_1 x_2 x_3 s_0))), .val (.ref s_o), .val (.int n_1), .val (.int (1 : Int32)), .val (.int s_1)]) rfl ?_
        show Steps p.tables e below (T13.setTop (mkF m 37 #[.val (.ref a_o), .val (.ref e_o), .val (.ref s_o), .val (.int ((31 : Int32) + (own_sel x_0 x_1 x_2 x_3 s_0))), .val (.ref s_o), .val (.int n_1), .val (.int (1 : Int32)), .val (.int s_1)] [])) _
        refine XS.bipush X13.here hx rfl (hb hby own_d4_37) ?_
        show Steps p.tables e below (T13.setTop (mkF m 39 #[.val (.ref a_o), .val (.ref e_o), .val (.ref s_o), .val (.int ((31 : Int32) + (own_sel x_0 x_1 x_2 x_3 s_0))), .val (.ref s_o), .val (.int n_1), .val (.int (1 : Int32)), .val (.int s_1)] [(.int (31 : Int32))])) _
        refine XS.iloadN X13.here hx rfl (hb hby own_d4_39) rfl ?_
        show Steps p.tables e below (T13.setTop (mkF m 40 #[.val (.ref a_o), .val (.ref e_o), .val (.ref s_o), .val (.int ((31 : Int32) + (own_sel x_0 x_1 x_2 x_3 s_0))), .val (.ref s_o), .val (.int n_1), .val (.int (1 : Int32)), .val (.int s_1)] [(.int ((31 : Int32) + (own_sel x_0 x_1 x_2 x_3 s_0))), (.int (31 : Int32))])) _
        refine XS.imul X13.here hx rfl (hb hby own_d4_40) rfl ?_
        show Steps p.tables e below (T13.setTop (mkF m 41 #[.val (.ref a_o), .val (.ref e_o), .val (.ref s_o), .val (.int ((31 : Int32) + (own_sel x_0 x_1 x_2 x_3 s_0))), .val (.ref s_o), .val (.int n_1), .val (.int (1 : Int32)), .val (.int s_1)] [(.int ((31 : Int32) * ((31 : Int32) + (own_sel x_0 x_1 x_2 x_3 s_0))))])) _
        refine XS.aloadN X13.here hx rfl (hb hby own_d4_41) rfl rfl ?_
        show Steps p.tables e below (T13.setTop (mkF m 42 #[.val (.ref a_o), .val (.ref e_o), .val (.ref s_o), .val (.int ((31 : Int32) + (own_sel x_0 x_1 x_2 x_3 s_0))), .val (.ref s_o), .val (.int n_1), .val (.int (1 : Int32)), .val (.int s_1)] [(.ref e_o), (.int ((31 : Int32) * ((31 : Int32) + (own_sel x_0 x_1 x_2 x_3 s_0))))])) _
        refine XS.iload X13.here hx rfl (hb hby own_d4_42) rfl ?_
        show Steps p.tables e below (T13.setTop (mkF m 44 #[.val (.ref a_o), .val (.ref e_o), .val (.ref s_o), .val (.int ((31 : Int32) + (own_sel x_0 x_1 x_2 x_3 s_0))), .val (.ref s_o), .val (.int n_1), .val (.int (1 : Int32)), .val (.int s_1)] [(.int s_1), (.ref e_o), (.int ((31 : Int32) * ((31 : Int32) + (own_sel x_0 x_1 x_2 x_3 s_0))))])) _
        refine X13.iaload hx (j := s_1) (v := (.int (own_sel x_0 x_1 x_2 x_3 s_1))) (by rw [e13]; exact Ar66.1) (State.isArrayOf_alike hZ.alike Ar66.2.1) Ar66.2.2 hin66 hat66 (g := (mkF m 44 #[.val (.ref a_o), .val (.ref e_o), .val (.ref s_o), .val (.int ((31 : Int32) + (own_sel x_0 x_1 x_2 x_3 s_0))), .val (.ref s_o), .val (.int n_1), .val (.int (1 : Int32)), .val (.int s_1)] [(.int s_1), (.ref e_o), (.int ((31 : Int32) * ((31 : Int32) + (own_sel x_0 x_1 x_2 x_3 s_0))))])) rfl rfl (hb hby own_d4_44) _ ?_
        show Steps p.tables e below (T13.setTop (mkF m 45 #[.val (.ref a_o), .val (.ref e_o), .val (.ref s_o), .val (.int ((31 : Int32) + (own_sel x_0 x_1 x_2 x_3 s_0))), .val (.ref s_o), .val (.int n_1), .val (.int (1 : Int32)), .val (.int s_1)] [(.int (own_sel x_0 x_1 x_2 x_3 s_1)), (.int ((31 : Int32) * ((31 : Int32) + (own_sel x_0 x_1 x_2 x_3 s_0))))])) _
        refine XS.iadd X13.here hx rfl (hb hby own_d4_45) rfl ?_
        show Steps p.tables e below (T13.setTop (mkF m 46 #[.val (.ref a_o), .val (.ref e_o), .val (.ref s_o), .val (.int ((31 : Int32) + (own_sel x_0 x_1 x_2 x_3 s_0))), .val (.ref s_o), .val (.int n_1), .val (.int (1 : Int32)), .val (.int s_1)] [(.int (((31 : Int32) * ((31 : Int32) + (own_sel x_0 x_1 x_2 x_3 s_0))) + (own_sel x_0 x_1 x_2 x_3 s_1)))])) _
        refine XS.istoreN X13.here hx rfl (hb hby own_d4_46) rfl (l' := #[.val (.ref a_o), .val (.ref e_o), .val (.ref s_o), .val (.int (((31 : Int32) * ((31 : Int32) + (own_sel x_0 x_1 x_2 x_3 s_0))) + (own_sel x_0 x_1 x_2 x_3 s_1))), .val (.ref s_o), .val (.int n_1), .val (.int (1 : Int32)), .val (.int s_1)]) rfl ?_
        show Steps p.tables e below (T13.setTop (mkF m 47 #[.val (.ref a_o), .val (.ref e_o), .val (.ref s_o), .val (.int (((31 : Int32) * ((31 : Int32) + (own_sel x_0 x_1 x_2 x_3 s_0))) + (own_sel x_0 x_1 x_2 x_3 s_1))), .val (.ref s_o), .val (.int n_1), .val (.int (1 : Int32)), .val (.int s_1)] [])) _
        refine XS.iinc X13.here hx rfl (hb hby own_d4_47) rfl (l' := #[.val (.ref a_o), .val (.ref e_o), .val (.ref s_o), .val (.int (((31 : Int32) * ((31 : Int32) + (own_sel x_0 x_1 x_2 x_3 s_0))) + (own_sel x_0 x_1 x_2 x_3 s_1))), .val (.ref s_o), .val (.int n_1), .val (.int (2 : Int32)), .val (.int s_1)]) rfl ?_
        show Steps p.tables e below (T13.setTop (mkF m 50 #[.val (.ref a_o), .val (.ref e_o), .val (.ref s_o), .val (.int (((31 : Int32) * ((31 : Int32) + (own_sel x_0 x_1 x_2 x_3 s_0))) + (own_sel x_0 x_1 x_2 x_3 s_1))), .val (.ref s_o), .val (.int n_1), .val (.int (2 : Int32)), .val (.int s_1)] [])) _
        refine XS.goto X13.here hx rfl (pc0 := 50) (pc' := 23) rfl (hb hby own_d4_50) (by decide) (by decide) ?_
        show Steps p.tables e below (T13.setTop (mkF m 23 #[.val (.ref a_o), .val (.ref e_o), .val (.ref s_o), .val (.int (((31 : Int32) * ((31 : Int32) + (own_sel x_0 x_1 x_2 x_3 s_0))) + (own_sel x_0 x_1 x_2 x_3 s_1))), .val (.ref s_o), .val (.int n_1), .val (.int (2 : Int32)), .val (.int s_1)] [])) _
        refine XS.iload X13.here hx rfl (hb hby own_d4_23) rfl ?_
        show Steps p.tables e below (T13.setTop (mkF m 25 #[.val (.ref a_o), .val (.ref e_o), .val (.ref s_o), .val (.int (((31 : Int32) * ((31 : Int32) + (own_sel x_0 x_1 x_2 x_3 s_0))) + (own_sel x_0 x_1 x_2 x_3 s_1))), .val (.ref s_o), .val (.int n_1), .val (.int (2 : Int32)), .val (.int s_1)] [(.int (2 : Int32))])) _
        refine XS.iload X13.here hx rfl (hb hby own_d4_25) rfl ?_
        exact kt
      by_cases hc27_75 : (2 : Int32) < n_1
      · obtain ⟨cl79, Ar79, q79, S79, M79, H79, G79⟩ := id Fq23
        have hin79 : ¬ ((2 : Int32) < 0 ∨ cl79.slots.size ≤ ((2 : Int32)).toNatClampNeg) := inb_of S79 ⟨by decide, hc27_75⟩
        have hat79 : cl79.slots[((2 : Int32)).toNatClampNeg]? = some (.int s_2) := H79.at hin79 rfl
        obtain ⟨cl87, Ar87, q87, S87, M87, H87, G87⟩ := id Fq44
        have hin87 : ¬ (s_2 < 0 ∨ cl87.slots.size ≤ (s_2).toNatClampNeg) := inb_of S87 hb2
        have hat87 : cl87.slots[(s_2).toNatClampNeg]? = some (.int (own_sel x_0 x_1 x_2 x_3 s_2)) := H87.at hin87 (own_sel_get _ _ _ _ _ _ hb2)
        have Fq98 : Exa Z h13 a_o "com/example/fovea/fovea/Memory$Key" := (Fq11.wr W13)
        have Fq99 : Fld Z h13 a_o "com/example/fovea/fovea/Memory$Key" "hash" "I" u_h := ((F_h.other W4 (Or.inr (slot_ne (Or.inl (hw _ (List.mem_of_getElem? (i := 24) rfl))) (Or.inl (hw _ (List.mem_of_getElem? (i := 20) rfl))) (by decide) (t := .int) (t' := (.array .int)) (by decide) (by decide)))).other W13 (Or.inr (slot_ne (Or.inl (hw _ (List.mem_of_getElem? (i := 24) rfl))) (Or.inl (hw _ (List.mem_of_getElem? (i := 22) rfl))) (by decide) (t := .int) (t' := (.array .int)) (by decide) (by decide))))
        obtain ⟨T100, h100, X100, e100, W100, st100⟩ := putF X13 hx hZ hown (host := "") (Or.inl (hw _ (List.mem_of_getElem? (i := 23) rfl))) Via.refl e13 Fq99 Fq98 (Or.inl (hw _ (List.mem_of_getElem? (i := 24) rfl))) (hw _ (List.mem_of_getElem? (i := 6) rfl)) (ty := .int) (by decide) rfl rfl (g := (mkF m 55 #[.val (.ref a_o), .val (.ref e_o), .val (.ref s_o), .val (.int (((31 : Int32) * (((31 : Int32) * ((31 : Int32) + (own_sel x_0 x_1 x_2 x_3 s_0))) + (own_sel x_0 x_1 x_2 x_3 s_1))) + (own_sel x_0 x_1 x_2 x_3 s_2))), .val (.ref s_o), .val (.int n_1), .val (.int (3 : Int32)), .val (.int s_2)] [(.int (((31 : Int32) * (((31 : Int32) * ((31 : Int32) + (own_sel x_0 x_1 x_2 x_3 s_0))) + (own_sel x_0 x_1 x_2 x_3 s_1))) + (own_sel x_0 x_1 x_2 x_3 s_2))), (.ref a_o)])) rfl rfl (hb hby own_d4_55)
        have Kc101 : Keep h0 h100 [a_o] := Kc14.wr W100 (Or.inl (List.mem_of_getElem? (i := 0) rfl))
        have Zs102 : n0 ≤ h100.size := Nat.le_trans Zs15 (Keep.of_wr W100).1
        have N103 := Fr.snoc X100 N16 ga
        have Fw100 : Fld Z h100 a_o "com/example/fovea/fovea/Memory$Key" "hash" "I" (.int (((31 : Int32) * (((31 : Int32) * ((31 : Int32) + (own_sel x_0 x_1 x_2 x_3 s_0))) + (own_sel x_0 x_1 x_2 x_3 s_1))) + (own_sel x_0 x_1 x_2 x_3 s_2))) := Fq99.same W100
        obtain ⟨fs, hr, hrun, hended, hW, hsame⟩ := X100.leave (v := some (.ref a_o)) (fun h => by rw [Bd.returns] at h; cases h) (hlocks := BodyLoose.notSynchronized Bd)
        refine ⟨_, _, pre74 _ ?_, hrun, hended, _, _, rfl, ?_, ⟨_, rfl⟩, hW, hsame.mono (by decide) (by decide)⟩
        · show Steps p.tables e below (T13.setTop (mkF m 27 #[.val (.ref a_o), .val (.ref e_o), .val (.ref s_o), .val (.int (((31 : Int32) * ((31 : Int32) + (own_sel x_0 x_1 x_2 x_3 s_0))) + (own_sel x_0 x_1 x_2 x_3 s_1))), .val (.ref s_o), .val (.int n_1), .val (.int (2 : Int32)), .val (.int s_1)] [(.int n_1), (.int (2 : Int32))])) _
          refine XS.icmpNo X13.here hx rfl (hb hby own_d4_27) rfl (tlt hc27_75).2.1 ?_
          show Steps p.tables e below (T13.setTop (mkF m 30 #[.val (.ref a_o), .val (.ref e_o), .val (.ref s_o), .val (.int (((31 : Int32) * ((31 : Int32) + (own_sel x_0 x_1 x_2 x_3 s_0))) + (own_sel x_0 x_1 x_2 x_3 s_1))), .val (.ref s_o), .val (.int n_1), .val (.int (2 : Int32)), .val (.int s_1)] [])) _
          refine XS.aload X13.here hx rfl (hb hby own_d4_30) rfl rfl ?_
          show Steps p.tables e below (T13.setTop (mkF m 32 #[.val (.ref a_o), .val (.ref e_o), .val (.ref s_o), .val (.int (((31 : Int32) * ((31 : Int32) + (own_sel x_0 x_1 x_2 x_3 s_0))) + (own_sel x_0 x_1 x_2 x_3 s_1))), .val (.ref s_o), .val (.int n_1), .val (.int (2 : Int32)), .val (.int s_1)] [(.ref s_o)])) _
          refine XS.iload X13.here hx rfl (hb hby own_d4_32) rfl ?_
          show Steps p.tables e below (T13.setTop (mkF m 34 #[.val (.ref a_o), .val (.ref e_o), .val (.ref s_o), .val (.int (((31 : Int32) * ((31 : Int32) + (own_sel x_0 x_1 x_2 x_3 s_0))) + (own_sel x_0 x_1 x_2 x_3 s_1))), .val (.ref s_o), .val (.int n_1), .val (.int (2 : Int32)), .val (.int s_1)] [(.int (2 : Int32)), (.ref s_o)])) _
          refine X13.iaload hx (j := (2 : Int32)) (v := (.int s_2)) (by rw [e13]; exact Ar79.1) (State.isArrayOf_alike hZ.alike Ar79.2.1) Ar79.2.2 hin79 hat79 (g := (mkF m 34 #[.val (.ref a_o), .val (.ref e_o), .val (.ref s_o), .val (.int (((31 : Int32) * ((31 : Int32) + (own_sel x_0 x_1 x_2 x_3 s_0))) + (own_sel x_0 x_1 x_2 x_3 s_1))), .val (.ref s_o), .val (.int n_1), .val (.int (2 : Int32)), .val (.int s_1)] [(.int (2 : Int32)), (.ref s_o)])) rfl rfl (hb hby own_d4_34) _ ?_
          show Steps p.tables e below (T13.setTop (mkF m 35 #[.val (.ref a_o), .val (.ref e_o), .val (.ref s_o), .val (.int (((31 : Int32) * ((31 : Int32) + (own_sel x_0 x_1 x_2 x_3 s_0))) + (own_sel x_0 x_1 x_2 x_3 s_1))), .val (.ref s_o), .val (.int n_1), .val (.int (2 : Int32)), .val (.int s_1)] [(.int s_2)])) _
          refine XS.istore X13.here hx rfl (hb hby own_d4_35) rfl (l' := #[.val (.ref a_o), .val (.ref e_o), .val (.ref s_o), .val (.int (((31 : Int32) * ((31 : Int32) + (own_sel x_0 x_1 x_2 x_3 s_0))) + (own_sel x_0 x_1 x_2 x_3 s_1))), .val (.ref s_o), .val (.int n_1), .val (.int (2 : Int32)), .val (.int s_2)]) rfl ?_
          show Steps p.tables e below (T13.setTop (mkF m 37 #[.val (.ref a_o), .val (.ref e_o), .val (.ref s_o), .val (.int (((31 : Int32) * ((31 : Int32) + (own_sel x_0 x_1 x_2 x_3 s_0))) + (own_sel x_0 x_1 x_2 x_3 s_1))), .val (.ref s_o), .val (.int n_1), .val (.int (2 : Int32)), .val (.int s_2)] [])) _
          refine XS.bipush X13.here hx rfl (hb hby own_d4_37) ?_
          show Steps p.tables e below (T13.setTop (mkF m 39 #[.val (.ref a_o), .val (.ref e_o), .val (.ref s_o), .val (.int (((31 : Int32) * ((31 : Int32) + (own_sel x_0 x_1 x_2 x_3 s_0))) + (own_sel x_0 x_1 x_2 x_3 s_1))), .val (.ref s_o), .val (.int n_1), .val (.int (2 : Int32)), .val (.int s_2)] [(.int (31 : Int32))])) _
          refine XS.iloadN X13.here hx rfl (hb hby own_d4_39) rfl ?_
          show Steps p.tables e below (T13.setTop (mkF m 40 #[.val (.ref a_o), .val (.ref e_o), .val (.ref s_o), .val (.int (((31 : Int32) * ((31 : Int32) + (own_sel x_0 x_1 x_2 x_3 s_0))) + (own_sel x_0 x_1 x_2 x_3 s_1))), .val (.ref s_o), .val (.int n_1), .val (.int (2 : Int32)), .val (.int s_2)] [(.int (((31 : Int32) * ((31 : Int32) + (own_sel x_0 x_1 x_2 x_3 s_0))) + (own_sel x_0 x_1 x_2 x_3 s_1))), (.int (31 : Int32))])) _
          refine XS.imul X13.here hx rfl (hb hby own_d4_40) rfl ?_
          show Steps p.tables e below (T13.setTop (mkF m 41 #[.val (.ref a_o), .val (.ref e_o), .val (.ref s_o), .val (.int (((31 : Int32) * ((31 : Int32) + (own_sel x_0 x_1 x_2 x_3 s_0))) + (own_sel x_0 x_1 x_2 x_3 s_1))), .val (.ref s_o), .val (.int n_1), .val (.int (2 : Int32)), .val (.int s_2)] [(.int ((31 : Int32) * (((31 : Int32) * ((31 : Int32) + (own_sel x_0 x_1 x_2 x_3 s_0))) + (own_sel x_0 x_1 x_2 x_3 s_1))))])) _
          refine XS.aloadN X13.here hx rfl (hb hby own_d4_41) rfl rfl ?_
          show Steps p.tables e below (T13.setTop (mkF m 42 #[.val (.ref a_o), .val (.ref e_o), .val (.ref s_o), .val (.int (((31 : Int32) * ((31 : Int32) + (own_sel x_0 x_1 x_2 x_3 s_0))) + (own_sel x_0 x_1 x_2 x_3 s_1))), .val (.ref s_o), .val (.int n_1), .val (.int (2 : Int32)), .val (.int s_2)] [(.ref e_o), (.int ((31 : Int32) * (((31 : Int32) * ((31 : Int32) + (own_sel x_0 x_1 x_2 x_3 s_0))) + (own_sel x_0 x_1 x_2 x_3 s_1))))])) _
          refine XS.iload X13.here hx rfl (hb hby own_d4_42) rfl ?_
          show Steps p.tables e below (T13.setTop (mkF m 44 #[.val (.ref a_o), .val (.ref e_o), .val (.ref s_o), .val (.int (((31 : Int32) * ((31 : Int32) + (own_sel x_0 x_1 x_2 x_3 s_0))) + (own_sel x_0 x_1 x_2 x_3 s_1))), .val (.ref s_o), .val (.int n_1), .val (.int (2 : Int32)), .val (.int s_2)] [(.int s_2), (.ref e_o), (.int ((31 : Int32) * (((31 : Int32) * ((31 : Int32) + (own_sel x_0 x_1 x_2 x_3 s_0))) + (own_sel x_0 x_1 x_2 x_3 s_1))))])) _
          refine X13.iaload hx (j := s_2) (v := (.int (own_sel x_0 x_1 x_2 x_3 s_2))) (by rw [e13]; exact Ar87.1) (State.isArrayOf_alike hZ.alike Ar87.2.1) Ar87.2.2 hin87 hat87 (g := (mkF m 44 #[.val (.ref a_o), .val (.ref e_o), .val (.ref s_o), .val (.int (((31 : Int32) * ((31 : Int32) + (own_sel x_0 x_1 x_2 x_3 s_0))) + (own_sel x_0 x_1 x_2 x_3 s_1))), .val (.ref s_o), .val (.int n_1), .val (.int (2 : Int32)), .val (.int s_2)] [(.int s_2), (.ref e_o), (.int ((31 : Int32) * (((31 : Int32) * ((31 : Int32) + (own_sel x_0 x_1 x_2 x_3 s_0))) + (own_sel x_0 x_1 x_2 x_3 s_1))))])) rfl rfl (hb hby own_d4_44) _ ?_
          show Steps p.tables e below (T13.setTop (mkF m 45 #[.val (.ref a_o), .val (.ref e_o), .val (.ref s_o), .val (.int (((31 : Int32) * ((31 : Int32) + (own_sel x_0 x_1 x_2 x_3 s_0))) + (own_sel x_0 x_1 x_2 x_3 s_1))), .val (.ref s_o), .val (.int n_1), .val (.int (2 : Int32)), .val (.int s_2)] [(.int (own_sel x_0 x_1 x_2 x_3 s_2)), (.int ((31 : Int32) * (((31 : Int32) * ((31 : Int32) + (own_sel x_0 x_1 x_2 x_3 s_0))) + (own_sel x_0 x_1 x_2 x_3 s_1))))])) _
          refine XS.iadd X13.here hx rfl (hb hby own_d4_45) rfl ?_
          show Steps p.tables e below (T13.setTop (mkF m 46 #[.val (.ref a_o), .val (.ref e_o), .val (.ref s_o), .val (.int (((31 : Int32) * ((31 : Int32) + (own_sel x_0 x_1 x_2 x_3 s_0))) + (own_sel x_0 x_1 x_2 x_3 s_1))), .val (.ref s_o), .val (.int n_1), .val (.int (2 : Int32)), .val (.int s_2)] [(.int (((31 : Int32) * (((31 : Int32) * ((31 : Int32) + (own_sel x_0 x_1 x_2 x_3 s_0))) + (own_sel x_0 x_1 x_2 x_3 s_1))) + (own_sel x_0 x_1 x_2 x_3 s_2)))])) _
          refine XS.istoreN X13.here hx rfl (hb hby own_d4_46) rfl (l' := #[.val (.ref a_o), .val (.ref e_o), .val (.ref s_o), .val (.int (((31 : Int32) * (((31 : Int32) * ((31 : Int32) + (own_sel x_0 x_1 x_2 x_3 s_0))) + (own_sel x_0 x_1 x_2 x_3 s_1))) + (own_sel x_0 x_1 x_2 x_3 s_2))), .val (.ref s_o), .val (.int n_1), .val (.int (2 : Int32)), .val (.int s_2)]) rfl ?_
          show Steps p.tables e below (T13.setTop (mkF m 47 #[.val (.ref a_o), .val (.ref e_o), .val (.ref s_o), .val (.int (((31 : Int32) * (((31 : Int32) * ((31 : Int32) + (own_sel x_0 x_1 x_2 x_3 s_0))) + (own_sel x_0 x_1 x_2 x_3 s_1))) + (own_sel x_0 x_1 x_2 x_3 s_2))), .val (.ref s_o), .val (.int n_1), .val (.int (2 : Int32)), .val (.int s_2)] [])) _
          refine XS.iinc X13.here hx rfl (hb hby own_d4_47) rfl (l' := #[.val (.ref a_o), .val (.ref e_o), .val (.ref s_o), .val (.int (((31 : Int32) * (((31 : Int32) * ((31 : Int32) + (own_sel x_0 x_1 x_2 x_3 s_0))) + (own_sel x_0 x_1 x_2 x_3 s_1))) + (own_sel x_0 x_1 x_2 x_3 s_2))), .val (.ref s_o), .val (.int n_1), .val (.int (3 : Int32)), .val (.int s_2)]) rfl ?_
          show Steps p.tables e below (T13.setTop (mkF m 50 #[.val (.ref a_o), .val (.ref e_o), .val (.ref s_o), .val (.int (((31 : Int32) * (((31 : Int32) * ((31 : Int32) + (own_sel x_0 x_1 x_2 x_3 s_0))) + (own_sel x_0 x_1 x_2 x_3 s_1))) + (own_sel x_0 x_1 x_2 x_3 s_2))), .val (.ref s_o), .val (.int n_1), .val (.int (3 : Int32)), .val (.int s_2)] [])) _
          refine XS.goto X13.here hx rfl (pc0 := 50) (pc' := 23) rfl (hb hby own_d4_50) (by decide) (by decide) ?_
          show Steps p.tables e below (T13.setTop (mkF m 23 #[.val (.ref a_o), .val (.ref e_o), .val (.ref s_o), .val (.int (((31 : Int32) * (((31 : Int32) * ((31 : Int32) + (own_sel x_0 x_1 x_2 x_3 s_0))) + (own_sel x_0 x_1 x_2 x_3 s_1))) + (own_sel x_0 x_1 x_2 x_3 s_2))), .val (.ref s_o), .val (.int n_1), .val (.int (3 : Int32)), .val (.int s_2)] [])) _
          refine XS.iload X13.here hx rfl (hb hby own_d4_23) rfl ?_
          show Steps p.tables e below (T13.setTop (mkF m 25 #[.val (.ref a_o), .val (.ref e_o), .val (.ref s_o), .val (.int (((31 : Int32) * (((31 : Int32) * ((31 : Int32) + (own_sel x_0 x_1 x_2 x_3 s_0))) + (own_sel x_0 x_1 x_2 x_3 s_1))) + (own_sel x_0 x_1 x_2 x_3 s_2))), .val (.ref s_o), .val (.int n_1), .val (.int (3 : Int32)), .val (.int s_2)] [(.int (3 : Int32))])) _
          refine XS.iload X13.here hx rfl (hb hby own_d4_25) rfl ?_
          show Steps p.tables e below (T13.setTop (mkF m 27 #[.val (.ref a_o), .val (.ref e_o), .val (.ref s_o), .val (.int (((31 : Int32) * (((31 : Int32) * ((31 : Int32) + (own_sel x_0 x_1 x_2 x_3 s_0))) + (own_sel x_0 x_1 x_2 x_3 s_1))) + (own_sel x_0 x_1 x_2 x_3 s_2))), .val (.ref s_o), .val (.int n_1), .val (.int (3 : Int32)), .val (.int s_2)] [(.int n_1), (.int (3 : Int32))])) _
          refine XS.icmpYes X13.here hx rfl (pc0 := 27) (pc' := 53) rfl (hb hby own_d4_27) rfl (flt (hn : ¬ ((3 : Int32) < n_1))).2.1 (by decide) (by decide) ?_
          show Steps p.tables e below (T13.setTop (mkF m 53 #[.val (.ref a_o), .val (.ref e_o), .val (.ref s_o), .val (.int (((31 : Int32) * (((31 : Int32) * ((31 : Int32) + (own_sel x_0 x_1 x_2 x_3 s_0))) + (own_sel x_0 x_1 x_2 x_3 s_1))) + (own_sel x_0 x_1 x_2 x_3 s_2))), .val (.ref s_o), .val (.int n_1), .val (.int (3 : Int32)), .val (.int s_2)] [])) _
          refine XS.aloadN X13.here hx rfl (hb hby own_d4_53) rfl rfl ?_
          show Steps p.tables e below (T13.setTop (mkF m 54 #[.val (.ref a_o), .val (.ref e_o), .val (.ref s_o), .val (.int (((31 : Int32) * (((31 : Int32) * ((31 : Int32) + (own_sel x_0 x_1 x_2 x_3 s_0))) + (own_sel x_0 x_1 x_2 x_3 s_1))) + (own_sel x_0 x_1 x_2 x_3 s_2))), .val (.ref s_o), .val (.int n_1), .val (.int (3 : Int32)), .val (.int s_2)] [(.ref a_o)])) _
          refine XS.iloadN X13.here hx rfl (hb hby own_d4_54) rfl ?_
          show Steps p.tables e below (T13.setTop (mkF m 55 #[.val (.ref a_o), .val (.ref e_o), .val (.ref s_o), .val (.int (((31 : Int32) * (((31 : Int32) * ((31 : Int32) + (own_sel x_0 x_1 x_2 x_3 s_0))) + (own_sel x_0 x_1 x_2 x_3 s_1))) + (own_sel x_0 x_1 x_2 x_3 s_2))), .val (.ref s_o), .val (.int n_1), .val (.int (3 : Int32)), .val (.int s_2)] [(.int (((31 : Int32) * (((31 : Int32) * ((31 : Int32) + (own_sel x_0 x_1 x_2 x_3 s_0))) + (own_sel x_0 x_1 x_2 x_3 s_1))) + (own_sel x_0 x_1 x_2 x_3 s_2))), (.ref a_o)])) _
          refine st100 _ ?_
          show Steps p.tables e below (T100.setTop (mkF m 58 #[.val (.ref a_o), .val (.ref e_o), .val (.ref s_o), .val (.int (((31 : Int32) * (((31 : Int32) * ((31 : Int32) + (own_sel x_0 x_1 x_2 x_3 s_0))) + (own_sel x_0 x_1 x_2 x_3 s_1))) + (own_sel x_0 x_1 x_2 x_3 s_2))), .val (.ref s_o), .val (.int n_1), .val (.int (3 : Int32)), .val (.int s_2)] [])) _
          refine XS.aloadN X100.here hx rfl (hb hby own_d4_58) rfl rfl ?_
          show Steps p.tables e below (T100.setTop (mkF m 59 #[.val (.ref a_o), .val (.ref e_o), .val (.ref s_o), .val (.int (((31 : Int32) * (((31 : Int32) * ((31 : Int32) + (own_sel x_0 x_1 x_2 x_3 s_0))) + (own_sel x_0 x_1 x_2 x_3 s_1))) + (own_sel x_0 x_1 x_2 x_3 s_2))), .val (.ref s_o), .val (.int n_1), .val (.int (3 : Int32)), .val (.int s_2)] [(.ref a_o)])) _
          jvm_step X100.here [X100.here.top, hx, (hb hby own_d4_59), X100.method', Bd.returns, Value.isRef, FieldType.isReference]
          first | (intro acts; rw [hr _ acts rfl rfl rfl]) | rw [hr _ _ rfl rfl rfl]
          exact Steps.refl _
        · show Qown_of Z a_o e_o s_o k_e k_s u_e u_s u_h n_1 x_0 x_1 x_2 x_3 s_0 s_1 s_2 h0 n0 _ T100.heap _
          rw [e100]
          have Fq106 : Exa Z h100 a_o "com/example/fovea/fovea/Memory$Key" := (Fq98.wr W100)
          have Fq107 : Fld Z h100 a_o "com/example/fovea/fovea/Memory$Key" "entry" "[I" (.ref e_o) := ((Fw4.other W13 (Or.inr (slot_ne (Or.inl (hw _ (List.mem_of_getElem? (i := 20) rfl))) (Or.inl (hw _ (List.mem_of_getElem? (i := 22) rfl))) (by decide) (t := (.array .int)) (t' := (.array .int)) (by decide) (by decide)))).other W100 (Or.inr (slot_ne (Or.inl (hw _ (List.mem_of_getElem? (i := 20) rfl))) (Or.inl (hw _ (List.mem_of_getElem? (i := 24) rfl))) (by decide) (t := (.array .int)) (t' := .int) (by decide) (by decide))))
          have Fq108 : Fld Z h100 a_o "com/example/fovea/fovea/Memory$Key" "slots" "[I" (.ref s_o) := (Fw13.other W100 (Or.inr (slot_ne (Or.inl (hw _ (List.mem_of_getElem? (i := 22) rfl))) (Or.inl (hw _ (List.mem_of_getElem? (i := 24) rfl))) (by decide) (t := (.array .int)) (t' := .int) (by decide) (by decide))))
          exact ⟨rfl, N103, Kc101, Fq106, Fq107, Fq108⟩
      · have Fq112 : Exa Z h13 a_o "com/example/fovea/fovea/Memory$Key" := (Fq11.wr W13)
        have Fq113 : Fld Z h13 a_o "com/example/fovea/fovea/Memory$Key" "hash" "I" u_h := ((F_h.other W4 (Or.inr (slot_ne (Or.inl (hw _ (List.mem_of_getElem? (i := 24) rfl))) (Or.inl (hw _ (List.mem_of_getElem? (i := 20) rfl))) (by decide) (t := .int) (t' := (.array .int)) (by decide) (by decide)))).other W13 (Or.inr (slot_ne (Or.inl (hw _ (List.mem_of_getElem? (i := 24) rfl))) (Or.inl (hw _ (List.mem_of_getElem? (i := 22) rfl))) (by decide) (t := .int) (t' := (.array .int)) (by decide) (by decide))))
        obtain ⟨T114, h114, X114, e114, W114, st114⟩ := putF X13 hx hZ hown (host := "") (Or.inl (hw _ (List.mem_of_getElem? (i := 23) rfl))) Via.refl e13 Fq113 Fq112 (Or.inl (hw _ (List.mem_of_getElem? (i := 24) rfl))) (hw _ (List.mem_of_getElem? (i := 6) rfl)) (ty := .int) (by decide) rfl rfl (g := (mkF m 55 #[.val (.ref a_o), .val (.ref e_o), .val (.ref s_o), .val (.int (((31 : Int32) * ((31 : Int32) + (own_sel x_0 x_1 x_2 x_3 s_0))) + (own_sel x_0 x_1 x_2 x_3 s_1))), .val (.ref s_o), .val (.int n_1), .val (.int (2 : Int32)), .val (.int s_1)] [(.int (((31 : Int32) * ((31 : Int32) + (own_sel x_0 x_1 x_2 x_3 s_0))) + (own_sel x_0 x_1 x_2 x_3 s_1))), (.ref a_o)])) rfl rfl (hb hby own_d4_55)
        have Kc115 : Keep h0 h114 [a_o] := Kc14.wr W114 (Or.inl (List.mem_of_getElem? (i := 0) rfl))
        have Zs116 : n0 ≤ h114.size := Nat.le_trans Zs15 (Keep.of_wr W114).1
        have N117 := Fr.snoc X114 N16 ga
        have Fw114 : Fld Z h114 a_o "com/example/fovea/fovea/Memory$Key" "hash" "I" (.int (((31 : Int32) * ((31 : Int32) + (own_sel x_0 x_1 x_2 x_3 s_0))) + (own_sel x_0 x_1 x_2 x_3 s_1))) := Fq113.same W114
        obtain ⟨fs, hr, hrun, hended, hW, hsame⟩ := X114.leave (v := some (.ref a_o)) (fun h => by rw [Bd.returns] at h; cases h) (hlocks := BodyLoose.notSynchronized Bd)
        refine ⟨_, _, pre74 _ ?_, hrun, hended, _, _, rfl, ?_, ⟨_, rfl⟩, hW, hsame.mono (by decide) (by decide)⟩
        · show Steps p.tables e below (T13.setTop (mkF m 27 #[.val (.ref a_o), .val (.ref e_o), .val (.ref s_o), .val (.int (((31 : Int32) * ((31 : Int32) + (own_sel x_0 x_1 x_2 x_3 s_0))) + (own_sel x_0 x_1 x_2 x_3 s_1))), .val (.ref s_o), .val (.int n_1), .val (.int (2 : Int32)), .val (.int s_1)] [(.int n_1), (.int (2 : Int32))])) _
          refine XS.icmpYes X13.here hx rfl (pc0 := 27) (pc' := 53) rfl (hb hby own_d4_27) rfl (flt hc27_75).2.1 (by decide) (by decide) ?_
          show Steps p.tables e below (T13.setTop (mkF m 53 #[.val (.ref a_o), .val (.ref e_o), .val (.ref s_o), .val (.int (((31 : Int32) * ((31 : Int32) + (own_sel x_0 x_1 x_2 x_3 s_0))) + (own_sel x_0 x_1 x_2 x_3 s_1))), .val (.ref s_o), .val (.int n_1), .val (.int (2 : Int32)), .val (.int s_1)] [])) _
          refine XS.aloadN X13.here hx rfl (hb hby own_d4_53) rfl rfl ?_
          show Steps p.tables e below (T13.setTop (mkF m 54 #[.val (.ref a_o), .val (.ref e_o), .val (.ref s_o), .val (.int (((31 : Int32) * ((31 : Int32) + (own_sel x_0 x_1 x_2 x_3 s_0))) + (own_sel x_0 x_1 x_2 x_3 s_1))), .val (.ref s_o), .val (.int n_1), .val (.int (2 : Int32)), .val (.int s_1)] [(.ref a_o)])) _
          refine XS.iloadN X13.here hx rfl (hb hby own_d4_54) rfl ?_
          show Steps p.tables e below (T13.setTop (mkF m 55 #[.val (.ref a_o), .val (.ref e_o), .val (.ref s_o), .val (.int (((31 : Int32) * ((31 : Int32) + (own_sel x_0 x_1 x_2 x_3 s_0))) + (own_sel x_0 x_1 x_2 x_3 s_1))), .val (.ref s_o), .val (.int n_1), .val (.int (2 : Int32)), .val (.int s_1)] [(.int (((31 : Int32) * ((31 : Int32) + (own_sel x_0 x_1 x_2 x_3 s_0))) + (own_sel x_0 x_1 x_2 x_3 s_1))), (.ref a_o)])) _
          refine st114 _ ?_
          show Steps p.tables e below (T114.setTop (mkF m 58 #[.val (.ref a_o), .val (.ref e_o), .val (.ref s_o), .val (.int (((31 : Int32) * ((31 : Int32) + (own_sel x_0 x_1 x_2 x_3 s_0))) + (own_sel x_0 x_1 x_2 x_3 s_1))), .val (.ref s_o), .val (.int n_1), .val (.int (2 : Int32)), .val (.int s_1)] [])) _
          refine XS.aloadN X114.here hx rfl (hb hby own_d4_58) rfl rfl ?_
          show Steps p.tables e below (T114.setTop (mkF m 59 #[.val (.ref a_o), .val (.ref e_o), .val (.ref s_o), .val (.int (((31 : Int32) * ((31 : Int32) + (own_sel x_0 x_1 x_2 x_3 s_0))) + (own_sel x_0 x_1 x_2 x_3 s_1))), .val (.ref s_o), .val (.int n_1), .val (.int (2 : Int32)), .val (.int s_1)] [(.ref a_o)])) _
          jvm_step X114.here [X114.here.top, hx, (hb hby own_d4_59), X114.method', Bd.returns, Value.isRef, FieldType.isReference]
          first | (intro acts; rw [hr _ acts rfl rfl rfl]) | rw [hr _ _ rfl rfl rfl]
          exact Steps.refl _
        · show Qown_of Z a_o e_o s_o k_e k_s u_e u_s u_h n_1 x_0 x_1 x_2 x_3 s_0 s_1 s_2 h0 n0 _ T114.heap _
          rw [e114]
          have Fq120 : Exa Z h114 a_o "com/example/fovea/fovea/Memory$Key" := (Fq112.wr W114)
          have Fq121 : Fld Z h114 a_o "com/example/fovea/fovea/Memory$Key" "entry" "[I" (.ref e_o) := ((Fw4.other W13 (Or.inr (slot_ne (Or.inl (hw _ (List.mem_of_getElem? (i := 20) rfl))) (Or.inl (hw _ (List.mem_of_getElem? (i := 22) rfl))) (by decide) (t := (.array .int)) (t' := (.array .int)) (by decide) (by decide)))).other W114 (Or.inr (slot_ne (Or.inl (hw _ (List.mem_of_getElem? (i := 20) rfl))) (Or.inl (hw _ (List.mem_of_getElem? (i := 24) rfl))) (by decide) (t := (.array .int)) (t' := .int) (by decide) (by decide))))
          have Fq122 : Fld Z h114 a_o "com/example/fovea/fovea/Memory$Key" "slots" "[I" (.ref s_o) := (Fw13.other W114 (Or.inr (slot_ne (Or.inl (hw _ (List.mem_of_getElem? (i := 22) rfl))) (Or.inl (hw _ (List.mem_of_getElem? (i := 24) rfl))) (by decide) (t := (.array .int)) (t' := .int) (by decide) (by decide))))
          exact ⟨rfl, N117, Kc115, Fq120, Fq121, Fq122⟩
    · have Fq126 : Exa Z h13 a_o "com/example/fovea/fovea/Memory$Key" := (Fq11.wr W13)
      have Fq127 : Fld Z h13 a_o "com/example/fovea/fovea/Memory$Key" "hash" "I" u_h := ((F_h.other W4 (Or.inr (slot_ne (Or.inl (hw _ (List.mem_of_getElem? (i := 24) rfl))) (Or.inl (hw _ (List.mem_of_getElem? (i := 20) rfl))) (by decide) (t := .int) (t' := (.array .int)) (by decide) (by decide)))).other W13 (Or.inr (slot_ne (Or.inl (hw _ (List.mem_of_getElem? (i := 24) rfl))) (Or.inl (hw _ (List.mem_of_getElem? (i := 22) rfl))) (by decide) (t := .int) (t' := (.array .int)) (by decide) (by decide))))
      obtain ⟨T128, h128, X128, e128, W128, st128⟩ := putF X13 hx hZ hown (host := "") (Or.inl (hw _ (List.mem_of_getElem? (i := 23) rfl))) Via.refl e13 Fq127 Fq126 (Or.inl (hw _ (List.mem_of_getElem? (i := 24) rfl))) (hw _ (List.mem_of_getElem? (i := 6) rfl)) (ty := .int) (by decide) rfl rfl (g := (mkF m 55 #[.val (.ref a_o), .val (.ref e_o), .val (.ref s_o), .val (.int ((31 : Int32) + (own_sel x_0 x_1 x_2 x_3 s_0))), .val (.ref s_o), .val (.int n_1), .val (.int (1 : Int32)), .val (.int s_0)] [(.int ((31 : Int32) + (own_sel x_0 x_1 x_2 x_3 s_0))), (.ref a_o)])) rfl rfl (hb hby own_d4_55)
      have Kc129 : Keep h0 h128 [a_o] := Kc14.wr W128 (Or.inl (List.mem_of_getElem? (i := 0) rfl))
      have Zs130 : n0 ≤ h128.size := Nat.le_trans Zs15 (Keep.of_wr W128).1
      have N131 := Fr.snoc X128 N16 ga
      have Fw128 : Fld Z h128 a_o "com/example/fovea/fovea/Memory$Key" "hash" "I" (.int ((31 : Int32) + (own_sel x_0 x_1 x_2 x_3 s_0))) := Fq127.same W128
      obtain ⟨fs, hr, hrun, hended, hW, hsame⟩ := X128.leave (v := some (.ref a_o)) (fun h => by rw [Bd.returns] at h; cases h) (hlocks := BodyLoose.notSynchronized Bd)
      refine ⟨_, _, pre53 _ ?_, hrun, hended, _, _, rfl, ?_, ⟨_, rfl⟩, hW, hsame.mono (by decide) (by decide)⟩
      · show Steps p.tables e below (T13.setTop (mkF m 27 #[.val (.ref a_o), .val (.ref e_o), .val (.ref s_o), .val (.int ((31 : Int32) + (own_sel x_0 x_1 x_2 x_3 s_0))), .val (.ref s_o), .val (.int n_1), .val (.int (1 : Int32)), .val (.int s_0)] [(.int n_1), (.int (1 : Int32))])) _
        refine XS.icmpYes X13.here hx rfl (pc0 := 27) (pc' := 53) rfl (hb hby own_d4_27) rfl (flt hc27_54).2.1 (by decide) (by decide) ?_
        show Steps p.tables e below (T13.setTop (mkF m 53 #[.val (.ref a_o), .val (.ref e_o), .val (.ref s_o), .val (.int ((31 : Int32) + (own_sel x_0 x_1 x_2 x_3 s_0))), .val (.ref s_o), .val (.int n_1), .val (.int (1 : Int32)), .val (.int s_0)] [])) _
        refine XS.aloadN X13.here hx rfl (hb hby own_d4_53) rfl rfl ?_
        show Steps p.tables e below (T13.setTop (mkF m 54 #[.val (.ref a_o), .val (.ref e_o), .val (.ref s_o), .val (.int ((31 : Int32) + (own_sel x_0 x_1 x_2 x_3 s_0))), .val (.ref s_o), .val (.int n_1), .val (.int (1 : Int32)), .val (.int s_0)] [(.ref a_o)])) _
        refine XS.iloadN X13.here hx rfl (hb hby own_d4_54) rfl ?_
        show Steps p.tables e below (T13.setTop (mkF m 55 #[.val (.ref a_o), .val (.ref e_o), .val (.ref s_o), .val (.int ((31 : Int32) + (own_sel x_0 x_1 x_2 x_3 s_0))), .val (.ref s_o), .val (.int n_1), .val (.int (1 : Int32)), .val (.int s_0)] [(.int ((31 : Int32) + (own_sel x_0 x_1 x_2 x_3 s_0))), (.ref a_o)])) _
        refine st128 _ ?_
        show Steps p.tables e below (T128.setTop (mkF m 58 #[.val (.ref a_o), .val (.ref e_o), .val (.ref s_o), .val (.int ((31 : Int32) + (own_sel x_0 x_1 x_2 x_3 s_0))), .val (.ref s_o), .val (.int n_1), .val (.int (1 : Int32)), .val (.int s_0)] [])) _
        refine XS.aloadN X128.here hx rfl (hb hby own_d4_58) rfl rfl ?_
        show Steps p.tables e below (T128.setTop (mkF m 59 #[.val (.ref a_o), .val (.ref e_o), .val (.ref s_o), .val (.int ((31 : Int32) + (own_sel x_0 x_1 x_2 x_3 s_0))), .val (.ref s_o), .val (.int n_1), .val (.int (1 : Int32)), .val (.int s_0)] [(.ref a_o)])) _
        jvm_step X128.here [X128.here.top, hx, (hb hby own_d4_59), X128.method', Bd.returns, Value.isRef, FieldType.isReference]
        first | (intro acts; rw [hr _ acts rfl rfl rfl]) | rw [hr _ _ rfl rfl rfl]
        exact Steps.refl _
      · show Qown_of Z a_o e_o s_o k_e k_s u_e u_s u_h n_1 x_0 x_1 x_2 x_3 s_0 s_1 s_2 h0 n0 _ T128.heap _
        rw [e128]
        have Fq134 : Exa Z h128 a_o "com/example/fovea/fovea/Memory$Key" := (Fq126.wr W128)
        have Fq135 : Fld Z h128 a_o "com/example/fovea/fovea/Memory$Key" "entry" "[I" (.ref e_o) := ((Fw4.other W13 (Or.inr (slot_ne (Or.inl (hw _ (List.mem_of_getElem? (i := 20) rfl))) (Or.inl (hw _ (List.mem_of_getElem? (i := 22) rfl))) (by decide) (t := (.array .int)) (t' := (.array .int)) (by decide) (by decide)))).other W128 (Or.inr (slot_ne (Or.inl (hw _ (List.mem_of_getElem? (i := 20) rfl))) (Or.inl (hw _ (List.mem_of_getElem? (i := 24) rfl))) (by decide) (t := (.array .int)) (t' := .int) (by decide) (by decide))))
        have Fq136 : Fld Z h128 a_o "com/example/fovea/fovea/Memory$Key" "slots" "[I" (.ref s_o) := (Fw13.other W128 (Or.inr (slot_ne (Or.inl (hw _ (List.mem_of_getElem? (i := 22) rfl))) (Or.inl (hw _ (List.mem_of_getElem? (i := 24) rfl))) (by decide) (t := (.array .int)) (t' := .int) (by decide) (by decide))))
        exact ⟨rfl, N131, Kc129, Fq134, Fq135, Fq136⟩
  · have Fq140 : Exa Z h13 a_o "com/example/fovea/fovea/Memory$Key" := (Fq11.wr W13)
    have Fq141 : Fld Z h13 a_o "com/example/fovea/fovea/Memory$Key" "hash" "I" u_h := ((F_h.other W4 (Or.inr (slot_ne (Or.inl (hw _ (List.mem_of_getElem? (i := 24) rfl))) (Or.inl (hw _ (List.mem_of_getElem? (i := 20) rfl))) (by decide) (t := .int) (t' := (.array .int)) (by decide) (by decide)))).other W13 (Or.inr (slot_ne (Or.inl (hw _ (List.mem_of_getElem? (i := 24) rfl))) (Or.inl (hw _ (List.mem_of_getElem? (i := 22) rfl))) (by decide) (t := .int) (t' := (.array .int)) (by decide) (by decide))))
    obtain ⟨T142, h142, X142, e142, W142, st142⟩ := putF X13 hx hZ hown (host := "") (Or.inl (hw _ (List.mem_of_getElem? (i := 23) rfl))) Via.refl e13 Fq141 Fq140 (Or.inl (hw _ (List.mem_of_getElem? (i := 24) rfl))) (hw _ (List.mem_of_getElem? (i := 6) rfl)) (ty := .int) (by decide) rfl rfl (g := (mkF m 55 #[.val (.ref a_o), .val (.ref e_o), .val (.ref s_o), .val (.int (1 : Int32)), .val (.ref s_o), .val (.int n_1), .val (.int (0 : Int32)), .unset] [(.int (1 : Int32)), (.ref a_o)])) rfl rfl (hb hby own_d4_55)
    have Kc143 : Keep h0 h142 [a_o] := Kc14.wr W142 (Or.inl (List.mem_of_getElem? (i := 0) rfl))
    have Zs144 : n0 ≤ h142.size := Nat.le_trans Zs15 (Keep.of_wr W142).1
    have N145 := Fr.snoc X142 N16 ga
    have Fw142 : Fld Z h142 a_o "com/example/fovea/fovea/Memory$Key" "hash" "I" (.int (1 : Int32)) := Fq141.same W142
    obtain ⟨fs, hr, hrun, hended, hW, hsame⟩ := X142.leave (v := some (.ref a_o)) (fun h => by rw [Bd.returns] at h; cases h) (hlocks := BodyLoose.notSynchronized Bd)
    refine ⟨_, _, pre31 _ ?_, hrun, hended, _, _, rfl, ?_, ⟨_, rfl⟩, hW, hsame.mono (by decide) (by decide)⟩
    · show Steps p.tables e below (T13.setTop (mkF m 27 #[.val (.ref a_o), .val (.ref e_o), .val (.ref s_o), .val (.int (1 : Int32)), .val (.ref s_o), .val (.int n_1), .val (.int (0 : Int32)), .unset] [(.int n_1), (.int (0 : Int32))])) _
      refine XS.icmpYes X13.here hx rfl (pc0 := 27) (pc' := 53) rfl (hb hby own_d4_27) rfl (flt hc27_32).2.1 (by decide) (by decide) ?_
      show Steps p.tables e below (T13.setTop (mkF m 53 #[.val (.ref a_o), .val (.ref e_o), .val (.ref s_o), .val (.int (1 : Int32)), .val (.ref s_o), .val (.int n_1), .val (.int (0 : Int32)), .unset] [])) _
      refine XS.aloadN X13.here hx rfl (hb hby own_d4_53) rfl rfl ?_
      show Steps p.tables e below (T13.setTop (mkF m 54 #[.val (.ref a_o), .val (.ref e_o), .val (.ref s_o), .val (.int (1 : Int32)), .val (.ref s_o), .val (.int n_1), .val (.int (0 : Int32)), .unset] [(.ref a_o)])) _
      refine XS.iloadN X13.here hx rfl (hb hby own_d4_54) rfl ?_
      show Steps p.tables e below (T13.setTop (mkF m 55 #[.val (.ref a_o), .val (.ref e_o), .val (.ref s_o), .val (.int (1 : Int32)), .val (.ref s_o), .val (.int n_1), .val (.int (0 : Int32)), .unset] [(.int (1 : Int32)), (.ref a_o)])) _
      refine st142 _ ?_
      show Steps p.tables e below (T142.setTop (mkF m 58 #[.val (.ref a_o), .val (.ref e_o), .val (.ref s_o), .val (.int (1 : Int32)), .val (.ref s_o), .val (.int n_1), .val (.int (0 : Int32)), .unset] [])) _
      refine XS.aloadN X142.here hx rfl (hb hby own_d4_58) rfl rfl ?_
      show Steps p.tables e below (T142.setTop (mkF m 59 #[.val (.ref a_o), .val (.ref e_o), .val (.ref s_o), .val (.int (1 : Int32)), .val (.ref s_o), .val (.int n_1), .val (.int (0 : Int32)), .unset] [(.ref a_o)])) _
      jvm_step X142.here [X142.here.top, hx, (hb hby own_d4_59), X142.method', Bd.returns, Value.isRef, FieldType.isReference]
      first | (intro acts; rw [hr _ acts rfl rfl rfl]) | rw [hr _ _ rfl rfl rfl]
      exact Steps.refl _
    · show Qown_of Z a_o e_o s_o k_e k_s u_e u_s u_h n_1 x_0 x_1 x_2 x_3 s_0 s_1 s_2 h0 n0 _ T142.heap _
      rw [e142]
      have Fq148 : Exa Z h142 a_o "com/example/fovea/fovea/Memory$Key" := (Fq140.wr W142)
      have Fq149 : Fld Z h142 a_o "com/example/fovea/fovea/Memory$Key" "entry" "[I" (.ref e_o) := ((Fw4.other W13 (Or.inr (slot_ne (Or.inl (hw _ (List.mem_of_getElem? (i := 20) rfl))) (Or.inl (hw _ (List.mem_of_getElem? (i := 22) rfl))) (by decide) (t := (.array .int)) (t' := (.array .int)) (by decide) (by decide)))).other W142 (Or.inr (slot_ne (Or.inl (hw _ (List.mem_of_getElem? (i := 20) rfl))) (Or.inl (hw _ (List.mem_of_getElem? (i := 24) rfl))) (by decide) (t := (.array .int)) (t' := .int) (by decide) (by decide))))
      have Fq150 : Fld Z h142 a_o "com/example/fovea/fovea/Memory$Key" "slots" "[I" (.ref s_o) := (Fw13.other W142 (Or.inr (slot_ne (Or.inl (hw _ (List.mem_of_getElem? (i := 22) rfl))) (Or.inl (hw _ (List.mem_of_getElem? (i := 24) rfl))) (by decide) (t := (.array .int)) (t' := .int) (by decide) (by decide))))
      exact ⟨rfl, N145, Kc143, Fq148, Fq149, Fq150⟩
theorem own_ef_own_eq (m : MethodId) (a_o : Addr) (b_o : Addr) : entryFrame m #[(.ref a_o), (.ref b_o)] 5 = mkF m 0 #[.val (.ref a_o), .val (.ref b_o), .unset, .unset, .unset] [] := by first | (simp [entryFrame, mkF, argsToLocals, Value.category]; done) | rfl
theorem own_d5_0 : decode prog_37_method_6_code 0 = .ok (.aload_n 1, 1) := by decide +kernel
theorem own_d5_1 : decode prog_37_method_6_code 1 = .ok (.instanceof 8, 3) := by decide +kernel
theorem own_d5_4 : decode prog_37_method_6_code 4 = .ok (.ifCond .ne 5, 3) := by decide +kernel
theorem own_d5_9 : decode prog_37_method_6_code 9 = .ok (.aload_n 1, 1) := by decide +kernel
theorem own_d5_10 : decode prog_37_method_6_code 10 = .ok (.checkcast 8, 3) := by decide +kernel
theorem own_d5_13 : decode prog_37_method_6_code 13 = .ok (.astore_n 2, 1) := by decide +kernel
theorem own_d5_14 : decode prog_37_method_6_code 14 = .ok (.aload_n 0, 1) := by decide +kernel
theorem own_d5_15 : decode prog_37_method_6_code 15 = .ok (.getfield 13, 3) := by decide +kernel
theorem own_d5_18 : decode prog_37_method_6_code 18 = .ok (.arraylength, 1) := by decide +kernel
theorem own_d5_19 : decode prog_37_method_6_code 19 = .ok (.aload_n 2, 1) := by decide +kernel
theorem own_d5_20 : decode prog_37_method_6_code 20 = .ok (.getfield 13, 3) := by decide +kernel
theorem own_d5_23 : decode prog_37_method_6_code 23 = .ok (.arraylength, 1) := by decide +kernel
theorem own_d5_24 : decode prog_37_method_6_code 24 = .ok (.if_icmp .ne 7, 3) := by decide +kernel
theorem own_d5_27 : decode prog_37_method_6_code 27 = .ok (.iconst 1, 1) := by decide +kernel
theorem own_d5_28 : decode prog_37_method_6_code 28 = .ok (.goto 4, 3) := by decide +kernel
theorem own_d5_31 : decode prog_37_method_6_code 31 = .ok (.iconst 0, 1) := by decide +kernel
theorem own_d5_32 : decode prog_37_method_6_code 32 = .ok (.istore_n 3, 1) := by decide +kernel
theorem own_d5_33 : decode prog_37_method_6_code 33 = .ok (.iconst 0, 1) := by decide +kernel
theorem own_d5_34 : decode prog_37_method_6_code 34 = .ok (.istore 4, 2) := by decide +kernel
theorem own_d5_36 : decode prog_37_method_6_code 36 = .ok (.iload_n 3, 1) := by decide +kernel
theorem own_d5_37 : decode prog_37_method_6_code 37 = .ok (.ifCond .eq 52, 3) := by decide +kernel
theorem own_d5_40 : decode prog_37_method_6_code 40 = .ok (.iload 4, 2) := by decide +kernel
theorem own_d5_42 : decode prog_37_method_6_code 42 = .ok (.aload_n 0, 1) := by decide +kernel
theorem own_d5_43 : decode prog_37_method_6_code 43 = .ok (.getfield 13, 3) := by decide +kernel
theorem own_d5_46 : decode prog_37_method_6_code 46 = .ok (.arraylength, 1) := by decide +kernel
theorem own_d5_47 : decode prog_37_method_6_code 47 = .ok (.if_icmp .ge 42, 3) := by decide +kernel
theorem own_d5_50 : decode prog_37_method_6_code 50 = .ok (.aload_n 0, 1) := by decide +kernel
theorem own_d5_51 : decode prog_37_method_6_code 51 = .ok (.getfield 7, 3) := by decide +kernel
theorem own_d5_54 : decode prog_37_method_6_code 54 = .ok (.aload_n 0, 1) := by decide +kernel
theorem own_d5_55 : decode prog_37_method_6_code 55 = .ok (.getfield 13, 3) := by decide +kernel
theorem own_d5_58 : decode prog_37_method_6_code 58 = .ok (.iload 4, 2) := by decide +kernel
theorem own_d5_60 : decode prog_37_method_6_code 60 = .ok (.iaload, 1) := by decide +kernel
theorem own_d5_61 : decode prog_37_method_6_code 61 = .ok (.iaload, 1) := by decide +kernel
theorem own_d5_62 : decode prog_37_method_6_code 62 = .ok (.aload_n 2, 1) := by decide +kernel
theorem own_d5_63 : decode prog_37_method_6_code 63 = .ok (.getfield 7, 3) := by decide +kernel
theorem own_d5_66 : decode prog_37_method_6_code 66 = .ok (.aload_n 2, 1) := by decide +kernel
theorem own_d5_67 : decode prog_37_method_6_code 67 = .ok (.getfield 13, 3) := by decide +kernel
theorem own_d5_70 : decode prog_37_method_6_code 70 = .ok (.iload 4, 2) := by decide +kernel
theorem own_d5_72 : decode prog_37_method_6_code 72 = .ok (.iaload, 1) := by decide +kernel
theorem own_d5_73 : decode prog_37_method_6_code 73 = .ok (.iaload, 1) := by decide +kernel
theorem own_d5_74 : decode prog_37_method_6_code 74 = .ok (.if_icmp .ne 7, 3) := by decide +kernel
theorem own_d5_77 : decode prog_37_method_6_code 77 = .ok (.iconst 1, 1) := by decide +kernel
theorem own_d5_78 : decode prog_37_method_6_code 78 = .ok (.goto 4, 3) := by decide +kernel
theorem own_d5_81 : decode prog_37_method_6_code 81 = .ok (.iconst 0, 1) := by decide +kernel
theorem own_d5_82 : decode prog_37_method_6_code 82 = .ok (.istore_n 3, 1) := by decide +kernel
theorem own_d5_83 : decode prog_37_method_6_code 83 = .ok (.iinc 4 1, 3) := by decide +kernel
theorem own_d5_86 : decode prog_37_method_6_code 86 = .ok (.goto (-50), 3) := by decide +kernel
theorem own_d5_89 : decode prog_37_method_6_code 89 = .ok (.iload_n 3, 1) := by decide +kernel
theorem own_d5_90 : decode prog_37_method_6_code 90 = .ok (.ireturn, 1) := by decide +kernel
def own_eq_f (n_1 : Int32) (m_1 : Int32) (x_0 : Int32) (x_1 : Int32) (x_2 : Int32) (x_3 : Int32) (s_0 : Int32) (s_1 : Int32) (s_2 : Int32) (y_0 : Int32) (y_1 : Int32) (y_2 : Int32) (y_3 : Int32) (t_0 : Int32) (t_1 : Int32) (t_2 : Int32) : Int32 := (if n_1 = m_1 then (if (0 : Int32) < n_1 then (if (own_sel x_0 x_1 x_2 x_3 s_0) = (own_sel y_0 y_1 y_2 y_3 t_0) then (if (1 : Int32) < n_1 then (if (own_sel x_0 x_1 x_2 x_3 s_1) = (own_sel y_0 y_1 y_2 y_3 t_1) then (if (2 : Int32) < n_1 then (if (own_sel x_0 x_1 x_2 x_3 s_2) = (own_sel y_0 y_1 y_2 y_3 t_2) then (1 : Int32) else (0 : Int32)) else (1 : Int32)) else (0 : Int32)) else (1 : Int32)) else (0 : Int32)) else (1 : Int32)) else (0 : Int32))
def Qown_eq (Z : State) (a_o : Addr) (b_o : Addr) (e_o : Addr) (s_o : Addr) (f_o : Addr) (t_o : Addr) (k_e : ClassId) (k_s : ClassId) (k_f : ClassId) (k_t : ClassId) (n_1 : Int32) (m_1 : Int32) (x_0 : Int32) (x_1 : Int32) (x_2 : Int32) (x_3 : Int32) (s_0 : Int32) (s_1 : Int32) (s_2 : Int32) (y_0 : Int32) (y_1 : Int32) (y_2 : Int32) (y_3 : Int32) (t_0 : Int32) (t_1 : Int32) (t_2 : Int32) (h0 : Heap) (n0 : Nat) (v : Option Value) (h : Heap) (L : List Loc) : Prop := v = some (.int (own_eq_f n_1 m_1 x_0 x_1 x_2 x_3 s_0 s_1 s_2 y_0 y_1 y_2 y_3 t_0 t_1 t_2)) ∧ Fr n0 L ∧ h = h0
set_option maxRecDepth 65536 in
set_option maxHeartbeats 40000000 in
theorem own_eq (l : Launch) (Z : State) (a0 : Array Value) (hw : ∀ d ∈ tables_1, d.before a0 Z = true) (ws : List Jvm.Cond) (a_o : Addr) (b_o : Addr) (e_o : Addr) (s_o : Addr) (f_o : Addr) (t_o : Addr) (k_e : ClassId) (k_s : ClassId) (k_f : ClassId) (k_t : ClassId) (n_1 : Int32) (m_1 : Int32) (x_0 : Int32) (x_1 : Int32) (x_2 : Int32) (x_3 : Int32) (s_0 : Int32) (s_1 : Int32) (s_2 : Int32) (y_0 : Int32) (y_1 : Int32) (y_2 : Int32) (y_3 : Int32) (t_0 : Int32) (t_1 : Int32) (t_2 : Int32) (h0 : Heap) (n0 : Nat) (Z0 : n0 ≤ h0.size) (Eb : Exa Z h0 b_o "com/example/fovea/fovea/Memory$Key") (F_ae : Fld Z h0 a_o "com/example/fovea/fovea/Memory$Key" "entry" "[I" (.ref e_o)) (F_as : Fld Z h0 a_o "com/example/fovea/fovea/Memory$Key" "slots" "[I" (.ref s_o)) (F_be : Fld Z h0 b_o "com/example/fovea/fovea/Memory$Key" "entry" "[I" (.ref f_o)) (F_bs : Fld Z h0 b_o "com/example/fovea/fovea/Memory$Key" "slots" "[I" (.ref t_o)) (V_e : Arv Z h0 e_o k_e .int (4 : Int32) [(.int x_0), (.int x_1), (.int x_2), (.int x_3)] (.int (0 : Int32))) (V_s : Arv Z h0 s_o k_s .int n_1 [(.int s_0), (.int s_1), (.int s_2)] (.int (0 : Int32))) (V_f : Arv Z h0 f_o k_f .int (4 : Int32) [(.int y_0), (.int y_1), (.int y_2), (.int y_3)] (.int (0 : Int32))) (V_t : Arv Z h0 t_o k_t .int m_1 [(.int t_0), (.int t_1), (.int t_2)] (.int (0 : Int32))) (hb0 : ¬ s_0 < 0 ∧ s_0 < 4) (hb1 : ¬ s_1 < 0 ∧ s_1 < 4) (hb2 : ¬ s_2 < 0 ∧ s_2 < 4) (hd0 : ¬ t_0 < 0 ∧ t_0 < 4) (hd1 : ¬ t_1 < 0 ∧ t_1 < 4) (hd2 : ¬ t_2 < 0 ∧ t_2 < 4) (hn : ¬ (3 : Int32) < n_1) :
    MetFree l (⟨"com/example/fovea/fovea/Memory$Key", "equals", "(Ljava/lang/Object;)Z"⟩ : MethodName) (head1 (Jvm.Cond.code (⟨"com/example/fovea/fovea/Memory$Key", "equals", "(Ljava/lang/Object;)Z"⟩ : MethodName) prog_37_method_6_code 5 (some .boolean) :: ws) ({ frames := 0, cells := 0, slots := 0, locals := 0 } : Room)) (fun a U => a = #[(.ref a_o), (.ref b_o)] ∧ Z.Warmed39 U.vm ∧ U.heap = h0) (fun _ _ _ _ _ => True) (fun _ U o U' => ∃ v L, o = .returned v ∧ Qown_eq Z a_o b_o e_o s_o f_o t_o k_e k_s k_f k_t n_1 m_1 x_0 x_1 x_2 x_3 s_0 s_1 s_2 y_0 y_1 y_2 y_3 t_0 t_1 t_2 h0 n0 v U'.heap L ∧ FrameEnd U o U' L ({ frames := 0, cells := 0, slots := 0, locals := 0 } : Room).cells ({ frames := 0, cells := 0, slots := 0, locals := 0 } : Room).slots) := by
  refine MetFree.of_bodySF (plainFor_of_name own_pn1) hisR ?_
  intro p e s m args below meth c s₁ Bd hml0 hP hK
  obtain ⟨rfl, hZ, hh⟩ := hP
  have hx := Bd.exec
  have hby := Bd.bytes
  have hml : c.maxLocals = 5 := hml0
  have hown : s.vm.findClass "com/example/fovea/fovea/Memory$Key" = some m.cls := findClass_of_methodNamed Bd.named
  have hnm := (name_of_methodNamed Bd.named Bd.method).1
  have X0 : Stand p l e ({ frames := 0, cells := 0, slots := 0, locals := 0 } : Room) s m #[(.ref a_o), (.ref b_o)] below meth c s₁ [] 0 0 := Stand.of_body Bd
  have e0 : s₁.heap = h0 := by rw [← hh, Bd.state]; rfl
  have N0 := Fr.nil n0
  have pre0 : ∀ t, Steps p.tables e below (s₁.setTop (mkF m 0 #[.val (.ref a_o), .val (.ref b_o), .unset, .unset, .unset] [])) t → Steps p.tables e below (s₁.setTop (entryFrame m #[(.ref a_o), (.ref b_o)] 5)) t := fun t k => castTop (own_ef_own_eq m a_o b_o) k
  obtain ⟨T3, X3, e3, st3⟩ := instY X0 hx hZ hown (hw _ (List.mem_of_getElem? (i := 30) rfl)) e0 (Ins.self Eb) (g := (mkF m 1 #[.val (.ref a_o), .val (.ref b_o), .unset, .unset, .unset] [(.ref b_o)])) rfl rfl (hb hby own_d5_1)
  obtain ⟨T7, X7, e7, st7⟩ := castY X3 hx hZ hown (hw _ (List.mem_of_getElem? (i := 30) rfl)) e3 (Ins.self Eb) (g := (mkF m 10 #[.val (.ref a_o), .val (.ref b_o), .unset, .unset, .unset] [(.ref b_o)])) rfl rfl (hb hby own_d5_10)
  obtain ⟨T11, X11, e11, st11⟩ := getF X7 hx hZ hown (host := "") (Or.inl (hw _ (List.mem_of_getElem? (i := 21) rfl))) Via.refl e7 F_as (g := (mkF m 15 #[.val (.ref a_o), .val (.ref b_o), .val (.ref b_o), .unset, .unset] [(.ref a_o)])) rfl rfl (hb hby own_d5_15)
  obtain ⟨cl13, Ar13, -, S13, M13, -, -⟩ := id V_s
  obtain ⟨T16, X16, e16, st16⟩ := getF X11 hx hZ hown (host := "") (Or.inl (hw _ (List.mem_of_getElem? (i := 21) rfl))) Via.refl e11 F_bs (g := (mkF m 20 #[.val (.ref a_o), .val (.ref b_o), .val (.ref b_o), .unset, .unset] [(.ref b_o), (.int n_1)])) rfl rfl (hb hby own_d5_20)
  obtain ⟨cl18, Ar18, -, S18, M18, -, -⟩ := id V_t
  have pre20 : ∀ t, Steps p.tables e below (T16.setTop (mkF m 24 #[.val (.ref a_o), .val (.ref b_o), .val (.ref b_o), .unset, .unset] [(.int m_1), (.int n_1)])) t → Steps p.tables e below (s₁.setTop (entryFrame m #[(.ref a_o), (.ref b_o)] 5)) t := by
    intro t kt
    refine pre0 _ ?_
    show Steps p.tables e below (s₁.setTop (mkF m 0 #[.val (.ref a_o), .val (.ref b_o), .unset, .unset, .unset] [])) _
    refine XS.aloadN X0.here hx rfl (hb hby own_d5_0) rfl rfl ?_
    show Steps p.tables e below (s₁.setTop (mkF m 1 #[.val (.ref a_o), .val (.ref b_o), .unset, .unset, .unset] [(.ref b_o)])) _
    refine st3 _ ?_
    show Steps p.tables e below (T3.setTop (mkF m 4 #[.val (.ref a_o), .val (.ref b_o), .unset, .unset, .unset] [(.int (1 : Int32))])) _
    refine XS.ifYes X3.here hx rfl (pc0 := 4) (pc' := 9) rfl (hb hby own_d5_4) rfl ((if0 _ _).trans (feq ((by decide) : ¬ ((1 : Int32) = (0 : Int32)))).2) (by decide) (by decide) ?_
    show Steps p.tables e below (T3.setTop (mkF m 9 #[.val (.ref a_o), .val (.ref b_o), .unset, .unset, .unset] [])) _
    refine XS.aloadN X3.here hx rfl (hb hby own_d5_9) rfl rfl ?_
    show Steps p.tables e below (T3.setTop (mkF m 10 #[.val (.ref a_o), .val (.ref b_o), .unset, .unset, .unset] [(.ref b_o)])) _
    refine st7 _ ?_
    show Steps p.tables e below (T7.setTop (mkF m 13 #[.val (.ref a_o), .val (.ref b_o), .unset, .unset, .unset] [(.ref b_o)])) _
    refine XS.astoreN X7.here hx rfl (hb hby own_d5_13) rfl rfl (l' := #[.val (.ref a_o), .val (.ref b_o), .val (.ref b_o), .unset, .unset]) rfl ?_
    show Steps p.tables e below (T7.setTop (mkF m 14 #[.val (.ref a_o), .val (.ref b_o), .val (.ref b_o), .unset, .unset] [])) _
    refine XS.aloadN X7.here hx rfl (hb hby own_d5_14) rfl rfl ?_
    show Steps p.tables e below (T7.setTop (mkF m 15 #[.val (.ref a_o), .val (.ref b_o), .val (.ref b_o), .unset, .unset] [(.ref a_o)])) _
    refine st11 _ ?_
    show Steps p.tables e below (T11.setTop (mkF m 18 #[.val (.ref a_o), .val (.ref b_o), .val (.ref b_o), .unset, .unset] [(.ref s_o)])) _
    refine X11.arraylength hx (by rw [e11]; exact Ar13.1) (State.isArrayOf_alike hZ.alike Ar13.2.1) (g := (mkF m 18 #[.val (.ref a_o), .val (.ref b_o), .val (.ref b_o), .unset, .unset] [(.ref s_o)])) rfl rfl (hb hby own_d5_18) _ ?_
    rw [len_of S13 M13]
    show Steps p.tables e below (T11.setTop (mkF m 19 #[.val (.ref a_o), .val (.ref b_o), .val (.ref b_o), .unset, .unset] [(.int n_1)])) _
    refine XS.aloadN X11.here hx rfl (hb hby own_d5_19) rfl rfl ?_
    show Steps p.tables e below (T11.setTop (mkF m 20 #[.val (.ref a_o), .val (.ref b_o), .val (.ref b_o), .unset, .unset] [(.ref b_o), (.int n_1)])) _
    refine st16 _ ?_
    show Steps p.tables e below (T16.setTop (mkF m 23 #[.val (.ref a_o), .val (.ref b_o), .val (.ref b_o), .unset, .unset] [(.ref t_o), (.int n_1)])) _
    refine X16.arraylength hx (by rw [e16]; exact Ar18.1) (State.isArrayOf_alike hZ.alike Ar18.2.1) (g := (mkF m 23 #[.val (.ref a_o), .val (.ref b_o), .val (.ref b_o), .unset, .unset] [(.ref t_o), (.int n_1)])) rfl rfl (hb hby own_d5_23) _ ?_
    rw [len_of S18 M18]
    exact kt
  by_cases hc24_21 : n_1 = m_1
  · obtain ⟨T32, X32, e32, st32⟩ := getF X16 hx hZ hown (host := "") (Or.inl (hw _ (List.mem_of_getElem? (i := 21) rfl))) Via.refl e16 F_as (g := (mkF m 43 #[.val (.ref a_o), .val (.ref b_o), .val (.ref b_o), .val (.int (1 : Int32)), .val (.int (0 : Int32))] [(.ref a_o), (.int (0 : Int32))])) rfl rfl (hb hby own_d5_43)
    obtain ⟨cl34, Ar34, -, S34, M34, -, -⟩ := id V_s
    have pre36 : ∀ t, Steps p.tables e below (T32.setTop (mkF m 47 #[.val (.ref a_o), .val (.ref b_o), .val (.ref b_o), .val (.int (1 : Int32)), .val (.int (0 : Int32))] [(.int n_1), (.int (0 : Int32))])) t → Steps p.tables e below (s₁.setTop (entryFrame m #[(.ref a_o), (.ref b_o)] 5)) t := by
      intro t kt
      refine pre20 _ ?_
      show Steps p.tables e below (T16.setTop (mkF m 24 #[.val (.ref a_o), .val (.ref b_o), .val (.ref b_o), .unset, .unset] [(.int m_1), (.int n_1)])) _
      refine XS.icmpNo X16.here hx rfl (hb hby own_d5_24) rfl (teq hc24_21).2 ?_
      show Steps p.tables e below (T16.setTop (mkF m 27 #[.val (.ref a_o), .val (.ref b_o), .val (.ref b_o), .unset, .unset] [])) _
      refine XS.iconst X16.here hx rfl (hb hby own_d5_27) ?_
      show Steps p.tables e below (T16.setTop (mkF m 28 #[.val (.ref a_o), .val (.ref b_o), .val (.ref b_o), .unset, .unset] [(.int (1 : Int32))])) _
      refine XS.goto X16.here hx rfl (pc0 := 28) (pc' := 32) rfl (hb hby own_d5_28) (by decide) (by decide) ?_
      show Steps p.tables e below (T16.setTop (mkF m 32 #[.val (.ref a_o), .val (.ref b_o), .val (.ref b_o), .unset, .unset] [(.int (1 : Int32))])) _
      refine XS.istoreN X16.here hx rfl (hb hby own_d5_32) rfl (l' := #[.val (.ref a_o), .val (.ref b_o), .val (.ref b_o), .val (.int (1 : Int32)), .unset]) rfl ?_
      show Steps p.tables e below (T16.setTop (mkF m 33 #[.val (.ref a_o), .val (.ref b_o), .val (.ref b_o), .val (.int (1 : Int32)), .unset] [])) _
      refine XS.iconst X16.here hx rfl (hb hby own_d5_33) ?_
      show Steps p.tables e below (T16.setTop (mkF m 34 #[.val (.ref a_o), .val (.ref b_o), .val (.ref b_o), .val (.int (1 : Int32)), .unset] [(.int (0 : Int32))])) _
      refine XS.istore X16.here hx rfl (hb hby own_d5_34) rfl (l' := #[.val (.ref a_o), .val (.ref b_o), .val (.ref b_o), .val (.int (1 : Int32)), .val (.int (0 : Int32))]) rfl ?_
      show Steps p.tables e below (T16.setTop (mkF m 36 #[.val (.ref a_o), .val (.ref b_o), .val (.ref b_o), .val (.int (1 : Int32)), .val (.int (0 : Int32))] [])) _
      refine XS.iloadN X16.here hx rfl (hb hby own_d5_36) rfl ?_
      show Steps p.tables e below (T16.setTop (mkF m 37 #[.val (.ref a_o), .val (.ref b_o), .val (.ref b_o), .val (.int (1 : Int32)), .val (.int (0 : Int32))] [(.int (1 : Int32))])) _
      refine XS.ifNo X16.here hx rfl (hb hby own_d5_37) rfl ((if0 _ _).trans (feq ((by decide) : ¬ ((1 : Int32) = (0 : Int32)))).1) ?_
      show Steps p.tables e below (T16.setTop (mkF m 40 #[.val (.ref a_o), .val (.ref b_o), .val (.ref b_o), .val (.int (1 : Int32)), .val (.int (0 : Int32))] [])) _
      refine XS.iload X16.here hx rfl (hb hby own_d5_40) rfl ?_
      show Steps p.tables e below (T16.setTop (mkF m 42 #[.val (.ref a_o), .val (.ref b_o), .val (.ref b_o), .val (.int (1 : Int32)), .val (.int (0 : Int32))] [(.int (0 : Int32))])) _
      refine XS.aloadN X16.here hx rfl (hb hby own_d5_42) rfl rfl ?_
      show Steps p.tables e below (T16.setTop (mkF m 43 #[.val (.ref a_o), .val (.ref b_o), .val (.ref b_o), .val (.int (1 : Int32)), .val (.int (0 : Int32))] [(.ref a_o), (.int (0 : Int32))])) _
      refine st32 _ ?_
      show Steps p.tables e below (T32.setTop (mkF m 46 #[.val (.ref a_o), .val (.ref b_o), .val (.ref b_o), .val (.int (1 : Int32)), .val (.int (0 : Int32))] [(.ref s_o), (.int (0 : Int32))])) _
      refine X32.arraylength hx (by rw [e32]; exact Ar34.1) (State.isArrayOf_alike hZ.alike Ar34.2.1) (g := (mkF m 46 #[.val (.ref a_o), .val (.ref b_o), .val (.ref b_o), .val (.int (1 : Int32)), .val (.int (0 : Int32))] [(.ref s_o), (.int (0 : Int32))])) rfl rfl (hb hby own_d5_46) _ ?_
      rw [len_of S34 M34]
      exact kt
    by_cases hc47_37 : (0 : Int32) < n_1
    · obtain ⟨T40, X40, e40, st40⟩ := getF X32 hx hZ hown (host := "") (Or.inl (hw _ (List.mem_of_getElem? (i := 19) rfl))) Via.refl e32 F_ae (g := (mkF m 51 #[.val (.ref a_o), .val (.ref b_o), .val (.ref b_o), .val (.int (1 : Int32)), .val (.int (0 : Int32))] [(.ref a_o)])) rfl rfl (hb hby own_d5_51)
      obtain ⟨T43, X43, e43, st43⟩ := getF X40 hx hZ hown (host := "") (Or.inl (hw _ (List.mem_of_getElem? (i := 21) rfl))) Via.refl e40 F_as (g := (mkF m 55 #[.val (.ref a_o), .val (.ref b_o), .val (.ref b_o), .val (.int (1 : Int32)), .val (.int (0 : Int32))] [(.ref a_o), (.ref e_o)])) rfl rfl (hb hby own_d5_55)
      obtain ⟨cl46, Ar46, q46, S46, M46, H46, G46⟩ := id V_s
      have hin46 : ¬ ((0 : Int32) < 0 ∨ cl46.slots.size ≤ ((0 : Int32)).toNatClampNeg) := inb_of S46 ⟨by decide, hc47_37⟩
      have hat46 : cl46.slots[((0 : Int32)).toNatClampNeg]? = some (.int s_0) := H46.at hin46 rfl
      obtain ⟨cl48, Ar48, q48, S48, M48, H48, G48⟩ := id V_e
      have hin48 : ¬ (s_0 < 0 ∨ cl48.slots.size ≤ (s_0).toNatClampNeg) := inb_of S48 hb0
      have hat48 : cl48.slots[(s_0).toNatClampNeg]? = some (.int (own_sel x_0 x_1 x_2 x_3 s_0)) := H48.at hin48 (own_sel_get _ _ _ _ _ _ hb0)
      obtain ⟨T51, X51, e51, st51⟩ := getF X43 hx hZ hown (host := "") (Or.inl (hw _ (List.mem_of_getElem? (i := 19) rfl))) Via.refl e43 F_be (g := (mkF m 63 #[.val (.ref a_o), .val (.ref b_o), .val (.ref b_o), .val (.int (1 : Int32)), .val (.int (0 : Int32))] [(.ref b_o), (.int (own_sel x_0 x_1 x_2 x_3 s_0))])) rfl rfl (hb hby own_d5_63)
      obtain ⟨T54, X54, e54, st54⟩ := getF X51 hx hZ hown (host := "") (Or.inl (hw _ (List.mem_of_getElem? (i := 21) rfl))) Via.refl e51 F_bs (g := (mkF m 67 #[.val (.ref a_o), .val (.ref b_o), .val (.ref b_o), .val (.int (1 : Int32)), .val (.int (0 : Int32))] [(.ref b_o), (.ref f_o), (.int (own_sel x_0 x_1 x_2 x_3 s_0))])) rfl rfl (hb hby own_d5_67)
      obtain ⟨cl57, Ar57, q57, S57, M57, H57, G57⟩ := id V_t
      have hin57 : ¬ ((0 : Int32) < 0 ∨ cl57.slots.size ≤ ((0 : Int32)).toNatClampNeg) := inb_of S57 ⟨by decide, hc24_21 ▸ hc47_37⟩
      have hat57 : cl57.slots[((0 : Int32)).toNatClampNeg]? = some (.int t_0) := H57.at hin57 rfl
      obtain ⟨cl59, Ar59, q59, S59, M59, H59, G59⟩ := id V_f
      have hin59 : ¬ (t_0 < 0 ∨ cl59.slots.size ≤ (t_0).toNatClampNeg) := inb_of S59 hd0
      have hat59 : cl59.slots[(t_0).toNatClampNeg]? = some (.int (own_sel y_0 y_1 y_2 y_3 t_0)) := H59.at hin59 (own_sel_get _ _ _ _ _ _ hd0)
      have pre61 : ∀ t, Steps p.tables e below (T54.setTop (mkF m 74 #[.val (.ref a_o), .val (.ref b_o), .val (.ref b_o), .val (.int (1 : Int32)), .val (.int (0 : Int32))] [(.int (own_sel y_0 y_1 y_2 y_3 t_0)), (.int (own_sel x_0 x_1 x_2 x_3 s_0))])) t → Steps p.tables e below (s₁.setTop (entryFrame m #[(.ref a_o), (.ref b_o)] 5)) t := by
        intro t kt
        refine pre36 _ ?_
        show Steps p.tables e below (T32.setTop (mkF m 47 #[.val (.ref a_o), .val (.ref b_o), .val (.ref b_o), .val (.int (1 : Int32)), .val (.int (0 : Int32))] [(.int n_1), (.int (0 : Int32))])) _
        refine XS.icmpNo X32.here hx rfl (hb hby own_d5_47) rfl (tlt hc47_37).2.1 ?_
        show Steps p.tables e below (T32.setTop (mkF m 50 #[.val (.ref a_o), .val (.ref b_o), .val (.ref b_o), .val (.int (1 : Int32)), .val (.int (0 : Int32))] [])) _
        refine XS.aloadN X32.here hx rfl (hb hby own_d5_50) rfl rfl ?_
        show Steps p.tables e below (T32.setTop (mkF m 51 #[.val (.ref a_o), .val (.ref b_o), .val (.ref b_o), .val (.int (1 : Int32)), .val (.int (0 : Int32))] [(.ref a_o)])) _
        refine st40 _ ?_
        show Steps p.tables e below (T40.setTop (mkF m 54 #[.val (.ref a_o), .val (.ref b_o), .val (.ref b_o), .val (.int (1 : Int32)), .val (.int (0 : Int32))] [(.ref e_o)])) _
        refine XS.aloadN X40.here hx rfl (hb hby own_d5_54) rfl rfl ?_
        show Steps p.tables e below (T40.setTop (mkF m 55 #[.val (.ref a_o), .val (.ref b_o), .val (.ref b_o), .val (.int (1 : Int32)), .val (.int (0 : Int32))] [(.ref a_o), (.ref e_o)])) _
        refine st43 _ ?_
        show Steps p.tables e below (T43.setTop (mkF m 58 #[.val (.ref a_o), .val (.ref b_o), .val (.ref b_o), .val (.int (1 : Int32)), .val (.int (0 : Int32))] [(.ref s_o), (.ref e_o)])) _
        refine XS.iload X43.here hx rfl (hb hby own_d5_58) rfl ?_
        show Steps p.tables e below (T43.setTop (mkF m 60 #[.val (.ref a_o), .val (.ref b_o), .val (.ref b_o), .val (.int (1 : Int32)), .val (.int (0 : Int32))] [(.int (0 : Int32)), (.ref s_o), (.ref e_o)])) _
        refine X43.iaload hx (j := (0 : Int32)) (v := (.int s_0)) (by rw [e43]; exact Ar46.1) (State.isArrayOf_alike hZ.alike Ar46.2.1) Ar46.2.2 hin46 hat46 (g := (mkF m 60 #[.val (.ref a_o), .val (.ref b_o), .val (.ref b_o), .val (.int (1 : Int32)), .val (.int (0 : Int32))] [(.int (0 : Int32)), (.ref s_o), (.ref e_o)])) rfl rfl (hb hby own_d5_60) _ ?_
        show Steps p.tables e below (T43.setTop (mkF m 61 #[.val (.ref a_o), .val (.ref b_o), .val (.ref b_o), .val (.int (1 : Int32)), .val (.int (0 : Int32))] [(.int s_0), (.ref e_o)])) _
        refine X43.iaload hx (j := s_0) (v := (.int (own_sel x_0 x_1 x_2 x_3 s_0))) (by rw [e43]; exact Ar48.1) (State.isArrayOf_alike hZ.alike Ar48.2.1) Ar48.2.2 hin48 hat48 (g := (mkF m 61 #[.val (.ref a_o), .val (.ref b_o), .val (.ref b_o), .val (.int (1 : Int32)), .val (.int (0 : Int32))] [(.int s_0), (.ref e_o)])) rfl rfl (hb hby own_d5_61) _ ?_
        show Steps p.tables e below (T43.setTop (mkF m 62 #[.val (.ref a_o), .val (.ref b_o), .val (.ref b_o), .val (.int (1 : Int32)), .val (.int (0 : Int32))] [(.int (own_sel x_0 x_1 x_2 x_3 s_0))])) _
        refine XS.aloadN X43.here hx rfl (hb hby own_d5_62) rfl rfl ?_
        show Steps p.tables e below (T43.setTop (mkF m 63 #[.val (.ref a_o), .val (.ref b_o), .val (.ref b_o), .val (.int (1 : Int32)), .val (.int (0 : Int32))] [(.ref b_o), (.int (own_sel x_0 x_1 x_2 x_3 s_0))])) _
        refine st51 _ ?_
        show Steps p.tables e below (T51.setTop (mkF m 66 #[.val (.ref a_o), .val (.ref b_o), .val (.ref b_o), .val (.int (1 : Int32)), .val (.int (0 : Int32))] [(.ref f_o), (.int (own_sel x_0 x_1 x_2 x_3 s_0))])) _
        refine XS.aloadN X51.here hx rfl (hb hby own_d5_66) rfl rfl ?_
        show Steps p.tables e below (T51.setTop (mkF m 67 #[.val (.ref a_o), .val (.ref b_o), .val (.ref b_o), .val (.int (1 : Int32)), .val (.int (0 : Int32))] [(.ref b_o), (.ref f_o), (.int (own_sel x_0 x_1 x_2 x_3 s_0))])) _
        refine st54 _ ?_
        show Steps p.tables e below (T54.setTop (mkF m 70 #[.val (.ref a_o), .val (.ref b_o), .val (.ref b_o), .val (.int (1 : Int32)), .val (.int (0 : Int32))] [(.ref t_o), (.ref f_o), (.int (own_sel x_0 x_1 x_2 x_3 s_0))])) _
        refine XS.iload X54.here hx rfl (hb hby own_d5_70) rfl ?_
        show Steps p.tables e below (T54.setTop (mkF m 72 #[.val (.ref a_o), .val (.ref b_o), .val (.ref b_o), .val (.int (1 : Int32)), .val (.int (0 : Int32))] [(.int (0 : Int32)), (.ref t_o), (.ref f_o), (.int (own_sel x_0 x_1 x_2 x_3 s_0))])) _
        refine X54.iaload hx (j := (0 : Int32)) (v := (.int t_0)) (by rw [e54]; exact Ar57.1) (State.isArrayOf_alike hZ.alike Ar57.2.1) Ar57.2.2 hin57 hat57 (g := (mkF m 72 #[.val (.ref a_o), .val (.ref b_o), .val (.ref b_o), .val (.int (1 : Int32)), .val (.int (0 : Int32))] [(.int (0 : Int32)), (.ref t_o), (.ref f_o), (.int (own_sel x_0 x_1 x_2 x_3 s_0))])) rfl rfl (hb hby own_d5_72) _ ?_
        show Steps p.tables e below (T54.setTop (mkF m 73 #[.val (.ref a_o), .val (.ref b_o), .val (.ref b_o), .val (.int (1 : Int32)), .val (.int (0 : Int32))] [(.int t_0), (.ref f_o), (.int (own_sel x_0 x_1 x_2 x_3 s_0))])) _
        refine X54.iaload hx (j := t_0) (v := (.int (own_sel y_0 y_1 y_2 y_3 t_0))) (by rw [e54]; exact Ar59.1) (State.isArrayOf_alike hZ.alike Ar59.2.1) Ar59.2.2 hin59 hat59 (g := (mkF m 73 #[.val (.ref a_o), .val (.ref b_o), .val (.ref b_o), .val (.int (1 : Int32)), .val (.int (0 : Int32))] [(.int t_0), (.ref f_o), (.int (own_sel x_0 x_1 x_2 x_3 s_0))])) rfl rfl (hb hby own_d5_73) _ ?_
        exact kt
      by_cases hc74_62 : (own_sel x_0 x_1 x_2 x_3 s_0) = (own_sel y_0 y_1 y_2 y_3 t_0)
      · obtain ⟨T73, X73, e73, st73⟩ := getF X54 hx hZ hown (host := "") (Or.inl (hw _ (List.mem_of_getElem? (i := 21) rfl))) Via.refl e54 F_as (g := (mkF m 43 #[.val (.ref a_o), .val (.ref b_o), .val (.ref b_o), .val (.int (1 : Int32)), .val (.int (1 : Int32))] [(.ref a_o), (.int (1 : Int32))])) rfl rfl (hb hby own_d5_43)
        obtain ⟨cl75, Ar75, -, S75, M75, -, -⟩ := id V_s
        have pre77 : ∀ t, Steps p.tables e below (T73.setTop (mkF m 47 #[.val (.ref a_o), .val (.ref b_o), .val (.ref b_o), .val (.int (1 : Int32)), .val (.int (1 : Int32))] [(.int n_1), (.int (1 : Int32))])) t → Steps p.tables e below (s₁.setTop (entryFrame m #[(.ref a_o), (.ref b_o)] 5)) t := by
          intro t kt
          refine pre61 _ ?_
          show Steps p.tables e below (T54.setTop (mkF m 74 #[.val (.ref a_o), .val (.ref b_o), .val (.ref b_o), .val (.int (1 : Int32)), .val (.int (0 : Int32))] [(.int (own_sel y_0 y_1 y_2 y_3 t_0)), (.int (own_sel x_0 x_1 x_2 x_3 s_0))])) _
          refine XS.icmpNo X54.here hx rfl (hb hby own_d5_74) rfl (teq hc74_62).2 ?_
          show Steps p.tables e below (T54.setTop (mkF m 77 #[.val (.ref a_o), .val (.ref b_o), .val (.ref b_o), .val (.int (1 : Int32)), .val (.int (0 : Int32))] [])) _
          refine XS.iconst X54.here hx rfl (hb hby own_d5_77) ?_
          show Steps p.tables e below (T54.setTop (mkF m 78 #[.val (.ref a_o), .val (.ref b_o), .val (.ref b_o), .val (.int (1 : Int32)), .val (.int (0 : Int32))] [(.int (1 : Int32))])) _
          refine XS.goto X54.here hx rfl (pc0 := 78) (pc' := 82) rfl (hb hby own_d5_78) (by decide) (by decide) ?_
          show Steps p.tables e below (T54.setTop (mkF m 82 #[.val (.ref a_o), .val (.ref b_o), .val (.ref b_o), .val (.int (1 : Int32)), .val (.int (0 : Int32))] [(.int (1 : Int32))])) _
          refine XS.istoreN X54.here hx rfl (hb hby own_d5_82) rfl (l' := #[.val (.ref a_o), .val (.ref b_o), .val (.ref b_o), .val (.int (1 : Int32)), .val (.int (0 : Int32))]) rfl ?_
          show Steps p.tables e below (T54.setTop (mkF m 83 #[.val (.ref a_o), .val (.ref b_o), .val (.ref b_o), .val (.int (1 : Int32)), .val (.int (0 : Int32))] [])) _
          refine XS.iinc X54.here hx rfl (hb hby own_d5_83) rfl (l' := #[.val (.ref a_o), .val (.ref b_o), .val (.ref b_o), .val (.int (1 : Int32)), .val (.int (1 : Int32))]) rfl ?_
          show Steps p.tables e below (T54.setTop (mkF m 86 #[.val (.ref a_o), .val (.ref b_o), .val (.ref b_o), .val (.int (1 : Int32)), .val (.int (1 : Int32))] [])) _
          refine XS.goto X54.here hx rfl (pc0 := 86) (pc' := 36) rfl (hb hby own_d5_86) (by decide) (by decide) ?_
          show Steps p.tables e below (T54.setTop (mkF m 36 #[.val (.ref a_o), .val (.ref b_o), .val (.ref b_o), .val (.int (1 : Int32)), .val (.int (1 : Int32))] [])) _
          refine XS.iloadN X54.here hx rfl (hb hby own_d5_36) rfl ?_
          show Steps p.tables e below (T54.setTop (mkF m 37 #[.val (.ref a_o), .val (.ref b_o), .val (.ref b_o), .val (.int (1 : Int32)), .val (.int (1 : Int32))] [(.int (1 : Int32))])) _
          refine XS.ifNo X54.here hx rfl (hb hby own_d5_37) rfl ((if0 _ _).trans (feq ((by decide) : ¬ ((1 : Int32) = (0 : Int32)))).1) ?_
          show Steps p.tables e below (T54.setTop (mkF m 40 #[.val (.ref a_o), .val (.ref b_o), .val (.ref b_o), .val (.int (1 : Int32)), .val (.int (1 : Int32))] [])) _
          refine XS.iload X54.here hx rfl (hb hby own_d5_40) rfl ?_
          show Steps p.tables e below (T54.setTop (mkF m 42 #[.val (.ref a_o), .val (.ref b_o), .val (.ref b_o), .val (.int (1 : Int32)), .val (.int (1 : Int32))] [(.int (1 : Int32))])) _
          refine XS.aloadN X54.here hx rfl (hb hby own_d5_42) rfl rfl ?_
          show Steps p.tables e below (T54.setTop (mkF m 43 #[.val (.ref a_o), .val (.ref b_o), .val (.ref b_o), .val (.int (1 : Int32)), .val (.int (1 : Int32))] [(.ref a_o), (.int (1 : Int32))])) _
          refine st73 _ ?_
          show Steps p.tables e below (T73.setTop (mkF m 46 #[.val (.ref a_o), .val (.ref b_o), .val (.ref b_o), .val (.int (1 : Int32)), .val (.int (1 : Int32))] [(.ref s_o), (.int (1 : Int32))])) _
          refine X73.arraylength hx (by rw [e73]; exact Ar75.1) (State.isArrayOf_alike hZ.alike Ar75.2.1) (g := (mkF m 46 #[.val (.ref a_o), .val (.ref b_o), .val (.ref b_o), .val (.int (1 : Int32)), .val (.int (1 : Int32))] [(.ref s_o), (.int (1 : Int32))])) rfl rfl (hb hby own_d5_46) _ ?_
          rw [len_of S75 M75]
          exact kt
        by_cases hc47_78 : (1 : Int32) < n_1
        · obtain ⟨T81, X81, e81, st81⟩ := getF X73 hx hZ hown (host := "") (Or.inl (hw _ (List.mem_of_getElem? (i := 19) rfl))) Via.refl e73 F_ae (g := (mkF m 51 #[.val (.ref a_o), .val (.ref b_o), .val (.ref b_o), .val (.int (1 : Int32)), .val (.int (1 : Int32))] [(.ref a_o)])) rfl rfl (hb hby own_d5_51)
          obtain ⟨T84, X84, e84, st84⟩ := getF X81 hx hZ hown (host := "") (Or.inl (hw _ (List.mem_of_getElem? (i := 21) rfl))) Via.refl e81 F_as (g := (mkF m 55 #[.val (.ref a_o), .val (.ref b_o), .val (.ref b_o), .val (.int (1 : Int32)), .val (.int (1 : Int32))] [(.ref a_o), (.ref e_o)])) rfl rfl (hb hby own_d5_55)
          obtain ⟨cl87, Ar87, q87, S87, M87, H87, G87⟩ := id V_s
          have hin87 : ¬ ((1 : Int32) < 0 ∨ cl87.slots.size ≤ ((1 : Int32)).toNatClampNeg) := inb_of S87 ⟨by decide, hc47_78⟩
          have hat87 : cl87.slots[((1 : Int32)).toNatClampNeg]? = some (.int s_1) := H87.at hin87 rfl
          obtain ⟨cl89, Ar89, q89, S89, M89, H89, G89⟩ := id V_e
          have hin89 : ¬ (s_1 < 0 ∨ cl89.slots.size ≤ (s_1).toNatClampNeg) := inb_of S89 hb1
          have hat89 : cl89.slots[(s_1).toNatClampNeg]? = some (.int (own_sel x_0 x_1 x_2 x_3 s_1)) := H89.at hin89 (own_sel_get _ _ _ _ _ _ hb1)
          obtain ⟨T92, X92, e92, st92⟩ := getF X84 hx hZ hown (host := "") (Or.inl (hw _ (List.mem_of_getElem? (i := 19) rfl))) Via.refl e84 F_be (g := (mkF m 63 #[.val (.ref a_o), .val (.ref b_o), .val (.ref b_o), .val (.int (1 : Int32)), .val (.int (1 : Int32))] [(.ref b_o), (.int (own_sel x_0 x_1 x_2 x_3 s_1))])) rfl rfl (hb hby own_d5_63)
          obtain ⟨T95, X95, e95, st95⟩ := getF X92 hx hZ hown (host := "") (Or.inl (hw _ (List.mem_of_getElem? (i := 21) rfl))) Via.refl e92 F_bs (g := (mkF m 67 #[.val (.ref a_o), .val (.ref b_o), .val (.ref b_o), .val (.int (1 : Int32)), .val (.int (1 : Int32))] [(.ref b_o), (.ref f_o), (.int (own_sel x_0 x_1 x_2 x_3 s_1))])) rfl rfl (hb hby own_d5_67)
          obtain ⟨cl98, Ar98, q98, S98, M98, H98, G98⟩ := id V_t
          have hin98 : ¬ ((1 : Int32) < 0 ∨ cl98.slots.size ≤ ((1 : Int32)).toNatClampNeg) := inb_of S98 ⟨by decide, hc24_21 ▸ hc47_78⟩
          have hat98 : cl98.slots[((1 : Int32)).toNatClampNeg]? = some (.int t_1) := H98.at hin98 rfl
          obtain ⟨cl100, Ar100, q100, S100, M100, H100, G100⟩ := id V_f
          have hin100 : ¬ (t_1 < 0 ∨ cl100.slots.size ≤ (t_1).toNatClampNeg) := inb_of S100 hd1
          have hat100 : cl100.slots[(t_1).toNatClampNeg]? = some (.int (own_sel y_0 y_1 y_2 y_3 t_1)) := H100.at hin100 (own_sel_get _ _ _ _ _ _ hd1)
          have pre102 : ∀ t, Steps p.tables e below (T95.setTop (mkF m 74 #[.val (.ref a_o), .val (.ref b_o), .val (.ref b_o), .val (.int (1 : Int32)), .val (.int (1 : Int32))] [(.int (own_sel y_0 y_1 y_2 y_3 t_1)), (.int (own_sel x_0 x_1 x_2 x_3 s_1))])) t → Steps p.tables e below (s₁.setTop (entryFrame m #[(.ref a_o), (.ref b_o)] 5)) t := by
            intro t kt
            refine pre77 _ ?_
            show Steps p.tables e below (T73.setTop (mkF m 47 #[.val (.ref a_o), .val (.ref b_o), .val (.ref b_o), .val (.int (1 : Int32)), .val (.int (1 : Int32))] [(.int n_1), (.int (1 : Int32))])) _
            refine XS.icmpNo X73.here hx rfl (hb hby own_d5_47) rfl (tlt hc47_78).2.1 ?_
            show Steps p.tables e below (T73.setTop (mkF m 50 #[.val (.ref a_o), .val (.ref b_o), .val (.ref b_o), .val (.int (1 : Int32)), .val (.int (1 : Int32))] [])) _
            refine XS.aloadN X73.here hx rfl (hb hby own_d5_50) rfl rfl ?_
            show Steps p.tables e below (T73.setTop (mkF m 51 #[.val (.ref a_o), .val (.ref b_o), .val (.ref b_o), .val (.int (1 : Int32)), .val (.int (1 : Int32))] [(.ref a_o)])) _
            refine st81 _ ?_
            show Steps p.tables e below (T81.setTop (mkF m 54 #[.val (.ref a_o), .val (.ref b_o), .val (.ref b_o), .val (.int (1 : Int32)), .val (.int (1 : Int32))] [(.ref e_o)])) _
            refine XS.aloadN X81.here hx rfl (hb hby own_d5_54) rfl rfl ?_
            show Steps p.tables e below (T81.setTop (mkF m 55 #[.val (.ref a_o), .val (.ref b_o), .val (.ref b_o), .val (.int (1 : Int32)), .val (.int (1 : Int32))] [(.ref a_o), (.ref e_o)])) _
            refine st84 _ ?_
            show Steps p.tables e below (T84.setTop (mkF m 58 #[.val (.ref a_o), .val (.ref b_o), .val (.ref b_o), .val (.int (1 : Int32)), .val (.int (1 : Int32))] [(.ref s_o), (.ref e_o)])) _
            refine XS.iload X84.here hx rfl (hb hby own_d5_58) rfl ?_
            show Steps p.tables e below (T84.setTop (mkF m 60 #[.val (.ref a_o), .val (.ref b_o), .val (.ref b_o), .val (.int (1 : Int32)), .val (.int (1 : Int32))] [(.int (1 : Int32)), (.ref s_o), (.ref e_o)])) _
            refine X84.iaload hx (j := (1 : Int32)) (v := (.int s_1)) (by rw [e84]; exact Ar87.1) (State.isArrayOf_alike hZ.alike Ar87.2.1) Ar87.2.2 hin87 hat87 (g := (mkF m 60 #[.val (.ref a_o), .val (.ref b_o), .val (.ref b_o), .val (.int (1 : Int32)), .val (.int (1 : Int32))] [(.int (1 : Int32)), (.ref s_o), (.ref e_o)])) rfl rfl (hb hby own_d5_60) _ ?_
            show Steps p.tables e below (T84.setTop (mkF m 61 #[.val (.ref a_o), .val (.ref b_o), .val (.ref b_o), .val (.int (1 : Int32)), .val (.int (1 : Int32))] [(.int s_1), (.ref e_o)])) _
            refine X84.iaload hx (j := s_1) (v := (.int (own_sel x_0 x_1 x_2 x_3 s_1))) (by rw [e84]; exact Ar89.1) (State.isArrayOf_alike hZ.alike Ar89.2.1) Ar89.2.2 hin89 hat89 (g := (mkF m 61 #[.val (.ref a_o), .val (.ref b_o), .val (.ref b_o), .val (.int (1 : Int32)), .val (.int (1 : Int32))] [(.int s_1), (.ref e_o)])) rfl rfl (hb hby own_d5_61) _ ?_
            show Steps p.tables e below (T84.setTop (mkF m 62 #[.val (.ref a_o), .val (.ref b_o), .val (.ref b_o), .val (.int (1 : Int32)), .val (.int (1 : Int32))] [(.int (own_sel x_0 x_1 x_2 x_3 s_1))])) _
            refine XS.aloadN X84.here hx rfl (hb hby own_d5_62) rfl rfl ?_
            show Steps p.tables e below (T84.setTop (mkF m 63 #[.val (.ref a_o), .val (.ref b_o), .val (.ref b_o), .val (.int (1 : Int32)), .val (.int (1 : Int32))] [(.ref b_o), (.int (own_sel x_0 x_1 x_2 x_3 s_1))])) _
            refine st92 _ ?_
            show Steps p.tables e below (T92.setTop (mkF m 66 #[.val (.ref a_o), .val (.ref b_o), .val (.ref b_o), .val (.int (1 : Int32)), .val (.int (1 : Int32))] [(.ref f_o), (.int (own_sel x_0 x_1 x_2 x_3 s_1))])) _
            refine XS.aloadN X92.here hx rfl (hb hby own_d5_66) rfl rfl ?_
            show Steps p.tables e below (T92.setTop (mkF m 67 #[.val (.ref a_o), .val (.ref b_o), .val (.ref b_o), .val (.int (1 : Int32)), .val (.int (1 : Int32))] [(.ref b_o), (.ref f_o), (.int (own_sel x_0 x_1 x_2 x_3 s_1))])) _
            refine st95 _ ?_
            show Steps p.tables e below (T95.setTop (mkF m 70 #[.val (.ref a_o), .val (.ref b_o), .val (.ref b_o), .val (.int (1 : Int32)), .val (.int (1 : Int32))] [(.ref t_o), (.ref f_o), (.int (own_sel x_0 x_1 x_2 x_3 s_1))])) _
            refine XS.iload X95.here hx rfl (hb hby own_d5_70) rfl ?_
            show Steps p.tables e below (T95.setTop (mkF m 72 #[.val (.ref a_o), .val (.ref b_o), .val (.ref b_o), .val (.int (1 : Int32)), .val (.int (1 : Int32))] [(.int (1 : Int32)), (.ref t_o), (.ref f_o), (.int (own_sel x_0 x_1 x_2 x_3 s_1))])) _
            refine X95.iaload hx (j := (1 : Int32)) (v := (.int t_1)) (by rw [e95]; exact Ar98.1) (State.isArrayOf_alike hZ.alike Ar98.2.1) Ar98.2.2 hin98 hat98 (g := (mkF m 72 #[.val (.ref a_o), .val (.ref b_o), .val (.ref b_o), .val (.int (1 : Int32)), .val (.int (1 : Int32))] [(.int (1 : Int32)), (.ref t_o), (.ref f_o), (.int (own_sel x_0 x_1 x_2 x_3 s_1))])) rfl rfl (hb hby own_d5_72) _ ?_
            show Steps p.tables e below (T95.setTop (mkF m 73 #[.val (.ref a_o), .val (.ref b_o), .val (.ref b_o), .val (.int (1 : Int32)), .val (.int (1 : Int32))] [(.int t_1), (.ref f_o), (.int (own_sel x_0 x_1 x_2 x_3 s_1))])) _
            refine X95.iaload hx (j := t_1) (v := (.int (own_sel y_0 y_1 y_2 y_3 t_1))) (by rw [e95]; exact Ar100.1) (State.isArrayOf_alike hZ.alike Ar100.2.1) Ar100.2.2 hin100 hat100 (g := (mkF m 73 #[.val (.ref a_o), .val (.ref b_o), .val (.ref b_o), .val (.int (1 : Int32)), .val (.int (1 : Int32))] [(.int t_1), (.ref f_o), (.int (own_sel x_0 x_1 x_2 x_3 s_1))])) rfl rfl (hb hby own_d5_73) _ ?_
            exact kt
          by_cases hc74_103 : (own_sel x_0 x_1 x_2 x_3 s_1) = (own_sel y_0 y_1 y_2 y_3 t_1)
          · obtain ⟨T114, X114, e114, st114⟩ := getF X95 hx hZ hown (host := "") (Or.inl (hw _ (List.mem_of_getElem? (i := 21) rfl))) Via.refl e95 F_as (g := (mkF m 43 #[.val (.ref a_o), .val (.ref b_o), .val (.ref b_o), .val (.int (1 : Int32)), .val (.int (2 : Int32))] [(.ref a_o), (.int (2 : Int32))])) rfl rfl (hb hby own_d5_43)
            obtain ⟨cl116, Ar116, -, S116, M116, -, -⟩ := id V_s
            have pre118 : ∀ t, Steps p.tables e below (T114.setTop (mkF m 47 #[.val (.ref a_o), .val (.ref b_o), .val (.ref b_o), .val (.int (1 : Int32)), .val (.int (2 : Int32))] [(.int n_1), (.int (2 : Int32))])) t → Steps p.tables e below (s₁.setTop (entryFrame m #[(.ref a_o), (.ref b_o)] 5)) t := by
              intro t kt
              refine pre102 _ ?_
              show Steps p.tables e below (T95.setTop (mkF m 74 #[.val (.ref a_o), .val (.ref b_o), .val (.ref b_o), .val (.int (1 : Int32)), .val (.int (1 : Int32))] [(.int (own_sel y_0 y_1 y_2 y_3 t_1)), (.int (own_sel x_0 x_1 x_2 x_3 s_1))])) _
              refine XS.icmpNo X95.here hx rfl (hb hby own_d5_74) rfl (teq hc74_103).2 ?_
              show Steps p.tables e below (T95.setTop (mkF m 77 #[.val (.ref a_o), .val (.ref b_o), .val (.ref b_o), .val (.int (1 : Int32)), .val (.int (1 : Int32))] [])) _
              refine XS.iconst X95.here hx rfl (hb hby own_d5_77) ?_
              show Steps p.tables e below (T95.setTop (mkF m 78 #[.val (.ref a_o), .val (.ref b_o), .val (.ref b_o), .val (.int (1 : Int32)), .val (.int (1 : Int32))] [(.int (1 : Int32))])) _
              refine XS.goto X95.here hx rfl (pc0 := 78) (pc' := 82) rfl (hb hby own_d5_78) (by decide) (by decide) ?_
              show Steps p.tables e below (T95.setTop (mkF m 82 #[.val (.ref a_o), .val (.ref b_o), .val (.ref b_o), .val (.int (1 : Int32)), .val (.int (1 : Int32))] [(.int (1 : Int32))])) _
              refine XS.istoreN X95.here hx rfl (hb hby own_d5_82) rfl (l' := #[.val (.ref a_o), .val (.ref b_o), .val (.ref b_o), .val (.int (1 : Int32)), .val (.int (1 : Int32))]) rfl ?_
              show Steps p.tables e below (T95.setTop (mkF m 83 #[.val (.ref a_o), .val (.ref b_o), .val (.ref b_o), .val (.int (1 : Int32)), .val (.int (1 : Int32))] [])) _
              refine XS.iinc X95.here hx rfl (hb hby own_d5_83) rfl (l' := #[.val (.ref a_o), .val (.ref b_o), .val (.ref b_o), .val (.int (1 : Int32)), .val (.int (2 : Int32))]) rfl ?_
              show Steps p.tables e below (T95.setTop (mkF m 86 #[.val (.ref a_o), .val (.ref b_o), .val (.ref b_o), .val (.int (1 : Int32)), .val (.int (2 : Int32))] [])) _
              refine XS.goto X95.here hx rfl (pc0 := 86) (pc' := 36) rfl (hb hby own_d5_86) (by decide) (by decide) ?_
              show Steps p.tables e below (T95.setTop (mkF m 36 #[.val (.ref a_o), .val (.ref b_o), .val (.ref b_o), .val (.int (1 : Int32)), .val (.int (2 : Int32))] [])) _
              refine XS.iloadN X95.here hx rfl (hb hby own_d5_36) rfl ?_
              show Steps p.tables e below (T95.setTop (mkF m 37 #[.val (.ref a_o), .val (.ref b_o), .val (.ref b_o), .val (.int (1 : Int32)), .val (.int (2 : Int32))] [(.int (1 : Int32))])) _
              refine XS.ifNo X95.here hx rfl (hb hby own_d5_37) rfl ((if0 _ _).trans (feq ((by decide) : ¬ ((1 : Int32) = (0 : Int32)))).1) ?_
              show Steps p.tables e below (T95.setTop (mkF m 40 #[.val (.ref a_o), .val (.ref b_o), .val (.ref b_o), .val (.int (1 : Int32)), .val (.int (2 : Int32))] [])) _
              refine XS.iload X95.here hx rfl (hb hby own_d5_40) rfl ?_
              show Steps p.tables e below (T95.setTop (mkF m 42 #[.val (.ref a_o), .val (.ref b_o), .val (.ref b_o), .val (.int (1 : Int32)), .val (.int (2 : Int32))] [(.int (2 : Int32))])) _
              refine XS.aloadN X95.here hx rfl (hb hby own_d5_42) rfl rfl ?_
              show Steps p.tables e below (T95.setTop (mkF m 43 #[.val (.ref a_o), .val (.ref b_o), .val (.ref b_o), .val (.int (1 : Int32)), .val (.int (2 : Int32))] [(.ref a_o), (.int (2 : Int32))])) _
              refine st114 _ ?_
              show Steps p.tables e below (T114.setTop (mkF m 46 #[.val (.ref a_o), .val (.ref b_o), .val (.ref b_o), .val (.int (1 : Int32)), .val (.int (2 : Int32))] [(.ref s_o), (.int (2 : Int32))])) _
              refine X114.arraylength hx (by rw [e114]; exact Ar116.1) (State.isArrayOf_alike hZ.alike Ar116.2.1) (g := (mkF m 46 #[.val (.ref a_o), .val (.ref b_o), .val (.ref b_o), .val (.int (1 : Int32)), .val (.int (2 : Int32))] [(.ref s_o), (.int (2 : Int32))])) rfl rfl (hb hby own_d5_46) _ ?_
              rw [len_of S116 M116]
              exact kt
            by_cases hc47_119 : (2 : Int32) < n_1
            · obtain ⟨T122, X122, e122, st122⟩ := getF X114 hx hZ hown (host := "") (Or.inl (hw _ (List.mem_of_getElem? (i := 19) rfl))) Via.refl e114 F_ae (g := (mkF m 51 #[.val (.ref a_o), .val (.ref b_o), .val (.ref b_o), .val (.int (1 : Int32)), .val (.int (2 : Int32))] [(.ref a_o)])) rfl rfl (hb hby own_d5_51)
              obtain ⟨T125, X125, e125, st125⟩ := getF X122 hx hZ hown (host := "") (Or.inl (hw _ (List.mem_of_getElem? (i := 21) rfl))) Via.refl e122 F_as (g := (mkF m 55 #[.val (.ref a_o), .val (.ref b_o), .val (.ref b_o), .val (.int (1 : Int32)), .val (.int (2 : Int32))] [(.ref a_o), (.ref e_o)])) rfl rfl (hb hby own_d5_55)
              obtain ⟨cl128, Ar128, q128, S128, M128, H128, G128⟩ := id V_s
              have hin128 : ¬ ((2 : Int32) < 0 ∨ cl128.slots.size ≤ ((2 : Int32)).toNatClampNeg) := inb_of S128 ⟨by decide, hc47_119⟩
              have hat128 : cl128.slots[((2 : Int32)).toNatClampNeg]? = some (.int s_2) := H128.at hin128 rfl
              obtain ⟨cl130, Ar130, q130, S130, M130, H130, G130⟩ := id V_e
              have hin130 : ¬ (s_2 < 0 ∨ cl130.slots.size ≤ (s_2).toNatClampNeg) := inb_of S130 hb2
              have hat130 : cl130.slots[(s_2).toNatClampNeg]? = some (.int (own_sel x_0 x_1 x_2 x_3 s_2)) := H130.at hin130 (own_sel_get _ _ _ _ _ _ hb2)
              obtain ⟨T133, X133, e133, st133⟩ := getF X125 hx hZ hown (host := "") (Or.inl (hw _ (List.mem_of_getElem? (i := 19) rfl))) Via.refl e125 F_be (g := (mkF m 63 #[.val (.ref a_o), .val (.ref b_o), .val (.ref b_o), .val (.int (1 : Int32)), .val (.int (2 : Int32))] [(.ref b_o), (.int (own_sel x_0 x_1 x_2 x_3 s_2))])) rfl rfl (hb hby own_d5_63)
              obtain ⟨T136, X136, e136, st136⟩ := getF X133 hx hZ hown (host := "") (Or.inl (hw _ (List.mem_of_getElem? (i := 21) rfl))) Via.refl e133 F_bs (g := (mkF m 67 #[.val (.ref a_o), .val (.ref b_o), .val (.ref b_o), .val (.int (1 : Int32)), .val (.int (2 : Int32))] [(.ref b_o), (.ref f_o), (.int (own_sel x_0 x_1 x_2 x_3 s_2))])) rfl rfl (hb hby own_d5_67)
              obtain ⟨cl139, Ar139, q139, S139, M139, H139, G139⟩ := id V_t
              have hin139 : ¬ ((2 : Int32) < 0 ∨ cl139.slots.size ≤ ((2 : Int32)).toNatClampNeg) := inb_of S139 ⟨by decide, hc24_21 ▸ hc47_119⟩
              have hat139 : cl139.slots[((2 : Int32)).toNatClampNeg]? = some (.int t_2) := H139.at hin139 rfl
              obtain ⟨cl141, Ar141, q141, S141, M141, H141, G141⟩ := id V_f
              have hin141 : ¬ (t_2 < 0 ∨ cl141.slots.size ≤ (t_2).toNatClampNeg) := inb_of S141 hd2
              have hat141 : cl141.slots[(t_2).toNatClampNeg]? = some (.int (own_sel y_0 y_1 y_2 y_3 t_2)) := H141.at hin141 (own_sel_get _ _ _ _ _ _ hd2)
              have pre143 : ∀ t, Steps p.tables e below (T136.setTop (mkF m 74 #[.val (.ref a_o), .val (.ref b_o), .val (.ref b_o), .val (.int (1 : Int32)), .val (.int (2 : Int32))] [(.int (own_sel y_0 y_1 y_2 y_3 t_2)), (.int (own_sel x_0 x_1 x_2 x_3 s_2))])) t → Steps p.tables e below (s₁.setTop (entryFrame m #[(.ref a_o), (.ref b_o)] 5)) t := by
                intro t kt
                refine pre118 _ ?_
                show Steps p.tables e below (T114.setTop (mkF m 47 #[.val (.ref a_o), .val (.ref b_o), .val (.ref b_o), .val (.int (1 : Int32)), .val (.int (2 : Int32))] [(.int n_1), (.int (2 : Int32))])) _
                refine XS.icmpNo X114.here hx rfl (hb hby own_d5_47) rfl (tlt hc47_119).2.1 ?_
                show Steps p.tables e below (T114.setTop (mkF m 50 #[.val (.ref a_o), .val (.ref b_o), .val (.ref b_o), .val (.int (1 : Int32)), .val (.int (2 : Int32))] [])) _
                refine XS.aloadN X114.here hx rfl (hb hby own_d5_50) rfl rfl ?_
                show Steps p.tables e below (T114.setTop (mkF m 51 #[.val (.ref a_o), .val (.ref b_o), .val (.ref b_o), .val (.int (1 : Int32)), .val (.int (2 : Int32))] [(.ref a_o)])) _
                refine st122 _ ?_
                show Steps p.tables e below (T122.setTop (mkF m 54 #[.val (.ref a_o), .val (.ref b_o), .val (.ref b_o), .val (.int (1 : Int32)), .val (.int (2 : Int32))] [(.ref e_o)])) _
                refine XS.aloadN X122.here hx rfl (hb hby own_d5_54) rfl rfl ?_
                show Steps p.tables e below (T122.setTop (mkF m 55 #[.val (.ref a_o), .val (.ref b_o), .val (.ref b_o), .val (.int (1 : Int32)), .val (.int (2 : Int32))] [(.ref a_o), (.ref e_o)])) _
                refine st125 _ ?_
                show Steps p.tables e below (T125.setTop (mkF m 58 #[.val (.ref a_o), .val (.ref b_o), .val (.ref b_o), .val (.int (1 : Int32)), .val (.int (2 : Int32))] [(.ref s_o), (.ref e_o)])) _
                refine XS.iload X125.here hx rfl (hb hby own_d5_58) rfl ?_
                show Steps p.tables e below (T125.setTop (mkF m 60 #[.val (.ref a_o), .val (.ref b_o), .val (.ref b_o), .val (.int (1 : Int32)), .val (.int (2 : Int32))] [(.int (2 : Int32)), (.ref s_o), (.ref e_o)])) _
                refine X125.iaload hx (j := (2 : Int32)) (v := (.int s_2)) (by rw [e125]; exact Ar128.1) (State.isArrayOf_alike hZ.alike Ar128.2.1) Ar128.2.2 hin128 hat128 (g := (mkF m 60 #[.val (.ref a_o), .val (.ref b_o), .val (.ref b_o), .val (.int (1 : Int32)), .val (.int (2 : Int32))] [(.int (2 : Int32)), (.ref s_o), (.ref e_o)])) rfl rfl (hb hby own_d5_60) _ ?_
                show Steps p.tables e below (T125.setTop (mkF m 61 #[.val (.ref a_o), .val (.ref b_o), .val (.ref b_o), .val (.int (1 : Int32)), .val (.int (2 : Int32))] [(.int s_2), (.ref e_o)])) _
                refine X125.iaload hx (j := s_2) (v := (.int (own_sel x_0 x_1 x_2 x_3 s_2))) (by rw [e125]; exact Ar130.1) (State.isArrayOf_alike hZ.alike Ar130.2.1) Ar130.2.2 hin130 hat130 (g := (mkF m 61 #[.val (.ref a_o), .val (.ref b_o), .val (.ref b_o), .val (.int (1 : Int32)), .val (.int (2 : Int32))] [(.int s_2), (.ref e_o)])) rfl rfl (hb hby own_d5_61) _ ?_
                show Steps p.tables e below (T125.setTop (mkF m 62 #[.val (.ref a_o), .val (.ref b_o), .val (.ref b_o), .val (.int (1 : Int32)), .val (.int (2 : Int32))] [(.int (own_sel x_0 x_1 x_2 x_3 s_2))])) _
                refine XS.aloadN X125.here hx rfl (hb hby own_d5_62) rfl rfl ?_
                show Steps p.tables e below (T125.setTop (mkF m 63 #[.val (.ref a_o), .val (.ref b_o), .val (.ref b_o), .val (.int (1 : Int32)), .val (.int (2 : Int32))] [(.ref b_o), (.int (own_sel x_0 x_1 x_2 x_3 s_2))])) _
                refine st133 _ ?_
                show Steps p.tables e below (T133.setTop (mkF m 66 #[.val (.ref a_o), .val (.ref b_o), .val (.ref b_o), .val (.int (1 : Int32)), .val (.int (2 : Int32))] [(.ref f_o), (.int (own_sel x_0 x_1 x_2 x_3 s_2))])) _
                refine XS.aloadN X133.here hx rfl (hb hby own_d5_66) rfl rfl ?_
                show Steps p.tables e below (T133.setTop (mkF m 67 #[.val (.ref a_o), .val (.ref b_o), .val (.ref b_o), .val (.int (1 : Int32)), .val (.int (2 : Int32))] [(.ref b_o), (.ref f_o), (.int (own_sel x_0 x_1 x_2 x_3 s_2))])) _
                refine st136 _ ?_
                show Steps p.tables e below (T136.setTop (mkF m 70 #[.val (.ref a_o), .val (.ref b_o), .val (.ref b_o), .val (.int (1 : Int32)), .val (.int (2 : Int32))] [(.ref t_o), (.ref f_o), (.int (own_sel x_0 x_1 x_2 x_3 s_2))])) _
                refine XS.iload X136.here hx rfl (hb hby own_d5_70) rfl ?_
                show Steps p.tables e below (T136.setTop (mkF m 72 #[.val (.ref a_o), .val (.ref b_o), .val (.ref b_o), .val (.int (1 : Int32)), .val (.int (2 : Int32))] [(.int (2 : Int32)), (.ref t_o), (.ref f_o), (.int (own_sel x_0 x_1 x_2 x_3 s_2))])) _
                refine X136.iaload hx (j := (2 : Int32)) (v := (.int t_2)) (by rw [e136]; exact Ar139.1) (State.isArrayOf_alike hZ.alike Ar139.2.1) Ar139.2.2 hin139 hat139 (g := (mkF m 72 #[.val (.ref a_o), .val (.ref b_o), .val (.ref b_o), .val (.int (1 : Int32)), .val (.int (2 : Int32))] [(.int (2 : Int32)), (.ref t_o), (.ref f_o), (.int (own_sel x_0 x_1 x_2 x_3 s_2))])) rfl rfl (hb hby own_d5_72) _ ?_
                show Steps p.tables e below (T136.setTop (mkF m 73 #[.val (.ref a_o), .val (.ref b_o), .val (.ref b_o), .val (.int (1 : Int32)), .val (.int (2 : Int32))] [(.int t_2), (.ref f_o), (.int (own_sel x_0 x_1 x_2 x_3 s_2))])) _
                refine X136.iaload hx (j := t_2) (v := (.int (own_sel y_0 y_1 y_2 y_3 t_2))) (by rw [e136]; exact Ar141.1) (State.isArrayOf_alike hZ.alike Ar141.2.1) Ar141.2.2 hin141 hat141 (g := (mkF m 73 #[.val (.ref a_o), .val (.ref b_o), .val (.ref b_o), .val (.int (1 : Int32)), .val (.int (2 : Int32))] [(.int t_2), (.ref f_o), (.int (own_sel x_0 x_1 x_2 x_3 s_2))])) rfl rfl (hb hby own_d5_73) _ ?_
                exact kt
              by_cases hc74_144 : (own_sel x_0 x_1 x_2 x_3 s_2) = (own_sel y_0 y_1 y_2 y_3 t_2)
              · obtain ⟨T155, X155, e155, st155⟩ := getF X136 hx hZ hown (host := "") (Or.inl (hw _ (List.mem_of_getElem? (i := 21) rfl))) Via.refl e136 F_as (g := (mkF m 43 #[.val (.ref a_o), .val (.ref b_o), .val (.ref b_o), .val (.int (1 : Int32)), .val (.int (3 : Int32))] [(.ref a_o), (.int (3 : Int32))])) rfl rfl (hb hby own_d5_43)
                obtain ⟨cl157, Ar157, -, S157, M157, -, -⟩ := id V_s
                obtain ⟨fs, hr, hrun, hended, hW, hsame⟩ := X155.leave (v := some (.int (1 : Int32))) (fun h => by rw [Bd.returns] at h; cases h) (hlocks := BodyLoose.notSynchronized Bd)
                refine ⟨_, _, pre143 _ ?_, hrun, hended, _, _, rfl, ?_, ⟨_, rfl⟩, hW, hsame.mono (by decide) (by decide)⟩
                · show Steps p.tables e below (T136.setTop (mkF m 74 #[.val (.ref a_o), .val (.ref b_o), .val (.ref b_o), .val (.int (1 : Int32)), .val (.int (2 : Int32))] [(.int (own_sel y_0 y_1 y_2 y_3 t_2)), (.int (own_sel x_0 x_1 x_2 x_3 s_2))])) _
                  refine XS.icmpNo X136.here hx rfl (hb hby own_d5_74) rfl (teq hc74_144).2 ?_
                  show Steps p.tables e below (T136.setTop (mkF m 77 #[.val (.ref a_o), .val (.ref b_o), .val (.ref b_o), .val (.int (1 : Int32)), .val (.int (2 : Int32))] [])) _
                  refine XS.iconst X136.here hx rfl (hb hby own_d5_77) ?_
                  show Steps p.tables e below (T136.setTop (mkF m 78 #[.val (.ref a_o), .val (.ref b_o), .val (.ref b_o), .val (.int (1 : Int32)), .val (.int (2 : Int32))] [(.int (1 : Int32))])) _
                  refine XS.goto X136.here hx rfl (pc0 := 78) (pc' := 82) rfl (hb hby own_d5_78) (by decide) (by decide) ?_
                  show Steps p.tables e below (T136.setTop (mkF m 82 #[.val (.ref a_o), .val (.ref b_o), .val (.ref b_o), .val (.int (1 : Int32)), .val (.int (2 : Int32))] [(.int (1 : Int32))])) _
                  refine XS.istoreN X136.here hx rfl (hb hby own_d5_82) rfl (l' := #[.val (.ref a_o), .val (.ref b_o), .val (.ref b_o), .val (.int (1 : Int32)), .val (.int (2 : Int32))]) rfl ?_
                  show Steps p.tables e below (T136.setTop (mkF m 83 #[.val (.ref a_o), .val (.ref b_o), .val (.ref b_o), .val (.int (1 : Int32)), .val (.int (2 : Int32))] [])) _
                  refine XS.iinc X136.here hx rfl (hb hby own_d5_83) rfl (l' := #[.val (.ref a_o), .val (.ref b_o), .val (.ref b_o), .val (.int (1 : Int32)), .val (.int (3 : Int32))]) rfl ?_
                  show Steps p.tables e below (T136.setTop (mkF m 86 #[.val (.ref a_o), .val (.ref b_o), .val (.ref b_o), .val (.int (1 : Int32)), .val (.int (3 : Int32))] [])) _
                  refine XS.goto X136.here hx rfl (pc0 := 86) (pc' := 36) rfl (hb hby own_d5_86) (by decide) (by decide) ?_
                  show Steps p.tables e below (T136.setTop (mkF m 36 #[.val (.ref a_o), .val (.ref b_o), .val (.ref b_o), .val (.int (1 : Int32)), .val (.int (3 : Int32))] [])) _
                  refine XS.iloadN X136.here hx rfl (hb hby own_d5_36) rfl ?_
                  show Steps p.tables e below (T136.setTop (mkF m 37 #[.val (.ref a_o), .val (.ref b_o), .val (.ref b_o), .val (.int (1 : Int32)), .val (.int (3 : Int32))] [(.int (1 : Int32))])) _
                  refine XS.ifNo X136.here hx rfl (hb hby own_d5_37) rfl ((if0 _ _).trans (feq ((by decide) : ¬ ((1 : Int32) = (0 : Int32)))).1) ?_
                  show Steps p.tables e below (T136.setTop (mkF m 40 #[.val (.ref a_o), .val (.ref b_o), .val (.ref b_o), .val (.int (1 : Int32)), .val (.int (3 : Int32))] [])) _
                  refine XS.iload X136.here hx rfl (hb hby own_d5_40) rfl ?_
                  show Steps p.tables e below (T136.setTop (mkF m 42 #[.val (.ref a_o), .val (.ref b_o), .val (.ref b_o), .val (.int (1 : Int32)), .val (.int (3 : Int32))] [(.int (3 : Int32))])) _
                  refine XS.aloadN X136.here hx rfl (hb hby own_d5_42) rfl rfl ?_
                  show Steps p.tables e below (T136.setTop (mkF m 43 #[.val (.ref a_o), .val (.ref b_o), .val (.ref b_o), .val (.int (1 : Int32)), .val (.int (3 : Int32))] [(.ref a_o), (.int (3 : Int32))])) _
                  refine st155 _ ?_
                  show Steps p.tables e below (T155.setTop (mkF m 46 #[.val (.ref a_o), .val (.ref b_o), .val (.ref b_o), .val (.int (1 : Int32)), .val (.int (3 : Int32))] [(.ref s_o), (.int (3 : Int32))])) _
                  refine X155.arraylength hx (by rw [e155]; exact Ar157.1) (State.isArrayOf_alike hZ.alike Ar157.2.1) (g := (mkF m 46 #[.val (.ref a_o), .val (.ref b_o), .val (.ref b_o), .val (.int (1 : Int32)), .val (.int (3 : Int32))] [(.ref s_o), (.int (3 : Int32))])) rfl rfl (hb hby own_d5_46) _ ?_
                  rw [len_of S157 M157]
                  show Steps p.tables e below (T155.setTop (mkF m 47 #[.val (.ref a_o), .val (.ref b_o), .val (.ref b_o), .val (.int (1 : Int32)), .val (.int (3 : Int32))] [(.int n_1), (.int (3 : Int32))])) _
                  refine XS.icmpYes X155.here hx rfl (pc0 := 47) (pc' := 89) rfl (hb hby own_d5_47) rfl (flt (hn : ¬ ((3 : Int32) < n_1))).2.1 (by decide) (by decide) ?_
                  show Steps p.tables e below (T155.setTop (mkF m 89 #[.val (.ref a_o), .val (.ref b_o), .val (.ref b_o), .val (.int (1 : Int32)), .val (.int (3 : Int32))] [])) _
                  refine XS.iloadN X155.here hx rfl (hb hby own_d5_89) rfl ?_
                  show Steps p.tables e below (T155.setTop (mkF m 90 #[.val (.ref a_o), .val (.ref b_o), .val (.ref b_o), .val (.int (1 : Int32)), .val (.int (3 : Int32))] [(.int (1 : Int32))])) _
                  exact retN X155 hx (t := .boolean) Bd.returns (by simp) (hb hby own_d5_90) hr
                · show Qown_eq Z a_o b_o e_o s_o f_o t_o k_e k_s k_f k_t n_1 m_1 x_0 x_1 x_2 x_3 s_0 s_1 s_2 y_0 y_1 y_2 y_3 t_0 t_1 t_2 h0 n0 _ T155.heap _
                  rw [e155]
                  have hv : (own_eq_f n_1 m_1 x_0 x_1 x_2 x_3 s_0 s_1 s_2 y_0 y_1 y_2 y_3 t_0 t_1 t_2) = (1 : Int32) := by unfold own_eq_f; rw [if_pos hc24_21, if_pos hc47_37, if_pos hc74_62, if_pos hc47_78, if_pos hc74_103, if_pos hc47_119, if_pos hc74_144]
                  exact ⟨(by rw [hv]), N0, rfl⟩
              · obtain ⟨fs, hr, hrun, hended, hW, hsame⟩ := X136.leave (v := some (.int (0 : Int32))) (fun h => by rw [Bd.returns] at h; cases h) (hlocks := BodyLoose.notSynchronized Bd)
                refine ⟨_, _, pre143 _ ?_, hrun, hended, _, _, rfl, ?_, ⟨_, rfl⟩, hW, hsame.mono (by decide) (by decide)⟩
                · show Steps p.tables e below (T136.setTop (mkF m 74 #[.val (.ref a_o), .val (.ref b_o), .val (.ref b_o), .val (.int (1 : Int32)), .val (.int (2 : Int32))] [(.int (own_sel y_0 y_1 y_2 y_3 t_2)), (.int (own_sel x_0 x_1 x_2 x_3 s_2))])) _
                  refine XS.icmpYes X136.here hx rfl (pc0 := 74) (pc' := 81) rfl (hb hby own_d5_74) rfl (feq hc74_144).2 (by decide) (by decide) ?_
                  show Steps p.tables e below (T136.setTop (mkF m 81 #[.val (.ref a_o), .val (.ref b_o), .val (.ref b_o), .val (.int (1 : Int32)), .val (.int (2 : Int32))] [])) _
                  refine XS.iconst X136.here hx rfl (hb hby own_d5_81) ?_
                  show Steps p.tables e below (T136.setTop (mkF m 82 #[.val (.ref a_o), .val (.ref b_o), .val (.ref b_o), .val (.int (1 : Int32)), .val (.int (2 : Int32))] [(.int (0 : Int32))])) _
                  refine XS.istoreN X136.here hx rfl (hb hby own_d5_82) rfl (l' := #[.val (.ref a_o), .val (.ref b_o), .val (.ref b_o), .val (.int (0 : Int32)), .val (.int (2 : Int32))]) rfl ?_
                  show Steps p.tables e below (T136.setTop (mkF m 83 #[.val (.ref a_o), .val (.ref b_o), .val (.ref b_o), .val (.int (0 : Int32)), .val (.int (2 : Int32))] [])) _
                  refine XS.iinc X136.here hx rfl (hb hby own_d5_83) rfl (l' := #[.val (.ref a_o), .val (.ref b_o), .val (.ref b_o), .val (.int (0 : Int32)), .val (.int (3 : Int32))]) rfl ?_
                  show Steps p.tables e below (T136.setTop (mkF m 86 #[.val (.ref a_o), .val (.ref b_o), .val (.ref b_o), .val (.int (0 : Int32)), .val (.int (3 : Int32))] [])) _
                  refine XS.goto X136.here hx rfl (pc0 := 86) (pc' := 36) rfl (hb hby own_d5_86) (by decide) (by decide) ?_
                  show Steps p.tables e below (T136.setTop (mkF m 36 #[.val (.ref a_o), .val (.ref b_o), .val (.ref b_o), .val (.int (0 : Int32)), .val (.int (3 : Int32))] [])) _
                  refine XS.iloadN X136.here hx rfl (hb hby own_d5_36) rfl ?_
                  show Steps p.tables e below (T136.setTop (mkF m 37 #[.val (.ref a_o), .val (.ref b_o), .val (.ref b_o), .val (.int (0 : Int32)), .val (.int (3 : Int32))] [(.int (0 : Int32))])) _
                  refine XS.ifYes X136.here hx rfl (pc0 := 37) (pc' := 89) rfl (hb hby own_d5_37) rfl ((if0 _ _).trans (teq ((by decide) : (0 : Int32) = (0 : Int32))).1) (by decide) (by decide) ?_
                  show Steps p.tables e below (T136.setTop (mkF m 89 #[.val (.ref a_o), .val (.ref b_o), .val (.ref b_o), .val (.int (0 : Int32)), .val (.int (3 : Int32))] [])) _
                  refine XS.iloadN X136.here hx rfl (hb hby own_d5_89) rfl ?_
                  show Steps p.tables e below (T136.setTop (mkF m 90 #[.val (.ref a_o), .val (.ref b_o), .val (.ref b_o), .val (.int (0 : Int32)), .val (.int (3 : Int32))] [(.int (0 : Int32))])) _
                  exact retN X136 hx (t := .boolean) Bd.returns (by simp) (hb hby own_d5_90) hr
                · show Qown_eq Z a_o b_o e_o s_o f_o t_o k_e k_s k_f k_t n_1 m_1 x_0 x_1 x_2 x_3 s_0 s_1 s_2 y_0 y_1 y_2 y_3 t_0 t_1 t_2 h0 n0 _ T136.heap _
                  rw [e136]
                  have hv : (own_eq_f n_1 m_1 x_0 x_1 x_2 x_3 s_0 s_1 s_2 y_0 y_1 y_2 y_3 t_0 t_1 t_2) = (0 : Int32) := by unfold own_eq_f; rw [if_pos hc24_21, if_pos hc47_37, if_pos hc74_62, if_pos hc47_78, if_pos hc74_103, if_pos hc47_119, if_neg hc74_144]
                  exact ⟨(by rw [hv]), N0, rfl⟩
            · obtain ⟨fs, hr, hrun, hended, hW, hsame⟩ := X114.leave (v := some (.int (1 : Int32))) (fun h => by rw [Bd.returns] at h; cases h) (hlocks := BodyLoose.notSynchronized Bd)
              refine ⟨_, _, pre118 _ ?_, hrun, hended, _, _, rfl, ?_, ⟨_, rfl⟩, hW, hsame.mono (by decide) (by decide)⟩
              · show Steps p.tables e below (T114.setTop (mkF m 47 #[.val (.ref a_o), .val (.ref b_o), .val (.ref b_o), .val (.int (1 : Int32)), .val (.int (2 : Int32))] [(.int n_1), (.int (2 : Int32))])) _
                refine XS.icmpYes X114.here hx rfl (pc0 := 47) (pc' := 89) rfl (hb hby own_d5_47) rfl (flt hc47_119).2.1 (by decide) (by decide) ?_
                show Steps p.tables e below (T114.setTop (mkF m 89 #[.val (.ref a_o), .val (.ref b_o), .val (.ref b_o), .val (.int (1 : Int32)), .val (.int (2 : Int32))] [])) _
                refine XS.iloadN X114.here hx rfl (hb hby own_d5_89) rfl ?_
                show Steps p.tables e below (T114.setTop (mkF m 90 #[.val (.ref a_o), .val (.ref b_o), .val (.ref b_o), .val (.int (1 : Int32)), .val (.int (2 : Int32))] [(.int (1 : Int32))])) _
                exact retN X114 hx (t := .boolean) Bd.returns (by simp) (hb hby own_d5_90) hr
              · show Qown_eq Z a_o b_o e_o s_o f_o t_o k_e k_s k_f k_t n_1 m_1 x_0 x_1 x_2 x_3 s_0 s_1 s_2 y_0 y_1 y_2 y_3 t_0 t_1 t_2 h0 n0 _ T114.heap _
                rw [e114]
                have hv : (own_eq_f n_1 m_1 x_0 x_1 x_2 x_3 s_0 s_1 s_2 y_0 y_1 y_2 y_3 t_0 t_1 t_2) = (1 : Int32) := by unfold own_eq_f; rw [if_pos hc24_21, if_pos hc47_37, if_pos hc74_62, if_pos hc47_78, if_pos hc74_103, if_neg hc47_119]
                exact ⟨(by rw [hv]), N0, rfl⟩
          · obtain ⟨fs, hr, hrun, hended, hW, hsame⟩ := X95.leave (v := some (.int (0 : Int32))) (fun h => by rw [Bd.returns] at h; cases h) (hlocks := BodyLoose.notSynchronized Bd)
            refine ⟨_, _, pre102 _ ?_, hrun, hended, _, _, rfl, ?_, ⟨_, rfl⟩, hW, hsame.mono (by decide) (by decide)⟩
            · show Steps p.tables e below (T95.setTop (mkF m 74 #[.val (.ref a_o), .val (.ref b_o), .val (.ref b_o), .val (.int (1 : Int32)), .val (.int (1 : Int32))] [(.int (own_sel y_0 y_1 y_2 y_3 t_1)), (.int (own_sel x_0 x_1 x_2 x_3 s_1))])) _
              refine XS.icmpYes X95.here hx rfl (pc0 := 74) (pc' := 81) rfl (hb hby own_d5_74) rfl (feq hc74_103).2 (by decide) (by decide) ?_
              show Steps p.tables e below (T95.setTop (mkF m 81 #[.val (.ref a_o), .val (.ref b_o), .val (.ref b_o), .val (.int (1 : Int32)), .val (.int (1 : Int32))] [])) _
              refine XS.iconst X95.here hx rfl (hb hby own_d5_81) ?_
              show Steps p.tables e below (T95.setTop (mkF m 82 #[.val (.ref a_o), .val (.ref b_o), .val (.ref b_o), .val (.int (1 : Int32)), .val (.int (1 : Int32))] [(.int (0 : Int32))])) _
              refine XS.istoreN X95.here hx rfl (hb hby own_d5_82) rfl (l' := #[.val (.ref a_o), .val (.ref b_o), .val (.ref b_o), .val (.int (0 : Int32)), .val (.int (1 : Int32))]) rfl ?_
              show Steps p.tables e below (T95.setTop (mkF m 83 #[.val (.ref a_o), .val (.ref b_o), .val (.ref b_o), .val (.int (0 : Int32)), .val (.int (1 : Int32))] [])) _
              refine XS.iinc X95.here hx rfl (hb hby own_d5_83) rfl (l' := #[.val (.ref a_o), .val (.ref b_o), .val (.ref b_o), .val (.int (0 : Int32)), .val (.int (2 : Int32))]) rfl ?_
              show Steps p.tables e below (T95.setTop (mkF m 86 #[.val (.ref a_o), .val (.ref b_o), .val (.ref b_o), .val (.int (0 : Int32)), .val (.int (2 : Int32))] [])) _
              refine XS.goto X95.here hx rfl (pc0 := 86) (pc' := 36) rfl (hb hby own_d5_86) (by decide) (by decide) ?_
              show Steps p.tables e below (T95.setTop (mkF m 36 #[.val (.ref a_o), .val (.ref b_o), .val (.ref b_o), .val (.int (0 : Int32)), .val (.int (2 : Int32))] [])) _
              refine XS.iloadN X95.here hx rfl (hb hby own_d5_36) rfl ?_
              show Steps p.tables e below (T95.setTop (mkF m 37 #[.val (.ref a_o), .val (.ref b_o), .val (.ref b_o), .val (.int (0 : Int32)), .val (.int (2 : Int32))] [(.int (0 : Int32))])) _
              refine XS.ifYes X95.here hx rfl (pc0 := 37) (pc' := 89) rfl (hb hby own_d5_37) rfl ((if0 _ _).trans (teq ((by decide) : (0 : Int32) = (0 : Int32))).1) (by decide) (by decide) ?_
              show Steps p.tables e below (T95.setTop (mkF m 89 #[.val (.ref a_o), .val (.ref b_o), .val (.ref b_o), .val (.int (0 : Int32)), .val (.int (2 : Int32))] [])) _
              refine XS.iloadN X95.here hx rfl (hb hby own_d5_89) rfl ?_
              show Steps p.tables e below (T95.setTop (mkF m 90 #[.val (.ref a_o), .val (.ref b_o), .val (.ref b_o), .val (.int (0 : Int32)), .val (.int (2 : Int32))] [(.int (0 : Int32))])) _
              exact retN X95 hx (t := .boolean) Bd.returns (by simp) (hb hby own_d5_90) hr
            · show Qown_eq Z a_o b_o e_o s_o f_o t_o k_e k_s k_f k_t n_1 m_1 x_0 x_1 x_2 x_3 s_0 s_1 s_2 y_0 y_1 y_2 y_3 t_0 t_1 t_2 h0 n0 _ T95.heap _
              rw [e95]
              have hv : (own_eq_f n_1 m_1 x_0 x_1 x_2 x_3 s_0 s_1 s_2 y_0 y_1 y_2 y_3 t_0 t_1 t_2) = (0 : Int32) := by unfold own_eq_f; rw [if_pos hc24_21, if_pos hc47_37, if_pos hc74_62, if_pos hc47_78, if_neg hc74_103]
              exact ⟨(by rw [hv]), N0, rfl⟩
        · obtain ⟨fs, hr, hrun, hended, hW, hsame⟩ := X73.leave (v := some (.int (1 : Int32))) (fun h => by rw [Bd.returns] at h; cases h) (hlocks := BodyLoose.notSynchronized Bd)
          refine ⟨_, _, pre77 _ ?_, hrun, hended, _, _, rfl, ?_, ⟨_, rfl⟩, hW, hsame.mono (by decide) (by decide)⟩
          · show Steps p.tables e below (T73.setTop (mkF m 47 #[.val (.ref a_o), .val (.ref b_o), .val (.ref b_o), .val (.int (1 : Int32)), .val (.int (1 : Int32))] [(.int n_1), (.int (1 : Int32))])) _
            refine XS.icmpYes X73.here hx rfl (pc0 := 47) (pc' := 89) rfl (hb hby own_d5_47) rfl (flt hc47_78).2.1 (by decide) (by decide) ?_
            show Steps p.tables e below (T73.setTop (mkF m 89 #[.val (.ref a_o), .val (.ref b_o), .val (.ref b_o), .val (.int (1 : Int32)), .val (.int (1 : Int32))] [])) _
            refine XS.iloadN X73.here hx rfl (hb hby own_d5_89) rfl ?_
            show Steps p.tables e below (T73.setTop (mkF m 90 #[.val (.ref a_o), .val (.ref b_o), .val (.ref b_o), .val (.int (1 : Int32)), .val (.int (1 : Int32))] [(.int (1 : Int32))])) _
            exact retN X73 hx (t := .boolean) Bd.returns (by simp) (hb hby own_d5_90) hr
          · show Qown_eq Z a_o b_o e_o s_o f_o t_o k_e k_s k_f k_t n_1 m_1 x_0 x_1 x_2 x_3 s_0 s_1 s_2 y_0 y_1 y_2 y_3 t_0 t_1 t_2 h0 n0 _ T73.heap _
            rw [e73]
            have hv : (own_eq_f n_1 m_1 x_0 x_1 x_2 x_3 s_0 s_1 s_2 y_0 y_1 y_2 y_3 t_0 t_1 t_2) = (1 : Int32) := by unfold own_eq_f; rw [if_pos hc24_21, if_pos hc47_37, if_pos hc74_62, if_neg hc47_78]
            exact ⟨(by rw [hv]), N0, rfl⟩
      · obtain ⟨fs, hr, hrun, hended, hW, hsame⟩ := X54.leave (v := some (.int (0 : Int32))) (fun h => by rw [Bd.returns] at h; cases h) (hlocks := BodyLoose.notSynchronized Bd)
        refine ⟨_, _, pre61 _ ?_, hrun, hended, _, _, rfl, ?_, ⟨_, rfl⟩, hW, hsame.mono (by decide) (by decide)⟩
        · show Steps p.tables e below (T54.setTop (mkF m 74 #[.val (.ref a_o), .val (.ref b_o), .val (.ref b_o), .val (.int (1 : Int32)), .val (.int (0 : Int32))] [(.int (own_sel y_0 y_1 y_2 y_3 t_0)), (.int (own_sel x_0 x_1 x_2 x_3 s_0))])) _
          refine XS.icmpYes X54.here hx rfl (pc0 := 74) (pc' := 81) rfl (hb hby own_d5_74) rfl (feq hc74_62).2 (by decide) (by decide) ?_
          show Steps p.tables e below (T54.setTop (mkF m 81 #[.val (.ref a_o), .val (.ref b_o), .val (.ref b_o), .val (.int (1 : Int32)), .val (.int (0 : Int32))] [])) _
          refine XS.iconst X54.here hx rfl (hb hby own_d5_81) ?_
          show Steps p.tables e below (T54.setTop (mkF m 82 #[.val (.ref a_o), .val (.ref b_o), .val (.ref b_o), .val (.int (1 : Int32)), .val (.int (0 : Int32))] [(.int (0 : Int32))])) _
          refine XS.istoreN X54.here hx rfl (hb hby own_d5_82) rfl (l' := #[.val (.ref a_o), .val (.ref b_o), .val (.ref b_o), .val (.int (0 : Int32)), .val (.int (0 : Int32))]) rfl ?_
          show Steps p.tables e below (T54.setTop (mkF m 83 #[.val (.ref a_o), .val (.ref b_o), .val (.ref b_o), .val (.int (0 : Int32)), .val (.int (0 : Int32))] [])) _
          refine XS.iinc X54.here hx rfl (hb hby own_d5_83) rfl (l' := #[.val (.ref a_o), .val (.ref b_o), .val (.ref b_o), .val (.int (0 : Int32)), .val (.int (1 : Int32))]) rfl ?_
          show Steps p.tables e below (T54.setTop (mkF m 86 #[.val (.ref a_o), .val (.ref b_o), .val (.ref b_o), .val (.int (0 : Int32)), .val (.int (1 : Int32))] [])) _
          refine XS.goto X54.here hx rfl (pc0 := 86) (pc' := 36) rfl (hb hby own_d5_86) (by decide) (by decide) ?_
          show Steps p.tables e below (T54.setTop (mkF m 36 #[.val (.ref a_o), .val (.ref b_o), .val (.ref b_o), .val (.int (0 : Int32)), .val (.int (1 : Int32))] [])) _
          refine XS.iloadN X54.here hx rfl (hb hby own_d5_36) rfl ?_
          show Steps p.tables e below (T54.setTop (mkF m 37 #[.val (.ref a_o), .val (.ref b_o), .val (.ref b_o), .val (.int (0 : Int32)), .val (.int (1 : Int32))] [(.int (0 : Int32))])) _
          refine XS.ifYes X54.here hx rfl (pc0 := 37) (pc' := 89) rfl (hb hby own_d5_37) rfl ((if0 _ _).trans (teq ((by decide) : (0 : Int32) = (0 : Int32))).1) (by decide) (by decide) ?_
          show Steps p.tables e below (T54.setTop (mkF m 89 #[.val (.ref a_o), .val (.ref b_o), .val (.ref b_o), .val (.int (0 : Int32)), .val (.int (1 : Int32))] [])) _
          refine XS.iloadN X54.here hx rfl (hb hby own_d5_89) rfl ?_
          show Steps p.tables e below (T54.setTop (mkF m 90 #[.val (.ref a_o), .val (.ref b_o), .val (.ref b_o), .val (.int (0 : Int32)), .val (.int (1 : Int32))] [(.int (0 : Int32))])) _
          exact retN X54 hx (t := .boolean) Bd.returns (by simp) (hb hby own_d5_90) hr
        · show Qown_eq Z a_o b_o e_o s_o f_o t_o k_e k_s k_f k_t n_1 m_1 x_0 x_1 x_2 x_3 s_0 s_1 s_2 y_0 y_1 y_2 y_3 t_0 t_1 t_2 h0 n0 _ T54.heap _
          rw [e54]
          have hv : (own_eq_f n_1 m_1 x_0 x_1 x_2 x_3 s_0 s_1 s_2 y_0 y_1 y_2 y_3 t_0 t_1 t_2) = (0 : Int32) := by unfold own_eq_f; rw [if_pos hc24_21, if_pos hc47_37, if_neg hc74_62]
          exact ⟨(by rw [hv]), N0, rfl⟩
    · obtain ⟨fs, hr, hrun, hended, hW, hsame⟩ := X32.leave (v := some (.int (1 : Int32))) (fun h => by rw [Bd.returns] at h; cases h) (hlocks := BodyLoose.notSynchronized Bd)
      refine ⟨_, _, pre36 _ ?_, hrun, hended, _, _, rfl, ?_, ⟨_, rfl⟩, hW, hsame.mono (by decide) (by decide)⟩
      · show Steps p.tables e below (T32.setTop (mkF m 47 #[.val (.ref a_o), .val (.ref b_o), .val (.ref b_o), .val (.int (1 : Int32)), .val (.int (0 : Int32))] [(.int n_1), (.int (0 : Int32))])) _
        refine XS.icmpYes X32.here hx rfl (pc0 := 47) (pc' := 89) rfl (hb hby own_d5_47) rfl (flt hc47_37).2.1 (by decide) (by decide) ?_
        show Steps p.tables e below (T32.setTop (mkF m 89 #[.val (.ref a_o), .val (.ref b_o), .val (.ref b_o), .val (.int (1 : Int32)), .val (.int (0 : Int32))] [])) _
        refine XS.iloadN X32.here hx rfl (hb hby own_d5_89) rfl ?_
        show Steps p.tables e below (T32.setTop (mkF m 90 #[.val (.ref a_o), .val (.ref b_o), .val (.ref b_o), .val (.int (1 : Int32)), .val (.int (0 : Int32))] [(.int (1 : Int32))])) _
        exact retN X32 hx (t := .boolean) Bd.returns (by simp) (hb hby own_d5_90) hr
      · show Qown_eq Z a_o b_o e_o s_o f_o t_o k_e k_s k_f k_t n_1 m_1 x_0 x_1 x_2 x_3 s_0 s_1 s_2 y_0 y_1 y_2 y_3 t_0 t_1 t_2 h0 n0 _ T32.heap _
        rw [e32]
        have hv : (own_eq_f n_1 m_1 x_0 x_1 x_2 x_3 s_0 s_1 s_2 y_0 y_1 y_2 y_3 t_0 t_1 t_2) = (1 : Int32) := by unfold own_eq_f; rw [if_pos hc24_21, if_neg hc47_37]
        exact ⟨(by rw [hv]), N0, rfl⟩
  · obtain ⟨fs, hr, hrun, hended, hW, hsame⟩ := X16.leave (v := some (.int (0 : Int32))) (fun h => by rw [Bd.returns] at h; cases h) (hlocks := BodyLoose.notSynchronized Bd)
    refine ⟨_, _, pre20 _ ?_, hrun, hended, _, _, rfl, ?_, ⟨_, rfl⟩, hW, hsame.mono (by decide) (by decide)⟩
    · show Steps p.tables e below (T16.setTop (mkF m 24 #[.val (.ref a_o), .val (.ref b_o), .val (.ref b_o), .unset, .unset] [(.int m_1), (.int n_1)])) _
      refine XS.icmpYes X16.here hx rfl (pc0 := 24) (pc' := 31) rfl (hb hby own_d5_24) rfl (feq hc24_21).2 (by decide) (by decide) ?_
      show Steps p.tables e below (T16.setTop (mkF m 31 #[.val (.ref a_o), .val (.ref b_o), .val (.ref b_o), .unset, .unset] [])) _
      refine XS.iconst X16.here hx rfl (hb hby own_d5_31) ?_
      show Steps p.tables e below (T16.setTop (mkF m 32 #[.val (.ref a_o), .val (.ref b_o), .val (.ref b_o), .unset, .unset] [(.int (0 : Int32))])) _
      refine XS.istoreN X16.here hx rfl (hb hby own_d5_32) rfl (l' := #[.val (.ref a_o), .val (.ref b_o), .val (.ref b_o), .val (.int (0 : Int32)), .unset]) rfl ?_
      show Steps p.tables e below (T16.setTop (mkF m 33 #[.val (.ref a_o), .val (.ref b_o), .val (.ref b_o), .val (.int (0 : Int32)), .unset] [])) _
      refine XS.iconst X16.here hx rfl (hb hby own_d5_33) ?_
      show Steps p.tables e below (T16.setTop (mkF m 34 #[.val (.ref a_o), .val (.ref b_o), .val (.ref b_o), .val (.int (0 : Int32)), .unset] [(.int (0 : Int32))])) _
      refine XS.istore X16.here hx rfl (hb hby own_d5_34) rfl (l' := #[.val (.ref a_o), .val (.ref b_o), .val (.ref b_o), .val (.int (0 : Int32)), .val (.int (0 : Int32))]) rfl ?_
      show Steps p.tables e below (T16.setTop (mkF m 36 #[.val (.ref a_o), .val (.ref b_o), .val (.ref b_o), .val (.int (0 : Int32)), .val (.int (0 : Int32))] [])) _
      refine XS.iloadN X16.here hx rfl (hb hby own_d5_36) rfl ?_
      show Steps p.tables e below (T16.setTop (mkF m 37 #[.val (.ref a_o), .val (.ref b_o), .val (.ref b_o), .val (.int (0 : Int32)), .val (.int (0 : Int32))] [(.int (0 : Int32))])) _
      refine XS.ifYes X16.here hx rfl (pc0 := 37) (pc' := 89) rfl (hb hby own_d5_37) rfl ((if0 _ _).trans (teq ((by decide) : (0 : Int32) = (0 : Int32))).1) (by decide) (by decide) ?_
      show Steps p.tables e below (T16.setTop (mkF m 89 #[.val (.ref a_o), .val (.ref b_o), .val (.ref b_o), .val (.int (0 : Int32)), .val (.int (0 : Int32))] [])) _
      refine XS.iloadN X16.here hx rfl (hb hby own_d5_89) rfl ?_
      show Steps p.tables e below (T16.setTop (mkF m 90 #[.val (.ref a_o), .val (.ref b_o), .val (.ref b_o), .val (.int (0 : Int32)), .val (.int (0 : Int32))] [(.int (0 : Int32))])) _
      exact retN X16 hx (t := .boolean) Bd.returns (by simp) (hb hby own_d5_90) hr
    · show Qown_eq Z a_o b_o e_o s_o f_o t_o k_e k_s k_f k_t n_1 m_1 x_0 x_1 x_2 x_3 s_0 s_1 s_2 y_0 y_1 y_2 y_3 t_0 t_1 t_2 h0 n0 _ T16.heap _
      rw [e16]
      have hv : (own_eq_f n_1 m_1 x_0 x_1 x_2 x_3 s_0 s_1 s_2 y_0 y_1 y_2 y_3 t_0 t_1 t_2) = (0 : Int32) := by unfold own_eq_f; rw [if_neg hc24_21]
      exact ⟨(by rw [hv]), N0, rfl⟩
theorem own_ef_own_eqN (m : MethodId) (a_o : Addr) : entryFrame m #[(.ref a_o), .null] 5 = mkF m 0 #[.val (.ref a_o), .val .null, .unset, .unset, .unset] [] := by first | (simp [entryFrame, mkF, argsToLocals, Value.category]; done) | rfl
theorem own_d5_7 : decode prog_37_method_6_code 7 = .ok (.iconst 0, 1) := by decide +kernel
theorem own_d5_8 : decode prog_37_method_6_code 8 = .ok (.ireturn, 1) := by decide +kernel
def Qown_eqN (Z : State) (a_o : Addr) (h0 : Heap) (n0 : Nat) (v : Option Value) (h : Heap) (L : List Loc) : Prop := v = some (.int (0 : Int32)) ∧ Fr n0 L ∧ h = h0
set_option maxRecDepth 65536 in
set_option maxHeartbeats 40000000 in
theorem own_eqN (l : Launch) (Z : State) (a0 : Array Value) (hw : ∀ d ∈ tables_1, d.before a0 Z = true) (ws : List Jvm.Cond) (a_o : Addr) (h0 : Heap) (n0 : Nat) (Z0 : n0 ≤ h0.size) :
    MetFree l (⟨"com/example/fovea/fovea/Memory$Key", "equals", "(Ljava/lang/Object;)Z"⟩ : MethodName) (head1 (Jvm.Cond.code (⟨"com/example/fovea/fovea/Memory$Key", "equals", "(Ljava/lang/Object;)Z"⟩ : MethodName) prog_37_method_6_code 5 (some .boolean) :: ws) ({ frames := 0, cells := 0, slots := 0, locals := 0 } : Room)) (fun a U => a = #[(.ref a_o), .null] ∧ Z.Warmed39 U.vm ∧ U.heap = h0) (fun _ _ _ _ _ => True) (fun _ U o U' => ∃ v L, o = .returned v ∧ Qown_eqN Z a_o h0 n0 v U'.heap L ∧ FrameEnd U o U' L ({ frames := 0, cells := 0, slots := 0, locals := 0 } : Room).cells ({ frames := 0, cells := 0, slots := 0, locals := 0 } : Room).slots) := by
  refine MetFree.of_bodySF (plainFor_of_name own_pn1) hisR ?_
  intro p e s m args below meth c s₁ Bd hml0 hP hK
  obtain ⟨rfl, hZ, hh⟩ := hP
  have hx := Bd.exec
  have hby := Bd.bytes
  have hml : c.maxLocals = 5 := hml0
  have hown : s.vm.findClass "com/example/fovea/fovea/Memory$Key" = some m.cls := findClass_of_methodNamed Bd.named
  have hnm := (name_of_methodNamed Bd.named Bd.method).1
  have X0 : Stand p l e ({ frames := 0, cells := 0, slots := 0, locals := 0 } : Room) s m #[(.ref a_o), .null] below meth c s₁ [] 0 0 := Stand.of_body Bd
  have e0 : s₁.heap = h0 := by rw [← hh, Bd.state]; rfl
  have N0 := Fr.nil n0
  have pre0 : ∀ t, Steps p.tables e below (s₁.setTop (mkF m 0 #[.val (.ref a_o), .val .null, .unset, .unset, .unset] [])) t → Steps p.tables e below (s₁.setTop (entryFrame m #[(.ref a_o), .null] 5)) t := fun t k => castTop (own_ef_own_eqN m a_o) k
  obtain ⟨fs, hr, hrun, hended, hW, hsame⟩ := X0.leave (v := some (.int (0 : Int32))) (fun h => by rw [Bd.returns] at h; cases h) (hlocks := BodyLoose.notSynchronized Bd)
  refine ⟨_, _, pre0 _ ?_, hrun, hended, _, _, rfl, ?_, ⟨_, rfl⟩, hW, hsame.mono (by decide) (by decide)⟩
  · show Steps p.tables e below (s₁.setTop (mkF m 0 #[.val (.ref a_o), .val .null, .unset, .unset, .unset] [])) _
    refine XS.aloadN X0.here hx rfl (hb hby own_d5_0) rfl rfl ?_
    show Steps p.tables e below (s₁.setTop (mkF m 1 #[.val (.ref a_o), .val .null, .unset, .unset, .unset] [.null])) _
    refine X0.instanceofNull hx (g := (mkF m 1 #[.val (.ref a_o), .val .null, .unset, .unset, .unset] [.null])) rfl rfl (hb hby own_d5_1) _ ?_
    show Steps p.tables e below (s₁.setTop (mkF m 4 #[.val (.ref a_o), .val .null, .unset, .unset, .unset] [(.int (0 : Int32))])) _
    refine XS.ifNo X0.here hx rfl (hb hby own_d5_4) rfl ((if0 _ _).trans (teq ((by decide) : (0 : Int32) = (0 : Int32))).2) ?_
    show Steps p.tables e below (s₁.setTop (mkF m 7 #[.val (.ref a_o), .val .null, .unset, .unset, .unset] [])) _
    refine XS.iconst X0.here hx rfl (hb hby own_d5_7) ?_
    show Steps p.tables e below (s₁.setTop (mkF m 8 #[.val (.ref a_o), .val .null, .unset, .unset, .unset] [(.int (0 : Int32))])) _
    exact retN X0 hx (t := .boolean) Bd.returns (by simp) (hb hby own_d5_8) hr
  · show Qown_eqN Z a_o h0 n0 _ s₁.heap _
    rw [e0]
    exact ⟨rfl, N0, rfl⟩
theorem own_ef_own_eqI (m : MethodId) (a_o : Addr) (b_o : Addr) : entryFrame m #[(.ref a_o), (.ref b_o)] 5 = mkF m 0 #[.val (.ref a_o), .val (.ref b_o), .unset, .unset, .unset] [] := by first | (simp [entryFrame, mkF, argsToLocals, Value.category]; done) | rfl
def Qown_eqI (Z : State) (a_o : Addr) (b_o : Addr) (h0 : Heap) (n0 : Nat) (v : Option Value) (h : Heap) (L : List Loc) : Prop := v = some (.int (0 : Int32)) ∧ Fr n0 L ∧ h = h0
set_option maxRecDepth 65536 in
set_option maxHeartbeats 40000000 in
theorem own_eqI (l : Launch) (Z : State) (a0 : Array Value) (hw : ∀ d ∈ tables_1, d.before a0 Z = true) (ws : List Jvm.Cond) (a_o : Addr) (b_o : Addr) (h0 : Heap) (n0 : Nat) (Z0 : n0 ≤ h0.size) (Eb : Exa Z h0 b_o "java/lang/Integer") :
    MetFree l (⟨"com/example/fovea/fovea/Memory$Key", "equals", "(Ljava/lang/Object;)Z"⟩ : MethodName) (head1 (Jvm.Cond.code (⟨"com/example/fovea/fovea/Memory$Key", "equals", "(Ljava/lang/Object;)Z"⟩ : MethodName) prog_37_method_6_code 5 (some .boolean) :: ws) ({ frames := 0, cells := 0, slots := 0, locals := 0 } : Room)) (fun a U => a = #[(.ref a_o), (.ref b_o)] ∧ Z.Warmed39 U.vm ∧ U.heap = h0) (fun _ _ _ _ _ => True) (fun _ U o U' => ∃ v L, o = .returned v ∧ Qown_eqI Z a_o b_o h0 n0 v U'.heap L ∧ FrameEnd U o U' L ({ frames := 0, cells := 0, slots := 0, locals := 0 } : Room).cells ({ frames := 0, cells := 0, slots := 0, locals := 0 } : Room).slots) := by
  refine MetFree.of_bodySF (plainFor_of_name own_pn1) hisR ?_
  intro p e s m args below meth c s₁ Bd hml0 hP hK
  obtain ⟨rfl, hZ, hh⟩ := hP
  have hx := Bd.exec
  have hby := Bd.bytes
  have hml : c.maxLocals = 5 := hml0
  have hown : s.vm.findClass "com/example/fovea/fovea/Memory$Key" = some m.cls := findClass_of_methodNamed Bd.named
  have hnm := (name_of_methodNamed Bd.named Bd.method).1
  have X0 : Stand p l e ({ frames := 0, cells := 0, slots := 0, locals := 0 } : Room) s m #[(.ref a_o), (.ref b_o)] below meth c s₁ [] 0 0 := Stand.of_body Bd
  have e0 : s₁.heap = h0 := by rw [← hh, Bd.state]; rfl
  have N0 := Fr.nil n0
  have pre0 : ∀ t, Steps p.tables e below (s₁.setTop (mkF m 0 #[.val (.ref a_o), .val (.ref b_o), .unset, .unset, .unset] [])) t → Steps p.tables e below (s₁.setTop (entryFrame m #[(.ref a_o), (.ref b_o)] 5)) t := fun t k => castTop (own_ef_own_eqI m a_o b_o) k
  obtain ⟨T3, X3, e3, st3⟩ := instNo X0 hx hZ hown (hw _ (List.mem_of_getElem? (i := 30) rfl)) e0 Eb (own_no (hw _ (List.mem_of_getElem? (i := 39) rfl)) (hw _ (List.mem_of_getElem? (i := 6) rfl)) (NS.step (hw _ (List.mem_of_getElem? (i := 39) rfl)) (NS.step (hw _ (List.mem_of_getElem? (i := 40) rfl)) (own_root (hw _ (List.mem_of_getElem? (i := 41) rfl)) (hw _ (List.mem_of_getElem? (i := 6) rfl)) (by decide)) (by decide)) (by decide)) (by decide)) (g := (mkF m 1 #[.val (.ref a_o), .val (.ref b_o), .unset, .unset, .unset] [(.ref b_o)])) rfl rfl (hb hby own_d5_1)
  obtain ⟨fs, hr, hrun, hended, hW, hsame⟩ := X3.leave (v := some (.int (0 : Int32))) (fun h => by rw [Bd.returns] at h; cases h) (hlocks := BodyLoose.notSynchronized Bd)
  refine ⟨_, _, pre0 _ ?_, hrun, hended, _, _, rfl, ?_, ⟨_, rfl⟩, hW, hsame.mono (by decide) (by decide)⟩
  · show Steps p.tables e below (s₁.setTop (mkF m 0 #[.val (.ref a_o), .val (.ref b_o), .unset, .unset, .unset] [])) _
    refine XS.aloadN X0.here hx rfl (hb hby own_d5_0) rfl rfl ?_
    show Steps p.tables e below (s₁.setTop (mkF m 1 #[.val (.ref a_o), .val (.ref b_o), .unset, .unset, .unset] [(.ref b_o)])) _
    refine st3 _ ?_
    show Steps p.tables e below (T3.setTop (mkF m 4 #[.val (.ref a_o), .val (.ref b_o), .unset, .unset, .unset] [(.int (0 : Int32))])) _
    refine XS.ifNo X3.here hx rfl (hb hby own_d5_4) rfl ((if0 _ _).trans (teq ((by decide) : (0 : Int32) = (0 : Int32))).2) ?_
    show Steps p.tables e below (T3.setTop (mkF m 7 #[.val (.ref a_o), .val (.ref b_o), .unset, .unset, .unset] [])) _
    refine XS.iconst X3.here hx rfl (hb hby own_d5_7) ?_
    show Steps p.tables e below (T3.setTop (mkF m 8 #[.val (.ref a_o), .val (.ref b_o), .unset, .unset, .unset] [(.int (0 : Int32))])) _
    exact retN X3 hx (t := .boolean) Bd.returns (by simp) (hb hby own_d5_8) hr
  · show Qown_eqI Z a_o b_o h0 n0 _ T3.heap _
    rw [e3]
    exact ⟨rfl, N0, rfl⟩
theorem own_pn2 : plainName "java/lang/Number" = true := by first | (simp [plainName, overriddenIn]; done) | decide +kernel
theorem own_ef_own_num (m : MethodId) (a_o : Addr) : entryFrame m #[(.ref a_o)] 1 = mkF m 0 #[.val (.ref a_o)] [] := by first | (simp [entryFrame, mkF, argsToLocals, Value.category]; done) | rfl
theorem own_d10_0 : decode jdk_18_method_1_code 0 = .ok (.aload_n 0, 1) := by decide +kernel
theorem own_d10_1 : decode jdk_18_method_1_code 1 = .ok (.invokespecial 1, 3) := by decide +kernel
theorem own_d10_4 : decode jdk_18_method_1_code 4 = .ok (.return_, 1) := by decide +kernel
def Qown_num (Z : State) (a_o : Addr) (h0 : Heap) (n0 : Nat) (v : Option Value) (h : Heap) (L : List Loc) : Prop := v = none ∧ Fr n0 L ∧ h = h0
set_option maxRecDepth 65536 in
set_option maxHeartbeats 40000000 in
theorem own_num (l : Launch) (Z : State) (a0 : Array Value) (hw : ∀ d ∈ tables_1, d.before a0 Z = true) (ws : List Jvm.Cond) (a_o : Addr) (h0 : Heap) (n0 : Nat) (Z0 : n0 ≤ h0.size) :
    MetFree l (⟨"java/lang/Number", "<init>", "()V"⟩ : MethodName) (head1 (Jvm.Cond.code (⟨"java/lang/Number", "<init>", "()V"⟩ : MethodName) jdk_18_method_1_code 1 none :: ws) ({ frames := 1, cells := 0, slots := 0, locals := 12 } : Room)) (fun a U => a = #[(.ref a_o)] ∧ Z.Warmed39 U.vm ∧ U.heap = h0) (fun _ _ _ _ _ => True) (fun _ U o U' => ∃ v L, o = .returned v ∧ Qown_num Z a_o h0 n0 v U'.heap L ∧ FrameEnd U o U' L ({ frames := 1, cells := 0, slots := 0, locals := 12 } : Room).cells ({ frames := 1, cells := 0, slots := 0, locals := 12 } : Room).slots) := by
  refine MetFree.of_bodySF (plainFor_of_name own_pn2) hisR ?_
  intro p e s m args below meth c s₁ Bd hml0 hP hK
  obtain ⟨rfl, hZ, hh⟩ := hP
  have hx := Bd.exec
  have hby := Bd.bytes
  have hml : c.maxLocals = 1 := hml0
  have hown : s.vm.findClass "java/lang/Number" = some m.cls := findClass_of_methodNamed Bd.named
  have hnm := (name_of_methodNamed Bd.named Bd.method).1
  have X0 : Stand p l e ({ frames := 1, cells := 0, slots := 0, locals := 12 } : Room) s m #[(.ref a_o)] below meth c s₁ [] 0 0 := Stand.of_body Bd
  have e0 : s₁.heap = h0 := by rw [← hh, Bd.state]; rfl
  have N0 := Fr.nil n0
  have pre0 : ∀ t, Steps p.tables e below (s₁.setTop (mkF m 0 #[.val (.ref a_o)] [])) t → Steps p.tables e below (s₁.setTop (entryFrame m #[(.ref a_o)] 1)) t := fun t k => castTop (own_ef_own_num m a_o) k
  obtain ⟨T3, X3, e3, st3⟩ := initO X0 hx hZ hown (hw _ (List.mem_of_getElem? (i := 60) rfl)) (hw _ (List.mem_of_getElem? (i := 12) rfl)) (hw _ (List.mem_of_getElem? (i := 13) rfl)) e0 (g := (mkF m 1 #[.val (.ref a_o)] [(.ref a_o)])) rfl (by rw [hml]; rfl) rfl (hb hby own_d10_1) (by decide) (W := 0) (by show 2 * 0 + _ ≤ _; exact Nat.le_of_eq rfl) (by decide)
  obtain ⟨fs, hr, hrun, hended, hW, hsame⟩ := X3.leave (v := none) (fun _ => rfl) (hlocks := BodyLoose.notSynchronized Bd)
  refine ⟨_, _, pre0 _ ?_, hrun, hended, _, _, rfl, ?_, ⟨_, rfl⟩, hW, hsame.mono (by decide) (by decide)⟩
  · show Steps p.tables e below (s₁.setTop (mkF m 0 #[.val (.ref a_o)] [])) _
    refine XS.aloadN X0.here hx rfl (hb hby own_d10_0) rfl rfl ?_
    show Steps p.tables e below (s₁.setTop (mkF m 1 #[.val (.ref a_o)] [(.ref a_o)])) _
    refine st3 _ ?_
    show Steps p.tables e below (T3.setTop (mkF m 4 #[.val (.ref a_o)] [])) _
    exact X3.returnOut hx Bd.returns (hb hby own_d10_4) hr
  · show Qown_num Z a_o h0 n0 _ T3.heap _
    rw [e3]
    exact ⟨rfl, N0, rfl⟩
theorem own_pn3 : plainName "java/lang/Integer" = true := by first | (simp [plainName, overriddenIn]; done) | decide +kernel
theorem own_ef_own_int (m : MethodId) (a_o : Addr) (x_1 : Int32) : entryFrame m #[(.ref a_o), (.int x_1)] 2 = mkF m 0 #[.val (.ref a_o), .val (.int x_1)] [] := by first | (simp [entryFrame, mkF, argsToLocals, Value.category]; done) | rfl
theorem own_pd0 : parseMethodDescriptor "()V" = some ⟨[], none⟩ := by decide +kernel
theorem own_d9_0 : decode jdk_33_method_23_code 0 = .ok (.aload_n 0, 1) := by decide +kernel
theorem own_d9_1 : decode jdk_33_method_23_code 1 = .ok (.invokespecial 202, 3) := by decide +kernel
theorem own_d9_4 : decode jdk_33_method_23_code 4 = .ok (.aload_n 0, 1) := by decide +kernel
theorem own_d9_5 : decode jdk_33_method_23_code 5 = .ok (.iload_n 1, 1) := by decide +kernel
theorem own_d9_6 : decode jdk_33_method_23_code 6 = .ok (.putfield 205, 3) := by decide +kernel
theorem own_d9_9 : decode jdk_33_method_23_code 9 = .ok (.return_, 1) := by decide +kernel
def Qown_int (Z : State) (a_o : Addr) (x_1 : Int32) (h0 : Heap) (n0 : Nat) (v : Option Value) (h : Heap) (L : List Loc) : Prop := v = none ∧ Fr n0 L ∧ Keep h0 h [a_o] ∧ Exa Z h a_o "java/lang/Integer"
set_option maxRecDepth 65536 in
set_option maxHeartbeats 40000000 in
theorem own_int (l : Launch) (Z : State) (a0 : Array Value) (hw : ∀ d ∈ tables_1, d.before a0 Z = true) (ws : List Jvm.Cond) (a_o : Addr) (x_1 : Int32) (h0 : Heap) (n0 : Nat) (Z0 : n0 ≤ h0.size) (Eo : Exa Z h0 a_o "java/lang/Integer") (F_v : Fld Z h0 a_o "java/lang/Integer" "value" "I" (.int (0 : Int32))) (ga : n0 ≤ a_o) :
    MetFree l (⟨"java/lang/Integer", "<init>", "(I)V"⟩ : MethodName) (head1 (Jvm.Cond.code (⟨"java/lang/Integer", "<init>", "(I)V"⟩ : MethodName) jdk_33_method_23_code 2 none :: ws) ({ frames := 2, cells := 0, slots := 0, locals := 24 } : Room)) (fun a U => a = #[(.ref a_o), (.int x_1)] ∧ Z.Warmed39 U.vm ∧ U.heap = h0) (fun _ _ _ _ _ => True) (fun _ U o U' => ∃ v L, o = .returned v ∧ Qown_int Z a_o x_1 h0 n0 v U'.heap L ∧ FrameEnd U o U' L ({ frames := 2, cells := 0, slots := 0, locals := 24 } : Room).cells ({ frames := 2, cells := 0, slots := 0, locals := 24 } : Room).slots) := by
  refine MetFree.of_bodySF (plainFor_of_name own_pn3) hisR ?_
  intro p e s m args below meth c s₁ Bd hml0 hP hK
  obtain ⟨rfl, hZ, hh⟩ := hP
  have hx := Bd.exec
  have hby := Bd.bytes
  have hml : c.maxLocals = 2 := hml0
  have hown : s.vm.findClass "java/lang/Integer" = some m.cls := findClass_of_methodNamed Bd.named
  have hnm := (name_of_methodNamed Bd.named Bd.method).1
  have X0 : Stand p l e ({ frames := 2, cells := 0, slots := 0, locals := 24 } : Room) s m #[(.ref a_o), (.int x_1)] below meth c s₁ [] 0 0 := Stand.of_body Bd
  have e0 : s₁.heap = h0 := by rw [← hh, Bd.state]; rfl
  have N0 := Fr.nil n0
  have pre0 : ∀ t, Steps p.tables e below (s₁.setTop (mkF m 0 #[.val (.ref a_o), .val (.int x_1)] [])) t → Steps p.tables e below (s₁.setTop (entryFrame m #[(.ref a_o), (.int x_1)] 2)) t := fun t k => castTop (own_ef_own_int m a_o x_1) k
  obtain ⟨_, _, ⟨T3, L3, k3, n3⟩, -, X3, ⟨Lc3, hQ3, l3, y3, z3⟩, st3⟩ := X0.specialBack hx (y := (⟨"java/lang/Number", "<init>", "()V"⟩ : MethodName)) rfl hown (mvT hZ (hw _ (List.mem_of_getElem? (i := 54) rfl))) (mvT hZ (hw _ (List.mem_of_getElem? (i := 55) rfl))) (mvT hZ (hw _ (List.mem_of_getElem? (i := 59) rfl))) (by decide) (backOf (W := 0) (own_num l Z a0 hw [] a_o h0 n0 Z0 ) hZ (hw _ (List.mem_of_getElem? (i := 59) rfl)) (hw _ (List.mem_of_getElem? (i := 58) rfl)) (by decide) (by decide)) (g := (mkF m 1 #[.val (.ref a_o), .val (.int x_1)] [(.ref a_o)])) rfl (by rw [hml]; rfl) (Steps.refl _) (a := a_o) (argsL := []) (rest := []) (lenOf own_pd0 rfl) rfl (by show 2 * 0 + _ ≤ _; exact Nat.le_of_eq rfl) (hb hby own_d9_1) (fun _ _ => ⟨rfl, e0, (by decide : 0 + 0 ≤ _), (by decide : 0 + 0 ≤ _)⟩)
  dsimp only [Pt.U, Pt.locs, Pt.cells, Pt.slots] at X3 l3 y3 z3 st3 hQ3
  rw [l3, y3, z3] at X3
  obtain ⟨rfl, Nq3, eh3⟩ := hQ3
  have N4 := Fr.app N0 Nq3
  obtain ⟨T8, h8, X8, e8, W8, st8⟩ := putF X3 hx hZ hown (host := "") (Or.inl (hw _ (List.mem_of_getElem? (i := 61) rfl))) Via.refl eh3 F_v Eo (Or.inr ⟨(hw _ (List.mem_of_getElem? (i := 62) rfl)), rfl, hnm⟩) (hw _ (List.mem_of_getElem? (i := 49) rfl)) (ty := .int) (by decide) rfl rfl (g := (mkF m 6 #[.val (.ref a_o), .val (.int x_1)] [(.int x_1), (.ref a_o)])) rfl rfl (hb hby own_d9_6)
  have Kc9 : Keep h0 h8 [a_o] := (Keep.refl h0 [a_o]).wr W8 (Or.inl (List.mem_of_getElem? (i := 0) rfl))
  have Zs10 : n0 ≤ h8.size := Nat.le_trans Z0 (Keep.of_wr W8).1
  have N11 := Fr.snoc X8 N4 ga
  have Fw8 : Fld Z h8 a_o "java/lang/Integer" "value" "I" (.int x_1) := F_v.same W8
  obtain ⟨fs, hr, hrun, hended, hW, hsame⟩ := X8.leave (v := none) (fun _ => rfl) (hlocks := BodyLoose.notSynchronized Bd)
  refine ⟨_, _, pre0 _ ?_, hrun, hended, _, _, rfl, ?_, ⟨_, rfl⟩, hW, hsame.mono (by decide) (by decide)⟩
  · show Steps p.tables e below (s₁.setTop (mkF m 0 #[.val (.ref a_o), .val (.int x_1)] [])) _
    refine XS.aloadN X0.here hx rfl (hb hby own_d9_0) rfl rfl ?_
    show Steps p.tables e below (s₁.setTop (mkF m 1 #[.val (.ref a_o), .val (.int x_1)] [(.ref a_o)])) _
    refine st3.trans ?_
    show Steps p.tables e below (T3.setTop (mkF m 4 #[.val (.ref a_o), .val (.int x_1)] [])) _
    refine XS.aloadN X3.here hx rfl (hb hby own_d9_4) rfl rfl ?_
    show Steps p.tables e below (T3.setTop (mkF m 5 #[.val (.ref a_o), .val (.int x_1)] [(.ref a_o)])) _
    refine XS.iloadN X3.here hx rfl (hb hby own_d9_5) rfl ?_
    show Steps p.tables e below (T3.setTop (mkF m 6 #[.val (.ref a_o), .val (.int x_1)] [(.int x_1), (.ref a_o)])) _
    refine st8 _ ?_
    show Steps p.tables e below (T8.setTop (mkF m 9 #[.val (.ref a_o), .val (.int x_1)] [])) _
    exact X8.returnOut hx Bd.returns (hb hby own_d9_9) hr
  · show Qown_int Z a_o x_1 h0 n0 _ T8.heap _
    rw [e8]
    have Fq13 : Exa Z h8 a_o "java/lang/Integer" := (Eo.wr W8)
    exact ⟨rfl, N11, Kc9, Fq13⟩
def own_Cache (Z : State) (vs : List Value) : Prop := ∀ j : Int32, ¬ j < 0 ∧ j < 256 → ∃ x : Addr, vs.getD j.toNatClampNeg .null = .ref x ∧ Exa Z Z.heap x "java/lang/Integer"
theorem own_ef_own_vo (m : MethodId) (p_1 : Int32) : entryFrame m #[(.int p_1)] 1 = mkF m 0 #[.val (.int p_1)] [] := by first | (simp [entryFrame, mkF, argsToLocals, Value.category]; done) | rfl
theorem own_pd1 : parseMethodDescriptor "(I)V" = some ⟨[.int], none⟩ := by decide +kernel
theorem own_d6_0 : decode jdk_33_method_22_code 0 = .ok (.iload_n 0, 1) := by decide +kernel
theorem own_d6_1 : decode jdk_33_method_22_code 1 = .ok (.bipush (-128), 2) := by decide +kernel
theorem own_d6_3 : decode jdk_33_method_22_code 3 = .ok (.if_icmp .lt 20, 3) := by decide +kernel
theorem own_d6_6 : decode jdk_33_method_22_code 6 = .ok (.iload_n 0, 1) := by decide +kernel
theorem own_d6_7 : decode jdk_33_method_22_code 7 = .ok (.getstatic 191, 3) := by decide +kernel
theorem own_d6_10 : decode jdk_33_method_22_code 10 = .ok (.if_icmp .gt 13, 3) := by decide +kernel
theorem own_d6_13 : decode jdk_33_method_22_code 13 = .ok (.getstatic 195, 3) := by decide +kernel
theorem own_d6_16 : decode jdk_33_method_22_code 16 = .ok (.iload_n 0, 1) := by decide +kernel
theorem own_d6_17 : decode jdk_33_method_22_code 17 = .ok (.sipush 128, 3) := by decide +kernel
theorem own_d6_20 : decode jdk_33_method_22_code 20 = .ok (.iadd, 1) := by decide +kernel
theorem own_d6_21 : decode jdk_33_method_22_code 21 = .ok (.aaload, 1) := by decide +kernel
theorem own_d6_22 : decode jdk_33_method_22_code 22 = .ok (.areturn, 1) := by decide +kernel
theorem own_d6_23 : decode jdk_33_method_22_code 23 = .ok (.new 1, 3) := by decide +kernel
theorem own_d6_26 : decode jdk_33_method_22_code 26 = .ok (.dup, 1) := by decide +kernel
theorem own_d6_27 : decode jdk_33_method_22_code 27 = .ok (.iload_n 0, 1) := by decide +kernel
theorem own_d6_28 : decode jdk_33_method_22_code 28 = .ok (.invokespecial 199, 3) := by decide +kernel
theorem own_d6_31 : decode jdk_33_method_22_code 31 = .ok (.areturn, 1) := by decide +kernel
def Qown_vo (Z : State) (p_1 : Int32) (w_c : Addr) (k_c : ClassId) (vs_c : List Value) (h0 : Heap) (n0 : Nat) (v : Option Value) (h : Heap) (L : List Loc) : Prop := ∃ r_o : Addr, v = some (.ref r_o) ∧ Fr n0 L ∧ Keep h0 h [] ∧ Exa Z h r_o "java/lang/Integer"
set_option maxRecDepth 65536 in
set_option maxHeartbeats 40000000 in
theorem own_vo (l : Launch) (Z : State) (a0 : Array Value) (hw : ∀ d ∈ tables_1, d.before a0 Z = true) (ws : List Jvm.Cond) (p_1 : Int32) (w_c : Addr) (k_c : ClassId) (vs_c : List Value) (h0 : Heap) (n0 : Nat) (Z0 : n0 ≤ h0.size) (O0 : Old Z n0 h0) (S_h : Sta Z Z.heap "java/lang/Integer$IntegerCache" "high" "I" (.int (127 : Int32))) (S_c : Sta Z Z.heap "java/lang/Integer$IntegerCache" "cache" "[Ljava/lang/Integer;" (.ref w_c)) (V_c : Arv Z h0 w_c k_c (.object "java/lang/Integer") (256 : Int32) vs_c .null) (hall : own_Cache Z vs_c) :
    MetFree l (⟨"java/lang/Integer", "valueOf", "(I)Ljava/lang/Integer;"⟩ : MethodName) (head1 (Jvm.Cond.code (⟨"java/lang/Integer", "valueOf", "(I)Ljava/lang/Integer;"⟩ : MethodName) jdk_33_method_22_code 1 (some (.object "java/lang/Integer")) :: ws) ({ frames := 3, cells := 1, slots := 1, locals := 38 } : Room)) (fun a U => a = #[(.int p_1)] ∧ Z.Warmed39 U.vm ∧ U.heap = h0) (fun _ _ _ _ _ => True) (fun _ U o U' => ∃ v L, o = .returned v ∧ Qown_vo Z p_1 w_c k_c vs_c h0 n0 v U'.heap L ∧ FrameEnd U o U' L ({ frames := 3, cells := 1, slots := 1, locals := 38 } : Room).cells ({ frames := 3, cells := 1, slots := 1, locals := 38 } : Room).slots) := by
  refine MetFree.of_bodySF (plainFor_of_name own_pn3) hisR ?_
  intro p e s m args below meth c s₁ Bd hml0 hP hK
  obtain ⟨rfl, hZ, hh⟩ := hP
  have hx := Bd.exec
  have hby := Bd.bytes
  have hml : c.maxLocals = 1 := hml0
  have hown : s.vm.findClass "java/lang/Integer" = some m.cls := findClass_of_methodNamed Bd.named
  have hnm := (name_of_methodNamed Bd.named Bd.method).1
  have X0 : Stand p l e ({ frames := 3, cells := 1, slots := 1, locals := 38 } : Room) s m #[(.int p_1)] below meth c s₁ [] 0 0 := Stand.of_body Bd
  have e0 : s₁.heap = h0 := by rw [← hh, Bd.state]; rfl
  have N0 := Fr.nil n0
  have pre0 : ∀ t, Steps p.tables e below (s₁.setTop (mkF m 0 #[.val (.int p_1)] [])) t → Steps p.tables e below (s₁.setTop (entryFrame m #[(.int p_1)] 1)) t := fun t k => castTop (own_ef_own_vo m p_1) k
  have pre4 : ∀ t, Steps p.tables e below (s₁.setTop (mkF m 3 #[.val (.int p_1)] [(.int (-128 : Int32)), (.int p_1)])) t → Steps p.tables e below (s₁.setTop (entryFrame m #[(.int p_1)] 1)) t := by
    intro t kt
    refine pre0 _ ?_
    show Steps p.tables e below (s₁.setTop (mkF m 0 #[.val (.int p_1)] [])) _
    refine XS.iloadN X0.here hx rfl (hb hby own_d6_0) rfl ?_
    show Steps p.tables e below (s₁.setTop (mkF m 1 #[.val (.int p_1)] [(.int p_1)])) _
    refine XS.bipush X0.here hx rfl (hb hby own_d6_1) ?_
    exact kt
  by_cases hc3_5 : p_1 < (-128 : Int32)
  · obtain ⟨T7, h7, X7, e7, E7, A7, D7, -, st7⟩ := newO X0 hx hZ hown (hw _ (List.mem_of_getElem? (i := 48) rfl)) (hw _ (List.mem_of_getElem? (i := 49) rfl)) (hw _ (List.mem_of_getElem? (i := 34) rfl)) e0 (g := (mkF m 23 #[.val (.int p_1)] [])) rfl (hb hby own_d6_23) (by decide) (by decide)
    obtain ⟨b7, g7⟩ : ∃ z, z = h0.size := ⟨_, rfl⟩
    rw [← g7] at A7 D7 st7
    have Ne8 : w_c ≠ b7 := Nat.ne_of_lt (Nat.lt_of_lt_of_le V_c.lt (Nat.le_of_eq g7.symm))
    have Ge9 : n0 ≤ b7 := Nat.le_trans Z0 (Nat.le_of_eq g7.symm)
    have Sz10 : h0.size ≤ b7 := Nat.le_trans (Keep.refl h0 []).1 (Nat.le_of_eq g7.symm)
    have Kc11 : Keep h0 h7 [] := (Keep.refl h0 []).ext E7
    have Zs12 : n0 ≤ h7.size := (Nat.le_trans Z0 E7.1)
    have F7_value : Fld Z h7 b7 "java/lang/Integer" "value" "I" (.int (0 : Int32)) := D7 (Or.inr (hw _ (List.mem_of_getElem? (i := 62) rfl))) (ty := .int) (by decide)
    obtain ⟨_, _, ⟨T16, L16, k16, n16⟩, -, X16, ⟨Lc16, hQ16, l16, y16, z16⟩, st16⟩ := X7.specialBack hx (y := (⟨"java/lang/Integer", "<init>", "(I)V"⟩ : MethodName)) rfl hown (mvT hZ (hw _ (List.mem_of_getElem? (i := 50) rfl))) (mvT hZ (hw _ (List.mem_of_getElem? (i := 51) rfl))) (mvT hZ (hw _ (List.mem_of_getElem? (i := 53) rfl))) (by decide) (backOf (W := 1) (own_int l Z a0 hw [] b7 p_1 h7 n0 Zs12 A7 F7_value Ge9) hZ (hw _ (List.mem_of_getElem? (i := 53) rfl)) (hw _ (List.mem_of_getElem? (i := 34) rfl)) (by decide) (by decide)) (g := (mkF m 28 #[.val (.int p_1)] [(.int p_1), (.ref b7), (.ref b7)])) rfl (by rw [hml]; rfl) (Steps.refl _) (a := b7) (argsL := [(.int p_1)]) (rest := [(.ref b7)]) (lenOf own_pd1 rfl) rfl (by show 2 * 0 + _ ≤ _; exact Nat.le_of_eq rfl) (hb hby own_d6_28) (fun _ _ => ⟨rfl, e7, (by decide : 1 + 0 ≤ _), (by decide : 1 + 0 ≤ _)⟩)
    dsimp only [Pt.U, Pt.locs, Pt.cells, Pt.slots] at X16 l16 y16 z16 st16 hQ16
    rw [l16, y16, z16] at X16
    obtain ⟨rfl, Nq16, K16, Pf16_0⟩ := hQ16
    have N17 := Fr.app N0 Nq16
    have Kc18 : Keep h0 T16.heap [] := Kc11.trans K16 (allS (Or.inr Sz10) all0)
    have Zs19 : n0 ≤ T16.heap.size := Nat.le_trans Zs12 K16.1
    obtain ⟨fs, hr, hrun, hended, hW, hsame⟩ := X16.leave (v := some (.ref b7)) (fun h => by rw [Bd.returns] at h; cases h) (hlocks := BodyLoose.notSynchronized Bd)
    refine ⟨_, _, pre4 _ ?_, hrun, hended, _, _, rfl, ?_, ⟨_, rfl⟩, hW, hsame.mono (by decide) (by decide)⟩
    · show Steps p.tables e below (s₁.setTop (mkF m 3 #[.val (.int p_1)] [(.int (-128 : Int32)), (.int p_1)])) _
      refine XS.icmpYes X0.here hx rfl (pc0 := 3) (pc' := 23) rfl (hb hby own_d6_3) rfl (tlt hc3_5).1 (by decide) (by decide) ?_
      show Steps p.tables e below (s₁.setTop (mkF m 23 #[.val (.int p_1)] [])) _
      refine st7 _ ?_
      show Steps p.tables e below (T7.setTop (mkF m 26 #[.val (.int p_1)] [(.ref b7)])) _
      refine XS.dup X7.here hx rfl (hb hby own_d6_26) rfl rfl ?_
      show Steps p.tables e below (T7.setTop (mkF m 27 #[.val (.int p_1)] [(.ref b7), (.ref b7)])) _
      refine XS.iloadN X7.here hx rfl (hb hby own_d6_27) rfl ?_
      show Steps p.tables e below (T7.setTop (mkF m 28 #[.val (.int p_1)] [(.int p_1), (.ref b7), (.ref b7)])) _
      refine st16.trans ?_
      show Steps p.tables e below (T16.setTop (mkF m 31 #[.val (.int p_1)] [(.ref b7)])) _
      jvm_step X16.here [X16.here.top, hx, (hb hby own_d6_31), X16.method', Bd.returns, Value.isRef, FieldType.isReference]
      first | (intro acts; rw [hr _ acts rfl rfl rfl]) | rw [hr _ _ rfl rfl rfl]
      exact Steps.refl _
    · show Qown_vo Z p_1 w_c k_c vs_c h0 n0 _ T16.heap _
      exact ⟨b7, rfl, N17, Kc18, Pf16_0⟩
  · obtain ⟨T23, X23, e23, st23⟩ := getS2 X0 hx hZ hown (host := "") (Or.inl (hw _ (List.mem_of_getElem? (i := 36) rfl))) Via.refl e0 (S_h.ext O0.2) (g := (mkF m 7 #[.val (.int p_1)] [(.int p_1)])) rfl (hb hby own_d6_7)
    have pre25 : ∀ t, Steps p.tables e below (T23.setTop (mkF m 10 #[.val (.int p_1)] [(.int (127 : Int32)), (.int p_1)])) t → Steps p.tables e below (s₁.setTop (entryFrame m #[(.int p_1)] 1)) t := by
      intro t kt
      refine pre4 _ ?_
      show Steps p.tables e below (s₁.setTop (mkF m 3 #[.val (.int p_1)] [(.int (-128 : Int32)), (.int p_1)])) _
      refine XS.icmpNo X0.here hx rfl (hb hby own_d6_3) rfl (flt hc3_5).1 ?_
      show Steps p.tables e below (s₁.setTop (mkF m 6 #[.val (.int p_1)] [])) _
      refine XS.iloadN X0.here hx rfl (hb hby own_d6_6) rfl ?_
      show Steps p.tables e below (s₁.setTop (mkF m 7 #[.val (.int p_1)] [(.int p_1)])) _
      refine st23 _ ?_
      exact kt
    by_cases hc10_26 : (127 : Int32) < p_1
    · obtain ⟨T28, h28, X28, e28, E28, A28, D28, -, st28⟩ := newO X23 hx hZ hown (hw _ (List.mem_of_getElem? (i := 48) rfl)) (hw _ (List.mem_of_getElem? (i := 49) rfl)) (hw _ (List.mem_of_getElem? (i := 34) rfl)) e23 (g := (mkF m 23 #[.val (.int p_1)] [])) rfl (hb hby own_d6_23) (by decide) (by decide)
      obtain ⟨b28, g28⟩ : ∃ z, z = h0.size := ⟨_, rfl⟩
      rw [← g28] at A28 D28 st28
      have Ne29 : w_c ≠ b28 := Nat.ne_of_lt (Nat.lt_of_lt_of_le V_c.lt (Nat.le_of_eq g28.symm))
      have Ge30 : n0 ≤ b28 := Nat.le_trans Z0 (Nat.le_of_eq g28.symm)
      have Sz31 : h0.size ≤ b28 := Nat.le_trans (Keep.refl h0 []).1 (Nat.le_of_eq g28.symm)
      have Kc32 : Keep h0 h28 [] := (Keep.refl h0 []).ext E28
      have Zs33 : n0 ≤ h28.size := (Nat.le_trans Z0 E28.1)
      have F28_value : Fld Z h28 b28 "java/lang/Integer" "value" "I" (.int (0 : Int32)) := D28 (Or.inr (hw _ (List.mem_of_getElem? (i := 62) rfl))) (ty := .int) (by decide)
      obtain ⟨_, _, ⟨T37, L37, k37, n37⟩, -, X37, ⟨Lc37, hQ37, l37, y37, z37⟩, st37⟩ := X28.specialBack hx (y := (⟨"java/lang/Integer", "<init>", "(I)V"⟩ : MethodName)) rfl hown (mvT hZ (hw _ (List.mem_of_getElem? (i := 50) rfl))) (mvT hZ (hw _ (List.mem_of_getElem? (i := 51) rfl))) (mvT hZ (hw _ (List.mem_of_getElem? (i := 53) rfl))) (by decide) (backOf (W := 1) (own_int l Z a0 hw [] b28 p_1 h28 n0 Zs33 A28 F28_value Ge30) hZ (hw _ (List.mem_of_getElem? (i := 53) rfl)) (hw _ (List.mem_of_getElem? (i := 34) rfl)) (by decide) (by decide)) (g := (mkF m 28 #[.val (.int p_1)] [(.int p_1), (.ref b28), (.ref b28)])) rfl (by rw [hml]; rfl) (Steps.refl _) (a := b28) (argsL := [(.int p_1)]) (rest := [(.ref b28)]) (lenOf own_pd1 rfl) rfl (by show 2 * 0 + _ ≤ _; exact Nat.le_of_eq rfl) (hb hby own_d6_28) (fun _ _ => ⟨rfl, e28, (by decide : 1 + 0 ≤ _), (by decide : 1 + 0 ≤ _)⟩)
      dsimp only [Pt.U, Pt.locs, Pt.cells, Pt.slots] at X37 l37 y37 z37 st37 hQ37
      rw [l37, y37, z37] at X37
      obtain ⟨rfl, Nq37, K37, Pf37_0⟩ := hQ37
      have N38 := Fr.app N0 Nq37
      have Kc39 : Keep h0 T37.heap [] := Kc32.trans K37 (allS (Or.inr Sz31) all0)
      have Zs40 : n0 ≤ T37.heap.size := Nat.le_trans Zs33 K37.1
      obtain ⟨fs, hr, hrun, hended, hW, hsame⟩ := X37.leave (v := some (.ref b28)) (fun h => by rw [Bd.returns] at h; cases h) (hlocks := BodyLoose.notSynchronized Bd)
      refine ⟨_, _, pre25 _ ?_, hrun, hended, _, _, rfl, ?_, ⟨_, rfl⟩, hW, hsame.mono (by decide) (by decide)⟩
      · show Steps p.tables e below (T23.setTop (mkF m 10 #[.val (.int p_1)] [(.int (127 : Int32)), (.int p_1)])) _
        refine XS.icmpYes X23.here hx rfl (pc0 := 10) (pc' := 23) rfl (hb hby own_d6_10) rfl (tlt hc10_26).2.2.1 (by decide) (by decide) ?_
        show Steps p.tables e below (T23.setTop (mkF m 23 #[.val (.int p_1)] [])) _
        refine st28 _ ?_
        show Steps p.tables e below (T28.setTop (mkF m 26 #[.val (.int p_1)] [(.ref b28)])) _
        refine XS.dup X28.here hx rfl (hb hby own_d6_26) rfl rfl ?_
        show Steps p.tables e below (T28.setTop (mkF m 27 #[.val (.int p_1)] [(.ref b28), (.ref b28)])) _
        refine XS.iloadN X28.here hx rfl (hb hby own_d6_27) rfl ?_
        show Steps p.tables e below (T28.setTop (mkF m 28 #[.val (.int p_1)] [(.int p_1), (.ref b28), (.ref b28)])) _
        refine st37.trans ?_
        show Steps p.tables e below (T37.setTop (mkF m 31 #[.val (.int p_1)] [(.ref b28)])) _
        jvm_step X37.here [X37.here.top, hx, (hb hby own_d6_31), X37.method', Bd.returns, Value.isRef, FieldType.isReference]
        first | (intro acts; rw [hr _ acts rfl rfl rfl]) | rw [hr _ _ rfl rfl rfl]
        exact Steps.refl _
      · show Qown_vo Z p_1 w_c k_c vs_c h0 n0 _ T37.heap _
        exact ⟨b28, rfl, N38, Kc39, Pf37_0⟩
    · obtain ⟨T43, X43, e43, st43⟩ := getS2 X23 hx hZ hown (host := "") (Or.inl (hw _ (List.mem_of_getElem? (i := 38) rfl))) Via.refl e23 (S_c.ext O0.2) (g := (mkF m 13 #[.val (.int p_1)] [])) rfl (hb hby own_d6_13)
      obtain ⟨x_e, hx1, hx2⟩ := hall (p_1 + (128 : Int32)) (own_cb hc3_5 hc10_26)
      obtain ⟨cl48, Ar48, q48, S48, M48, H48, G48⟩ := id V_c
      have hin48 : ¬ ((p_1 + (128 : Int32)) < 0 ∨ cl48.slots.size ≤ ((p_1 + (128 : Int32))).toNatClampNeg) := inb_of S48 (own_cb hc3_5 hc10_26)
      have hat48 : cl48.slots[((p_1 + (128 : Int32))).toNatClampNeg]? = some (.ref x_e) := H48.at hin48 hx1
      obtain ⟨fs, hr, hrun, hended, hW, hsame⟩ := X43.leave (v := some (.ref x_e)) (fun h => by rw [Bd.returns] at h; cases h) (hlocks := BodyLoose.notSynchronized Bd)
      refine ⟨_, _, pre25 _ ?_, hrun, hended, _, _, rfl, ?_, ⟨_, rfl⟩, hW, hsame.mono (by decide) (by decide)⟩
      · show Steps p.tables e below (T23.setTop (mkF m 10 #[.val (.int p_1)] [(.int (127 : Int32)), (.int p_1)])) _
        refine XS.icmpNo X23.here hx rfl (hb hby own_d6_10) rfl (flt hc10_26).2.2.1 ?_
        show Steps p.tables e below (T23.setTop (mkF m 13 #[.val (.int p_1)] [])) _
        refine st43 _ ?_
        show Steps p.tables e below (T43.setTop (mkF m 16 #[.val (.int p_1)] [(.ref w_c)])) _
        refine XS.iloadN X43.here hx rfl (hb hby own_d6_16) rfl ?_
        show Steps p.tables e below (T43.setTop (mkF m 17 #[.val (.int p_1)] [(.int p_1), (.ref w_c)])) _
        refine XS.sipush X43.here hx rfl (hb hby own_d6_17) ?_
        show Steps p.tables e below (T43.setTop (mkF m 20 #[.val (.int p_1)] [(.int (128 : Int32)), (.int p_1), (.ref w_c)])) _
        refine XS.iadd X43.here hx rfl (hb hby own_d6_20) rfl ?_
        show Steps p.tables e below (T43.setTop (mkF m 21 #[.val (.int p_1)] [(.int (p_1 + (128 : Int32))), (.ref w_c)])) _
        refine X43.aaload hx (j := (p_1 + (128 : Int32))) (v := (.ref x_e)) (by rw [e43]; exact Ar48.1) (State.isArrayOf_alike hZ.alike Ar48.2.1) rfl Ar48.2.2 hin48 hat48 (g := (mkF m 21 #[.val (.int p_1)] [(.int (p_1 + (128 : Int32))), (.ref w_c)])) rfl rfl (hb hby own_d6_21) _ ?_
        show Steps p.tables e below (T43.setTop (mkF m 22 #[.val (.int p_1)] [(.ref x_e)])) _
        jvm_step X43.here [X43.here.top, hx, (hb hby own_d6_22), X43.method', Bd.returns, Value.isRef, FieldType.isReference]
        first | (intro acts; rw [hr _ acts rfl rfl rfl]) | rw [hr _ _ rfl rfl rfl]
        exact Steps.refl _
      · show Qown_vo Z p_1 w_c k_c vs_c h0 n0 _ T43.heap _
        rw [e43]
        exact ⟨x_e, rfl, N0, (Keep.refl h0 []), (hx2.ext O0.2)⟩
theorem own_ef_own_v1 (m : MethodId) (p0 : Int32) (p1 : Int32) (p2 : Int32) (p3 : Int32) (p4 : Int32) : entryFrame m #[(.int p0), (.int p1), (.int p2), (.int p3), (.int p4)] 5 = mkF m 0 #[.val (.int p0), .val (.int p1), .val (.int p2), .val (.int p3), .val (.int p4)] [] := by first | (simp [entryFrame, mkF, argsToLocals, Value.category]; done) | rfl
theorem own_d7_0 : decode method_4_code 0 = .ok (.iload 4, 2) := by decide +kernel
theorem own_d7_2 : decode method_4_code 2 = .ok (.ifCond .ne 5, 3) := by decide +kernel
theorem own_d7_5 : decode method_4_code 5 = .ok (.iload_n 0, 1) := by decide +kernel
theorem own_d7_6 : decode method_4_code 6 = .ok (.ireturn, 1) := by decide +kernel
theorem own_d7_7 : decode method_4_code 7 = .ok (.iload 4, 2) := by decide +kernel
theorem own_d7_9 : decode method_4_code 9 = .ok (.iconst 1, 1) := by decide +kernel
theorem own_d7_10 : decode method_4_code 10 = .ok (.if_icmp .ne 5, 3) := by decide +kernel
theorem own_d7_13 : decode method_4_code 13 = .ok (.iload_n 1, 1) := by decide +kernel
theorem own_d7_14 : decode method_4_code 14 = .ok (.ireturn, 1) := by decide +kernel
theorem own_d7_15 : decode method_4_code 15 = .ok (.iload 4, 2) := by decide +kernel
theorem own_d7_17 : decode method_4_code 17 = .ok (.iconst 2, 1) := by decide +kernel
theorem own_d7_18 : decode method_4_code 18 = .ok (.if_icmp .ne 5, 3) := by decide +kernel
theorem own_d7_21 : decode method_4_code 21 = .ok (.iload_n 2, 1) := by decide +kernel
theorem own_d7_22 : decode method_4_code 22 = .ok (.ireturn, 1) := by decide +kernel
theorem own_d7_23 : decode method_4_code 23 = .ok (.iload_n 3, 1) := by decide +kernel
theorem own_d7_24 : decode method_4_code 24 = .ok (.ireturn, 1) := by decide +kernel
def own_v1_f (p0 : Int32) (p1 : Int32) (p2 : Int32) (p3 : Int32) (p4 : Int32) : Int32 := (if p4 = (0 : Int32) then p0 else (if p4 = (1 : Int32) then p1 else (if p4 = (2 : Int32) then p2 else p3)))
def Qown_v1 (Z : State) (p0 : Int32) (p1 : Int32) (p2 : Int32) (p3 : Int32) (p4 : Int32) (h0 : Heap) (n0 : Nat) (v : Option Value) (h : Heap) (L : List Loc) : Prop := v = some (.int (own_v1_f p0 p1 p2 p3 p4)) ∧ Fr n0 L ∧ h = h0
set_option maxRecDepth 65536 in
set_option maxHeartbeats 40000000 in
theorem own_v1 (l : Launch) (Z : State) (a0 : Array Value) (hw : ∀ d ∈ tables_1, d.before a0 Z = true) (ws : List Jvm.Cond) (p0 : Int32) (p1 : Int32) (p2 : Int32) (p3 : Int32) (p4 : Int32) (h0 : Heap) (n0 : Nat) (Z0 : n0 ≤ h0.size) :
    MetFree l (⟨"com/example/fovea/fovea/KeyEqualsPinLaw", "v1", "(IIIII)I"⟩ : MethodName) (head1 (Jvm.Cond.code (⟨"com/example/fovea/fovea/KeyEqualsPinLaw", "v1", "(IIIII)I"⟩ : MethodName) method_4_code 5 (some .int) :: ws) ({ frames := 0, cells := 0, slots := 0, locals := 0 } : Room)) (fun a U => a = #[(.int p0), (.int p1), (.int p2), (.int p3), (.int p4)] ∧ Z.Warmed39 U.vm ∧ U.heap = h0) (fun _ _ _ _ _ => True) (fun _ U o U' => ∃ v L, o = .returned v ∧ Qown_v1 Z p0 p1 p2 p3 p4 h0 n0 v U'.heap L ∧ FrameEnd U o U' L ({ frames := 0, cells := 0, slots := 0, locals := 0 } : Room).cells ({ frames := 0, cells := 0, slots := 0, locals := 0 } : Room).slots) := by
  refine MetFree.of_bodySF (plainFor_of_name own_pn0) hisR ?_
  intro p e s m args below meth c s₁ Bd hml0 hP hK
  obtain ⟨rfl, hZ, hh⟩ := hP
  have hx := Bd.exec
  have hby := Bd.bytes
  have hml : c.maxLocals = 5 := hml0
  have hown : s.vm.findClass "com/example/fovea/fovea/KeyEqualsPinLaw" = some m.cls := findClass_of_methodNamed Bd.named
  have hnm := (name_of_methodNamed Bd.named Bd.method).1
  have X0 : Stand p l e ({ frames := 0, cells := 0, slots := 0, locals := 0 } : Room) s m #[(.int p0), (.int p1), (.int p2), (.int p3), (.int p4)] below meth c s₁ [] 0 0 := Stand.of_body Bd
  have e0 : s₁.heap = h0 := by rw [← hh, Bd.state]; rfl
  have N0 := Fr.nil n0
  have pre0 : ∀ t, Steps p.tables e below (s₁.setTop (mkF m 0 #[.val (.int p0), .val (.int p1), .val (.int p2), .val (.int p3), .val (.int p4)] [])) t → Steps p.tables e below (s₁.setTop (entryFrame m #[(.int p0), (.int p1), (.int p2), (.int p3), (.int p4)] 5)) t := fun t k => castTop (own_ef_own_v1 m p0 p1 p2 p3 p4) k
  have pre3 : ∀ t, Steps p.tables e below (s₁.setTop (mkF m 2 #[.val (.int p0), .val (.int p1), .val (.int p2), .val (.int p3), .val (.int p4)] [(.int p4)])) t → Steps p.tables e below (s₁.setTop (entryFrame m #[(.int p0), (.int p1), (.int p2), (.int p3), (.int p4)] 5)) t := by
    intro t kt
    refine pre0 _ ?_
    show Steps p.tables e below (s₁.setTop (mkF m 0 #[.val (.int p0), .val (.int p1), .val (.int p2), .val (.int p3), .val (.int p4)] [])) _
    refine XS.iload X0.here hx rfl (hb hby own_d7_0) rfl ?_
    exact kt
  by_cases hc2_4 : p4 = (0 : Int32)
  · obtain ⟨fs, hr, hrun, hended, hW, hsame⟩ := X0.leave (v := some (.int p0)) (fun h => by rw [Bd.returns] at h; cases h) (hlocks := BodyLoose.notSynchronized Bd)
    refine ⟨_, _, pre3 _ ?_, hrun, hended, _, _, rfl, ?_, ⟨_, rfl⟩, hW, hsame.mono (by decide) (by decide)⟩
    · show Steps p.tables e below (s₁.setTop (mkF m 2 #[.val (.int p0), .val (.int p1), .val (.int p2), .val (.int p3), .val (.int p4)] [(.int p4)])) _
      refine XS.ifNo X0.here hx rfl (hb hby own_d7_2) rfl ((if0 _ _).trans (teq hc2_4).2) ?_
      show Steps p.tables e below (s₁.setTop (mkF m 5 #[.val (.int p0), .val (.int p1), .val (.int p2), .val (.int p3), .val (.int p4)] [])) _
      refine XS.iloadN X0.here hx rfl (hb hby own_d7_5) rfl ?_
      show Steps p.tables e below (s₁.setTop (mkF m 6 #[.val (.int p0), .val (.int p1), .val (.int p2), .val (.int p3), .val (.int p4)] [(.int p0)])) _
      exact retI X0 hx Bd.returns (hb hby own_d7_6) hr
    · show Qown_v1 Z p0 p1 p2 p3 p4 h0 n0 _ s₁.heap _
      rw [e0]
      have hv : (own_v1_f p0 p1 p2 p3 p4) = p0 := by unfold own_v1_f; rw [if_pos hc2_4]
      exact ⟨(by rw [hv]), N0, rfl⟩
  · have pre10 : ∀ t, Steps p.tables e below (s₁.setTop (mkF m 10 #[.val (.int p0), .val (.int p1), .val (.int p2), .val (.int p3), .val (.int p4)] [(.int (1 : Int32)), (.int p4)])) t → Steps p.tables e below (s₁.setTop (entryFrame m #[(.int p0), (.int p1), (.int p2), (.int p3), (.int p4)] 5)) t := by
      intro t kt
      refine pre3 _ ?_
      show Steps p.tables e below (s₁.setTop (mkF m 2 #[.val (.int p0), .val (.int p1), .val (.int p2), .val (.int p3), .val (.int p4)] [(.int p4)])) _
      refine XS.ifYes X0.here hx rfl (pc0 := 2) (pc' := 7) rfl (hb hby own_d7_2) rfl ((if0 _ _).trans (feq hc2_4).2) (by decide) (by decide) ?_
      show Steps p.tables e below (s₁.setTop (mkF m 7 #[.val (.int p0), .val (.int p1), .val (.int p2), .val (.int p3), .val (.int p4)] [])) _
      refine XS.iload X0.here hx rfl (hb hby own_d7_7) rfl ?_
      show Steps p.tables e below (s₁.setTop (mkF m 9 #[.val (.int p0), .val (.int p1), .val (.int p2), .val (.int p3), .val (.int p4)] [(.int p4)])) _
      refine XS.iconst X0.here hx rfl (hb hby own_d7_9) ?_
      exact kt
    by_cases hc10_11 : p4 = (1 : Int32)
    · obtain ⟨fs, hr, hrun, hended, hW, hsame⟩ := X0.leave (v := some (.int p1)) (fun h => by rw [Bd.returns] at h; cases h) (hlocks := BodyLoose.notSynchronized Bd)
      refine ⟨_, _, pre10 _ ?_, hrun, hended, _, _, rfl, ?_, ⟨_, rfl⟩, hW, hsame.mono (by decide) (by decide)⟩
      · show Steps p.tables e below (s₁.setTop (mkF m 10 #[.val (.int p0), .val (.int p1), .val (.int p2), .val (.int p3), .val (.int p4)] [(.int (1 : Int32)), (.int p4)])) _
        refine XS.icmpNo X0.here hx rfl (hb hby own_d7_10) rfl (teq hc10_11).2 ?_
        show Steps p.tables e below (s₁.setTop (mkF m 13 #[.val (.int p0), .val (.int p1), .val (.int p2), .val (.int p3), .val (.int p4)] [])) _
        refine XS.iloadN X0.here hx rfl (hb hby own_d7_13) rfl ?_
        show Steps p.tables e below (s₁.setTop (mkF m 14 #[.val (.int p0), .val (.int p1), .val (.int p2), .val (.int p3), .val (.int p4)] [(.int p1)])) _
        exact retI X0 hx Bd.returns (hb hby own_d7_14) hr
      · show Qown_v1 Z p0 p1 p2 p3 p4 h0 n0 _ s₁.heap _
        rw [e0]
        have hv : (own_v1_f p0 p1 p2 p3 p4) = p1 := by unfold own_v1_f; rw [if_neg hc2_4, if_pos hc10_11]
        exact ⟨(by rw [hv]), N0, rfl⟩
    · have pre17 : ∀ t, Steps p.tables e below (s₁.setTop (mkF m 18 #[.val (.int p0), .val (.int p1), .val (.int p2), .val (.int p3), .val (.int p4)] [(.int (2 : Int32)), (.int p4)])) t → Steps p.tables e below (s₁.setTop (entryFrame m #[(.int p0), (.int p1), (.int p2), (.int p3), (.int p4)] 5)) t := by
        intro t kt
        refine pre10 _ ?_
        show Steps p.tables e below (s₁.setTop (mkF m 10 #[.val (.int p0), .val (.int p1), .val (.int p2), .val (.int p3), .val (.int p4)] [(.int (1 : Int32)), (.int p4)])) _
        refine XS.icmpYes X0.here hx rfl (pc0 := 10) (pc' := 15) rfl (hb hby own_d7_10) rfl (feq hc10_11).2 (by decide) (by decide) ?_
        show Steps p.tables e below (s₁.setTop (mkF m 15 #[.val (.int p0), .val (.int p1), .val (.int p2), .val (.int p3), .val (.int p4)] [])) _
        refine XS.iload X0.here hx rfl (hb hby own_d7_15) rfl ?_
        show Steps p.tables e below (s₁.setTop (mkF m 17 #[.val (.int p0), .val (.int p1), .val (.int p2), .val (.int p3), .val (.int p4)] [(.int p4)])) _
        refine XS.iconst X0.here hx rfl (hb hby own_d7_17) ?_
        exact kt
      by_cases hc18_18 : p4 = (2 : Int32)
      · obtain ⟨fs, hr, hrun, hended, hW, hsame⟩ := X0.leave (v := some (.int p2)) (fun h => by rw [Bd.returns] at h; cases h) (hlocks := BodyLoose.notSynchronized Bd)
        refine ⟨_, _, pre17 _ ?_, hrun, hended, _, _, rfl, ?_, ⟨_, rfl⟩, hW, hsame.mono (by decide) (by decide)⟩
        · show Steps p.tables e below (s₁.setTop (mkF m 18 #[.val (.int p0), .val (.int p1), .val (.int p2), .val (.int p3), .val (.int p4)] [(.int (2 : Int32)), (.int p4)])) _
          refine XS.icmpNo X0.here hx rfl (hb hby own_d7_18) rfl (teq hc18_18).2 ?_
          show Steps p.tables e below (s₁.setTop (mkF m 21 #[.val (.int p0), .val (.int p1), .val (.int p2), .val (.int p3), .val (.int p4)] [])) _
          refine XS.iloadN X0.here hx rfl (hb hby own_d7_21) rfl ?_
          show Steps p.tables e below (s₁.setTop (mkF m 22 #[.val (.int p0), .val (.int p1), .val (.int p2), .val (.int p3), .val (.int p4)] [(.int p2)])) _
          exact retI X0 hx Bd.returns (hb hby own_d7_22) hr
        · show Qown_v1 Z p0 p1 p2 p3 p4 h0 n0 _ s₁.heap _
          rw [e0]
          have hv : (own_v1_f p0 p1 p2 p3 p4) = p2 := by unfold own_v1_f; rw [if_neg hc2_4, if_neg hc10_11, if_pos hc18_18]
          exact ⟨(by rw [hv]), N0, rfl⟩
      · obtain ⟨fs, hr, hrun, hended, hW, hsame⟩ := X0.leave (v := some (.int p3)) (fun h => by rw [Bd.returns] at h; cases h) (hlocks := BodyLoose.notSynchronized Bd)
        refine ⟨_, _, pre17 _ ?_, hrun, hended, _, _, rfl, ?_, ⟨_, rfl⟩, hW, hsame.mono (by decide) (by decide)⟩
        · show Steps p.tables e below (s₁.setTop (mkF m 18 #[.val (.int p0), .val (.int p1), .val (.int p2), .val (.int p3), .val (.int p4)] [(.int (2 : Int32)), (.int p4)])) _
          refine XS.icmpYes X0.here hx rfl (pc0 := 18) (pc' := 23) rfl (hb hby own_d7_18) rfl (feq hc18_18).2 (by decide) (by decide) ?_
          show Steps p.tables e below (s₁.setTop (mkF m 23 #[.val (.int p0), .val (.int p1), .val (.int p2), .val (.int p3), .val (.int p4)] [])) _
          refine XS.iloadN X0.here hx rfl (hb hby own_d7_23) rfl ?_
          show Steps p.tables e below (s₁.setTop (mkF m 24 #[.val (.int p0), .val (.int p1), .val (.int p2), .val (.int p3), .val (.int p4)] [(.int p3)])) _
          exact retI X0 hx Bd.returns (hb hby own_d7_24) hr
        · show Qown_v1 Z p0 p1 p2 p3 p4 h0 n0 _ s₁.heap _
          rw [e0]
          have hv : (own_v1_f p0 p1 p2 p3 p4) = p3 := by unfold own_v1_f; rw [if_neg hc2_4, if_neg hc10_11, if_neg hc18_18]
          exact ⟨(by rw [hv]), N0, rfl⟩
theorem own_ef_own_v2 (m : MethodId) (p0 : Int32) (p1 : Int32) (p2 : Int32) (p3 : Int32) (p4 : Int32) : entryFrame m #[(.int p0), (.int p1), (.int p2), (.int p3), (.int p4)] 5 = mkF m 0 #[.val (.int p0), .val (.int p1), .val (.int p2), .val (.int p3), .val (.int p4)] [] := by first | (simp [entryFrame, mkF, argsToLocals, Value.category]; done) | rfl
theorem own_d8_0 : decode method_5_code 0 = .ok (.iload 4, 2) := by decide +kernel
theorem own_d8_2 : decode method_5_code 2 = .ok (.ifCond .ne 5, 3) := by decide +kernel
theorem own_d8_5 : decode method_5_code 5 = .ok (.iload_n 1, 1) := by decide +kernel
theorem own_d8_6 : decode method_5_code 6 = .ok (.ireturn, 1) := by decide +kernel
theorem own_d8_7 : decode method_5_code 7 = .ok (.iload 4, 2) := by decide +kernel
theorem own_d8_9 : decode method_5_code 9 = .ok (.iconst 1, 1) := by decide +kernel
theorem own_d8_10 : decode method_5_code 10 = .ok (.if_icmp .ne 5, 3) := by decide +kernel
theorem own_d8_13 : decode method_5_code 13 = .ok (.iload_n 0, 1) := by decide +kernel
theorem own_d8_14 : decode method_5_code 14 = .ok (.ireturn, 1) := by decide +kernel
theorem own_d8_15 : decode method_5_code 15 = .ok (.iload 4, 2) := by decide +kernel
theorem own_d8_17 : decode method_5_code 17 = .ok (.iconst 2, 1) := by decide +kernel
theorem own_d8_18 : decode method_5_code 18 = .ok (.if_icmp .ne 5, 3) := by decide +kernel
theorem own_d8_21 : decode method_5_code 21 = .ok (.iload_n 3, 1) := by decide +kernel
theorem own_d8_22 : decode method_5_code 22 = .ok (.ireturn, 1) := by decide +kernel
theorem own_d8_23 : decode method_5_code 23 = .ok (.iload_n 2, 1) := by decide +kernel
theorem own_d8_24 : decode method_5_code 24 = .ok (.ireturn, 1) := by decide +kernel
def own_v2_f (p0 : Int32) (p1 : Int32) (p2 : Int32) (p3 : Int32) (p4 : Int32) : Int32 := (if p4 = (0 : Int32) then p1 else (if p4 = (1 : Int32) then p0 else (if p4 = (2 : Int32) then p3 else p2)))
def Qown_v2 (Z : State) (p0 : Int32) (p1 : Int32) (p2 : Int32) (p3 : Int32) (p4 : Int32) (h0 : Heap) (n0 : Nat) (v : Option Value) (h : Heap) (L : List Loc) : Prop := v = some (.int (own_v2_f p0 p1 p2 p3 p4)) ∧ Fr n0 L ∧ h = h0
set_option maxRecDepth 65536 in
set_option maxHeartbeats 40000000 in
theorem own_v2 (l : Launch) (Z : State) (a0 : Array Value) (hw : ∀ d ∈ tables_1, d.before a0 Z = true) (ws : List Jvm.Cond) (p0 : Int32) (p1 : Int32) (p2 : Int32) (p3 : Int32) (p4 : Int32) (h0 : Heap) (n0 : Nat) (Z0 : n0 ≤ h0.size) :
    MetFree l (⟨"com/example/fovea/fovea/KeyEqualsPinLaw", "v2", "(IIIII)I"⟩ : MethodName) (head1 (Jvm.Cond.code (⟨"com/example/fovea/fovea/KeyEqualsPinLaw", "v2", "(IIIII)I"⟩ : MethodName) method_5_code 5 (some .int) :: ws) ({ frames := 0, cells := 0, slots := 0, locals := 0 } : Room)) (fun a U => a = #[(.int p0), (.int p1), (.int p2), (.int p3), (.int p4)] ∧ Z.Warmed39 U.vm ∧ U.heap = h0) (fun _ _ _ _ _ => True) (fun _ U o U' => ∃ v L, o = .returned v ∧ Qown_v2 Z p0 p1 p2 p3 p4 h0 n0 v U'.heap L ∧ FrameEnd U o U' L ({ frames := 0, cells := 0, slots := 0, locals := 0 } : Room).cells ({ frames := 0, cells := 0, slots := 0, locals := 0 } : Room).slots) := by
  refine MetFree.of_bodySF (plainFor_of_name own_pn0) hisR ?_
  intro p e s m args below meth c s₁ Bd hml0 hP hK
  obtain ⟨rfl, hZ, hh⟩ := hP
  have hx := Bd.exec
  have hby := Bd.bytes
  have hml : c.maxLocals = 5 := hml0
  have hown : s.vm.findClass "com/example/fovea/fovea/KeyEqualsPinLaw" = some m.cls := findClass_of_methodNamed Bd.named
  have hnm := (name_of_methodNamed Bd.named Bd.method).1
  have X0 : Stand p l e ({ frames := 0, cells := 0, slots := 0, locals := 0 } : Room) s m #[(.int p0), (.int p1), (.int p2), (.int p3), (.int p4)] below meth c s₁ [] 0 0 := Stand.of_body Bd
  have e0 : s₁.heap = h0 := by rw [← hh, Bd.state]; rfl
  have N0 := Fr.nil n0
  have pre0 : ∀ t, Steps p.tables e below (s₁.setTop (mkF m 0 #[.val (.int p0), .val (.int p1), .val (.int p2), .val (.int p3), .val (.int p4)] [])) t → Steps p.tables e below (s₁.setTop (entryFrame m #[(.int p0), (.int p1), (.int p2), (.int p3), (.int p4)] 5)) t := fun t k => castTop (own_ef_own_v2 m p0 p1 p2 p3 p4) k
  have pre3 : ∀ t, Steps p.tables e below (s₁.setTop (mkF m 2 #[.val (.int p0), .val (.int p1), .val (.int p2), .val (.int p3), .val (.int p4)] [(.int p4)])) t → Steps p.tables e below (s₁.setTop (entryFrame m #[(.int p0), (.int p1), (.int p2), (.int p3), (.int p4)] 5)) t := by
    intro t kt
    refine pre0 _ ?_
    show Steps p.tables e below (s₁.setTop (mkF m 0 #[.val (.int p0), .val (.int p1), .val (.int p2), .val (.int p3), .val (.int p4)] [])) _
    refine XS.iload X0.here hx rfl (hb hby own_d8_0) rfl ?_
    exact kt
  by_cases hc2_4 : p4 = (0 : Int32)
  · obtain ⟨fs, hr, hrun, hended, hW, hsame⟩ := X0.leave (v := some (.int p1)) (fun h => by rw [Bd.returns] at h; cases h) (hlocks := BodyLoose.notSynchronized Bd)
    refine ⟨_, _, pre3 _ ?_, hrun, hended, _, _, rfl, ?_, ⟨_, rfl⟩, hW, hsame.mono (by decide) (by decide)⟩
    · show Steps p.tables e below (s₁.setTop (mkF m 2 #[.val (.int p0), .val (.int p1), .val (.int p2), .val (.int p3), .val (.int p4)] [(.int p4)])) _
      refine XS.ifNo X0.here hx rfl (hb hby own_d8_2) rfl ((if0 _ _).trans (teq hc2_4).2) ?_
      show Steps p.tables e below (s₁.setTop (mkF m 5 #[.val (.int p0), .val (.int p1), .val (.int p2), .val (.int p3), .val (.int p4)] [])) _
      refine XS.iloadN X0.here hx rfl (hb hby own_d8_5) rfl ?_
      show Steps p.tables e below (s₁.setTop (mkF m 6 #[.val (.int p0), .val (.int p1), .val (.int p2), .val (.int p3), .val (.int p4)] [(.int p1)])) _
      exact retI X0 hx Bd.returns (hb hby own_d8_6) hr
    · show Qown_v2 Z p0 p1 p2 p3 p4 h0 n0 _ s₁.heap _
      rw [e0]
      have hv : (own_v2_f p0 p1 p2 p3 p4) = p1 := by unfold own_v2_f; rw [if_pos hc2_4]
      exact ⟨(by rw [hv]), N0, rfl⟩
  · have pre10 : ∀ t, Steps p.tables e below (s₁.setTop (mkF m 10 #[.val (.int p0), .val (.int p1), .val (.int p2), .val (.int p3), .val (.int p4)] [(.int (1 : Int32)), (.int p4)])) t → Steps p.tables e below (s₁.setTop (entryFrame m #[(.int p0), (.int p1), (.int p2), (.int p3), (.int p4)] 5)) t := by
      intro t kt
      refine pre3 _ ?_
      show Steps p.tables e below (s₁.setTop (mkF m 2 #[.val (.int p0), .val (.int p1), .val (.int p2), .val (.int p3), .val (.int p4)] [(.int p4)])) _
      refine XS.ifYes X0.here hx rfl (pc0 := 2) (pc' := 7) rfl (hb hby own_d8_2) rfl ((if0 _ _).trans (feq hc2_4).2) (by decide) (by decide) ?_
      show Steps p.tables e below (s₁.setTop (mkF m 7 #[.val (.int p0), .val (.int p1), .val (.int p2), .val (.int p3), .val (.int p4)] [])) _
      refine XS.iload X0.here hx rfl (hb hby own_d8_7) rfl ?_
      show Steps p.tables e below (s₁.setTop (mkF m 9 #[.val (.int p0), .val (.int p1), .val (.int p2), .val (.int p3), .val (.int p4)] [(.int p4)])) _
      refine XS.iconst X0.here hx rfl (hb hby own_d8_9) ?_
      exact kt
    by_cases hc10_11 : p4 = (1 : Int32)
    · obtain ⟨fs, hr, hrun, hended, hW, hsame⟩ := X0.leave (v := some (.int p0)) (fun h => by rw [Bd.returns] at h; cases h) (hlocks := BodyLoose.notSynchronized Bd)
      refine ⟨_, _, pre10 _ ?_, hrun, hended, _, _, rfl, ?_, ⟨_, rfl⟩, hW, hsame.mono (by decide) (by decide)⟩
      · show Steps p.tables e below (s₁.setTop (mkF m 10 #[.val (.int p0), .val (.int p1), .val (.int p2), .val (.int p3), .val (.int p4)] [(.int (1 : Int32)), (.int p4)])) _
        refine XS.icmpNo X0.here hx rfl (hb hby own_d8_10) rfl (teq hc10_11).2 ?_
        show Steps p.tables e below (s₁.setTop (mkF m 13 #[.val (.int p0), .val (.int p1), .val (.int p2), .val (.int p3), .val (.int p4)] [])) _
        refine XS.iloadN X0.here hx rfl (hb hby own_d8_13) rfl ?_
        show Steps p.tables e below (s₁.setTop (mkF m 14 #[.val (.int p0), .val (.int p1), .val (.int p2), .val (.int p3), .val (.int p4)] [(.int p0)])) _
        exact retI X0 hx Bd.returns (hb hby own_d8_14) hr
      · show Qown_v2 Z p0 p1 p2 p3 p4 h0 n0 _ s₁.heap _
        rw [e0]
        have hv : (own_v2_f p0 p1 p2 p3 p4) = p0 := by unfold own_v2_f; rw [if_neg hc2_4, if_pos hc10_11]
        exact ⟨(by rw [hv]), N0, rfl⟩
    · have pre17 : ∀ t, Steps p.tables e below (s₁.setTop (mkF m 18 #[.val (.int p0), .val (.int p1), .val (.int p2), .val (.int p3), .val (.int p4)] [(.int (2 : Int32)), (.int p4)])) t → Steps p.tables e below (s₁.setTop (entryFrame m #[(.int p0), (.int p1), (.int p2), (.int p3), (.int p4)] 5)) t := by
        intro t kt
        refine pre10 _ ?_
        show Steps p.tables e below (s₁.setTop (mkF m 10 #[.val (.int p0), .val (.int p1), .val (.int p2), .val (.int p3), .val (.int p4)] [(.int (1 : Int32)), (.int p4)])) _
        refine XS.icmpYes X0.here hx rfl (pc0 := 10) (pc' := 15) rfl (hb hby own_d8_10) rfl (feq hc10_11).2 (by decide) (by decide) ?_
        show Steps p.tables e below (s₁.setTop (mkF m 15 #[.val (.int p0), .val (.int p1), .val (.int p2), .val (.int p3), .val (.int p4)] [])) _
        refine XS.iload X0.here hx rfl (hb hby own_d8_15) rfl ?_
        show Steps p.tables e below (s₁.setTop (mkF m 17 #[.val (.int p0), .val (.int p1), .val (.int p2), .val (.int p3), .val (.int p4)] [(.int p4)])) _
        refine XS.iconst X0.here hx rfl (hb hby own_d8_17) ?_
        exact kt
      by_cases hc18_18 : p4 = (2 : Int32)
      · obtain ⟨fs, hr, hrun, hended, hW, hsame⟩ := X0.leave (v := some (.int p3)) (fun h => by rw [Bd.returns] at h; cases h) (hlocks := BodyLoose.notSynchronized Bd)
        refine ⟨_, _, pre17 _ ?_, hrun, hended, _, _, rfl, ?_, ⟨_, rfl⟩, hW, hsame.mono (by decide) (by decide)⟩
        · show Steps p.tables e below (s₁.setTop (mkF m 18 #[.val (.int p0), .val (.int p1), .val (.int p2), .val (.int p3), .val (.int p4)] [(.int (2 : Int32)), (.int p4)])) _
          refine XS.icmpNo X0.here hx rfl (hb hby own_d8_18) rfl (teq hc18_18).2 ?_
          show Steps p.tables e below (s₁.setTop (mkF m 21 #[.val (.int p0), .val (.int p1), .val (.int p2), .val (.int p3), .val (.int p4)] [])) _
          refine XS.iloadN X0.here hx rfl (hb hby own_d8_21) rfl ?_
          show Steps p.tables e below (s₁.setTop (mkF m 22 #[.val (.int p0), .val (.int p1), .val (.int p2), .val (.int p3), .val (.int p4)] [(.int p3)])) _
          exact retI X0 hx Bd.returns (hb hby own_d8_22) hr
        · show Qown_v2 Z p0 p1 p2 p3 p4 h0 n0 _ s₁.heap _
          rw [e0]
          have hv : (own_v2_f p0 p1 p2 p3 p4) = p3 := by unfold own_v2_f; rw [if_neg hc2_4, if_neg hc10_11, if_pos hc18_18]
          exact ⟨(by rw [hv]), N0, rfl⟩
      · obtain ⟨fs, hr, hrun, hended, hW, hsame⟩ := X0.leave (v := some (.int p2)) (fun h => by rw [Bd.returns] at h; cases h) (hlocks := BodyLoose.notSynchronized Bd)
        refine ⟨_, _, pre17 _ ?_, hrun, hended, _, _, rfl, ?_, ⟨_, rfl⟩, hW, hsame.mono (by decide) (by decide)⟩
        · show Steps p.tables e below (s₁.setTop (mkF m 18 #[.val (.int p0), .val (.int p1), .val (.int p2), .val (.int p3), .val (.int p4)] [(.int (2 : Int32)), (.int p4)])) _
          refine XS.icmpYes X0.here hx rfl (pc0 := 18) (pc' := 23) rfl (hb hby own_d8_18) rfl (feq hc18_18).2 (by decide) (by decide) ?_
          show Steps p.tables e below (s₁.setTop (mkF m 23 #[.val (.int p0), .val (.int p1), .val (.int p2), .val (.int p3), .val (.int p4)] [])) _
          refine XS.iloadN X0.here hx rfl (hb hby own_d8_23) rfl ?_
          show Steps p.tables e below (s₁.setTop (mkF m 24 #[.val (.int p0), .val (.int p1), .val (.int p2), .val (.int p3), .val (.int p4)] [(.int p2)])) _
          exact retI X0 hx Bd.returns (hb hby own_d8_24) hr
        · show Qown_v2 Z p0 p1 p2 p3 p4 h0 n0 _ s₁.heap _
          rw [e0]
          have hv : (own_v2_f p0 p1 p2 p3 p4) = p2 := by unfold own_v2_f; rw [if_neg hc2_4, if_neg hc10_11, if_neg hc18_18]
          exact ⟨(by rw [hv]), N0, rfl⟩
theorem own_cache_at {Z : State} {a0 : Array Value} {C n d : String} {cc : Cond} (hf : Fit Z) (h1 : (Cond.arrayOf (Term.static C n d) (.object "java/lang/Integer")).before a0 Z = true) (h2 : (Cond.eq (Term.length (Term.static C n d)) (Term.int (256 : Int32))).before a0 Z = true)
    (h3 : (Cond.all (Term.static C n d) (Cond.and (Cond.exactly (Term.elem (Term.static C n d) (Term.index 0)) "java/lang/Integer") cc)).before a0 Z = true)
    (hi : (Cond.initialized C).before a0 Z = true ∧ (Cond.laysStatic C n d).before a0 Z = true) : ∃ w k vs, Sta Z Z.heap C n d (.ref w) ∧ Arv Z Z.heap w k (.object "java/lang/Integer") (256 : Int32) vs .null ∧ own_Cache Z vs := by
  obtain ⟨w, ev⟩ := arr_v (Cond.before_iff.mp h1)
  obtain ⟨c, A⟩ := Arr.start ev (Cond.before_iff.mp h1)
  obtain ⟨x, y, e1, e2, -, -⟩ := cmp_v (Or.inl (Cond.before_iff.mp h2))
  obtain ⟨a, cell, e3, e4, e5, e6⟩ := Jvm.Free.SB.Term.length_small e1
  cases ev.symm.trans e3
  have e7 : Z.arrayAt? w = some c := A.fin (Vm.Alike.refl _)
  cases e7.symm.trans e4
  subst e5
  have e8 := gotT (Cond.eq_ints e1 (Term.int_eval (256 : Int32))) (Cond.before_iff.mp h2)
  have e9 : c.slots.size = 256 := by
    have e10 := congrArg Int32.toInt e8
    have e11 : c.slots.size.toInt32.toInt = (c.slots.size : Int) := Int32.toInt_ofNat_of_lt e6
    have e12 : (256 : Int32).toInt = 256 := rfl
    omega
  have hall := Cond.all_elim ev e7 (Cond.before_iff.mp h3)
  have key : ∀ i, i < c.slots.size → ∃ x : Addr, c.slots[i]? = some (.ref x) ∧ Exa Z Z.heap x "java/lang/Integer" := fun i hi' => by
    obtain ⟨q1, -⟩ := and_e (hall i hi')
    obtain ⟨x, q2⟩ := exa_v q1
    have q3 := elem_in q2 ev (Term.index_eval i) A.1
    have q4 : i.toInt32.toNatClampNeg = i := by
      have q5 : i.toInt32.toInt = (i : Int) := Int32.toInt_ofNat_of_lt (by omega)
      simp only [Int32.toNatClampNeg]; omega
    rw [q4] at q3
    exact ⟨x, q3.2, exa_at q2 q1⟩
  have kg : ∀ i, i < c.slots.size → c.slots[i]? = some (c.slots.toList.getD i .null) := fun i hi' => by
    rw [List.getD_eq_getElem?_getD, Array.getElem?_toList]
    obtain ⟨x, q, -⟩ := key i hi'
    rw [q]; rfl
  refine ⟨w, c.cls, c.slots.toList, Sta.start ev (Or.inr hi), ⟨c, A, rfl, by rw [e9]; rfl, by decide, kg, fun i hi' => ?_⟩, fun j hj => ?_⟩
  · obtain ⟨x, q, -⟩ := key i hi'
    have q2 := kg i hi'
    rw [q] at q2
    rw [← Option.some.inj q2]; rfl
  · have q := nat_of hj.1
    have h2' := hj.2
    rw [Int32.lt_iff_toInt_lt] at h2'
    have e12 : (256 : Int32).toInt = 256 := rfl
    have hlt : j.toNatClampNeg < c.slots.size := by omega
    obtain ⟨x, q1, q2⟩ := key _ hlt
    have q3 := kg _ hlt
    rw [q1] at q3
    exact ⟨x, (Option.some.inj q3).symm, q2⟩
theorem own_high {Z : State} {a0 : Array Value} {C n : String} (h : (Cond.eq (Term.static C n "I") (Term.int (127 : Int32))).before a0 Z = true) (hi : (Cond.initializedFor C n "I").before a0 Z = true) : Sta Z Z.heap C n "I" (.int (127 : Int32)) := by
  obtain ⟨x, y, e1, e2, k1, k2⟩ := cmp_v (Or.inl (Cond.before_iff.mp h))
  cases e2
  obtain ⟨z, rfl⟩ := k2
  have e8 := gotT (Cond.eq_ints e1 (Term.int_eval (127 : Int32))) (Cond.before_iff.mp h)
  exact Sta.start (e8 ▸ e1) (Or.inl hi)
def own_E (n m u0 u1 u2 w0 w1 w2 : Int32) : Int32 := if n = m then (if 0 < n then (if u0 = w0 then (if 1 < n then (if u1 = w1 then (if 2 < n then (if u2 = w2 then 1 else 0) else 1) else 0) else 1) else 0) else 1) else 0
theorem own_eqE (n m x0 x1 x2 x3 s0 s1 s2 y0 y1 y2 y3 t0 t1 t2 : Int32) : own_eq_f n m x0 x1 x2 x3 s0 s1 s2 y0 y1 y2 y3 t0 t1 t2 = own_E n m (own_sel x0 x1 x2 x3 s0) (own_sel x0 x1 x2 x3 s1) (own_sel x0 x1 x2 x3 s2) (own_sel y0 y1 y2 y3 t0) (own_sel y0 y1 y2 y3 t1) (own_sel y0 y1 y2 y3 t2) := by unfold own_eq_f own_E; rfl
theorem own_refl (n u0 u1 u2 : Int32) : own_E n n u0 u1 u2 u0 u1 u2 = 1 := by
  unfold own_E; simp
theorem own_sym (n m u0 u1 u2 w0 w1 w2 : Int32) : own_E n m u0 u1 u2 w0 w1 w2 = own_E m n w0 w1 w2 u0 u1 u2 := by
  unfold own_E
  by_cases h : n = m
  · subst h
    simp only [eq_comm (a := u0), eq_comm (a := u1), eq_comm (a := u2)]
  · rw [if_neg h, if_neg (fun e => h e.symm)]
theorem own_lt1 {n : Int32} (k j : Int32) (h : n < k) (hk : k.toInt = j.toInt + 1) : ¬ j < n := by rw [Int32.lt_iff_toInt_lt] at *; omega
theorem own_lt2 {n : Int32} (k j : Int32) (h : ¬ n < k) (hk : k.toInt = j.toInt + 1) : j < n := by rw [Int32.lt_iff_toInt_lt] at *; omega
theorem own_E0 {n m u0 u1 u2 w0 w1 w2 : Int32} (h : ¬ n = m) : own_E n m u0 u1 u2 w0 w1 w2 = 0 := by unfold own_E; rw [if_neg h]
theorem own_E1 {n m u0 u1 u2 w0 w1 w2 : Int32} (h : n = m) (h1 : n < 1) : own_E n m u0 u1 u2 w0 w1 w2 = 1 := by unfold own_E; rw [if_pos h, if_neg (own_lt1 1 0 h1 rfl)]
theorem own_E2 {n m u0 u1 u2 w0 w1 w2 : Int32} (h : n = m) (h1 : ¬ n < 1) (e0 : ¬ u0 = w0) : own_E n m u0 u1 u2 w0 w1 w2 = 0 := by unfold own_E; rw [if_pos h, if_pos (own_lt2 1 0 h1 rfl), if_neg e0]
theorem own_E3 {n m u0 u1 u2 w0 w1 w2 : Int32} (h : n = m) (h1 : ¬ n < 1) (e0 : u0 = w0) (h2 : n < 2) : own_E n m u0 u1 u2 w0 w1 w2 = 1 := by unfold own_E; rw [if_pos h, if_pos (own_lt2 1 0 h1 rfl), if_pos e0, if_neg (own_lt1 2 1 h2 rfl)]
theorem own_E4 {n m u0 u1 u2 w0 w1 w2 : Int32} (h : n = m) (h1 : ¬ n < 1) (e0 : u0 = w0) (h2 : ¬ n < 2) (e1 : ¬ u1 = w1) : own_E n m u0 u1 u2 w0 w1 w2 = 0 := by unfold own_E; rw [if_pos h, if_pos (own_lt2 1 0 h1 rfl), if_pos e0, if_pos (own_lt2 2 1 h2 rfl), if_neg e1]
theorem own_E5 {n m u0 u1 u2 w0 w1 w2 : Int32} (h : n = m) (h1 : ¬ n < 1) (e0 : u0 = w0) (h2 : ¬ n < 2) (e1 : u1 = w1) (h3 : n < 3) : own_E n m u0 u1 u2 w0 w1 w2 = 1 := by unfold own_E; rw [if_pos h, if_pos (own_lt2 1 0 h1 rfl), if_pos e0, if_pos (own_lt2 2 1 h2 rfl), if_pos e1, if_neg (own_lt1 3 2 h3 rfl)]
theorem own_E6 {n m u0 u1 u2 w0 w1 w2 : Int32} (h : n = m) (h1 : ¬ n < 1) (e0 : u0 = w0) (h2 : ¬ n < 2) (e1 : u1 = w1) (h3 : ¬ n < 3) (e2 : ¬ u2 = w2) : own_E n m u0 u1 u2 w0 w1 w2 = 0 := by unfold own_E; rw [if_pos h, if_pos (own_lt2 1 0 h1 rfl), if_pos e0, if_pos (own_lt2 2 1 h2 rfl), if_pos e1, if_pos (own_lt2 3 2 h3 rfl), if_neg e2]
theorem own_E7 {n m u0 u1 u2 w0 w1 w2 : Int32} (h : n = m) (h1 : ¬ n < 1) (e0 : u0 = w0) (h2 : ¬ n < 2) (e1 : u1 = w1) (h3 : ¬ n < 3) (e2 : u2 = w2) : own_E n m u0 u1 u2 w0 w1 w2 = 1 := by unfold own_E; rw [if_pos h, if_pos (own_lt2 1 0 h1 rfl), if_pos e0, if_pos (own_lt2 2 1 h2 rfl), if_pos e1, if_pos (own_lt2 3 2 h3 rfl), if_pos e2]
theorem own_v1s (a b c d i : Int32) : own_v1_f a b c d i = own_sel a b c d i := by unfold own_v1_f own_sel; rfl
theorem own_v2s (a b c d i : Int32) : own_v2_f a b c d i = own_sel b a d c i := by unfold own_v2_f own_sel; rfl
theorem own_veq {a b c d i j : Int32} (h : own_v1_f a b c d i = own_v2_f a b c d j) : own_sel a b c d i = own_sel b a d c j := by rw [← own_v1s, ← own_v2s]; exact h
theorem own_vne {a b c d i j : Int32} (h : ¬ own_v1_f a b c d i = own_v2_f a b c d j) : ¬ own_sel a b c d i = own_sel b a d c j := by rw [← own_v1s, ← own_v2s]; exact h
theorem own_up {n k j : Int32} (h : n < k) (hk : k < j) : n < j := by rw [Int32.lt_iff_toInt_lt] at *; omega
theorem own_ef_own_law (m : MethodId) (p0 : Int32) (p1 : Int32) (p2 : Int32) (p3 : Int32) (p4 : Int32) (p5 : Int32) : entryFrame m #[(.int p0), (.int p1), (.int p2), (.int p3), (.int p4), (.int p5)] maxLocals = mkF m 0 #[.val (.int p0), .val (.int p1), .val (.int p2), .val (.int p3), .val (.int p4), .val (.int p5), .unset, .unset, .unset, .unset, .unset, .unset, .unset, .unset, .unset, .unset, .unset, .unset] [] := by first | (simp [entryFrame, mkF, argsToLocals, Value.category, maxLocals]; done) | rfl
theorem own_pd2 : parseMethodDescriptor "(II)[I" = some ⟨[.int, .int], some (.array .int)⟩ := by decide +kernel
theorem own_pd3 : parseMethodDescriptor "([I[I)Lcom/example/fovea/fovea/Memory$Key;" = some ⟨[(.array .int), (.array .int)], some (.object "com/example/fovea/fovea/Memory$Key")⟩ := by decide +kernel
theorem own_pd4 : parseMethodDescriptor "(I)Ljava/lang/Integer;" = some ⟨[.int], some (.object "java/lang/Integer")⟩ := by decide +kernel
theorem own_pd5 : parseMethodDescriptor "(Ljava/lang/Object;)Z" = some ⟨[(.object "java/lang/Object")], some .boolean⟩ := by decide +kernel
theorem own_pd6 : parseMethodDescriptor "(IIIII)I" = some ⟨[.int, .int, .int, .int, .int], some .int⟩ := by decide +kernel
def Qown_law (Z : State) (p0 : Int32) (p1 : Int32) (p2 : Int32) (p3 : Int32) (p4 : Int32) (p5 : Int32) (w_c : Addr) (k_c : ClassId) (vs_c : List Value) (h0 : Heap) (n0 : Nat) (v : Option Value) (h : Heap) (L : List Loc) : Prop := v = some (.int (1 : Int32)) ∧ Fr n0 L
set_option maxRecDepth 65536 in
set_option maxHeartbeats 40000000 in
theorem own_law (l : Launch) (Z : State) (a0 : Array Value) (hw : ∀ d ∈ tables_1, d.before a0 Z = true) (ws : List Jvm.Cond) (p0 : Int32) (p1 : Int32) (p2 : Int32) (p3 : Int32) (p4 : Int32) (p5 : Int32) (w_c : Addr) (k_c : ClassId) (vs_c : List Value) (h0 : Heap) (n0 : Nat) (Z0 : n0 ≤ h0.size) (O0 : Old Z n0 h0) (S_h : Sta Z Z.heap "java/lang/Integer$IntegerCache" "high" "I" (.int (127 : Int32))) (S_c : Sta Z Z.heap "java/lang/Integer$IntegerCache" "cache" "[Ljava/lang/Integer;" (.ref w_c)) (V_c : Arv Z h0 w_c k_c (.object "java/lang/Integer") (256 : Int32) vs_c .null) (hall : own_Cache Z vs_c) :
    MetFree l x (head1 (Jvm.Cond.code x code maxLocals ret :: ws) room_1) (fun a U => a = #[(.int p0), (.int p1), (.int p2), (.int p3), (.int p4), (.int p5)] ∧ Z.Warmed39 U.vm ∧ U.heap = h0) (fun _ _ _ _ _ => True) (fun _ U o U' => ∃ v L, o = .returned v ∧ Qown_law Z p0 p1 p2 p3 p4 p5 w_c k_c vs_c h0 n0 v U'.heap L ∧ FrameEnd U o U' L room_1.cells room_1.slots) := by
  refine MetFree.of_bodySF (plainFor_of_name own_pn0) hisR ?_
  intro p e s m args below meth c s₁ Bd hml0 hP hK
  obtain ⟨rfl, hZ, hh⟩ := hP
  have hx := Bd.exec
  have hby := Bd.bytes
  have hml : c.maxLocals = 18 := hml0
  have hown : s.vm.findClass "com/example/fovea/fovea/KeyEqualsPinLaw" = some m.cls := findClass_of_methodNamed Bd.named
  have hnm := (name_of_methodNamed Bd.named Bd.method).1
  have X0 : Stand p l e room_1 s m #[(.int p0), (.int p1), (.int p2), (.int p3), (.int p4), (.int p5)] below meth c s₁ [] 0 0 := Stand.of_body Bd
  have e0 : s₁.heap = h0 := by rw [← hh, Bd.state]; rfl
  have N0 := Fr.nil n0
  have pre0 : ∀ t, Steps p.tables e below (s₁.setTop (mkF m 0 #[.val (.int p0), .val (.int p1), .val (.int p2), .val (.int p3), .val (.int p4), .val (.int p5), .unset, .unset, .unset, .unset, .unset, .unset, .unset, .unset, .unset, .unset, .unset, .unset] [])) t → Steps p.tables e below (s₁.setTop (entryFrame m #[(.int p0), (.int p1), (.int p2), (.int p3), (.int p4), (.int p5)] maxLocals)) t := fun t k => castTop (own_ef_own_law m p0 p1 p2 p3 p4 p5) k
  obtain ⟨T3, h3, k3, X3, e3, E3, A3, Y3, st3⟩ := newPE X0 hx hZ (hw _ (List.mem_of_getElem? (i := 0) rfl)) e0 (g := (mkF m 1 #[.val (.int p0), .val (.int p1), .val (.int p2), .val (.int p3), .val (.int p4), .val (.int p5), .unset, .unset, .unset, .unset, .unset, .unset, .unset, .unset, .unset, .unset, .unset, .unset] [(.int (4 : Int32))])) rfl (hb hby at_1) rfl (by decide) (cap := 4) (by decide) (by decide) (by decide) (by decide) (ad := "[I") (by first | rfl | decide)
  obtain ⟨b3, g3⟩ : ∃ z, z = h0.size := ⟨_, rfl⟩
  rw [← g3] at A3 Y3 st3
  have Ne4 : w_c ≠ b3 := Nat.ne_of_lt (Nat.lt_of_lt_of_le V_c.lt (Nat.le_of_eq g3.symm))
  have Ge5 : n0 ≤ b3 := Nat.le_trans Z0 (Nat.le_of_eq g3.symm)
  have Sz6 : h0.size ≤ b3 := Nat.le_trans (Keep.refl h0 []).1 (Nat.le_of_eq g3.symm)
  have Kc7 : Keep h0 h3 [] := (Keep.refl h0 []).ext E3
  have Zs8 : n0 ≤ h3.size := (Nat.le_trans Z0 E3.1)
  have V3 : Arv Z h3 b3 k3 .int (4 : Int32) [(.int (0 : Int32)), (.int (0 : Int32)), (.int (0 : Int32)), (.int (0 : Int32))] (.int (0 : Int32)) := (Arv.new A3 (by decide)).pad (pad_rep [] (.int (0 : Int32)) 4)
  obtain ⟨cl13, Ar13, q13, S13, M13, H13, G13⟩ := id V3
  have hin13 : ¬ ((0 : Int32) < 0 ∨ cl13.slots.size ≤ ((0 : Int32)).toNatClampNeg) := inb_of S13 ⟨by decide, by decide⟩
  obtain ⟨T14, h14, X14, e14, W14, st14⟩ := stI X3 hx hZ e3 Ar13 (j := (0 : Int32)) hin13 (g := (mkF m 6 #[.val (.int p0), .val (.int p1), .val (.int p2), .val (.int p3), .val (.int p4), .val (.int p5), .unset, .unset, .unset, .unset, .unset, .unset, .unset, .unset, .unset, .unset, .unset, .unset] [(.int p0), (.int (0 : Int32)), (.ref b3), (.ref b3)])) rfl rfl (hb hby at_6)
  have Kc16 : Keep h0 h14 [] := Kc7.wr W14 (Or.inr Sz6)
  have Zs17 : n0 ≤ h14.size := Nat.le_trans Zs8 (Keep.of_wr W14).1
  have N18 := Fr.snoc X14 N0 Ge5
  have Vm15 : Arv Z h14 b3 k3 .int (4 : Int32) [(.int p0), (.int (0 : Int32)), (.int (0 : Int32)), (.int (0 : Int32))] (.int (0 : Int32)) := Arv.set Ar13 q13 S13 M13 H13 G13 rfl W14 0 rfl (Nat.le_of_ble_eq_true rfl)
  obtain ⟨cl23, Ar23, q23, S23, M23, H23, G23⟩ := id Vm15
  have hin23 : ¬ ((1 : Int32) < 0 ∨ cl23.slots.size ≤ ((1 : Int32)).toNatClampNeg) := inb_of S23 ⟨by decide, by decide⟩
  obtain ⟨T24, h24, X24, e24, W24, st24⟩ := stI X14 hx hZ e14 Ar23 (j := (1 : Int32)) hin23 (g := (mkF m 10 #[.val (.int p0), .val (.int p1), .val (.int p2), .val (.int p3), .val (.int p4), .val (.int p5), .unset, .unset, .unset, .unset, .unset, .unset, .unset, .unset, .unset, .unset, .unset, .unset] [(.int p1), (.int (1 : Int32)), (.ref b3), (.ref b3)])) rfl rfl (hb hby at_10)
  have Kc26 : Keep h0 h24 [] := Kc16.wr W24 (Or.inr Sz6)
  have Zs27 : n0 ≤ h24.size := Nat.le_trans Zs17 (Keep.of_wr W24).1
  have N28 := Fr.snoc X24 N18 Ge5
  have Vm25 : Arv Z h24 b3 k3 .int (4 : Int32) [(.int p0), (.int p1), (.int (0 : Int32)), (.int (0 : Int32))] (.int (0 : Int32)) := Arv.set Ar23 q23 S23 M23 H23 G23 rfl W24 1 rfl (Nat.le_of_ble_eq_true rfl)
  obtain ⟨cl33, Ar33, q33, S33, M33, H33, G33⟩ := id Vm25
  have hin33 : ¬ ((2 : Int32) < 0 ∨ cl33.slots.size ≤ ((2 : Int32)).toNatClampNeg) := inb_of S33 ⟨by decide, by decide⟩
  obtain ⟨T34, h34, X34, e34, W34, st34⟩ := stI X24 hx hZ e24 Ar33 (j := (2 : Int32)) hin33 (g := (mkF m 14 #[.val (.int p0), .val (.int p1), .val (.int p2), .val (.int p3), .val (.int p4), .val (.int p5), .unset, .unset, .unset, .unset, .unset, .unset, .unset, .unset, .unset, .unset, .unset, .unset] [(.int p2), (.int (2 : Int32)), (.ref b3), (.ref b3)])) rfl rfl (hb hby at_14)
  have Kc36 : Keep h0 h34 [] := Kc26.wr W34 (Or.inr Sz6)
  have Zs37 : n0 ≤ h34.size := Nat.le_trans Zs27 (Keep.of_wr W34).1
  have N38 := Fr.snoc X34 N28 Ge5
  have Vm35 : Arv Z h34 b3 k3 .int (4 : Int32) [(.int p0), (.int p1), (.int p2), (.int (0 : Int32))] (.int (0 : Int32)) := Arv.set Ar33 q33 S33 M33 H33 G33 rfl W34 2 rfl (Nat.le_of_ble_eq_true rfl)
  obtain ⟨cl43, Ar43, q43, S43, M43, H43, G43⟩ := id Vm35
  have hin43 : ¬ ((3 : Int32) < 0 ∨ cl43.slots.size ≤ ((3 : Int32)).toNatClampNeg) := inb_of S43 ⟨by decide, by decide⟩
  obtain ⟨T44, h44, X44, e44, W44, st44⟩ := stI X34 hx hZ e34 Ar43 (j := (3 : Int32)) hin43 (g := (mkF m 18 #[.val (.int p0), .val (.int p1), .val (.int p2), .val (.int p3), .val (.int p4), .val (.int p5), .unset, .unset, .unset, .unset, .unset, .unset, .unset, .unset, .unset, .unset, .unset, .unset] [(.int p3), (.int (3 : Int32)), (.ref b3), (.ref b3)])) rfl rfl (hb hby at_18)
  have Kc46 : Keep h0 h44 [] := Kc36.wr W44 (Or.inr Sz6)
  have Zs47 : n0 ≤ h44.size := Nat.le_trans Zs37 (Keep.of_wr W44).1
  have N48 := Fr.snoc X44 N38 Ge5
  have Vm45 : Arv Z h44 b3 k3 .int (4 : Int32) [(.int p0), (.int p1), (.int p2), (.int p3)] (.int (0 : Int32)) := Arv.set Ar43 q43 S43 M43 H43 G43 rfl W44 3 rfl (Nat.le_of_ble_eq_true rfl)
  obtain ⟨T52, h52, k52, X52, e52, E52, A52, Y52, st52⟩ := newPE X44 hx hZ (hw _ (List.mem_of_getElem? (i := 0) rfl)) e44 (g := (mkF m 22 #[.val (.int p0), .val (.int p1), .val (.int p2), .val (.int p3), .val (.int p4), .val (.int p5), .val (.ref b3), .unset, .unset, .unset, .unset, .unset, .unset, .unset, .unset, .unset, .unset, .unset] [(.int (4 : Int32))])) rfl (hb hby at_22) rfl (by decide) (cap := 4) (by decide) (by decide) (by decide) (by decide) (ad := "[I") (by first | rfl | decide)
  obtain ⟨b52, g52⟩ : ∃ z, z = h44.size := ⟨_, rfl⟩
  rw [← g52] at A52 Y52 st52
  have Fq54 : Arv Z h44 w_c k_c (.object "java/lang/Integer") (256 : Int32) vs_c .null := (((((V_c.ext E3).other W14 Ne4).other W24 Ne4).other W34 Ne4).other W44 Ne4)
  have Ne53 : w_c ≠ b52 := Nat.ne_of_lt (Nat.lt_of_lt_of_le Fq54.lt (Nat.le_of_eq g52.symm))
  have Fq56 : Exa Z h44 b3 "[I" := ((((Y3.wr W14).wr W24).wr W34).wr W44)
  have Ne55 : b3 ≠ b52 := Nat.ne_of_lt (Nat.lt_of_lt_of_le Fq56.lt (Nat.le_of_eq g52.symm))
  have Ge57 : n0 ≤ b52 := Nat.le_trans Zs47 (Nat.le_of_eq g52.symm)
  have Sz58 : h0.size ≤ b52 := Nat.le_trans Kc46.1 (Nat.le_of_eq g52.symm)
  have Kc59 : Keep h0 h52 [] := Kc46.ext E52
  have Zs60 : n0 ≤ h52.size := (Nat.le_trans Zs47 E52.1)
  have V52 : Arv Z h52 b52 k52 .int (4 : Int32) [(.int (0 : Int32)), (.int (0 : Int32)), (.int (0 : Int32)), (.int (0 : Int32))] (.int (0 : Int32)) := (Arv.new A52 (by decide)).pad (pad_rep [] (.int (0 : Int32)) 4)
  obtain ⟨cl65, Ar65, q65, S65, M65, H65, G65⟩ := id V52
  have hin65 : ¬ ((0 : Int32) < 0 ∨ cl65.slots.size ≤ ((0 : Int32)).toNatClampNeg) := inb_of S65 ⟨by decide, by decide⟩
  obtain ⟨T66, h66, X66, e66, W66, st66⟩ := stI X52 hx hZ e52 Ar65 (j := (0 : Int32)) hin65 (g := (mkF m 27 #[.val (.int p0), .val (.int p1), .val (.int p2), .val (.int p3), .val (.int p4), .val (.int p5), .val (.ref b3), .unset, .unset, .unset, .unset, .unset, .unset, .unset, .unset, .unset, .unset, .unset] [(.int p1), (.int (0 : Int32)), (.ref b52), (.ref b52)])) rfl rfl (hb hby at_27)
  have Kc68 : Keep h0 h66 [] := Kc59.wr W66 (Or.inr Sz58)
  have Zs69 : n0 ≤ h66.size := Nat.le_trans Zs60 (Keep.of_wr W66).1
  have N70 := Fr.snoc X66 N48 Ge57
  have Vm67 : Arv Z h66 b52 k52 .int (4 : Int32) [(.int p1), (.int (0 : Int32)), (.int (0 : Int32)), (.int (0 : Int32))] (.int (0 : Int32)) := Arv.set Ar65 q65 S65 M65 H65 G65 rfl W66 0 rfl (Nat.le_of_ble_eq_true rfl)
  obtain ⟨cl75, Ar75, q75, S75, M75, H75, G75⟩ := id Vm67
  have hin75 : ¬ ((1 : Int32) < 0 ∨ cl75.slots.size ≤ ((1 : Int32)).toNatClampNeg) := inb_of S75 ⟨by decide, by decide⟩
  obtain ⟨T76, h76, X76, e76, W76, st76⟩ := stI X66 hx hZ e66 Ar75 (j := (1 : Int32)) hin75 (g := (mkF m 31 #[.val (.int p0), .val (.int p1), .val (.int p2), .val (.int p3), .val (.int p4), .val (.int p5), .val (.ref b3), .unset, .unset, .unset, .unset, .unset, .unset, .unset, .unset, .unset, .unset, .unset] [(.int p0), (.int (1 : Int32)), (.ref b52), (.ref b52)])) rfl rfl (hb hby at_31)
  have Kc78 : Keep h0 h76 [] := Kc68.wr W76 (Or.inr Sz58)
  have Zs79 : n0 ≤ h76.size := Nat.le_trans Zs69 (Keep.of_wr W76).1
  have N80 := Fr.snoc X76 N70 Ge57
  have Vm77 : Arv Z h76 b52 k52 .int (4 : Int32) [(.int p1), (.int p0), (.int (0 : Int32)), (.int (0 : Int32))] (.int (0 : Int32)) := Arv.set Ar75 q75 S75 M75 H75 G75 rfl W76 1 rfl (Nat.le_of_ble_eq_true rfl)
  obtain ⟨cl85, Ar85, q85, S85, M85, H85, G85⟩ := id Vm77
  have hin85 : ¬ ((2 : Int32) < 0 ∨ cl85.slots.size ≤ ((2 : Int32)).toNatClampNeg) := inb_of S85 ⟨by decide, by decide⟩
  obtain ⟨T86, h86, X86, e86, W86, st86⟩ := stI X76 hx hZ e76 Ar85 (j := (2 : Int32)) hin85 (g := (mkF m 35 #[.val (.int p0), .val (.int p1), .val (.int p2), .val (.int p3), .val (.int p4), .val (.int p5), .val (.ref b3), .unset, .unset, .unset, .unset, .unset, .unset, .unset, .unset, .unset, .unset, .unset] [(.int p3), (.int (2 : Int32)), (.ref b52), (.ref b52)])) rfl rfl (hb hby at_35)
  have Kc88 : Keep h0 h86 [] := Kc78.wr W86 (Or.inr Sz58)
  have Zs89 : n0 ≤ h86.size := Nat.le_trans Zs79 (Keep.of_wr W86).1
  have N90 := Fr.snoc X86 N80 Ge57
  have Vm87 : Arv Z h86 b52 k52 .int (4 : Int32) [(.int p1), (.int p0), (.int p3), (.int (0 : Int32))] (.int (0 : Int32)) := Arv.set Ar85 q85 S85 M85 H85 G85 rfl W86 2 rfl (Nat.le_of_ble_eq_true rfl)
  obtain ⟨cl95, Ar95, q95, S95, M95, H95, G95⟩ := id Vm87
  have hin95 : ¬ ((3 : Int32) < 0 ∨ cl95.slots.size ≤ ((3 : Int32)).toNatClampNeg) := inb_of S95 ⟨by decide, by decide⟩
  obtain ⟨T96, h96, X96, e96, W96, st96⟩ := stI X86 hx hZ e86 Ar95 (j := (3 : Int32)) hin95 (g := (mkF m 39 #[.val (.int p0), .val (.int p1), .val (.int p2), .val (.int p3), .val (.int p4), .val (.int p5), .val (.ref b3), .unset, .unset, .unset, .unset, .unset, .unset, .unset, .unset, .unset, .unset, .unset] [(.int p2), (.int (3 : Int32)), (.ref b52), (.ref b52)])) rfl rfl (hb hby at_39)
  have Kc98 : Keep h0 h96 [] := Kc88.wr W96 (Or.inr Sz58)
  have Zs99 : n0 ≤ h96.size := Nat.le_trans Zs89 (Keep.of_wr W96).1
  have N100 := Fr.snoc X96 N90 Ge57
  have Vm97 : Arv Z h96 b52 k52 .int (4 : Int32) [(.int p1), (.int p0), (.int p3), (.int p2)] (.int (0 : Int32)) := Arv.set Ar95 q95 S95 M95 H95 G95 rfl W96 3 rfl (Nat.le_of_ble_eq_true rfl)
  obtain ⟨_, _, ⟨T123, L123, k123, n123⟩, -, X123, ⟨Lc123, hQ123, l123, y123, z123⟩, st123⟩ := Jvm.LawKit.callS X96 hx (y := (⟨"com/example/fovea/fovea/KeyEqualsPinLaw", "slots", "(II)[I"⟩ : MethodName)) hown (mvT hZ (hw _ (List.mem_of_getElem? (i := 1) rfl))) (mvT hZ (hw _ (List.mem_of_getElem? (i := 2) rfl))) (mvT hZ (hw _ (List.mem_of_getElem? (i := 3) rfl))) (mvT hZ (hw _ (List.mem_of_getElem? (i := 4) rfl))) (by decide) (backOf (W := 0) (own_slots l Z a0 hw [] (p4 &&& (3 : Int32)) ((p4.toUInt32 >>> ((4 : Int32) &&& 31).toUInt32).toInt32) h96 n0 Zs99 (own_and3 _).1 (own_and3 _).2) hZ (hw _ (List.mem_of_getElem? (i := 4) rfl)) (hw _ (List.mem_of_getElem? (i := 3) rfl)) (by decide) (by decide)) (g := (mkF m 73 #[.val (.int p0), .val (.int p1), .val (.int p2), .val (.int p3), .val (.int p4), .val (.int p5), .val (.ref b3), .val (.ref b52), .val (.int (p4 &&& (3 : Int32))), .val (.int (((p4.toUInt32 >>> ((2 : Int32) &&& 31).toUInt32).toInt32) &&& (3 : Int32))), .val (.int ((p4.toUInt32 >>> ((4 : Int32) &&& 31).toUInt32).toInt32)), .val (.int ((p4.toUInt32 >>> ((10 : Int32) &&& 31).toUInt32).toInt32)), .unset, .unset, .unset, .unset, .unset, .unset] [(.int ((p4.toUInt32 >>> ((4 : Int32) &&& 31).toUInt32).toInt32)), (.int (p4 &&& (3 : Int32)))])) rfl (by rw [hml]; rfl) (argsL := [(.int (p4 &&& (3 : Int32))), (.int ((p4.toUInt32 >>> ((4 : Int32) &&& 31).toUInt32).toInt32))]) (rest := []) (lenOf own_pd2 rfl) rfl (by show 2 * 0 + _ ≤ _; exact Nat.le_of_eq rfl) (hb hby at_73) (fun _ _ => ⟨rfl, e96, (by decide : 2 + 1 ≤ _), (by decide : 8 + 3 ≤ _)⟩)
  dsimp only [Pt.U, Pt.locs, Pt.cells, Pt.slots] at X123 l123 y123 z123 st123 hQ123
  rw [l123, y123, z123] at X123
  obtain ⟨r_o_123, k_r_123, rfl, Nq123, sz123_r_o, K123, Pf123_0⟩ := hQ123
  have N124 := Fr.app N100 Nq123
  have Fq126 : Arv Z h96 w_c k_c (.object "java/lang/Integer") (256 : Int32) vs_c .null := (((((Fq54.ext E52).other W66 Ne53).other W76 Ne53).other W86 Ne53).other W96 Ne53)
  have Ne125 : w_c ≠ r_o_123 := Nat.ne_of_lt (Nat.lt_of_lt_of_le Fq126.lt sz123_r_o)
  have Fq128 : Exa Z h96 b3 "[I" := (((((Fq56.ext E52).wr W66).wr W76).wr W86).wr W96)
  have Ne127 : b3 ≠ r_o_123 := Nat.ne_of_lt (Nat.lt_of_lt_of_le Fq128.lt sz123_r_o)
  have Fq130 : Exa Z h96 b52 "[I" := ((((Y52.wr W66).wr W76).wr W86).wr W96)
  have Ne129 : b52 ≠ r_o_123 := Nat.ne_of_lt (Nat.lt_of_lt_of_le Fq130.lt sz123_r_o)
  have Ge131 : n0 ≤ r_o_123 := Nat.le_trans Zs99 sz123_r_o
  have Sz132 : h0.size ≤ r_o_123 := Nat.le_trans Kc98.1 sz123_r_o
  have Kc133 : Keep h0 T123.heap [] := Kc98.trans K123 all0
  have Zs134 : n0 ≤ T123.heap.size := Nat.le_trans Zs99 K123.1
  obtain ⟨_, _, ⟨T139, L139, k139, n139⟩, -, X139, ⟨Lc139, hQ139, l139, y139, z139⟩, st139⟩ := Jvm.LawKit.callS X123 hx (y := (⟨"com/example/fovea/fovea/KeyEqualsPinLaw", "slots", "(II)[I"⟩ : MethodName)) hown (mvT hZ (hw _ (List.mem_of_getElem? (i := 1) rfl))) (mvT hZ (hw _ (List.mem_of_getElem? (i := 2) rfl))) (mvT hZ (hw _ (List.mem_of_getElem? (i := 3) rfl))) (mvT hZ (hw _ (List.mem_of_getElem? (i := 4) rfl))) (by decide) (backOf (W := 0) (own_slots l Z a0 hw [] (((p4.toUInt32 >>> ((2 : Int32) &&& 31).toUInt32).toInt32) &&& (3 : Int32)) ((p4.toUInt32 >>> ((10 : Int32) &&& 31).toUInt32).toInt32) T123.heap n0 Zs134 (own_and3 _).1 (own_and3 _).2) hZ (hw _ (List.mem_of_getElem? (i := 4) rfl)) (hw _ (List.mem_of_getElem? (i := 3) rfl)) (by decide) (by decide)) (g := (mkF m 82 #[.val (.int p0), .val (.int p1), .val (.int p2), .val (.int p3), .val (.int p4), .val (.int p5), .val (.ref b3), .val (.ref b52), .val (.int (p4 &&& (3 : Int32))), .val (.int (((p4.toUInt32 >>> ((2 : Int32) &&& 31).toUInt32).toInt32) &&& (3 : Int32))), .val (.int ((p4.toUInt32 >>> ((4 : Int32) &&& 31).toUInt32).toInt32)), .val (.int ((p4.toUInt32 >>> ((10 : Int32) &&& 31).toUInt32).toInt32)), .val (.ref r_o_123), .unset, .unset, .unset, .unset, .unset] [(.int ((p4.toUInt32 >>> ((10 : Int32) &&& 31).toUInt32).toInt32)), (.int (((p4.toUInt32 >>> ((2 : Int32) &&& 31).toUInt32).toInt32) &&& (3 : Int32)))])) rfl (by rw [hml]; rfl) (argsL := [(.int (((p4.toUInt32 >>> ((2 : Int32) &&& 31).toUInt32).toInt32) &&& (3 : Int32))), (.int ((p4.toUInt32 >>> ((10 : Int32) &&& 31).toUInt32).toInt32))]) (rest := []) (lenOf own_pd2 rfl) rfl (by show 2 * 0 + _ ≤ _; exact Nat.le_of_eq rfl) (hb hby at_82) (fun _ _ => ⟨rfl, rfl, (by decide : 3 + 1 ≤ _), (by decide : 11 + 3 ≤ _)⟩)
  dsimp only [Pt.U, Pt.locs, Pt.cells, Pt.slots] at X139 l139 y139 z139 st139 hQ139
  rw [l139, y139, z139] at X139
  obtain ⟨r_o_139, k_r_139, rfl, Nq139, sz139_r_o, K139, Pf139_0⟩ := hQ139
  have N140 := Fr.app N124 Nq139
  have Fq142 : Arv Z T123.heap w_c k_c (.object "java/lang/Integer") (256 : Int32) vs_c .null := (Fq126.keep K123 nin0)
  have Ne141 : w_c ≠ r_o_139 := Nat.ne_of_lt (Nat.lt_of_lt_of_le Fq142.lt sz139_r_o)
  have Fq144 : Exa Z T123.heap b3 "[I" := (Fq128.keep K123)
  have Ne143 : b3 ≠ r_o_139 := Nat.ne_of_lt (Nat.lt_of_lt_of_le Fq144.lt sz139_r_o)
  have Fq146 : Exa Z T123.heap b52 "[I" := (Fq130.keep K123)
  have Ne145 : b52 ≠ r_o_139 := Nat.ne_of_lt (Nat.lt_of_lt_of_le Fq146.lt sz139_r_o)
  have Ne147 : r_o_123 ≠ r_o_139 := Nat.ne_of_lt (Nat.lt_of_lt_of_le Pf123_0.lt sz139_r_o)
  have Ge148 : n0 ≤ r_o_139 := Nat.le_trans Zs134 sz139_r_o
  have Sz149 : h0.size ≤ r_o_139 := Nat.le_trans Kc133.1 sz139_r_o
  have Kc150 : Keep h0 T139.heap [] := Kc133.trans K139 all0
  have Zs151 : n0 ≤ T139.heap.size := Nat.le_trans Zs134 K139.1
  obtain ⟨T154, h154, X154, e154, E154, A154, D154, -, st154⟩ := newO X139 hx hZ hown (hw _ (List.mem_of_getElem? (i := 5) rfl)) (hw _ (List.mem_of_getElem? (i := 6) rfl)) (hw _ (List.mem_of_getElem? (i := 7) rfl)) rfl (g := (mkF m 87 #[.val (.int p0), .val (.int p1), .val (.int p2), .val (.int p3), .val (.int p4), .val (.int p5), .val (.ref b3), .val (.ref b52), .val (.int (p4 &&& (3 : Int32))), .val (.int (((p4.toUInt32 >>> ((2 : Int32) &&& 31).toUInt32).toInt32) &&& (3 : Int32))), .val (.int ((p4.toUInt32 >>> ((4 : Int32) &&& 31).toUInt32).toInt32)), .val (.int ((p4.toUInt32 >>> ((10 : Int32) &&& 31).toUInt32).toInt32)), .val (.ref r_o_123), .val (.ref r_o_139), .unset, .unset, .unset, .unset] [])) rfl (hb hby at_87) (by decide) (by decide)
  obtain ⟨b154, g154⟩ : ∃ z, z = T139.heap.size := ⟨_, rfl⟩
  rw [← g154] at A154 D154 st154
  have Fq156 : Arv Z T139.heap w_c k_c (.object "java/lang/Integer") (256 : Int32) vs_c .null := (Fq142.keep K139 nin0)
  have Ne155 : w_c ≠ b154 := Nat.ne_of_lt (Nat.lt_of_lt_of_le Fq156.lt (Nat.le_of_eq g154.symm))
  have Fq158 : Exa Z T139.heap b3 "[I" := (Fq144.keep K139)
  have Ne157 : b3 ≠ b154 := Nat.ne_of_lt (Nat.lt_of_lt_of_le Fq158.lt (Nat.le_of_eq g154.symm))
  have Fq160 : Exa Z T139.heap b52 "[I" := (Fq146.keep K139)
  have Ne159 : b52 ≠ b154 := Nat.ne_of_lt (Nat.lt_of_lt_of_le Fq160.lt (Nat.le_of_eq g154.symm))
  have Fq162 : Arv Z T139.heap r_o_123 k_r_123 .int (p4 &&& (3 : Int32)) [(.int (((p4.toUInt32 >>> ((4 : Int32) &&& 31).toUInt32).toInt32) &&& (3 : Int32))), (.int (((((p4.toUInt32 >>> ((4 : Int32) &&& 31).toUInt32).toInt32).toUInt32 >>> ((2 : Int32) &&& 31).toUInt32).toInt32) &&& (3 : Int32))), (.int (((((p4.toUInt32 >>> ((4 : Int32) &&& 31).toUInt32).toInt32).toUInt32 >>> ((4 : Int32) &&& 31).toUInt32).toInt32) &&& (3 : Int32)))] (.int (0 : Int32)) := (Pf123_0.keep K139 nin0)
  have Ne161 : r_o_123 ≠ b154 := Nat.ne_of_lt (Nat.lt_of_lt_of_le Fq162.lt (Nat.le_of_eq g154.symm))
  have Ne163 : r_o_139 ≠ b154 := Nat.ne_of_lt (Nat.lt_of_lt_of_le Pf139_0.lt (Nat.le_of_eq g154.symm))
  have Ge164 : n0 ≤ b154 := Nat.le_trans Zs151 (Nat.le_of_eq g154.symm)
  have Sz165 : h0.size ≤ b154 := Nat.le_trans Kc150.1 (Nat.le_of_eq g154.symm)
  have Kc166 : Keep h0 h154 [] := Kc150.ext E154
  have Zs167 : n0 ≤ h154.size := (Nat.le_trans Zs151 E154.1)
  have F154_entry : Fld Z h154 b154 "com/example/fovea/fovea/Memory$Key" "entry" "[I" .null := D154 (Or.inl (hw _ (List.mem_of_getElem? (i := 20) rfl))) (ty := (.array .int)) (by decide)
  have F154_slots : Fld Z h154 b154 "com/example/fovea/fovea/Memory$Key" "slots" "[I" .null := D154 (Or.inl (hw _ (List.mem_of_getElem? (i := 22) rfl))) (ty := (.array .int)) (by decide)
  have F154_hash : Fld Z h154 b154 "com/example/fovea/fovea/Memory$Key" "hash" "I" (.int (0 : Int32)) := D154 (Or.inl (hw _ (List.mem_of_getElem? (i := 24) rfl))) (ty := .int) (by decide)
  obtain ⟨_, _, ⟨T170, L170, k170, n170⟩, -, X170, ⟨Lc170, hQ170, l170, y170, z170⟩, st170⟩ := X154.specialBack hx (y := (⟨"com/example/fovea/fovea/Memory$Key", "<init>", "()V"⟩ : MethodName)) rfl hown (mvT hZ (hw _ (List.mem_of_getElem? (i := 8) rfl))) (mvT hZ (hw _ (List.mem_of_getElem? (i := 9) rfl))) (mvT hZ (hw _ (List.mem_of_getElem? (i := 10) rfl))) (by decide) (backOf (W := 1) (own_init l Z a0 hw [] b154 h154 n0 Zs167 ) hZ (hw _ (List.mem_of_getElem? (i := 10) rfl)) (hw _ (List.mem_of_getElem? (i := 7) rfl)) (by decide) (by decide)) (g := (mkF m 91 #[.val (.int p0), .val (.int p1), .val (.int p2), .val (.int p3), .val (.int p4), .val (.int p5), .val (.ref b3), .val (.ref b52), .val (.int (p4 &&& (3 : Int32))), .val (.int (((p4.toUInt32 >>> ((2 : Int32) &&& 31).toUInt32).toInt32) &&& (3 : Int32))), .val (.int ((p4.toUInt32 >>> ((4 : Int32) &&& 31).toUInt32).toInt32)), .val (.int ((p4.toUInt32 >>> ((10 : Int32) &&& 31).toUInt32).toInt32)), .val (.ref r_o_123), .val (.ref r_o_139), .unset, .unset, .unset, .unset] [(.ref b154), (.ref b154)])) rfl (by rw [hml]; rfl) (Steps.refl _) (a := b154) (argsL := []) (rest := [(.ref b154)]) (lenOf own_pd0 rfl) rfl (by show 2 * 0 + _ ≤ _; exact Nat.le_of_eq rfl) (hb hby at_91) (fun _ _ => ⟨rfl, e154, (by decide : 5 + 0 ≤ _), (by decide : 19 + 0 ≤ _)⟩)
  dsimp only [Pt.U, Pt.locs, Pt.cells, Pt.slots] at X170 l170 y170 z170 st170 hQ170
  rw [l170, y170, z170] at X170
  obtain ⟨rfl, Nq170, eh170⟩ := hQ170
  have N171 := Fr.app N140 Nq170
  have Fq176 : Arv Z h154 b3 k3 .int (4 : Int32) [(.int p0), (.int p1), (.int p2), (.int p3)] (.int (0 : Int32)) := ((((((((Vm45.ext E52).other W66 Ne55).other W76 Ne55).other W86 Ne55).other W96 Ne55).keep K123 nin0).keep K139 nin0).ext E154)
  have Fq177 : Arv Z h154 r_o_123 k_r_123 .int (p4 &&& (3 : Int32)) [(.int (((p4.toUInt32 >>> ((4 : Int32) &&& 31).toUInt32).toInt32) &&& (3 : Int32))), (.int (((((p4.toUInt32 >>> ((4 : Int32) &&& 31).toUInt32).toInt32).toUInt32 >>> ((2 : Int32) &&& 31).toUInt32).toInt32) &&& (3 : Int32))), (.int (((((p4.toUInt32 >>> ((4 : Int32) &&& 31).toUInt32).toInt32).toUInt32 >>> ((4 : Int32) &&& 31).toUInt32).toInt32) &&& (3 : Int32)))] (.int (0 : Int32)) := (Fq162.ext E154)
  obtain ⟨cq175, kq175, q175a, q175b, q175c⟩ := isOf hZ eh170 A154
  obtain ⟨_, _, ⟨T175, L175, k175, n175⟩, -, X175, ⟨Lc175, hQ175, l175, y175, z175⟩, st175⟩ := X170.virtualBack hx (y := (⟨"com/example/fovea/fovea/Memory$Key", "of", "([I[I)Lcom/example/fovea/fovea/Memory$Key;"⟩ : MethodName)) (z := (⟨"com/example/fovea/fovea/Memory$Key", "of", "([I[I)Lcom/example/fovea/fovea/Memory$Key;"⟩ : MethodName)) hown (mvT hZ (hw _ (List.mem_of_getElem? (i := 14) rfl))) (mvT hZ (hw _ (List.mem_of_getElem? (i := 15) rfl))) (notFace_of_selects (args := #[]) (mvT hZ (hw _ (List.mem_of_getElem? (i := 17) rfl)))) (mvT hZ (hw _ (List.mem_of_getElem? (i := 17) rfl))) (mvT hZ (hw _ (List.mem_of_getElem? (i := 16) rfl))) (by decide) (backOf (W := 0) (own_of l Z a0 hw [] b154 b3 r_o_123 k3 k_r_123 .null .null (.int (0 : Int32)) (p4 &&& (3 : Int32)) p0 p1 p2 p3 (((p4.toUInt32 >>> ((4 : Int32) &&& 31).toUInt32).toInt32) &&& (3 : Int32)) (((((p4.toUInt32 >>> ((4 : Int32) &&& 31).toUInt32).toInt32).toUInt32 >>> ((2 : Int32) &&& 31).toUInt32).toInt32) &&& (3 : Int32)) (((((p4.toUInt32 >>> ((4 : Int32) &&& 31).toUInt32).toInt32).toUInt32 >>> ((4 : Int32) &&& 31).toUInt32).toInt32) &&& (3 : Int32)) h154 n0 Zs167 A154 F154_entry F154_slots F154_hash Fq176 Fq177 Ge164 Ne157 Ne161 (own_and3 _).2 (own_and4 _) (own_and4 _) (own_and4 _)) hZ (hw _ (List.mem_of_getElem? (i := 18) rfl)) (hw _ (List.mem_of_getElem? (i := 7) rfl)) (by decide) (by decide)) q175a q175c (g := (mkF m 98 #[.val (.int p0), .val (.int p1), .val (.int p2), .val (.int p3), .val (.int p4), .val (.int p5), .val (.ref b3), .val (.ref b52), .val (.int (p4 &&& (3 : Int32))), .val (.int (((p4.toUInt32 >>> ((2 : Int32) &&& 31).toUInt32).toInt32) &&& (3 : Int32))), .val (.int ((p4.toUInt32 >>> ((4 : Int32) &&& 31).toUInt32).toInt32)), .val (.int ((p4.toUInt32 >>> ((10 : Int32) &&& 31).toUInt32).toInt32)), .val (.ref r_o_123), .val (.ref r_o_139), .unset, .unset, .unset, .unset] [(.ref r_o_123), (.ref b3), (.ref b154)])) rfl (by rw [hml]; rfl) (Steps.refl _) (argsL := [(.ref b3), (.ref r_o_123)]) (rest := []) (lenOf own_pd3 rfl) rfl (by show 2 * 0 + _ ≤ _; exact Nat.le_of_eq rfl) (hb hby at_98) (fun _ _ => ⟨rfl, eh170, (by decide : 5 + 0 ≤ _), (by decide : 19 + 0 ≤ _)⟩)
  dsimp only [Pt.U, Pt.locs, Pt.cells, Pt.slots] at X175 l175 y175 z175 st175 hQ175
  rw [l175, y175, z175] at X175
  obtain ⟨rfl, Nq175, K175, Pf175_0, Pf175_1, Pf175_2⟩ := hQ175
  have N178 := Fr.app N171 Nq175
  have Kc179 : Keep h0 T175.heap [] := Kc166.trans K175 (allS (Or.inr Sz165) all0)
  have Zs180 : n0 ≤ T175.heap.size := Nat.le_trans Zs167 K175.1
  obtain ⟨T183, h183, X183, e183, E183, A183, D183, -, st183⟩ := newO X175 hx hZ hown (hw _ (List.mem_of_getElem? (i := 5) rfl)) (hw _ (List.mem_of_getElem? (i := 6) rfl)) (hw _ (List.mem_of_getElem? (i := 7) rfl)) rfl (g := (mkF m 103 #[.val (.int p0), .val (.int p1), .val (.int p2), .val (.int p3), .val (.int p4), .val (.int p5), .val (.ref b3), .val (.ref b52), .val (.int (p4 &&& (3 : Int32))), .val (.int (((p4.toUInt32 >>> ((2 : Int32) &&& 31).toUInt32).toInt32) &&& (3 : Int32))), .val (.int ((p4.toUInt32 >>> ((4 : Int32) &&& 31).toUInt32).toInt32)), .val (.int ((p4.toUInt32 >>> ((10 : Int32) &&& 31).toUInt32).toInt32)), .val (.ref r_o_123), .val (.ref r_o_139), .val (.ref b154), .unset, .unset, .unset] [])) rfl (hb hby at_103) (by decide) (by decide)
  obtain ⟨b183, g183⟩ : ∃ z, z = T175.heap.size := ⟨_, rfl⟩
  rw [← g183] at A183 D183 st183
  have Fq185 : Arv Z T175.heap w_c k_c (.object "java/lang/Integer") (256 : Int32) vs_c .null := ((Fq156.ext E154).keep K175 (ninS Ne155 nin0))
  have Ne184 : w_c ≠ b183 := Nat.ne_of_lt (Nat.lt_of_lt_of_le Fq185.lt (Nat.le_of_eq g183.symm))
  have Fq187 : Exa Z T175.heap b3 "[I" := ((Fq158.ext E154).keep K175)
  have Ne186 : b3 ≠ b183 := Nat.ne_of_lt (Nat.lt_of_lt_of_le Fq187.lt (Nat.le_of_eq g183.symm))
  have Fq189 : Exa Z T175.heap b52 "[I" := ((Fq160.ext E154).keep K175)
  have Ne188 : b52 ≠ b183 := Nat.ne_of_lt (Nat.lt_of_lt_of_le Fq189.lt (Nat.le_of_eq g183.symm))
  have Fq191 : Arv Z T175.heap r_o_123 k_r_123 .int (p4 &&& (3 : Int32)) [(.int (((p4.toUInt32 >>> ((4 : Int32) &&& 31).toUInt32).toInt32) &&& (3 : Int32))), (.int (((((p4.toUInt32 >>> ((4 : Int32) &&& 31).toUInt32).toInt32).toUInt32 >>> ((2 : Int32) &&& 31).toUInt32).toInt32) &&& (3 : Int32))), (.int (((((p4.toUInt32 >>> ((4 : Int32) &&& 31).toUInt32).toInt32).toUInt32 >>> ((4 : Int32) &&& 31).toUInt32).toInt32) &&& (3 : Int32)))] (.int (0 : Int32)) := (Fq177.keep K175 (ninS Ne161 nin0))
  have Ne190 : r_o_123 ≠ b183 := Nat.ne_of_lt (Nat.lt_of_lt_of_le Fq191.lt (Nat.le_of_eq g183.symm))
  have Fq193 : Arv Z T175.heap r_o_139 k_r_139 .int (((p4.toUInt32 >>> ((2 : Int32) &&& 31).toUInt32).toInt32) &&& (3 : Int32)) [(.int (((p4.toUInt32 >>> ((10 : Int32) &&& 31).toUInt32).toInt32) &&& (3 : Int32))), (.int (((((p4.toUInt32 >>> ((10 : Int32) &&& 31).toUInt32).toInt32).toUInt32 >>> ((2 : Int32) &&& 31).toUInt32).toInt32) &&& (3 : Int32))), (.int (((((p4.toUInt32 >>> ((10 : Int32) &&& 31).toUInt32).toInt32).toUInt32 >>> ((4 : Int32) &&& 31).toUInt32).toInt32) &&& (3 : Int32)))] (.int (0 : Int32)) := ((Pf139_0.ext E154).keep K175 (ninS Ne163 nin0))
  have Ne192 : r_o_139 ≠ b183 := Nat.ne_of_lt (Nat.lt_of_lt_of_le Fq193.lt (Nat.le_of_eq g183.symm))
  have Ne194 : b154 ≠ b183 := Nat.ne_of_lt (Nat.lt_of_lt_of_le Pf175_0.lt (Nat.le_of_eq g183.symm))
  have Ge195 : n0 ≤ b183 := Nat.le_trans Zs180 (Nat.le_of_eq g183.symm)
  have Sz196 : h0.size ≤ b183 := Nat.le_trans Kc179.1 (Nat.le_of_eq g183.symm)
  have Kc197 : Keep h0 h183 [] := Kc179.ext E183
  have Zs198 : n0 ≤ h183.size := (Nat.le_trans Zs180 E183.1)
  have F183_entry : Fld Z h183 b183 "com/example/fovea/fovea/Memory$Key" "entry" "[I" .null := D183 (Or.inl (hw _ (List.mem_of_getElem? (i := 20) rfl))) (ty := (.array .int)) (by decide)
  have F183_slots : Fld Z h183 b183 "com/example/fovea/fovea/Memory$Key" "slots" "[I" .null := D183 (Or.inl (hw _ (List.mem_of_getElem? (i := 22) rfl))) (ty := (.array .int)) (by decide)
  have F183_hash : Fld Z h183 b183 "com/example/fovea/fovea/Memory$Key" "hash" "I" (.int (0 : Int32)) := D183 (Or.inl (hw _ (List.mem_of_getElem? (i := 24) rfl))) (ty := .int) (by decide)
  obtain ⟨_, _, ⟨T201, L201, k201, n201⟩, -, X201, ⟨Lc201, hQ201, l201, y201, z201⟩, st201⟩ := X183.specialBack hx (y := (⟨"com/example/fovea/fovea/Memory$Key", "<init>", "()V"⟩ : MethodName)) rfl hown (mvT hZ (hw _ (List.mem_of_getElem? (i := 8) rfl))) (mvT hZ (hw _ (List.mem_of_getElem? (i := 9) rfl))) (mvT hZ (hw _ (List.mem_of_getElem? (i := 10) rfl))) (by decide) (backOf (W := 1) (own_init l Z a0 hw [] b183 h183 n0 Zs198 ) hZ (hw _ (List.mem_of_getElem? (i := 10) rfl)) (hw _ (List.mem_of_getElem? (i := 7) rfl)) (by decide) (by decide)) (g := (mkF m 107 #[.val (.int p0), .val (.int p1), .val (.int p2), .val (.int p3), .val (.int p4), .val (.int p5), .val (.ref b3), .val (.ref b52), .val (.int (p4 &&& (3 : Int32))), .val (.int (((p4.toUInt32 >>> ((2 : Int32) &&& 31).toUInt32).toInt32) &&& (3 : Int32))), .val (.int ((p4.toUInt32 >>> ((4 : Int32) &&& 31).toUInt32).toInt32)), .val (.int ((p4.toUInt32 >>> ((10 : Int32) &&& 31).toUInt32).toInt32)), .val (.ref r_o_123), .val (.ref r_o_139), .val (.ref b154), .unset, .unset, .unset] [(.ref b183), (.ref b183)])) rfl (by rw [hml]; rfl) (Steps.refl _) (a := b183) (argsL := []) (rest := [(.ref b183)]) (lenOf own_pd0 rfl) rfl (by show 2 * 0 + _ ≤ _; exact Nat.le_of_eq rfl) (hb hby at_107) (fun _ _ => ⟨rfl, e183, (by decide : 6 + 0 ≤ _), (by decide : 24 + 0 ≤ _)⟩)
  dsimp only [Pt.U, Pt.locs, Pt.cells, Pt.slots] at X201 l201 y201 z201 st201 hQ201
  rw [l201, y201, z201] at X201
  obtain ⟨rfl, Nq201, eh201⟩ := hQ201
  have N202 := Fr.app N178 Nq201
  have Fq207 : Arv Z h183 b52 k52 .int (4 : Int32) [(.int p1), (.int p0), (.int p3), (.int p2)] (.int (0 : Int32)) := (((((Vm97.keep K123 nin0).keep K139 nin0).ext E154).keep K175 (ninS Ne159 nin0)).ext E183)
  have Fq208 : Arv Z h183 r_o_139 k_r_139 .int (((p4.toUInt32 >>> ((2 : Int32) &&& 31).toUInt32).toInt32) &&& (3 : Int32)) [(.int (((p4.toUInt32 >>> ((10 : Int32) &&& 31).toUInt32).toInt32) &&& (3 : Int32))), (.int (((((p4.toUInt32 >>> ((10 : Int32) &&& 31).toUInt32).toInt32).toUInt32 >>> ((2 : Int32) &&& 31).toUInt32).toInt32) &&& (3 : Int32))), (.int (((((p4.toUInt32 >>> ((10 : Int32) &&& 31).toUInt32).toInt32).toUInt32 >>> ((4 : Int32) &&& 31).toUInt32).toInt32) &&& (3 : Int32)))] (.int (0 : Int32)) := (Fq193.ext E183)
  obtain ⟨cq206, kq206, q206a, q206b, q206c⟩ := isOf hZ eh201 A183
  obtain ⟨_, _, ⟨T206, L206, k206, n206⟩, -, X206, ⟨Lc206, hQ206, l206, y206, z206⟩, st206⟩ := X201.virtualBack hx (y := (⟨"com/example/fovea/fovea/Memory$Key", "of", "([I[I)Lcom/example/fovea/fovea/Memory$Key;"⟩ : MethodName)) (z := (⟨"com/example/fovea/fovea/Memory$Key", "of", "([I[I)Lcom/example/fovea/fovea/Memory$Key;"⟩ : MethodName)) hown (mvT hZ (hw _ (List.mem_of_getElem? (i := 14) rfl))) (mvT hZ (hw _ (List.mem_of_getElem? (i := 15) rfl))) (notFace_of_selects (args := #[]) (mvT hZ (hw _ (List.mem_of_getElem? (i := 17) rfl)))) (mvT hZ (hw _ (List.mem_of_getElem? (i := 17) rfl))) (mvT hZ (hw _ (List.mem_of_getElem? (i := 16) rfl))) (by decide) (backOf (W := 0) (own_of l Z a0 hw [] b183 b52 r_o_139 k52 k_r_139 .null .null (.int (0 : Int32)) (((p4.toUInt32 >>> ((2 : Int32) &&& 31).toUInt32).toInt32) &&& (3 : Int32)) p1 p0 p3 p2 (((p4.toUInt32 >>> ((10 : Int32) &&& 31).toUInt32).toInt32) &&& (3 : Int32)) (((((p4.toUInt32 >>> ((10 : Int32) &&& 31).toUInt32).toInt32).toUInt32 >>> ((2 : Int32) &&& 31).toUInt32).toInt32) &&& (3 : Int32)) (((((p4.toUInt32 >>> ((10 : Int32) &&& 31).toUInt32).toInt32).toUInt32 >>> ((4 : Int32) &&& 31).toUInt32).toInt32) &&& (3 : Int32)) h183 n0 Zs198 A183 F183_entry F183_slots F183_hash Fq207 Fq208 Ge195 Ne188 Ne192 (own_and3 _).2 (own_and4 _) (own_and4 _) (own_and4 _)) hZ (hw _ (List.mem_of_getElem? (i := 18) rfl)) (hw _ (List.mem_of_getElem? (i := 7) rfl)) (by decide) (by decide)) q206a q206c (g := (mkF m 114 #[.val (.int p0), .val (.int p1), .val (.int p2), .val (.int p3), .val (.int p4), .val (.int p5), .val (.ref b3), .val (.ref b52), .val (.int (p4 &&& (3 : Int32))), .val (.int (((p4.toUInt32 >>> ((2 : Int32) &&& 31).toUInt32).toInt32) &&& (3 : Int32))), .val (.int ((p4.toUInt32 >>> ((4 : Int32) &&& 31).toUInt32).toInt32)), .val (.int ((p4.toUInt32 >>> ((10 : Int32) &&& 31).toUInt32).toInt32)), .val (.ref r_o_123), .val (.ref r_o_139), .val (.ref b154), .unset, .unset, .unset] [(.ref r_o_139), (.ref b52), (.ref b183)])) rfl (by rw [hml]; rfl) (Steps.refl _) (argsL := [(.ref b52), (.ref r_o_139)]) (rest := []) (lenOf own_pd3 rfl) rfl (by show 2 * 0 + _ ≤ _; exact Nat.le_of_eq rfl) (hb hby at_114) (fun _ _ => ⟨rfl, eh201, (by decide : 6 + 0 ≤ _), (by decide : 24 + 0 ≤ _)⟩)
  dsimp only [Pt.U, Pt.locs, Pt.cells, Pt.slots] at X206 l206 y206 z206 st206 hQ206
  rw [l206, y206, z206] at X206
  obtain ⟨rfl, Nq206, K206, Pf206_0, Pf206_1, Pf206_2⟩ := hQ206
  have N209 := Fr.app N202 Nq206
  have Kc210 : Keep h0 T206.heap [] := Kc197.trans K206 (allS (Or.inr Sz196) all0)
  have Zs211 : n0 ≤ T206.heap.size := Nat.le_trans Zs198 K206.1
  have pre220 : ∀ t, Steps p.tables e below (T206.setTop (mkF m 128 #[.val (.int p0), .val (.int p1), .val (.int p2), .val (.int p3), .val (.int p4), .val (.int p5), .val (.ref b3), .val (.ref b52), .val (.int (p4 &&& (3 : Int32))), .val (.int (((p4.toUInt32 >>> ((2 : Int32) &&& 31).toUInt32).toInt32) &&& (3 : Int32))), .val (.int ((p4.toUInt32 >>> ((4 : Int32) &&& 31).toUInt32).toInt32)), .val (.int ((p4.toUInt32 >>> ((10 : Int32) &&& 31).toUInt32).toInt32)), .val (.ref r_o_123), .val (.ref r_o_139), .val (.ref b154), .val (.ref b183), .val (.int (p5 &&& (3 : Int32))), .unset] [(.int (1 : Int32)), (.int (p5 &&& (3 : Int32)))])) t → Steps p.tables e below (s₁.setTop (entryFrame m #[(.int p0), (.int p1), (.int p2), (.int p3), (.int p4), (.int p5)] maxLocals)) t := by
    intro t kt
    refine pre0 _ ?_
    show Steps p.tables e below (s₁.setTop (mkF m 0 #[.val (.int p0), .val (.int p1), .val (.int p2), .val (.int p3), .val (.int p4), .val (.int p5), .unset, .unset, .unset, .unset, .unset, .unset, .unset, .unset, .unset, .unset, .unset, .unset] [])) _
    refine XS.iconst X0.here hx rfl (hb hby at_0) ?_
    show Steps p.tables e below (s₁.setTop (mkF m 1 #[.val (.int p0), .val (.int p1), .val (.int p2), .val (.int p3), .val (.int p4), .val (.int p5), .unset, .unset, .unset, .unset, .unset, .unset, .unset, .unset, .unset, .unset, .unset, .unset] [(.int (4 : Int32))])) _
    refine st3 _ ?_
    show Steps p.tables e below (T3.setTop (mkF m 3 #[.val (.int p0), .val (.int p1), .val (.int p2), .val (.int p3), .val (.int p4), .val (.int p5), .unset, .unset, .unset, .unset, .unset, .unset, .unset, .unset, .unset, .unset, .unset, .unset] [(.ref b3)])) _
    refine XS.dup X3.here hx rfl (hb hby at_3) rfl rfl ?_
    show Steps p.tables e below (T3.setTop (mkF m 4 #[.val (.int p0), .val (.int p1), .val (.int p2), .val (.int p3), .val (.int p4), .val (.int p5), .unset, .unset, .unset, .unset, .unset, .unset, .unset, .unset, .unset, .unset, .unset, .unset] [(.ref b3), (.ref b3)])) _
    refine XS.iconst X3.here hx rfl (hb hby at_4) ?_
    show Steps p.tables e below (T3.setTop (mkF m 5 #[.val (.int p0), .val (.int p1), .val (.int p2), .val (.int p3), .val (.int p4), .val (.int p5), .unset, .unset, .unset, .unset, .unset, .unset, .unset, .unset, .unset, .unset, .unset, .unset] [(.int (0 : Int32)), (.ref b3), (.ref b3)])) _
    refine XS.iloadN X3.here hx rfl (hb hby at_5) rfl ?_
    show Steps p.tables e below (T3.setTop (mkF m 6 #[.val (.int p0), .val (.int p1), .val (.int p2), .val (.int p3), .val (.int p4), .val (.int p5), .unset, .unset, .unset, .unset, .unset, .unset, .unset, .unset, .unset, .unset, .unset, .unset] [(.int p0), (.int (0 : Int32)), (.ref b3), (.ref b3)])) _
    refine st14 _ ?_
    show Steps p.tables e below (T14.setTop (mkF m 7 #[.val (.int p0), .val (.int p1), .val (.int p2), .val (.int p3), .val (.int p4), .val (.int p5), .unset, .unset, .unset, .unset, .unset, .unset, .unset, .unset, .unset, .unset, .unset, .unset] [(.ref b3)])) _
    refine XS.dup X14.here hx rfl (hb hby at_7) rfl rfl ?_
    show Steps p.tables e below (T14.setTop (mkF m 8 #[.val (.int p0), .val (.int p1), .val (.int p2), .val (.int p3), .val (.int p4), .val (.int p5), .unset, .unset, .unset, .unset, .unset, .unset, .unset, .unset, .unset, .unset, .unset, .unset] [(.ref b3), (.ref b3)])) _
    refine XS.iconst X14.here hx rfl (hb hby at_8) ?_
    show Steps p.tables e below (T14.setTop (mkF m 9 #[.val (.int p0), .val (.int p1), .val (.int p2), .val (.int p3), .val (.int p4), .val (.int p5), .unset, .unset, .unset, .unset, .unset, .unset, .unset, .unset, .unset, .unset, .unset, .unset] [(.int (1 : Int32)), (.ref b3), (.ref b3)])) _
    refine XS.iloadN X14.here hx rfl (hb hby at_9) rfl ?_
    show Steps p.tables e below (T14.setTop (mkF m 10 #[.val (.int p0), .val (.int p1), .val (.int p2), .val (.int p3), .val (.int p4), .val (.int p5), .unset, .unset, .unset, .unset, .unset, .unset, .unset, .unset, .unset, .unset, .unset, .unset] [(.int p1), (.int (1 : Int32)), (.ref b3), (.ref b3)])) _
    refine st24 _ ?_
    show Steps p.tables e below (T24.setTop (mkF m 11 #[.val (.int p0), .val (.int p1), .val (.int p2), .val (.int p3), .val (.int p4), .val (.int p5), .unset, .unset, .unset, .unset, .unset, .unset, .unset, .unset, .unset, .unset, .unset, .unset] [(.ref b3)])) _
    refine XS.dup X24.here hx rfl (hb hby at_11) rfl rfl ?_
    show Steps p.tables e below (T24.setTop (mkF m 12 #[.val (.int p0), .val (.int p1), .val (.int p2), .val (.int p3), .val (.int p4), .val (.int p5), .unset, .unset, .unset, .unset, .unset, .unset, .unset, .unset, .unset, .unset, .unset, .unset] [(.ref b3), (.ref b3)])) _
    refine XS.iconst X24.here hx rfl (hb hby at_12) ?_
    show Steps p.tables e below (T24.setTop (mkF m 13 #[.val (.int p0), .val (.int p1), .val (.int p2), .val (.int p3), .val (.int p4), .val (.int p5), .unset, .unset, .unset, .unset, .unset, .unset, .unset, .unset, .unset, .unset, .unset, .unset] [(.int (2 : Int32)), (.ref b3), (.ref b3)])) _
    refine XS.iloadN X24.here hx rfl (hb hby at_13) rfl ?_
    show Steps p.tables e below (T24.setTop (mkF m 14 #[.val (.int p0), .val (.int p1), .val (.int p2), .val (.int p3), .val (.int p4), .val (.int p5), .unset, .unset, .unset, .unset, .unset, .unset, .unset, .unset, .unset, .unset, .unset, .unset] [(.int p2), (.int (2 : Int32)), (.ref b3), (.ref b3)])) _
    refine st34 _ ?_
    show Steps p.tables e below (T34.setTop (mkF m 15 #[.val (.int p0), .val (.int p1), .val (.int p2), .val (.int p3), .val (.int p4), .val (.int p5), .unset, .unset, .unset, .unset, .unset, .unset, .unset, .unset, .unset, .unset, .unset, .unset] [(.ref b3)])) _
    refine XS.dup X34.here hx rfl (hb hby at_15) rfl rfl ?_
    show Steps p.tables e below (T34.setTop (mkF m 16 #[.val (.int p0), .val (.int p1), .val (.int p2), .val (.int p3), .val (.int p4), .val (.int p5), .unset, .unset, .unset, .unset, .unset, .unset, .unset, .unset, .unset, .unset, .unset, .unset] [(.ref b3), (.ref b3)])) _
    refine XS.iconst X34.here hx rfl (hb hby at_16) ?_
    show Steps p.tables e below (T34.setTop (mkF m 17 #[.val (.int p0), .val (.int p1), .val (.int p2), .val (.int p3), .val (.int p4), .val (.int p5), .unset, .unset, .unset, .unset, .unset, .unset, .unset, .unset, .unset, .unset, .unset, .unset] [(.int (3 : Int32)), (.ref b3), (.ref b3)])) _
    refine XS.iloadN X34.here hx rfl (hb hby at_17) rfl ?_
    show Steps p.tables e below (T34.setTop (mkF m 18 #[.val (.int p0), .val (.int p1), .val (.int p2), .val (.int p3), .val (.int p4), .val (.int p5), .unset, .unset, .unset, .unset, .unset, .unset, .unset, .unset, .unset, .unset, .unset, .unset] [(.int p3), (.int (3 : Int32)), (.ref b3), (.ref b3)])) _
    refine st44 _ ?_
    show Steps p.tables e below (T44.setTop (mkF m 19 #[.val (.int p0), .val (.int p1), .val (.int p2), .val (.int p3), .val (.int p4), .val (.int p5), .unset, .unset, .unset, .unset, .unset, .unset, .unset, .unset, .unset, .unset, .unset, .unset] [(.ref b3)])) _
    refine XS.astore X44.here hx rfl (hb hby at_19) rfl rfl (l' := #[.val (.int p0), .val (.int p1), .val (.int p2), .val (.int p3), .val (.int p4), .val (.int p5), .val (.ref b3), .unset, .unset, .unset, .unset, .unset, .unset, .unset, .unset, .unset, .unset, .unset]) rfl ?_
    show Steps p.tables e below (T44.setTop (mkF m 21 #[.val (.int p0), .val (.int p1), .val (.int p2), .val (.int p3), .val (.int p4), .val (.int p5), .val (.ref b3), .unset, .unset, .unset, .unset, .unset, .unset, .unset, .unset, .unset, .unset, .unset] [])) _
    refine XS.iconst X44.here hx rfl (hb hby at_21) ?_
    show Steps p.tables e below (T44.setTop (mkF m 22 #[.val (.int p0), .val (.int p1), .val (.int p2), .val (.int p3), .val (.int p4), .val (.int p5), .val (.ref b3), .unset, .unset, .unset, .unset, .unset, .unset, .unset, .unset, .unset, .unset, .unset] [(.int (4 : Int32))])) _
    refine st52 _ ?_
    show Steps p.tables e below (T52.setTop (mkF m 24 #[.val (.int p0), .val (.int p1), .val (.int p2), .val (.int p3), .val (.int p4), .val (.int p5), .val (.ref b3), .unset, .unset, .unset, .unset, .unset, .unset, .unset, .unset, .unset, .unset, .unset] [(.ref b52)])) _
    refine XS.dup X52.here hx rfl (hb hby at_24) rfl rfl ?_
    show Steps p.tables e below (T52.setTop (mkF m 25 #[.val (.int p0), .val (.int p1), .val (.int p2), .val (.int p3), .val (.int p4), .val (.int p5), .val (.ref b3), .unset, .unset, .unset, .unset, .unset, .unset, .unset, .unset, .unset, .unset, .unset] [(.ref b52), (.ref b52)])) _
    refine XS.iconst X52.here hx rfl (hb hby at_25) ?_
    show Steps p.tables e below (T52.setTop (mkF m 26 #[.val (.int p0), .val (.int p1), .val (.int p2), .val (.int p3), .val (.int p4), .val (.int p5), .val (.ref b3), .unset, .unset, .unset, .unset, .unset, .unset, .unset, .unset, .unset, .unset, .unset] [(.int (0 : Int32)), (.ref b52), (.ref b52)])) _
    refine XS.iloadN X52.here hx rfl (hb hby at_26) rfl ?_
    show Steps p.tables e below (T52.setTop (mkF m 27 #[.val (.int p0), .val (.int p1), .val (.int p2), .val (.int p3), .val (.int p4), .val (.int p5), .val (.ref b3), .unset, .unset, .unset, .unset, .unset, .unset, .unset, .unset, .unset, .unset, .unset] [(.int p1), (.int (0 : Int32)), (.ref b52), (.ref b52)])) _
    refine st66 _ ?_
    show Steps p.tables e below (T66.setTop (mkF m 28 #[.val (.int p0), .val (.int p1), .val (.int p2), .val (.int p3), .val (.int p4), .val (.int p5), .val (.ref b3), .unset, .unset, .unset, .unset, .unset, .unset, .unset, .unset, .unset, .unset, .unset] [(.ref b52)])) _
    refine XS.dup X66.here hx rfl (hb hby at_28) rfl rfl ?_
    show Steps p.tables e below (T66.setTop (mkF m 29 #[.val (.int p0), .val (.int p1), .val (.int p2), .val (.int p3), .val (.int p4), .val (.int p5), .val (.ref b3), .unset, .unset, .unset, .unset, .unset, .unset, .unset, .unset, .unset, .unset, .unset] [(.ref b52), (.ref b52)])) _
    refine XS.iconst X66.here hx rfl (hb hby at_29) ?_
    show Steps p.tables e below (T66.setTop (mkF m 30 #[.val (.int p0), .val (.int p1), .val (.int p2), .val (.int p3), .val (.int p4), .val (.int p5), .val (.ref b3), .unset, .unset, .unset, .unset, .unset, .unset, .unset, .unset, .unset, .unset, .unset] [(.int (1 : Int32)), (.ref b52), (.ref b52)])) _
    refine XS.iloadN X66.here hx rfl (hb hby at_30) rfl ?_
    show Steps p.tables e below (T66.setTop (mkF m 31 #[.val (.int p0), .val (.int p1), .val (.int p2), .val (.int p3), .val (.int p4), .val (.int p5), .val (.ref b3), .unset, .unset, .unset, .unset, .unset, .unset, .unset, .unset, .unset, .unset, .unset] [(.int p0), (.int (1 : Int32)), (.ref b52), (.ref b52)])) _
    refine st76 _ ?_
    show Steps p.tables e below (T76.setTop (mkF m 32 #[.val (.int p0), .val (.int p1), .val (.int p2), .val (.int p3), .val (.int p4), .val (.int p5), .val (.ref b3), .unset, .unset, .unset, .unset, .unset, .unset, .unset, .unset, .unset, .unset, .unset] [(.ref b52)])) _
    refine XS.dup X76.here hx rfl (hb hby at_32) rfl rfl ?_
    show Steps p.tables e below (T76.setTop (mkF m 33 #[.val (.int p0), .val (.int p1), .val (.int p2), .val (.int p3), .val (.int p4), .val (.int p5), .val (.ref b3), .unset, .unset, .unset, .unset, .unset, .unset, .unset, .unset, .unset, .unset, .unset] [(.ref b52), (.ref b52)])) _
    refine XS.iconst X76.here hx rfl (hb hby at_33) ?_
    show Steps p.tables e below (T76.setTop (mkF m 34 #[.val (.int p0), .val (.int p1), .val (.int p2), .val (.int p3), .val (.int p4), .val (.int p5), .val (.ref b3), .unset, .unset, .unset, .unset, .unset, .unset, .unset, .unset, .unset, .unset, .unset] [(.int (2 : Int32)), (.ref b52), (.ref b52)])) _
    refine XS.iloadN X76.here hx rfl (hb hby at_34) rfl ?_
    show Steps p.tables e below (T76.setTop (mkF m 35 #[.val (.int p0), .val (.int p1), .val (.int p2), .val (.int p3), .val (.int p4), .val (.int p5), .val (.ref b3), .unset, .unset, .unset, .unset, .unset, .unset, .unset, .unset, .unset, .unset, .unset] [(.int p3), (.int (2 : Int32)), (.ref b52), (.ref b52)])) _
    refine st86 _ ?_
    show Steps p.tables e below (T86.setTop (mkF m 36 #[.val (.int p0), .val (.int p1), .val (.int p2), .val (.int p3), .val (.int p4), .val (.int p5), .val (.ref b3), .unset, .unset, .unset, .unset, .unset, .unset, .unset, .unset, .unset, .unset, .unset] [(.ref b52)])) _
    refine XS.dup X86.here hx rfl (hb hby at_36) rfl rfl ?_
    show Steps p.tables e below (T86.setTop (mkF m 37 #[.val (.int p0), .val (.int p1), .val (.int p2), .val (.int p3), .val (.int p4), .val (.int p5), .val (.ref b3), .unset, .unset, .unset, .unset, .unset, .unset, .unset, .unset, .unset, .unset, .unset] [(.ref b52), (.ref b52)])) _
    refine XS.iconst X86.here hx rfl (hb hby at_37) ?_
    show Steps p.tables e below (T86.setTop (mkF m 38 #[.val (.int p0), .val (.int p1), .val (.int p2), .val (.int p3), .val (.int p4), .val (.int p5), .val (.ref b3), .unset, .unset, .unset, .unset, .unset, .unset, .unset, .unset, .unset, .unset, .unset] [(.int (3 : Int32)), (.ref b52), (.ref b52)])) _
    refine XS.iloadN X86.here hx rfl (hb hby at_38) rfl ?_
    show Steps p.tables e below (T86.setTop (mkF m 39 #[.val (.int p0), .val (.int p1), .val (.int p2), .val (.int p3), .val (.int p4), .val (.int p5), .val (.ref b3), .unset, .unset, .unset, .unset, .unset, .unset, .unset, .unset, .unset, .unset, .unset] [(.int p2), (.int (3 : Int32)), (.ref b52), (.ref b52)])) _
    refine st96 _ ?_
    show Steps p.tables e below (T96.setTop (mkF m 40 #[.val (.int p0), .val (.int p1), .val (.int p2), .val (.int p3), .val (.int p4), .val (.int p5), .val (.ref b3), .unset, .unset, .unset, .unset, .unset, .unset, .unset, .unset, .unset, .unset, .unset] [(.ref b52)])) _
    refine XS.astore X96.here hx rfl (hb hby at_40) rfl rfl (l' := #[.val (.int p0), .val (.int p1), .val (.int p2), .val (.int p3), .val (.int p4), .val (.int p5), .val (.ref b3), .val (.ref b52), .unset, .unset, .unset, .unset, .unset, .unset, .unset, .unset, .unset, .unset]) rfl ?_
    show Steps p.tables e below (T96.setTop (mkF m 42 #[.val (.int p0), .val (.int p1), .val (.int p2), .val (.int p3), .val (.int p4), .val (.int p5), .val (.ref b3), .val (.ref b52), .unset, .unset, .unset, .unset, .unset, .unset, .unset, .unset, .unset, .unset] [])) _
    refine XS.iload X96.here hx rfl (hb hby at_42) rfl ?_
    show Steps p.tables e below (T96.setTop (mkF m 44 #[.val (.int p0), .val (.int p1), .val (.int p2), .val (.int p3), .val (.int p4), .val (.int p5), .val (.ref b3), .val (.ref b52), .unset, .unset, .unset, .unset, .unset, .unset, .unset, .unset, .unset, .unset] [(.int p4)])) _
    refine XS.iconst X96.here hx rfl (hb hby at_44) ?_
    show Steps p.tables e below (T96.setTop (mkF m 45 #[.val (.int p0), .val (.int p1), .val (.int p2), .val (.int p3), .val (.int p4), .val (.int p5), .val (.ref b3), .val (.ref b52), .unset, .unset, .unset, .unset, .unset, .unset, .unset, .unset, .unset, .unset] [(.int (3 : Int32)), (.int p4)])) _
    refine XS.iand X96.here hx rfl (hb hby at_45) rfl ?_
    show Steps p.tables e below (T96.setTop (mkF m 46 #[.val (.int p0), .val (.int p1), .val (.int p2), .val (.int p3), .val (.int p4), .val (.int p5), .val (.ref b3), .val (.ref b52), .unset, .unset, .unset, .unset, .unset, .unset, .unset, .unset, .unset, .unset] [(.int (p4 &&& (3 : Int32)))])) _
    refine XS.istore X96.here hx rfl (hb hby at_46) rfl (l' := #[.val (.int p0), .val (.int p1), .val (.int p2), .val (.int p3), .val (.int p4), .val (.int p5), .val (.ref b3), .val (.ref b52), .val (.int (p4 &&& (3 : Int32))), .unset, .unset, .unset, .unset, .unset, .unset, .unset, .unset, .unset]) rfl ?_
    show Steps p.tables e below (T96.setTop (mkF m 48 #[.val (.int p0), .val (.int p1), .val (.int p2), .val (.int p3), .val (.int p4), .val (.int p5), .val (.ref b3), .val (.ref b52), .val (.int (p4 &&& (3 : Int32))), .unset, .unset, .unset, .unset, .unset, .unset, .unset, .unset, .unset] [])) _
    refine XS.iload X96.here hx rfl (hb hby at_48) rfl ?_
    show Steps p.tables e below (T96.setTop (mkF m 50 #[.val (.int p0), .val (.int p1), .val (.int p2), .val (.int p3), .val (.int p4), .val (.int p5), .val (.ref b3), .val (.ref b52), .val (.int (p4 &&& (3 : Int32))), .unset, .unset, .unset, .unset, .unset, .unset, .unset, .unset, .unset] [(.int p4)])) _
    refine XS.iconst X96.here hx rfl (hb hby at_50) ?_
    show Steps p.tables e below (T96.setTop (mkF m 51 #[.val (.int p0), .val (.int p1), .val (.int p2), .val (.int p3), .val (.int p4), .val (.int p5), .val (.ref b3), .val (.ref b52), .val (.int (p4 &&& (3 : Int32))), .unset, .unset, .unset, .unset, .unset, .unset, .unset, .unset, .unset] [(.int (2 : Int32)), (.int p4)])) _
    refine XS.iushr X96.here hx rfl (hb hby at_51) rfl ?_
    show Steps p.tables e below (T96.setTop (mkF m 52 #[.val (.int p0), .val (.int p1), .val (.int p2), .val (.int p3), .val (.int p4), .val (.int p5), .val (.ref b3), .val (.ref b52), .val (.int (p4 &&& (3 : Int32))), .unset, .unset, .unset, .unset, .unset, .unset, .unset, .unset, .unset] [(.int ((p4.toUInt32 >>> ((2 : Int32) &&& 31).toUInt32).toInt32))])) _
    refine XS.iconst X96.here hx rfl (hb hby at_52) ?_
    show Steps p.tables e below (T96.setTop (mkF m 53 #[.val (.int p0), .val (.int p1), .val (.int p2), .val (.int p3), .val (.int p4), .val (.int p5), .val (.ref b3), .val (.ref b52), .val (.int (p4 &&& (3 : Int32))), .unset, .unset, .unset, .unset, .unset, .unset, .unset, .unset, .unset] [(.int (3 : Int32)), (.int ((p4.toUInt32 >>> ((2 : Int32) &&& 31).toUInt32).toInt32))])) _
    refine XS.iand X96.here hx rfl (hb hby at_53) rfl ?_
    show Steps p.tables e below (T96.setTop (mkF m 54 #[.val (.int p0), .val (.int p1), .val (.int p2), .val (.int p3), .val (.int p4), .val (.int p5), .val (.ref b3), .val (.ref b52), .val (.int (p4 &&& (3 : Int32))), .unset, .unset, .unset, .unset, .unset, .unset, .unset, .unset, .unset] [(.int (((p4.toUInt32 >>> ((2 : Int32) &&& 31).toUInt32).toInt32) &&& (3 : Int32)))])) _
    refine XS.istore X96.here hx rfl (hb hby at_54) rfl (l' := #[.val (.int p0), .val (.int p1), .val (.int p2), .val (.int p3), .val (.int p4), .val (.int p5), .val (.ref b3), .val (.ref b52), .val (.int (p4 &&& (3 : Int32))), .val (.int (((p4.toUInt32 >>> ((2 : Int32) &&& 31).toUInt32).toInt32) &&& (3 : Int32))), .unset, .unset, .unset, .unset, .unset, .unset, .unset, .unset]) rfl ?_
    show Steps p.tables e below (T96.setTop (mkF m 56 #[.val (.int p0), .val (.int p1), .val (.int p2), .val (.int p3), .val (.int p4), .val (.int p5), .val (.ref b3), .val (.ref b52), .val (.int (p4 &&& (3 : Int32))), .val (.int (((p4.toUInt32 >>> ((2 : Int32) &&& 31).toUInt32).toInt32) &&& (3 : Int32))), .unset, .unset, .unset, .unset, .unset, .unset, .unset, .unset] [])) _
    refine XS.iload X96.here hx rfl (hb hby at_56) rfl ?_
    show Steps p.tables e below (T96.setTop (mkF m 58 #[.val (.int p0), .val (.int p1), .val (.int p2), .val (.int p3), .val (.int p4), .val (.int p5), .val (.ref b3), .val (.ref b52), .val (.int (p4 &&& (3 : Int32))), .val (.int (((p4.toUInt32 >>> ((2 : Int32) &&& 31).toUInt32).toInt32) &&& (3 : Int32))), .unset, .unset, .unset, .unset, .unset, .unset, .unset, .unset] [(.int p4)])) _
    refine XS.iconst X96.here hx rfl (hb hby at_58) ?_
    show Steps p.tables e below (T96.setTop (mkF m 59 #[.val (.int p0), .val (.int p1), .val (.int p2), .val (.int p3), .val (.int p4), .val (.int p5), .val (.ref b3), .val (.ref b52), .val (.int (p4 &&& (3 : Int32))), .val (.int (((p4.toUInt32 >>> ((2 : Int32) &&& 31).toUInt32).toInt32) &&& (3 : Int32))), .unset, .unset, .unset, .unset, .unset, .unset, .unset, .unset] [(.int (4 : Int32)), (.int p4)])) _
    refine XS.iushr X96.here hx rfl (hb hby at_59) rfl ?_
    show Steps p.tables e below (T96.setTop (mkF m 60 #[.val (.int p0), .val (.int p1), .val (.int p2), .val (.int p3), .val (.int p4), .val (.int p5), .val (.ref b3), .val (.ref b52), .val (.int (p4 &&& (3 : Int32))), .val (.int (((p4.toUInt32 >>> ((2 : Int32) &&& 31).toUInt32).toInt32) &&& (3 : Int32))), .unset, .unset, .unset, .unset, .unset, .unset, .unset, .unset] [(.int ((p4.toUInt32 >>> ((4 : Int32) &&& 31).toUInt32).toInt32))])) _
    refine XS.istore X96.here hx rfl (hb hby at_60) rfl (l' := #[.val (.int p0), .val (.int p1), .val (.int p2), .val (.int p3), .val (.int p4), .val (.int p5), .val (.ref b3), .val (.ref b52), .val (.int (p4 &&& (3 : Int32))), .val (.int (((p4.toUInt32 >>> ((2 : Int32) &&& 31).toUInt32).toInt32) &&& (3 : Int32))), .val (.int ((p4.toUInt32 >>> ((4 : Int32) &&& 31).toUInt32).toInt32)), .unset, .unset, .unset, .unset, .unset, .unset, .unset]) rfl ?_
    show Steps p.tables e below (T96.setTop (mkF m 62 #[.val (.int p0), .val (.int p1), .val (.int p2), .val (.int p3), .val (.int p4), .val (.int p5), .val (.ref b3), .val (.ref b52), .val (.int (p4 &&& (3 : Int32))), .val (.int (((p4.toUInt32 >>> ((2 : Int32) &&& 31).toUInt32).toInt32) &&& (3 : Int32))), .val (.int ((p4.toUInt32 >>> ((4 : Int32) &&& 31).toUInt32).toInt32)), .unset, .unset, .unset, .unset, .unset, .unset, .unset] [])) _
    refine XS.iload X96.here hx rfl (hb hby at_62) rfl ?_
    show Steps p.tables e below (T96.setTop (mkF m 64 #[.val (.int p0), .val (.int p1), .val (.int p2), .val (.int p3), .val (.int p4), .val (.int p5), .val (.ref b3), .val (.ref b52), .val (.int (p4 &&& (3 : Int32))), .val (.int (((p4.toUInt32 >>> ((2 : Int32) &&& 31).toUInt32).toInt32) &&& (3 : Int32))), .val (.int ((p4.toUInt32 >>> ((4 : Int32) &&& 31).toUInt32).toInt32)), .unset, .unset, .unset, .unset, .unset, .unset, .unset] [(.int p4)])) _
    refine XS.bipush X96.here hx rfl (hb hby at_64) ?_
    show Steps p.tables e below (T96.setTop (mkF m 66 #[.val (.int p0), .val (.int p1), .val (.int p2), .val (.int p3), .val (.int p4), .val (.int p5), .val (.ref b3), .val (.ref b52), .val (.int (p4 &&& (3 : Int32))), .val (.int (((p4.toUInt32 >>> ((2 : Int32) &&& 31).toUInt32).toInt32) &&& (3 : Int32))), .val (.int ((p4.toUInt32 >>> ((4 : Int32) &&& 31).toUInt32).toInt32)), .unset, .unset, .unset, .unset, .unset, .unset, .unset] [(.int (10 : Int32)), (.int p4)])) _
    refine XS.iushr X96.here hx rfl (hb hby at_66) rfl ?_
    show Steps p.tables e below (T96.setTop (mkF m 67 #[.val (.int p0), .val (.int p1), .val (.int p2), .val (.int p3), .val (.int p4), .val (.int p5), .val (.ref b3), .val (.ref b52), .val (.int (p4 &&& (3 : Int32))), .val (.int (((p4.toUInt32 >>> ((2 : Int32) &&& 31).toUInt32).toInt32) &&& (3 : Int32))), .val (.int ((p4.toUInt32 >>> ((4 : Int32) &&& 31).toUInt32).toInt32)), .unset, .unset, .unset, .unset, .unset, .unset, .unset] [(.int ((p4.toUInt32 >>> ((10 : Int32) &&& 31).toUInt32).toInt32))])) _
    refine XS.istore X96.here hx rfl (hb hby at_67) rfl (l' := #[.val (.int p0), .val (.int p1), .val (.int p2), .val (.int p3), .val (.int p4), .val (.int p5), .val (.ref b3), .val (.ref b52), .val (.int (p4 &&& (3 : Int32))), .val (.int (((p4.toUInt32 >>> ((2 : Int32) &&& 31).toUInt32).toInt32) &&& (3 : Int32))), .val (.int ((p4.toUInt32 >>> ((4 : Int32) &&& 31).toUInt32).toInt32)), .val (.int ((p4.toUInt32 >>> ((10 : Int32) &&& 31).toUInt32).toInt32)), .unset, .unset, .unset, .unset, .unset, .unset]) rfl ?_
    show Steps p.tables e below (T96.setTop (mkF m 69 #[.val (.int p0), .val (.int p1), .val (.int p2), .val (.int p3), .val (.int p4), .val (.int p5), .val (.ref b3), .val (.ref b52), .val (.int (p4 &&& (3 : Int32))), .val (.int (((p4.toUInt32 >>> ((2 : Int32) &&& 31).toUInt32).toInt32) &&& (3 : Int32))), .val (.int ((p4.toUInt32 >>> ((4 : Int32) &&& 31).toUInt32).toInt32)), .val (.int ((p4.toUInt32 >>> ((10 : Int32) &&& 31).toUInt32).toInt32)), .unset, .unset, .unset, .unset, .unset, .unset] [])) _
    refine XS.iload X96.here hx rfl (hb hby at_69) rfl ?_
    show Steps p.tables e below (T96.setTop (mkF m 71 #[.val (.int p0), .val (.int p1), .val (.int p2), .val (.int p3), .val (.int p4), .val (.int p5), .val (.ref b3), .val (.ref b52), .val (.int (p4 &&& (3 : Int32))), .val (.int (((p4.toUInt32 >>> ((2 : Int32) &&& 31).toUInt32).toInt32) &&& (3 : Int32))), .val (.int ((p4.toUInt32 >>> ((4 : Int32) &&& 31).toUInt32).toInt32)), .val (.int ((p4.toUInt32 >>> ((10 : Int32) &&& 31).toUInt32).toInt32)), .unset, .unset, .unset, .unset, .unset, .unset] [(.int (p4 &&& (3 : Int32)))])) _
    refine XS.iload X96.here hx rfl (hb hby at_71) rfl ?_
    show Steps p.tables e below (T96.setTop (mkF m 73 #[.val (.int p0), .val (.int p1), .val (.int p2), .val (.int p3), .val (.int p4), .val (.int p5), .val (.ref b3), .val (.ref b52), .val (.int (p4 &&& (3 : Int32))), .val (.int (((p4.toUInt32 >>> ((2 : Int32) &&& 31).toUInt32).toInt32) &&& (3 : Int32))), .val (.int ((p4.toUInt32 >>> ((4 : Int32) &&& 31).toUInt32).toInt32)), .val (.int ((p4.toUInt32 >>> ((10 : Int32) &&& 31).toUInt32).toInt32)), .unset, .unset, .unset, .unset, .unset, .unset] [(.int ((p4.toUInt32 >>> ((4 : Int32) &&& 31).toUInt32).toInt32)), (.int (p4 &&& (3 : Int32)))])) _
    refine st123 _ ?_
    show Steps p.tables e below (T123.setTop (mkF m 76 #[.val (.int p0), .val (.int p1), .val (.int p2), .val (.int p3), .val (.int p4), .val (.int p5), .val (.ref b3), .val (.ref b52), .val (.int (p4 &&& (3 : Int32))), .val (.int (((p4.toUInt32 >>> ((2 : Int32) &&& 31).toUInt32).toInt32) &&& (3 : Int32))), .val (.int ((p4.toUInt32 >>> ((4 : Int32) &&& 31).toUInt32).toInt32)), .val (.int ((p4.toUInt32 >>> ((10 : Int32) &&& 31).toUInt32).toInt32)), .unset, .unset, .unset, .unset, .unset, .unset] [(.ref r_o_123)])) _
    refine XS.astore X123.here hx rfl (hb hby at_76) rfl rfl (l' := #[.val (.int p0), .val (.int p1), .val (.int p2), .val (.int p3), .val (.int p4), .val (.int p5), .val (.ref b3), .val (.ref b52), .val (.int (p4 &&& (3 : Int32))), .val (.int (((p4.toUInt32 >>> ((2 : Int32) &&& 31).toUInt32).toInt32) &&& (3 : Int32))), .val (.int ((p4.toUInt32 >>> ((4 : Int32) &&& 31).toUInt32).toInt32)), .val (.int ((p4.toUInt32 >>> ((10 : Int32) &&& 31).toUInt32).toInt32)), .val (.ref r_o_123), .unset, .unset, .unset, .unset, .unset]) rfl ?_
    show Steps p.tables e below (T123.setTop (mkF m 78 #[.val (.int p0), .val (.int p1), .val (.int p2), .val (.int p3), .val (.int p4), .val (.int p5), .val (.ref b3), .val (.ref b52), .val (.int (p4 &&& (3 : Int32))), .val (.int (((p4.toUInt32 >>> ((2 : Int32) &&& 31).toUInt32).toInt32) &&& (3 : Int32))), .val (.int ((p4.toUInt32 >>> ((4 : Int32) &&& 31).toUInt32).toInt32)), .val (.int ((p4.toUInt32 >>> ((10 : Int32) &&& 31).toUInt32).toInt32)), .val (.ref r_o_123), .unset, .unset, .unset, .unset, .unset] [])) _
    refine XS.iload X123.here hx rfl (hb hby at_78) rfl ?_
    show Steps p.tables e below (T123.setTop (mkF m 80 #[.val (.int p0), .val (.int p1), .val (.int p2), .val (.int p3), .val (.int p4), .val (.int p5), .val (.ref b3), .val (.ref b52), .val (.int (p4 &&& (3 : Int32))), .val (.int (((p4.toUInt32 >>> ((2 : Int32) &&& 31).toUInt32).toInt32) &&& (3 : Int32))), .val (.int ((p4.toUInt32 >>> ((4 : Int32) &&& 31).toUInt32).toInt32)), .val (.int ((p4.toUInt32 >>> ((10 : Int32) &&& 31).toUInt32).toInt32)), .val (.ref r_o_123), .unset, .unset, .unset, .unset, .unset] [(.int (((p4.toUInt32 >>> ((2 : Int32) &&& 31).toUInt32).toInt32) &&& (3 : Int32)))])) _
    refine XS.iload X123.here hx rfl (hb hby at_80) rfl ?_
    show Steps p.tables e below (T123.setTop (mkF m 82 #[.val (.int p0), .val (.int p1), .val (.int p2), .val (.int p3), .val (.int p4), .val (.int p5), .val (.ref b3), .val (.ref b52), .val (.int (p4 &&& (3 : Int32))), .val (.int (((p4.toUInt32 >>> ((2 : Int32) &&& 31).toUInt32).toInt32) &&& (3 : Int32))), .val (.int ((p4.toUInt32 >>> ((4 : Int32) &&& 31).toUInt32).toInt32)), .val (.int ((p4.toUInt32 >>> ((10 : Int32) &&& 31).toUInt32).toInt32)), .val (.ref r_o_123), .unset, .unset, .unset, .unset, .unset] [(.int ((p4.toUInt32 >>> ((10 : Int32) &&& 31).toUInt32).toInt32)), (.int (((p4.toUInt32 >>> ((2 : Int32) &&& 31).toUInt32).toInt32) &&& (3 : Int32)))])) _
    refine st139 _ ?_
    show Steps p.tables e below (T139.setTop (mkF m 85 #[.val (.int p0), .val (.int p1), .val (.int p2), .val (.int p3), .val (.int p4), .val (.int p5), .val (.ref b3), .val (.ref b52), .val (.int (p4 &&& (3 : Int32))), .val (.int (((p4.toUInt32 >>> ((2 : Int32) &&& 31).toUInt32).toInt32) &&& (3 : Int32))), .val (.int ((p4.toUInt32 >>> ((4 : Int32) &&& 31).toUInt32).toInt32)), .val (.int ((p4.toUInt32 >>> ((10 : Int32) &&& 31).toUInt32).toInt32)), .val (.ref r_o_123), .unset, .unset, .unset, .unset, .unset] [(.ref r_o_139)])) _
    refine XS.astore X139.here hx rfl (hb hby at_85) rfl rfl (l' := #[.val (.int p0), .val (.int p1), .val (.int p2), .val (.int p3), .val (.int p4), .val (.int p5), .val (.ref b3), .val (.ref b52), .val (.int (p4 &&& (3 : Int32))), .val (.int (((p4.toUInt32 >>> ((2 : Int32) &&& 31).toUInt32).toInt32) &&& (3 : Int32))), .val (.int ((p4.toUInt32 >>> ((4 : Int32) &&& 31).toUInt32).toInt32)), .val (.int ((p4.toUInt32 >>> ((10 : Int32) &&& 31).toUInt32).toInt32)), .val (.ref r_o_123), .val (.ref r_o_139), .unset, .unset, .unset, .unset]) rfl ?_
    show Steps p.tables e below (T139.setTop (mkF m 87 #[.val (.int p0), .val (.int p1), .val (.int p2), .val (.int p3), .val (.int p4), .val (.int p5), .val (.ref b3), .val (.ref b52), .val (.int (p4 &&& (3 : Int32))), .val (.int (((p4.toUInt32 >>> ((2 : Int32) &&& 31).toUInt32).toInt32) &&& (3 : Int32))), .val (.int ((p4.toUInt32 >>> ((4 : Int32) &&& 31).toUInt32).toInt32)), .val (.int ((p4.toUInt32 >>> ((10 : Int32) &&& 31).toUInt32).toInt32)), .val (.ref r_o_123), .val (.ref r_o_139), .unset, .unset, .unset, .unset] [])) _
    refine st154 _ ?_
    show Steps p.tables e below (T154.setTop (mkF m 90 #[.val (.int p0), .val (.int p1), .val (.int p2), .val (.int p3), .val (.int p4), .val (.int p5), .val (.ref b3), .val (.ref b52), .val (.int (p4 &&& (3 : Int32))), .val (.int (((p4.toUInt32 >>> ((2 : Int32) &&& 31).toUInt32).toInt32) &&& (3 : Int32))), .val (.int ((p4.toUInt32 >>> ((4 : Int32) &&& 31).toUInt32).toInt32)), .val (.int ((p4.toUInt32 >>> ((10 : Int32) &&& 31).toUInt32).toInt32)), .val (.ref r_o_123), .val (.ref r_o_139), .unset, .unset, .unset, .unset] [(.ref b154)])) _
    refine XS.dup X154.here hx rfl (hb hby at_90) rfl rfl ?_
    show Steps p.tables e below (T154.setTop (mkF m 91 #[.val (.int p0), .val (.int p1), .val (.int p2), .val (.int p3), .val (.int p4), .val (.int p5), .val (.ref b3), .val (.ref b52), .val (.int (p4 &&& (3 : Int32))), .val (.int (((p4.toUInt32 >>> ((2 : Int32) &&& 31).toUInt32).toInt32) &&& (3 : Int32))), .val (.int ((p4.toUInt32 >>> ((4 : Int32) &&& 31).toUInt32).toInt32)), .val (.int ((p4.toUInt32 >>> ((10 : Int32) &&& 31).toUInt32).toInt32)), .val (.ref r_o_123), .val (.ref r_o_139), .unset, .unset, .unset, .unset] [(.ref b154), (.ref b154)])) _
    refine st170.trans ?_
    show Steps p.tables e below (T170.setTop (mkF m 94 #[.val (.int p0), .val (.int p1), .val (.int p2), .val (.int p3), .val (.int p4), .val (.int p5), .val (.ref b3), .val (.ref b52), .val (.int (p4 &&& (3 : Int32))), .val (.int (((p4.toUInt32 >>> ((2 : Int32) &&& 31).toUInt32).toInt32) &&& (3 : Int32))), .val (.int ((p4.toUInt32 >>> ((4 : Int32) &&& 31).toUInt32).toInt32)), .val (.int ((p4.toUInt32 >>> ((10 : Int32) &&& 31).toUInt32).toInt32)), .val (.ref r_o_123), .val (.ref r_o_139), .unset, .unset, .unset, .unset] [(.ref b154)])) _
    refine XS.aload X170.here hx rfl (hb hby at_94) rfl rfl ?_
    show Steps p.tables e below (T170.setTop (mkF m 96 #[.val (.int p0), .val (.int p1), .val (.int p2), .val (.int p3), .val (.int p4), .val (.int p5), .val (.ref b3), .val (.ref b52), .val (.int (p4 &&& (3 : Int32))), .val (.int (((p4.toUInt32 >>> ((2 : Int32) &&& 31).toUInt32).toInt32) &&& (3 : Int32))), .val (.int ((p4.toUInt32 >>> ((4 : Int32) &&& 31).toUInt32).toInt32)), .val (.int ((p4.toUInt32 >>> ((10 : Int32) &&& 31).toUInt32).toInt32)), .val (.ref r_o_123), .val (.ref r_o_139), .unset, .unset, .unset, .unset] [(.ref b3), (.ref b154)])) _
    refine XS.aload X170.here hx rfl (hb hby at_96) rfl rfl ?_
    show Steps p.tables e below (T170.setTop (mkF m 98 #[.val (.int p0), .val (.int p1), .val (.int p2), .val (.int p3), .val (.int p4), .val (.int p5), .val (.ref b3), .val (.ref b52), .val (.int (p4 &&& (3 : Int32))), .val (.int (((p4.toUInt32 >>> ((2 : Int32) &&& 31).toUInt32).toInt32) &&& (3 : Int32))), .val (.int ((p4.toUInt32 >>> ((4 : Int32) &&& 31).toUInt32).toInt32)), .val (.int ((p4.toUInt32 >>> ((10 : Int32) &&& 31).toUInt32).toInt32)), .val (.ref r_o_123), .val (.ref r_o_139), .unset, .unset, .unset, .unset] [(.ref r_o_123), (.ref b3), (.ref b154)])) _
    refine st175.trans ?_
    show Steps p.tables e below (T175.setTop (mkF m 101 #[.val (.int p0), .val (.int p1), .val (.int p2), .val (.int p3), .val (.int p4), .val (.int p5), .val (.ref b3), .val (.ref b52), .val (.int (p4 &&& (3 : Int32))), .val (.int (((p4.toUInt32 >>> ((2 : Int32) &&& 31).toUInt32).toInt32) &&& (3 : Int32))), .val (.int ((p4.toUInt32 >>> ((4 : Int32) &&& 31).toUInt32).toInt32)), .val (.int ((p4.toUInt32 >>> ((10 : Int32) &&& 31).toUInt32).toInt32)), .val (.ref r_o_123), .val (.ref r_o_139), .unset, .unset, .unset, .unset] [(.ref b154)])) _
    refine XS.astore X175.here hx rfl (hb hby at_101) rfl rfl (l' := #[.val (.int p0), .val (.int p1), .val (.int p2), .val (.int p3), .val (.int p4), .val (.int p5), .val (.ref b3), .val (.ref b52), .val (.int (p4 &&& (3 : Int32))), .val (.int (((p4.toUInt32 >>> ((2 : Int32) &&& 31).toUInt32).toInt32) &&& (3 : Int32))), .val (.int ((p4.toUInt32 >>> ((4 : Int32) &&& 31).toUInt32).toInt32)), .val (.int ((p4.toUInt32 >>> ((10 : Int32) &&& 31).toUInt32).toInt32)), .val (.ref r_o_123), .val (.ref r_o_139), .val (.ref b154), .unset, .unset, .unset]) rfl ?_
    show Steps p.tables e below (T175.setTop (mkF m 103 #[.val (.int p0), .val (.int p1), .val (.int p2), .val (.int p3), .val (.int p4), .val (.int p5), .val (.ref b3), .val (.ref b52), .val (.int (p4 &&& (3 : Int32))), .val (.int (((p4.toUInt32 >>> ((2 : Int32) &&& 31).toUInt32).toInt32) &&& (3 : Int32))), .val (.int ((p4.toUInt32 >>> ((4 : Int32) &&& 31).toUInt32).toInt32)), .val (.int ((p4.toUInt32 >>> ((10 : Int32) &&& 31).toUInt32).toInt32)), .val (.ref r_o_123), .val (.ref r_o_139), .val (.ref b154), .unset, .unset, .unset] [])) _
    refine st183 _ ?_
    show Steps p.tables e below (T183.setTop (mkF m 106 #[.val (.int p0), .val (.int p1), .val (.int p2), .val (.int p3), .val (.int p4), .val (.int p5), .val (.ref b3), .val (.ref b52), .val (.int (p4 &&& (3 : Int32))), .val (.int (((p4.toUInt32 >>> ((2 : Int32) &&& 31).toUInt32).toInt32) &&& (3 : Int32))), .val (.int ((p4.toUInt32 >>> ((4 : Int32) &&& 31).toUInt32).toInt32)), .val (.int ((p4.toUInt32 >>> ((10 : Int32) &&& 31).toUInt32).toInt32)), .val (.ref r_o_123), .val (.ref r_o_139), .val (.ref b154), .unset, .unset, .unset] [(.ref b183)])) _
    refine XS.dup X183.here hx rfl (hb hby at_106) rfl rfl ?_
    show Steps p.tables e below (T183.setTop (mkF m 107 #[.val (.int p0), .val (.int p1), .val (.int p2), .val (.int p3), .val (.int p4), .val (.int p5), .val (.ref b3), .val (.ref b52), .val (.int (p4 &&& (3 : Int32))), .val (.int (((p4.toUInt32 >>> ((2 : Int32) &&& 31).toUInt32).toInt32) &&& (3 : Int32))), .val (.int ((p4.toUInt32 >>> ((4 : Int32) &&& 31).toUInt32).toInt32)), .val (.int ((p4.toUInt32 >>> ((10 : Int32) &&& 31).toUInt32).toInt32)), .val (.ref r_o_123), .val (.ref r_o_139), .val (.ref b154), .unset, .unset, .unset] [(.ref b183), (.ref b183)])) _
    refine st201.trans ?_
    show Steps p.tables e below (T201.setTop (mkF m 110 #[.val (.int p0), .val (.int p1), .val (.int p2), .val (.int p3), .val (.int p4), .val (.int p5), .val (.ref b3), .val (.ref b52), .val (.int (p4 &&& (3 : Int32))), .val (.int (((p4.toUInt32 >>> ((2 : Int32) &&& 31).toUInt32).toInt32) &&& (3 : Int32))), .val (.int ((p4.toUInt32 >>> ((4 : Int32) &&& 31).toUInt32).toInt32)), .val (.int ((p4.toUInt32 >>> ((10 : Int32) &&& 31).toUInt32).toInt32)), .val (.ref r_o_123), .val (.ref r_o_139), .val (.ref b154), .unset, .unset, .unset] [(.ref b183)])) _
    refine XS.aload X201.here hx rfl (hb hby at_110) rfl rfl ?_
    show Steps p.tables e below (T201.setTop (mkF m 112 #[.val (.int p0), .val (.int p1), .val (.int p2), .val (.int p3), .val (.int p4), .val (.int p5), .val (.ref b3), .val (.ref b52), .val (.int (p4 &&& (3 : Int32))), .val (.int (((p4.toUInt32 >>> ((2 : Int32) &&& 31).toUInt32).toInt32) &&& (3 : Int32))), .val (.int ((p4.toUInt32 >>> ((4 : Int32) &&& 31).toUInt32).toInt32)), .val (.int ((p4.toUInt32 >>> ((10 : Int32) &&& 31).toUInt32).toInt32)), .val (.ref r_o_123), .val (.ref r_o_139), .val (.ref b154), .unset, .unset, .unset] [(.ref b52), (.ref b183)])) _
    refine XS.aload X201.here hx rfl (hb hby at_112) rfl rfl ?_
    show Steps p.tables e below (T201.setTop (mkF m 114 #[.val (.int p0), .val (.int p1), .val (.int p2), .val (.int p3), .val (.int p4), .val (.int p5), .val (.ref b3), .val (.ref b52), .val (.int (p4 &&& (3 : Int32))), .val (.int (((p4.toUInt32 >>> ((2 : Int32) &&& 31).toUInt32).toInt32) &&& (3 : Int32))), .val (.int ((p4.toUInt32 >>> ((4 : Int32) &&& 31).toUInt32).toInt32)), .val (.int ((p4.toUInt32 >>> ((10 : Int32) &&& 31).toUInt32).toInt32)), .val (.ref r_o_123), .val (.ref r_o_139), .val (.ref b154), .unset, .unset, .unset] [(.ref r_o_139), (.ref b52), (.ref b183)])) _
    refine st206.trans ?_
    show Steps p.tables e below (T206.setTop (mkF m 117 #[.val (.int p0), .val (.int p1), .val (.int p2), .val (.int p3), .val (.int p4), .val (.int p5), .val (.ref b3), .val (.ref b52), .val (.int (p4 &&& (3 : Int32))), .val (.int (((p4.toUInt32 >>> ((2 : Int32) &&& 31).toUInt32).toInt32) &&& (3 : Int32))), .val (.int ((p4.toUInt32 >>> ((4 : Int32) &&& 31).toUInt32).toInt32)), .val (.int ((p4.toUInt32 >>> ((10 : Int32) &&& 31).toUInt32).toInt32)), .val (.ref r_o_123), .val (.ref r_o_139), .val (.ref b154), .unset, .unset, .unset] [(.ref b183)])) _
    refine XS.astore X206.here hx rfl (hb hby at_117) rfl rfl (l' := #[.val (.int p0), .val (.int p1), .val (.int p2), .val (.int p3), .val (.int p4), .val (.int p5), .val (.ref b3), .val (.ref b52), .val (.int (p4 &&& (3 : Int32))), .val (.int (((p4.toUInt32 >>> ((2 : Int32) &&& 31).toUInt32).toInt32) &&& (3 : Int32))), .val (.int ((p4.toUInt32 >>> ((4 : Int32) &&& 31).toUInt32).toInt32)), .val (.int ((p4.toUInt32 >>> ((10 : Int32) &&& 31).toUInt32).toInt32)), .val (.ref r_o_123), .val (.ref r_o_139), .val (.ref b154), .val (.ref b183), .unset, .unset]) rfl ?_
    show Steps p.tables e below (T206.setTop (mkF m 119 #[.val (.int p0), .val (.int p1), .val (.int p2), .val (.int p3), .val (.int p4), .val (.int p5), .val (.ref b3), .val (.ref b52), .val (.int (p4 &&& (3 : Int32))), .val (.int (((p4.toUInt32 >>> ((2 : Int32) &&& 31).toUInt32).toInt32) &&& (3 : Int32))), .val (.int ((p4.toUInt32 >>> ((4 : Int32) &&& 31).toUInt32).toInt32)), .val (.int ((p4.toUInt32 >>> ((10 : Int32) &&& 31).toUInt32).toInt32)), .val (.ref r_o_123), .val (.ref r_o_139), .val (.ref b154), .val (.ref b183), .unset, .unset] [])) _
    refine XS.iload X206.here hx rfl (hb hby at_119) rfl ?_
    show Steps p.tables e below (T206.setTop (mkF m 121 #[.val (.int p0), .val (.int p1), .val (.int p2), .val (.int p3), .val (.int p4), .val (.int p5), .val (.ref b3), .val (.ref b52), .val (.int (p4 &&& (3 : Int32))), .val (.int (((p4.toUInt32 >>> ((2 : Int32) &&& 31).toUInt32).toInt32) &&& (3 : Int32))), .val (.int ((p4.toUInt32 >>> ((4 : Int32) &&& 31).toUInt32).toInt32)), .val (.int ((p4.toUInt32 >>> ((10 : Int32) &&& 31).toUInt32).toInt32)), .val (.ref r_o_123), .val (.ref r_o_139), .val (.ref b154), .val (.ref b183), .unset, .unset] [(.int p5)])) _
    refine XS.iconst X206.here hx rfl (hb hby at_121) ?_
    show Steps p.tables e below (T206.setTop (mkF m 122 #[.val (.int p0), .val (.int p1), .val (.int p2), .val (.int p3), .val (.int p4), .val (.int p5), .val (.ref b3), .val (.ref b52), .val (.int (p4 &&& (3 : Int32))), .val (.int (((p4.toUInt32 >>> ((2 : Int32) &&& 31).toUInt32).toInt32) &&& (3 : Int32))), .val (.int ((p4.toUInt32 >>> ((4 : Int32) &&& 31).toUInt32).toInt32)), .val (.int ((p4.toUInt32 >>> ((10 : Int32) &&& 31).toUInt32).toInt32)), .val (.ref r_o_123), .val (.ref r_o_139), .val (.ref b154), .val (.ref b183), .unset, .unset] [(.int (3 : Int32)), (.int p5)])) _
    refine XS.iand X206.here hx rfl (hb hby at_122) rfl ?_
    show Steps p.tables e below (T206.setTop (mkF m 123 #[.val (.int p0), .val (.int p1), .val (.int p2), .val (.int p3), .val (.int p4), .val (.int p5), .val (.ref b3), .val (.ref b52), .val (.int (p4 &&& (3 : Int32))), .val (.int (((p4.toUInt32 >>> ((2 : Int32) &&& 31).toUInt32).toInt32) &&& (3 : Int32))), .val (.int ((p4.toUInt32 >>> ((4 : Int32) &&& 31).toUInt32).toInt32)), .val (.int ((p4.toUInt32 >>> ((10 : Int32) &&& 31).toUInt32).toInt32)), .val (.ref r_o_123), .val (.ref r_o_139), .val (.ref b154), .val (.ref b183), .unset, .unset] [(.int (p5 &&& (3 : Int32)))])) _
    refine XS.istore X206.here hx rfl (hb hby at_123) rfl (l' := #[.val (.int p0), .val (.int p1), .val (.int p2), .val (.int p3), .val (.int p4), .val (.int p5), .val (.ref b3), .val (.ref b52), .val (.int (p4 &&& (3 : Int32))), .val (.int (((p4.toUInt32 >>> ((2 : Int32) &&& 31).toUInt32).toInt32) &&& (3 : Int32))), .val (.int ((p4.toUInt32 >>> ((4 : Int32) &&& 31).toUInt32).toInt32)), .val (.int ((p4.toUInt32 >>> ((10 : Int32) &&& 31).toUInt32).toInt32)), .val (.ref r_o_123), .val (.ref r_o_139), .val (.ref b154), .val (.ref b183), .val (.int (p5 &&& (3 : Int32))), .unset]) rfl ?_
    show Steps p.tables e below (T206.setTop (mkF m 125 #[.val (.int p0), .val (.int p1), .val (.int p2), .val (.int p3), .val (.int p4), .val (.int p5), .val (.ref b3), .val (.ref b52), .val (.int (p4 &&& (3 : Int32))), .val (.int (((p4.toUInt32 >>> ((2 : Int32) &&& 31).toUInt32).toInt32) &&& (3 : Int32))), .val (.int ((p4.toUInt32 >>> ((4 : Int32) &&& 31).toUInt32).toInt32)), .val (.int ((p4.toUInt32 >>> ((10 : Int32) &&& 31).toUInt32).toInt32)), .val (.ref r_o_123), .val (.ref r_o_139), .val (.ref b154), .val (.ref b183), .val (.int (p5 &&& (3 : Int32))), .unset] [])) _
    refine XS.iload X206.here hx rfl (hb hby at_125) rfl ?_
    show Steps p.tables e below (T206.setTop (mkF m 127 #[.val (.int p0), .val (.int p1), .val (.int p2), .val (.int p3), .val (.int p4), .val (.int p5), .val (.ref b3), .val (.ref b52), .val (.int (p4 &&& (3 : Int32))), .val (.int (((p4.toUInt32 >>> ((2 : Int32) &&& 31).toUInt32).toInt32) &&& (3 : Int32))), .val (.int ((p4.toUInt32 >>> ((4 : Int32) &&& 31).toUInt32).toInt32)), .val (.int ((p4.toUInt32 >>> ((10 : Int32) &&& 31).toUInt32).toInt32)), .val (.ref r_o_123), .val (.ref r_o_139), .val (.ref b154), .val (.ref b183), .val (.int (p5 &&& (3 : Int32))), .unset] [(.int (p5 &&& (3 : Int32)))])) _
    refine XS.iconst X206.here hx rfl (hb hby at_127) ?_
    exact kt
  by_cases hc128_221 : (p5 &&& (3 : Int32)) = (1 : Int32)
  · have Fq226 : Old Z n0 T206.heap := ((((((((((((((((O0.ext E3).wr W14 Ge5).wr W24 Ge5).wr W34 Ge5).wr W44 Ge5).ext E52).wr W66 Ge57).wr W76 Ge57).wr W86 Ge57).wr W96 Ge57).keep K123 all0).keep K139 all0).ext E154).keep K175 (allS Ge164 all0)).ext E183).keep K206 (allS Ge195 all0))
    have Fq227 : Arv Z T206.heap w_c k_c (.object "java/lang/Integer") (256 : Int32) vs_c .null := ((Fq185.ext E183).keep K206 (ninS Ne184 nin0))
    obtain ⟨_, _, ⟨T225, L225, k225, n225⟩, -, X225, ⟨Lc225, hQ225, l225, y225, z225⟩, st225⟩ := Jvm.LawKit.callS X206 hx (y := (⟨"java/lang/Integer", "valueOf", "(I)Ljava/lang/Integer;"⟩ : MethodName)) hown (mvT hZ (hw _ (List.mem_of_getElem? (i := 32) rfl))) (mvT hZ (hw _ (List.mem_of_getElem? (i := 33) rfl))) (mvT hZ (hw _ (List.mem_of_getElem? (i := 34) rfl))) (mvT hZ (hw _ (List.mem_of_getElem? (i := 35) rfl))) (by decide) (backOf (W := 1) (own_vo l Z a0 hw [] p0 w_c k_c vs_c T206.heap n0 Zs211 Fq226 S_h S_c Fq227 hall) hZ (hw _ (List.mem_of_getElem? (i := 35) rfl)) (hw _ (List.mem_of_getElem? (i := 34) rfl)) (by decide) (by decide)) (g := (mkF m 134 #[.val (.int p0), .val (.int p1), .val (.int p2), .val (.int p3), .val (.int p4), .val (.int p5), .val (.ref b3), .val (.ref b52), .val (.int (p4 &&& (3 : Int32))), .val (.int (((p4.toUInt32 >>> ((2 : Int32) &&& 31).toUInt32).toInt32) &&& (3 : Int32))), .val (.int ((p4.toUInt32 >>> ((4 : Int32) &&& 31).toUInt32).toInt32)), .val (.int ((p4.toUInt32 >>> ((10 : Int32) &&& 31).toUInt32).toInt32)), .val (.ref r_o_123), .val (.ref r_o_139), .val (.ref b154), .val (.ref b183), .val (.int (p5 &&& (3 : Int32))), .unset] [(.int p0), (.ref b154)])) rfl (by rw [hml]; rfl) (argsL := [(.int p0)]) (rest := [(.ref b154)]) (lenOf own_pd4 rfl) rfl (by show 2 * 0 + _ ≤ _; exact Nat.le_of_eq rfl) (hb hby at_134) (fun _ _ => ⟨rfl, rfl, (by decide : 6 + 1 ≤ _), (by decide : 24 + 1 ≤ _)⟩)
    dsimp only [Pt.U, Pt.locs, Pt.cells, Pt.slots] at X225 l225 y225 z225 st225 hQ225
    rw [l225, y225, z225] at X225
    obtain ⟨r_o_225, rfl, Nq225, K225, Pf225_0⟩ := hQ225
    have N228 := Fr.app N209 Nq225
    have Kc229 : Keep h0 T225.heap [] := Kc210.trans K225 all0
    have Zs230 : n0 ≤ T225.heap.size := Nat.le_trans Zs211 K225.1
    have Fq233 : Exa Z T225.heap b154 "com/example/fovea/fovea/Memory$Key" := (((Pf175_0.ext E183).keep K206).keep K225)
    obtain ⟨cq232, kq232, q232a, q232b, q232c⟩ := isOf hZ rfl Fq233
    obtain ⟨_, _, ⟨T232, L232, k232, n232⟩, -, X232, ⟨Lc232, hQ232, l232, y232, z232⟩, st232⟩ := X225.virtualBack hx (y := (⟨"com/example/fovea/fovea/Memory$Key", "equals", "(Ljava/lang/Object;)Z"⟩ : MethodName)) (z := (⟨"com/example/fovea/fovea/Memory$Key", "equals", "(Ljava/lang/Object;)Z"⟩ : MethodName)) hown (mvT hZ (hw _ (List.mem_of_getElem? (i := 25) rfl))) (mvT hZ (hw _ (List.mem_of_getElem? (i := 26) rfl))) (notFace_of_selects (args := #[]) (mvT hZ (hw _ (List.mem_of_getElem? (i := 28) rfl)))) (mvT hZ (hw _ (List.mem_of_getElem? (i := 28) rfl))) (mvT hZ (hw _ (List.mem_of_getElem? (i := 27) rfl))) (by decide) (backOf (W := 0) (own_eqI l Z a0 hw [] b154 r_o_225 T225.heap n0 Zs230 Pf225_0) hZ (hw _ (List.mem_of_getElem? (i := 29) rfl)) (hw _ (List.mem_of_getElem? (i := 7) rfl)) (by decide) (by decide)) q232a q232c (g := (mkF m 137 #[.val (.int p0), .val (.int p1), .val (.int p2), .val (.int p3), .val (.int p4), .val (.int p5), .val (.ref b3), .val (.ref b52), .val (.int (p4 &&& (3 : Int32))), .val (.int (((p4.toUInt32 >>> ((2 : Int32) &&& 31).toUInt32).toInt32) &&& (3 : Int32))), .val (.int ((p4.toUInt32 >>> ((4 : Int32) &&& 31).toUInt32).toInt32)), .val (.int ((p4.toUInt32 >>> ((10 : Int32) &&& 31).toUInt32).toInt32)), .val (.ref r_o_123), .val (.ref r_o_139), .val (.ref b154), .val (.ref b183), .val (.int (p5 &&& (3 : Int32))), .unset] [(.ref r_o_225), (.ref b154)])) rfl (by rw [hml]; rfl) (Steps.refl _) (argsL := [(.ref r_o_225)]) (rest := []) (lenOf own_pd5 rfl) rfl (by show 2 * 0 + _ ≤ _; exact Nat.le_of_eq rfl) (hb hby at_137) (fun _ _ => ⟨rfl, rfl, (by decide : 7 + 0 ≤ _), (by decide : 25 + 0 ≤ _)⟩)
    dsimp only [Pt.U, Pt.locs, Pt.cells, Pt.slots] at X232 l232 y232 z232 st232 hQ232
    rw [l232, y232, z232] at X232
    obtain ⟨rfl, Nq232, eh232⟩ := hQ232
    have N234 := Fr.app N228 Nq232
    obtain ⟨fs, hr, hrun, hended, hW, hsame⟩ := X232.leave (v := some (.int (1 : Int32))) (fun h => by rw [Bd.returns] at h; cases h) (hlocks := BodyLoose.notSynchronized Bd)
    refine ⟨_, _, pre220 _ ?_, hrun, hended, _, _, rfl, ?_, ⟨_, rfl⟩, hW, hsame.mono (by decide) (by decide)⟩
    · show Steps p.tables e below (T206.setTop (mkF m 128 #[.val (.int p0), .val (.int p1), .val (.int p2), .val (.int p3), .val (.int p4), .val (.int p5), .val (.ref b3), .val (.ref b52), .val (.int (p4 &&& (3 : Int32))), .val (.int (((p4.toUInt32 >>> ((2 : Int32) &&& 31).toUInt32).toInt32) &&& (3 : Int32))), .val (.int ((p4.toUInt32 >>> ((4 : Int32) &&& 31).toUInt32).toInt32)), .val (.int ((p4.toUInt32 >>> ((10 : Int32) &&& 31).toUInt32).toInt32)), .val (.ref r_o_123), .val (.ref r_o_139), .val (.ref b154), .val (.ref b183), .val (.int (p5 &&& (3 : Int32))), .unset] [(.int (1 : Int32)), (.int (p5 &&& (3 : Int32)))])) _
      refine XS.icmpNo X206.here hx rfl (hb hby at_128) rfl (teq hc128_221).2 ?_
      show Steps p.tables e below (T206.setTop (mkF m 131 #[.val (.int p0), .val (.int p1), .val (.int p2), .val (.int p3), .val (.int p4), .val (.int p5), .val (.ref b3), .val (.ref b52), .val (.int (p4 &&& (3 : Int32))), .val (.int (((p4.toUInt32 >>> ((2 : Int32) &&& 31).toUInt32).toInt32) &&& (3 : Int32))), .val (.int ((p4.toUInt32 >>> ((4 : Int32) &&& 31).toUInt32).toInt32)), .val (.int ((p4.toUInt32 >>> ((10 : Int32) &&& 31).toUInt32).toInt32)), .val (.ref r_o_123), .val (.ref r_o_139), .val (.ref b154), .val (.ref b183), .val (.int (p5 &&& (3 : Int32))), .unset] [])) _
      refine XS.aload X206.here hx rfl (hb hby at_131) rfl rfl ?_
      show Steps p.tables e below (T206.setTop (mkF m 133 #[.val (.int p0), .val (.int p1), .val (.int p2), .val (.int p3), .val (.int p4), .val (.int p5), .val (.ref b3), .val (.ref b52), .val (.int (p4 &&& (3 : Int32))), .val (.int (((p4.toUInt32 >>> ((2 : Int32) &&& 31).toUInt32).toInt32) &&& (3 : Int32))), .val (.int ((p4.toUInt32 >>> ((4 : Int32) &&& 31).toUInt32).toInt32)), .val (.int ((p4.toUInt32 >>> ((10 : Int32) &&& 31).toUInt32).toInt32)), .val (.ref r_o_123), .val (.ref r_o_139), .val (.ref b154), .val (.ref b183), .val (.int (p5 &&& (3 : Int32))), .unset] [(.ref b154)])) _
      refine XS.iloadN X206.here hx rfl (hb hby at_133) rfl ?_
      show Steps p.tables e below (T206.setTop (mkF m 134 #[.val (.int p0), .val (.int p1), .val (.int p2), .val (.int p3), .val (.int p4), .val (.int p5), .val (.ref b3), .val (.ref b52), .val (.int (p4 &&& (3 : Int32))), .val (.int (((p4.toUInt32 >>> ((2 : Int32) &&& 31).toUInt32).toInt32) &&& (3 : Int32))), .val (.int ((p4.toUInt32 >>> ((4 : Int32) &&& 31).toUInt32).toInt32)), .val (.int ((p4.toUInt32 >>> ((10 : Int32) &&& 31).toUInt32).toInt32)), .val (.ref r_o_123), .val (.ref r_o_139), .val (.ref b154), .val (.ref b183), .val (.int (p5 &&& (3 : Int32))), .unset] [(.int p0), (.ref b154)])) _
      refine st225 _ ?_
      show Steps p.tables e below (T225.setTop (mkF m 137 #[.val (.int p0), .val (.int p1), .val (.int p2), .val (.int p3), .val (.int p4), .val (.int p5), .val (.ref b3), .val (.ref b52), .val (.int (p4 &&& (3 : Int32))), .val (.int (((p4.toUInt32 >>> ((2 : Int32) &&& 31).toUInt32).toInt32) &&& (3 : Int32))), .val (.int ((p4.toUInt32 >>> ((4 : Int32) &&& 31).toUInt32).toInt32)), .val (.int ((p4.toUInt32 >>> ((10 : Int32) &&& 31).toUInt32).toInt32)), .val (.ref r_o_123), .val (.ref r_o_139), .val (.ref b154), .val (.ref b183), .val (.int (p5 &&& (3 : Int32))), .unset] [(.ref r_o_225), (.ref b154)])) _
      refine st232.trans ?_
      show Steps p.tables e below (T232.setTop (mkF m 140 #[.val (.int p0), .val (.int p1), .val (.int p2), .val (.int p3), .val (.int p4), .val (.int p5), .val (.ref b3), .val (.ref b52), .val (.int (p4 &&& (3 : Int32))), .val (.int (((p4.toUInt32 >>> ((2 : Int32) &&& 31).toUInt32).toInt32) &&& (3 : Int32))), .val (.int ((p4.toUInt32 >>> ((4 : Int32) &&& 31).toUInt32).toInt32)), .val (.int ((p4.toUInt32 >>> ((10 : Int32) &&& 31).toUInt32).toInt32)), .val (.ref r_o_123), .val (.ref r_o_139), .val (.ref b154), .val (.ref b183), .val (.int (p5 &&& (3 : Int32))), .unset] [(.int (0 : Int32))])) _
      refine XS.ifNo X232.here hx rfl (hb hby at_140) rfl ((if0 _ _).trans (teq ((by decide) : (0 : Int32) = (0 : Int32))).2) ?_
      show Steps p.tables e below (T232.setTop (mkF m 143 #[.val (.int p0), .val (.int p1), .val (.int p2), .val (.int p3), .val (.int p4), .val (.int p5), .val (.ref b3), .val (.ref b52), .val (.int (p4 &&& (3 : Int32))), .val (.int (((p4.toUInt32 >>> ((2 : Int32) &&& 31).toUInt32).toInt32) &&& (3 : Int32))), .val (.int ((p4.toUInt32 >>> ((4 : Int32) &&& 31).toUInt32).toInt32)), .val (.int ((p4.toUInt32 >>> ((10 : Int32) &&& 31).toUInt32).toInt32)), .val (.ref r_o_123), .val (.ref r_o_139), .val (.ref b154), .val (.ref b183), .val (.int (p5 &&& (3 : Int32))), .unset] [])) _
      refine XS.iconst X232.here hx rfl (hb hby at_143) ?_
      show Steps p.tables e below (T232.setTop (mkF m 144 #[.val (.int p0), .val (.int p1), .val (.int p2), .val (.int p3), .val (.int p4), .val (.int p5), .val (.ref b3), .val (.ref b52), .val (.int (p4 &&& (3 : Int32))), .val (.int (((p4.toUInt32 >>> ((2 : Int32) &&& 31).toUInt32).toInt32) &&& (3 : Int32))), .val (.int ((p4.toUInt32 >>> ((4 : Int32) &&& 31).toUInt32).toInt32)), .val (.int ((p4.toUInt32 >>> ((10 : Int32) &&& 31).toUInt32).toInt32)), .val (.ref r_o_123), .val (.ref r_o_139), .val (.ref b154), .val (.ref b183), .val (.int (p5 &&& (3 : Int32))), .unset] [(.int (1 : Int32))])) _
      refine XS.goto X232.here hx rfl (pc0 := 144) (pc' := 148) rfl (hb hby at_144) (by decide) (by decide) ?_
      show Steps p.tables e below (T232.setTop (mkF m 148 #[.val (.int p0), .val (.int p1), .val (.int p2), .val (.int p3), .val (.int p4), .val (.int p5), .val (.ref b3), .val (.ref b52), .val (.int (p4 &&& (3 : Int32))), .val (.int (((p4.toUInt32 >>> ((2 : Int32) &&& 31).toUInt32).toInt32) &&& (3 : Int32))), .val (.int ((p4.toUInt32 >>> ((4 : Int32) &&& 31).toUInt32).toInt32)), .val (.int ((p4.toUInt32 >>> ((10 : Int32) &&& 31).toUInt32).toInt32)), .val (.ref r_o_123), .val (.ref r_o_139), .val (.ref b154), .val (.ref b183), .val (.int (p5 &&& (3 : Int32))), .unset] [(.int (1 : Int32))])) _
      exact retN X232 hx (t := .boolean) Bd.returns (by simp) (hb hby at_148) hr
    · show Qown_law Z p0 p1 p2 p3 p4 p5 w_c k_c vs_c h0 n0 _ T232.heap _
      rw [eh232]
      exact ⟨rfl, N234⟩
  · have pre242 : ∀ t, Steps p.tables e below (T206.setTop (mkF m 152 #[.val (.int p0), .val (.int p1), .val (.int p2), .val (.int p3), .val (.int p4), .val (.int p5), .val (.ref b3), .val (.ref b52), .val (.int (p4 &&& (3 : Int32))), .val (.int (((p4.toUInt32 >>> ((2 : Int32) &&& 31).toUInt32).toInt32) &&& (3 : Int32))), .val (.int ((p4.toUInt32 >>> ((4 : Int32) &&& 31).toUInt32).toInt32)), .val (.int ((p4.toUInt32 >>> ((10 : Int32) &&& 31).toUInt32).toInt32)), .val (.ref r_o_123), .val (.ref r_o_139), .val (.ref b154), .val (.ref b183), .val (.int (p5 &&& (3 : Int32))), .unset] [(.int (2 : Int32)), (.int (p5 &&& (3 : Int32)))])) t → Steps p.tables e below (s₁.setTop (entryFrame m #[(.int p0), (.int p1), (.int p2), (.int p3), (.int p4), (.int p5)] maxLocals)) t := by
      intro t kt
      refine pre220 _ ?_
      show Steps p.tables e below (T206.setTop (mkF m 128 #[.val (.int p0), .val (.int p1), .val (.int p2), .val (.int p3), .val (.int p4), .val (.int p5), .val (.ref b3), .val (.ref b52), .val (.int (p4 &&& (3 : Int32))), .val (.int (((p4.toUInt32 >>> ((2 : Int32) &&& 31).toUInt32).toInt32) &&& (3 : Int32))), .val (.int ((p4.toUInt32 >>> ((4 : Int32) &&& 31).toUInt32).toInt32)), .val (.int ((p4.toUInt32 >>> ((10 : Int32) &&& 31).toUInt32).toInt32)), .val (.ref r_o_123), .val (.ref r_o_139), .val (.ref b154), .val (.ref b183), .val (.int (p5 &&& (3 : Int32))), .unset] [(.int (1 : Int32)), (.int (p5 &&& (3 : Int32)))])) _
      refine XS.icmpYes X206.here hx rfl (pc0 := 128) (pc' := 149) rfl (hb hby at_128) rfl (feq hc128_221).2 (by decide) (by decide) ?_
      show Steps p.tables e below (T206.setTop (mkF m 149 #[.val (.int p0), .val (.int p1), .val (.int p2), .val (.int p3), .val (.int p4), .val (.int p5), .val (.ref b3), .val (.ref b52), .val (.int (p4 &&& (3 : Int32))), .val (.int (((p4.toUInt32 >>> ((2 : Int32) &&& 31).toUInt32).toInt32) &&& (3 : Int32))), .val (.int ((p4.toUInt32 >>> ((4 : Int32) &&& 31).toUInt32).toInt32)), .val (.int ((p4.toUInt32 >>> ((10 : Int32) &&& 31).toUInt32).toInt32)), .val (.ref r_o_123), .val (.ref r_o_139), .val (.ref b154), .val (.ref b183), .val (.int (p5 &&& (3 : Int32))), .unset] [])) _
      refine XS.iload X206.here hx rfl (hb hby at_149) rfl ?_
      show Steps p.tables e below (T206.setTop (mkF m 151 #[.val (.int p0), .val (.int p1), .val (.int p2), .val (.int p3), .val (.int p4), .val (.int p5), .val (.ref b3), .val (.ref b52), .val (.int (p4 &&& (3 : Int32))), .val (.int (((p4.toUInt32 >>> ((2 : Int32) &&& 31).toUInt32).toInt32) &&& (3 : Int32))), .val (.int ((p4.toUInt32 >>> ((4 : Int32) &&& 31).toUInt32).toInt32)), .val (.int ((p4.toUInt32 >>> ((10 : Int32) &&& 31).toUInt32).toInt32)), .val (.ref r_o_123), .val (.ref r_o_139), .val (.ref b154), .val (.ref b183), .val (.int (p5 &&& (3 : Int32))), .unset] [(.int (p5 &&& (3 : Int32)))])) _
      refine XS.iconst X206.here hx rfl (hb hby at_151) ?_
      exact kt
    by_cases hc152_243 : (p5 &&& (3 : Int32)) = (2 : Int32)
    · have Fq248 : Exa Z T206.heap b154 "com/example/fovea/fovea/Memory$Key" := ((Pf175_0.ext E183).keep K206)
      obtain ⟨cq247, kq247, q247a, q247b, q247c⟩ := isOf hZ rfl Fq248
      obtain ⟨_, _, ⟨T247, L247, k247, n247⟩, -, X247, ⟨Lc247, hQ247, l247, y247, z247⟩, st247⟩ := X206.virtualBack hx (y := (⟨"com/example/fovea/fovea/Memory$Key", "equals", "(Ljava/lang/Object;)Z"⟩ : MethodName)) (z := (⟨"com/example/fovea/fovea/Memory$Key", "equals", "(Ljava/lang/Object;)Z"⟩ : MethodName)) hown (mvT hZ (hw _ (List.mem_of_getElem? (i := 25) rfl))) (mvT hZ (hw _ (List.mem_of_getElem? (i := 26) rfl))) (notFace_of_selects (args := #[]) (mvT hZ (hw _ (List.mem_of_getElem? (i := 28) rfl)))) (mvT hZ (hw _ (List.mem_of_getElem? (i := 28) rfl))) (mvT hZ (hw _ (List.mem_of_getElem? (i := 27) rfl))) (by decide) (backOf (W := 0) (own_eqN l Z a0 hw [] b154 T206.heap n0 Zs211 ) hZ (hw _ (List.mem_of_getElem? (i := 29) rfl)) (hw _ (List.mem_of_getElem? (i := 7) rfl)) (by decide) (by decide)) q247a q247c (g := (mkF m 158 #[.val (.int p0), .val (.int p1), .val (.int p2), .val (.int p3), .val (.int p4), .val (.int p5), .val (.ref b3), .val (.ref b52), .val (.int (p4 &&& (3 : Int32))), .val (.int (((p4.toUInt32 >>> ((2 : Int32) &&& 31).toUInt32).toInt32) &&& (3 : Int32))), .val (.int ((p4.toUInt32 >>> ((4 : Int32) &&& 31).toUInt32).toInt32)), .val (.int ((p4.toUInt32 >>> ((10 : Int32) &&& 31).toUInt32).toInt32)), .val (.ref r_o_123), .val (.ref r_o_139), .val (.ref b154), .val (.ref b183), .val (.int (p5 &&& (3 : Int32))), .unset] [.null, (.ref b154)])) rfl (by rw [hml]; rfl) (Steps.refl _) (argsL := [.null]) (rest := []) (lenOf own_pd5 rfl) rfl (by show 2 * 0 + _ ≤ _; exact Nat.le_of_eq rfl) (hb hby at_158) (fun _ _ => ⟨rfl, rfl, (by decide : 6 + 0 ≤ _), (by decide : 24 + 0 ≤ _)⟩)
      dsimp only [Pt.U, Pt.locs, Pt.cells, Pt.slots] at X247 l247 y247 z247 st247 hQ247
      rw [l247, y247, z247] at X247
      obtain ⟨rfl, Nq247, eh247⟩ := hQ247
      have N249 := Fr.app N209 Nq247
      obtain ⟨fs, hr, hrun, hended, hW, hsame⟩ := X247.leave (v := some (.int (1 : Int32))) (fun h => by rw [Bd.returns] at h; cases h) (hlocks := BodyLoose.notSynchronized Bd)
      refine ⟨_, _, pre242 _ ?_, hrun, hended, _, _, rfl, ?_, ⟨_, rfl⟩, hW, hsame.mono (by decide) (by decide)⟩
      · show Steps p.tables e below (T206.setTop (mkF m 152 #[.val (.int p0), .val (.int p1), .val (.int p2), .val (.int p3), .val (.int p4), .val (.int p5), .val (.ref b3), .val (.ref b52), .val (.int (p4 &&& (3 : Int32))), .val (.int (((p4.toUInt32 >>> ((2 : Int32) &&& 31).toUInt32).toInt32) &&& (3 : Int32))), .val (.int ((p4.toUInt32 >>> ((4 : Int32) &&& 31).toUInt32).toInt32)), .val (.int ((p4.toUInt32 >>> ((10 : Int32) &&& 31).toUInt32).toInt32)), .val (.ref r_o_123), .val (.ref r_o_139), .val (.ref b154), .val (.ref b183), .val (.int (p5 &&& (3 : Int32))), .unset] [(.int (2 : Int32)), (.int (p5 &&& (3 : Int32)))])) _
        refine XS.icmpNo X206.here hx rfl (hb hby at_152) rfl (teq hc152_243).2 ?_
        show Steps p.tables e below (T206.setTop (mkF m 155 #[.val (.int p0), .val (.int p1), .val (.int p2), .val (.int p3), .val (.int p4), .val (.int p5), .val (.ref b3), .val (.ref b52), .val (.int (p4 &&& (3 : Int32))), .val (.int (((p4.toUInt32 >>> ((2 : Int32) &&& 31).toUInt32).toInt32) &&& (3 : Int32))), .val (.int ((p4.toUInt32 >>> ((4 : Int32) &&& 31).toUInt32).toInt32)), .val (.int ((p4.toUInt32 >>> ((10 : Int32) &&& 31).toUInt32).toInt32)), .val (.ref r_o_123), .val (.ref r_o_139), .val (.ref b154), .val (.ref b183), .val (.int (p5 &&& (3 : Int32))), .unset] [])) _
        refine XS.aload X206.here hx rfl (hb hby at_155) rfl rfl ?_
        show Steps p.tables e below (T206.setTop (mkF m 157 #[.val (.int p0), .val (.int p1), .val (.int p2), .val (.int p3), .val (.int p4), .val (.int p5), .val (.ref b3), .val (.ref b52), .val (.int (p4 &&& (3 : Int32))), .val (.int (((p4.toUInt32 >>> ((2 : Int32) &&& 31).toUInt32).toInt32) &&& (3 : Int32))), .val (.int ((p4.toUInt32 >>> ((4 : Int32) &&& 31).toUInt32).toInt32)), .val (.int ((p4.toUInt32 >>> ((10 : Int32) &&& 31).toUInt32).toInt32)), .val (.ref r_o_123), .val (.ref r_o_139), .val (.ref b154), .val (.ref b183), .val (.int (p5 &&& (3 : Int32))), .unset] [(.ref b154)])) _
        refine XS.aconstNull X206.here hx rfl (hb hby at_157) ?_
        show Steps p.tables e below (T206.setTop (mkF m 158 #[.val (.int p0), .val (.int p1), .val (.int p2), .val (.int p3), .val (.int p4), .val (.int p5), .val (.ref b3), .val (.ref b52), .val (.int (p4 &&& (3 : Int32))), .val (.int (((p4.toUInt32 >>> ((2 : Int32) &&& 31).toUInt32).toInt32) &&& (3 : Int32))), .val (.int ((p4.toUInt32 >>> ((4 : Int32) &&& 31).toUInt32).toInt32)), .val (.int ((p4.toUInt32 >>> ((10 : Int32) &&& 31).toUInt32).toInt32)), .val (.ref r_o_123), .val (.ref r_o_139), .val (.ref b154), .val (.ref b183), .val (.int (p5 &&& (3 : Int32))), .unset] [.null, (.ref b154)])) _
        refine st247.trans ?_
        show Steps p.tables e below (T247.setTop (mkF m 161 #[.val (.int p0), .val (.int p1), .val (.int p2), .val (.int p3), .val (.int p4), .val (.int p5), .val (.ref b3), .val (.ref b52), .val (.int (p4 &&& (3 : Int32))), .val (.int (((p4.toUInt32 >>> ((2 : Int32) &&& 31).toUInt32).toInt32) &&& (3 : Int32))), .val (.int ((p4.toUInt32 >>> ((4 : Int32) &&& 31).toUInt32).toInt32)), .val (.int ((p4.toUInt32 >>> ((10 : Int32) &&& 31).toUInt32).toInt32)), .val (.ref r_o_123), .val (.ref r_o_139), .val (.ref b154), .val (.ref b183), .val (.int (p5 &&& (3 : Int32))), .unset] [(.int (0 : Int32))])) _
        refine XS.ifNo X247.here hx rfl (hb hby at_161) rfl ((if0 _ _).trans (teq ((by decide) : (0 : Int32) = (0 : Int32))).2) ?_
        show Steps p.tables e below (T247.setTop (mkF m 164 #[.val (.int p0), .val (.int p1), .val (.int p2), .val (.int p3), .val (.int p4), .val (.int p5), .val (.ref b3), .val (.ref b52), .val (.int (p4 &&& (3 : Int32))), .val (.int (((p4.toUInt32 >>> ((2 : Int32) &&& 31).toUInt32).toInt32) &&& (3 : Int32))), .val (.int ((p4.toUInt32 >>> ((4 : Int32) &&& 31).toUInt32).toInt32)), .val (.int ((p4.toUInt32 >>> ((10 : Int32) &&& 31).toUInt32).toInt32)), .val (.ref r_o_123), .val (.ref r_o_139), .val (.ref b154), .val (.ref b183), .val (.int (p5 &&& (3 : Int32))), .unset] [])) _
        refine XS.iconst X247.here hx rfl (hb hby at_164) ?_
        show Steps p.tables e below (T247.setTop (mkF m 165 #[.val (.int p0), .val (.int p1), .val (.int p2), .val (.int p3), .val (.int p4), .val (.int p5), .val (.ref b3), .val (.ref b52), .val (.int (p4 &&& (3 : Int32))), .val (.int (((p4.toUInt32 >>> ((2 : Int32) &&& 31).toUInt32).toInt32) &&& (3 : Int32))), .val (.int ((p4.toUInt32 >>> ((4 : Int32) &&& 31).toUInt32).toInt32)), .val (.int ((p4.toUInt32 >>> ((10 : Int32) &&& 31).toUInt32).toInt32)), .val (.ref r_o_123), .val (.ref r_o_139), .val (.ref b154), .val (.ref b183), .val (.int (p5 &&& (3 : Int32))), .unset] [(.int (1 : Int32))])) _
        refine XS.goto X247.here hx rfl (pc0 := 165) (pc' := 169) rfl (hb hby at_165) (by decide) (by decide) ?_
        show Steps p.tables e below (T247.setTop (mkF m 169 #[.val (.int p0), .val (.int p1), .val (.int p2), .val (.int p3), .val (.int p4), .val (.int p5), .val (.ref b3), .val (.ref b52), .val (.int (p4 &&& (3 : Int32))), .val (.int (((p4.toUInt32 >>> ((2 : Int32) &&& 31).toUInt32).toInt32) &&& (3 : Int32))), .val (.int ((p4.toUInt32 >>> ((4 : Int32) &&& 31).toUInt32).toInt32)), .val (.int ((p4.toUInt32 >>> ((10 : Int32) &&& 31).toUInt32).toInt32)), .val (.ref r_o_123), .val (.ref r_o_139), .val (.ref b154), .val (.ref b183), .val (.int (p5 &&& (3 : Int32))), .unset] [(.int (1 : Int32))])) _
        exact retN X247 hx (t := .boolean) Bd.returns (by simp) (hb hby at_169) hr
      · show Qown_law Z p0 p1 p2 p3 p4 p5 w_c k_c vs_c h0 n0 _ T247.heap _
        rw [eh247]
        exact ⟨rfl, N249⟩
    · have pre257 : ∀ t, Steps p.tables e below (T206.setTop (mkF m 173 #[.val (.int p0), .val (.int p1), .val (.int p2), .val (.int p3), .val (.int p4), .val (.int p5), .val (.ref b3), .val (.ref b52), .val (.int (p4 &&& (3 : Int32))), .val (.int (((p4.toUInt32 >>> ((2 : Int32) &&& 31).toUInt32).toInt32) &&& (3 : Int32))), .val (.int ((p4.toUInt32 >>> ((4 : Int32) &&& 31).toUInt32).toInt32)), .val (.int ((p4.toUInt32 >>> ((10 : Int32) &&& 31).toUInt32).toInt32)), .val (.ref r_o_123), .val (.ref r_o_139), .val (.ref b154), .val (.ref b183), .val (.int (p5 &&& (3 : Int32))), .unset] [(.int (3 : Int32)), (.int (p5 &&& (3 : Int32)))])) t → Steps p.tables e below (s₁.setTop (entryFrame m #[(.int p0), (.int p1), (.int p2), (.int p3), (.int p4), (.int p5)] maxLocals)) t := by
        intro t kt
        refine pre242 _ ?_
        show Steps p.tables e below (T206.setTop (mkF m 152 #[.val (.int p0), .val (.int p1), .val (.int p2), .val (.int p3), .val (.int p4), .val (.int p5), .val (.ref b3), .val (.ref b52), .val (.int (p4 &&& (3 : Int32))), .val (.int (((p4.toUInt32 >>> ((2 : Int32) &&& 31).toUInt32).toInt32) &&& (3 : Int32))), .val (.int ((p4.toUInt32 >>> ((4 : Int32) &&& 31).toUInt32).toInt32)), .val (.int ((p4.toUInt32 >>> ((10 : Int32) &&& 31).toUInt32).toInt32)), .val (.ref r_o_123), .val (.ref r_o_139), .val (.ref b154), .val (.ref b183), .val (.int (p5 &&& (3 : Int32))), .unset] [(.int (2 : Int32)), (.int (p5 &&& (3 : Int32)))])) _
        refine XS.icmpYes X206.here hx rfl (pc0 := 152) (pc' := 170) rfl (hb hby at_152) rfl (feq hc152_243).2 (by decide) (by decide) ?_
        show Steps p.tables e below (T206.setTop (mkF m 170 #[.val (.int p0), .val (.int p1), .val (.int p2), .val (.int p3), .val (.int p4), .val (.int p5), .val (.ref b3), .val (.ref b52), .val (.int (p4 &&& (3 : Int32))), .val (.int (((p4.toUInt32 >>> ((2 : Int32) &&& 31).toUInt32).toInt32) &&& (3 : Int32))), .val (.int ((p4.toUInt32 >>> ((4 : Int32) &&& 31).toUInt32).toInt32)), .val (.int ((p4.toUInt32 >>> ((10 : Int32) &&& 31).toUInt32).toInt32)), .val (.ref r_o_123), .val (.ref r_o_139), .val (.ref b154), .val (.ref b183), .val (.int (p5 &&& (3 : Int32))), .unset] [])) _
        refine XS.iload X206.here hx rfl (hb hby at_170) rfl ?_
        show Steps p.tables e below (T206.setTop (mkF m 172 #[.val (.int p0), .val (.int p1), .val (.int p2), .val (.int p3), .val (.int p4), .val (.int p5), .val (.ref b3), .val (.ref b52), .val (.int (p4 &&& (3 : Int32))), .val (.int (((p4.toUInt32 >>> ((2 : Int32) &&& 31).toUInt32).toInt32) &&& (3 : Int32))), .val (.int ((p4.toUInt32 >>> ((4 : Int32) &&& 31).toUInt32).toInt32)), .val (.int ((p4.toUInt32 >>> ((10 : Int32) &&& 31).toUInt32).toInt32)), .val (.ref r_o_123), .val (.ref r_o_139), .val (.ref b154), .val (.ref b183), .val (.int (p5 &&& (3 : Int32))), .unset] [(.int (p5 &&& (3 : Int32)))])) _
        refine XS.iconst X206.here hx rfl (hb hby at_172) ?_
        exact kt
      by_cases hc173_258 : (p5 &&& (3 : Int32)) = (3 : Int32)
      · have Fq263 : Exa Z T206.heap b154 "com/example/fovea/fovea/Memory$Key" := ((Pf175_0.ext E183).keep K206)
        have Fq264 : Fld Z T206.heap b154 "com/example/fovea/fovea/Memory$Key" "entry" "[I" (.ref b3) := ((Pf175_1.ext E183).keep K206 (ninS Ne194 nin0))
        have Fq265 : Fld Z T206.heap b154 "com/example/fovea/fovea/Memory$Key" "slots" "[I" (.ref r_o_123) := ((Pf175_2.ext E183).keep K206 (ninS Ne194 nin0))
        have Fq266 : Arv Z T206.heap b3 k3 .int (4 : Int32) [(.int p0), (.int p1), (.int p2), (.int p3)] (.int (0 : Int32)) := (((Fq176.keep K175 (ninS Ne157 nin0)).ext E183).keep K206 (ninS Ne186 nin0))
        have Fq267 : Arv Z T206.heap r_o_123 k_r_123 .int (p4 &&& (3 : Int32)) [(.int (((p4.toUInt32 >>> ((4 : Int32) &&& 31).toUInt32).toInt32) &&& (3 : Int32))), (.int (((((p4.toUInt32 >>> ((4 : Int32) &&& 31).toUInt32).toInt32).toUInt32 >>> ((2 : Int32) &&& 31).toUInt32).toInt32) &&& (3 : Int32))), (.int (((((p4.toUInt32 >>> ((4 : Int32) &&& 31).toUInt32).toInt32).toUInt32 >>> ((4 : Int32) &&& 31).toUInt32).toInt32) &&& (3 : Int32)))] (.int (0 : Int32)) := ((Fq191.ext E183).keep K206 (ninS Ne190 nin0))
        obtain ⟨cq262, kq262, q262a, q262b, q262c⟩ := isOf hZ rfl Fq263
        obtain ⟨_, _, ⟨T262, L262, k262, n262⟩, -, X262, ⟨Lc262, hQ262, l262, y262, z262⟩, st262⟩ := X206.virtualBack hx (y := (⟨"com/example/fovea/fovea/Memory$Key", "equals", "(Ljava/lang/Object;)Z"⟩ : MethodName)) (z := (⟨"com/example/fovea/fovea/Memory$Key", "equals", "(Ljava/lang/Object;)Z"⟩ : MethodName)) hown (mvT hZ (hw _ (List.mem_of_getElem? (i := 25) rfl))) (mvT hZ (hw _ (List.mem_of_getElem? (i := 26) rfl))) (notFace_of_selects (args := #[]) (mvT hZ (hw _ (List.mem_of_getElem? (i := 28) rfl)))) (mvT hZ (hw _ (List.mem_of_getElem? (i := 28) rfl))) (mvT hZ (hw _ (List.mem_of_getElem? (i := 27) rfl))) (by decide) (backOf (W := 0) (own_eq l Z a0 hw [] b154 b154 b3 r_o_123 b3 r_o_123 k3 k_r_123 k3 k_r_123 (p4 &&& (3 : Int32)) (p4 &&& (3 : Int32)) p0 p1 p2 p3 (((p4.toUInt32 >>> ((4 : Int32) &&& 31).toUInt32).toInt32) &&& (3 : Int32)) (((((p4.toUInt32 >>> ((4 : Int32) &&& 31).toUInt32).toInt32).toUInt32 >>> ((2 : Int32) &&& 31).toUInt32).toInt32) &&& (3 : Int32)) (((((p4.toUInt32 >>> ((4 : Int32) &&& 31).toUInt32).toInt32).toUInt32 >>> ((4 : Int32) &&& 31).toUInt32).toInt32) &&& (3 : Int32)) p0 p1 p2 p3 (((p4.toUInt32 >>> ((4 : Int32) &&& 31).toUInt32).toInt32) &&& (3 : Int32)) (((((p4.toUInt32 >>> ((4 : Int32) &&& 31).toUInt32).toInt32).toUInt32 >>> ((2 : Int32) &&& 31).toUInt32).toInt32) &&& (3 : Int32)) (((((p4.toUInt32 >>> ((4 : Int32) &&& 31).toUInt32).toInt32).toUInt32 >>> ((4 : Int32) &&& 31).toUInt32).toInt32) &&& (3 : Int32)) T206.heap n0 Zs211 Fq263 Fq264 Fq265 Fq264 Fq265 Fq266 Fq267 Fq266 Fq267 (own_and4 _) (own_and4 _) (own_and4 _) (own_and4 _) (own_and4 _) (own_and4 _) (own_and3 _).2) hZ (hw _ (List.mem_of_getElem? (i := 29) rfl)) (hw _ (List.mem_of_getElem? (i := 7) rfl)) (by decide) (by decide)) q262a q262c (g := (mkF m 180 #[.val (.int p0), .val (.int p1), .val (.int p2), .val (.int p3), .val (.int p4), .val (.int p5), .val (.ref b3), .val (.ref b52), .val (.int (p4 &&& (3 : Int32))), .val (.int (((p4.toUInt32 >>> ((2 : Int32) &&& 31).toUInt32).toInt32) &&& (3 : Int32))), .val (.int ((p4.toUInt32 >>> ((4 : Int32) &&& 31).toUInt32).toInt32)), .val (.int ((p4.toUInt32 >>> ((10 : Int32) &&& 31).toUInt32).toInt32)), .val (.ref r_o_123), .val (.ref r_o_139), .val (.ref b154), .val (.ref b183), .val (.int (p5 &&& (3 : Int32))), .unset] [(.ref b154), (.ref b154)])) rfl (by rw [hml]; rfl) (Steps.refl _) (argsL := [(.ref b154)]) (rest := []) (lenOf own_pd5 rfl) rfl (by show 2 * 0 + _ ≤ _; exact Nat.le_of_eq rfl) (hb hby at_180) (fun _ _ => ⟨rfl, rfl, (by decide : 6 + 0 ≤ _), (by decide : 24 + 0 ≤ _)⟩)
        dsimp only [Pt.U, Pt.locs, Pt.cells, Pt.slots] at X262 l262 y262 z262 st262 hQ262
        rw [l262, y262, z262] at X262
        obtain ⟨rfl, Nq262, eh262⟩ := hQ262
        have N268 := Fr.app N209 Nq262
        have Fq274 : Arv Z T206.heap b52 k52 .int (4 : Int32) [(.int p1), (.int p0), (.int p3), (.int p2)] (.int (0 : Int32)) := (Fq207.keep K206 (ninS Ne188 nin0))
        have Fq275 : Arv Z T206.heap r_o_139 k_r_139 .int (((p4.toUInt32 >>> ((2 : Int32) &&& 31).toUInt32).toInt32) &&& (3 : Int32)) [(.int (((p4.toUInt32 >>> ((10 : Int32) &&& 31).toUInt32).toInt32) &&& (3 : Int32))), (.int (((((p4.toUInt32 >>> ((10 : Int32) &&& 31).toUInt32).toInt32).toUInt32 >>> ((2 : Int32) &&& 31).toUInt32).toInt32) &&& (3 : Int32))), (.int (((((p4.toUInt32 >>> ((10 : Int32) &&& 31).toUInt32).toInt32).toUInt32 >>> ((4 : Int32) &&& 31).toUInt32).toInt32) &&& (3 : Int32)))] (.int (0 : Int32)) := (Fq208.keep K206 (ninS Ne192 nin0))
        obtain ⟨cq273, kq273, q273a, q273b, q273c⟩ := isOf hZ eh262 Pf206_0
        obtain ⟨_, _, ⟨T273, L273, k273, n273⟩, -, X273, ⟨Lc273, hQ273, l273, y273, z273⟩, st273⟩ := X262.virtualBack hx (y := (⟨"com/example/fovea/fovea/Memory$Key", "equals", "(Ljava/lang/Object;)Z"⟩ : MethodName)) (z := (⟨"com/example/fovea/fovea/Memory$Key", "equals", "(Ljava/lang/Object;)Z"⟩ : MethodName)) hown (mvT hZ (hw _ (List.mem_of_getElem? (i := 25) rfl))) (mvT hZ (hw _ (List.mem_of_getElem? (i := 26) rfl))) (notFace_of_selects (args := #[]) (mvT hZ (hw _ (List.mem_of_getElem? (i := 28) rfl)))) (mvT hZ (hw _ (List.mem_of_getElem? (i := 28) rfl))) (mvT hZ (hw _ (List.mem_of_getElem? (i := 27) rfl))) (by decide) (backOf (W := 0) (own_eq l Z a0 hw [] b183 b183 b52 r_o_139 b52 r_o_139 k52 k_r_139 k52 k_r_139 (((p4.toUInt32 >>> ((2 : Int32) &&& 31).toUInt32).toInt32) &&& (3 : Int32)) (((p4.toUInt32 >>> ((2 : Int32) &&& 31).toUInt32).toInt32) &&& (3 : Int32)) p1 p0 p3 p2 (((p4.toUInt32 >>> ((10 : Int32) &&& 31).toUInt32).toInt32) &&& (3 : Int32)) (((((p4.toUInt32 >>> ((10 : Int32) &&& 31).toUInt32).toInt32).toUInt32 >>> ((2 : Int32) &&& 31).toUInt32).toInt32) &&& (3 : Int32)) (((((p4.toUInt32 >>> ((10 : Int32) &&& 31).toUInt32).toInt32).toUInt32 >>> ((4 : Int32) &&& 31).toUInt32).toInt32) &&& (3 : Int32)) p1 p0 p3 p2 (((p4.toUInt32 >>> ((10 : Int32) &&& 31).toUInt32).toInt32) &&& (3 : Int32)) (((((p4.toUInt32 >>> ((10 : Int32) &&& 31).toUInt32).toInt32).toUInt32 >>> ((2 : Int32) &&& 31).toUInt32).toInt32) &&& (3 : Int32)) (((((p4.toUInt32 >>> ((10 : Int32) &&& 31).toUInt32).toInt32).toUInt32 >>> ((4 : Int32) &&& 31).toUInt32).toInt32) &&& (3 : Int32)) T206.heap n0 Zs211 Pf206_0 Pf206_1 Pf206_2 Pf206_1 Pf206_2 Fq274 Fq275 Fq274 Fq275 (own_and4 _) (own_and4 _) (own_and4 _) (own_and4 _) (own_and4 _) (own_and4 _) (own_and3 _).2) hZ (hw _ (List.mem_of_getElem? (i := 29) rfl)) (hw _ (List.mem_of_getElem? (i := 7) rfl)) (by decide) (by decide)) q273a q273c (g := (mkF m 190 #[.val (.int p0), .val (.int p1), .val (.int p2), .val (.int p3), .val (.int p4), .val (.int p5), .val (.ref b3), .val (.ref b52), .val (.int (p4 &&& (3 : Int32))), .val (.int (((p4.toUInt32 >>> ((2 : Int32) &&& 31).toUInt32).toInt32) &&& (3 : Int32))), .val (.int ((p4.toUInt32 >>> ((4 : Int32) &&& 31).toUInt32).toInt32)), .val (.int ((p4.toUInt32 >>> ((10 : Int32) &&& 31).toUInt32).toInt32)), .val (.ref r_o_123), .val (.ref r_o_139), .val (.ref b154), .val (.ref b183), .val (.int (p5 &&& (3 : Int32))), .unset] [(.ref b183), (.ref b183)])) rfl (by rw [hml]; rfl) (Steps.refl _) (argsL := [(.ref b183)]) (rest := []) (lenOf own_pd5 rfl) rfl (by show 2 * 0 + _ ≤ _; exact Nat.le_of_eq rfl) (hb hby at_190) (fun _ _ => ⟨rfl, eh262, (by decide : 6 + 0 ≤ _), (by decide : 24 + 0 ≤ _)⟩)
        dsimp only [Pt.U, Pt.locs, Pt.cells, Pt.slots] at X273 l273 y273 z273 st273 hQ273
        rw [l273, y273, z273] at X273
        obtain ⟨rfl, Nq273, eh273⟩ := hQ273
        have N276 := Fr.app N268 Nq273
        obtain ⟨fs, hr, hrun, hended, hW, hsame⟩ := X273.leave (v := some (.int (1 : Int32))) (fun h => by rw [Bd.returns] at h; cases h) (hlocks := BodyLoose.notSynchronized Bd)
        refine ⟨_, _, pre257 _ ?_, hrun, hended, _, _, rfl, ?_, ⟨_, rfl⟩, hW, hsame.mono (by decide) (by decide)⟩
        · show Steps p.tables e below (T206.setTop (mkF m 173 #[.val (.int p0), .val (.int p1), .val (.int p2), .val (.int p3), .val (.int p4), .val (.int p5), .val (.ref b3), .val (.ref b52), .val (.int (p4 &&& (3 : Int32))), .val (.int (((p4.toUInt32 >>> ((2 : Int32) &&& 31).toUInt32).toInt32) &&& (3 : Int32))), .val (.int ((p4.toUInt32 >>> ((4 : Int32) &&& 31).toUInt32).toInt32)), .val (.int ((p4.toUInt32 >>> ((10 : Int32) &&& 31).toUInt32).toInt32)), .val (.ref r_o_123), .val (.ref r_o_139), .val (.ref b154), .val (.ref b183), .val (.int (p5 &&& (3 : Int32))), .unset] [(.int (3 : Int32)), (.int (p5 &&& (3 : Int32)))])) _
          refine XS.icmpNo X206.here hx rfl (hb hby at_173) rfl (teq hc173_258).2 ?_
          show Steps p.tables e below (T206.setTop (mkF m 176 #[.val (.int p0), .val (.int p1), .val (.int p2), .val (.int p3), .val (.int p4), .val (.int p5), .val (.ref b3), .val (.ref b52), .val (.int (p4 &&& (3 : Int32))), .val (.int (((p4.toUInt32 >>> ((2 : Int32) &&& 31).toUInt32).toInt32) &&& (3 : Int32))), .val (.int ((p4.toUInt32 >>> ((4 : Int32) &&& 31).toUInt32).toInt32)), .val (.int ((p4.toUInt32 >>> ((10 : Int32) &&& 31).toUInt32).toInt32)), .val (.ref r_o_123), .val (.ref r_o_139), .val (.ref b154), .val (.ref b183), .val (.int (p5 &&& (3 : Int32))), .unset] [])) _
          refine XS.aload X206.here hx rfl (hb hby at_176) rfl rfl ?_
          show Steps p.tables e below (T206.setTop (mkF m 178 #[.val (.int p0), .val (.int p1), .val (.int p2), .val (.int p3), .val (.int p4), .val (.int p5), .val (.ref b3), .val (.ref b52), .val (.int (p4 &&& (3 : Int32))), .val (.int (((p4.toUInt32 >>> ((2 : Int32) &&& 31).toUInt32).toInt32) &&& (3 : Int32))), .val (.int ((p4.toUInt32 >>> ((4 : Int32) &&& 31).toUInt32).toInt32)), .val (.int ((p4.toUInt32 >>> ((10 : Int32) &&& 31).toUInt32).toInt32)), .val (.ref r_o_123), .val (.ref r_o_139), .val (.ref b154), .val (.ref b183), .val (.int (p5 &&& (3 : Int32))), .unset] [(.ref b154)])) _
          refine XS.aload X206.here hx rfl (hb hby at_178) rfl rfl ?_
          show Steps p.tables e below (T206.setTop (mkF m 180 #[.val (.int p0), .val (.int p1), .val (.int p2), .val (.int p3), .val (.int p4), .val (.int p5), .val (.ref b3), .val (.ref b52), .val (.int (p4 &&& (3 : Int32))), .val (.int (((p4.toUInt32 >>> ((2 : Int32) &&& 31).toUInt32).toInt32) &&& (3 : Int32))), .val (.int ((p4.toUInt32 >>> ((4 : Int32) &&& 31).toUInt32).toInt32)), .val (.int ((p4.toUInt32 >>> ((10 : Int32) &&& 31).toUInt32).toInt32)), .val (.ref r_o_123), .val (.ref r_o_139), .val (.ref b154), .val (.ref b183), .val (.int (p5 &&& (3 : Int32))), .unset] [(.ref b154), (.ref b154)])) _
          refine st262.trans ?_
          show Steps p.tables e below (T262.setTop (mkF m 183 #[.val (.int p0), .val (.int p1), .val (.int p2), .val (.int p3), .val (.int p4), .val (.int p5), .val (.ref b3), .val (.ref b52), .val (.int (p4 &&& (3 : Int32))), .val (.int (((p4.toUInt32 >>> ((2 : Int32) &&& 31).toUInt32).toInt32) &&& (3 : Int32))), .val (.int ((p4.toUInt32 >>> ((4 : Int32) &&& 31).toUInt32).toInt32)), .val (.int ((p4.toUInt32 >>> ((10 : Int32) &&& 31).toUInt32).toInt32)), .val (.ref r_o_123), .val (.ref r_o_139), .val (.ref b154), .val (.ref b183), .val (.int (p5 &&& (3 : Int32))), .unset] [(.int (own_eq_f (p4 &&& (3 : Int32)) (p4 &&& (3 : Int32)) p0 p1 p2 p3 (((p4.toUInt32 >>> ((4 : Int32) &&& 31).toUInt32).toInt32) &&& (3 : Int32)) (((((p4.toUInt32 >>> ((4 : Int32) &&& 31).toUInt32).toInt32).toUInt32 >>> ((2 : Int32) &&& 31).toUInt32).toInt32) &&& (3 : Int32)) (((((p4.toUInt32 >>> ((4 : Int32) &&& 31).toUInt32).toInt32).toUInt32 >>> ((4 : Int32) &&& 31).toUInt32).toInt32) &&& (3 : Int32)) p0 p1 p2 p3 (((p4.toUInt32 >>> ((4 : Int32) &&& 31).toUInt32).toInt32) &&& (3 : Int32)) (((((p4.toUInt32 >>> ((4 : Int32) &&& 31).toUInt32).toInt32).toUInt32 >>> ((2 : Int32) &&& 31).toUInt32).toInt32) &&& (3 : Int32)) (((((p4.toUInt32 >>> ((4 : Int32) &&& 31).toUInt32).toInt32).toUInt32 >>> ((4 : Int32) &&& 31).toUInt32).toInt32) &&& (3 : Int32))))])) _
          refine XS.ifNo X262.here hx rfl (hb hby at_183) rfl ((if0 _ _).trans (feq (fun q => absurd ((own_refl _ _ _ _).symm.trans ((own_eqE _ _ _ _ _ _ _ _ _ _ _ _ _ _ _ _).symm.trans q)) (by decide) : ¬ ((own_eq_f (p4 &&& (3 : Int32)) (p4 &&& (3 : Int32)) p0 p1 p2 p3 (((p4.toUInt32 >>> ((4 : Int32) &&& 31).toUInt32).toInt32) &&& (3 : Int32)) (((((p4.toUInt32 >>> ((4 : Int32) &&& 31).toUInt32).toInt32).toUInt32 >>> ((2 : Int32) &&& 31).toUInt32).toInt32) &&& (3 : Int32)) (((((p4.toUInt32 >>> ((4 : Int32) &&& 31).toUInt32).toInt32).toUInt32 >>> ((4 : Int32) &&& 31).toUInt32).toInt32) &&& (3 : Int32)) p0 p1 p2 p3 (((p4.toUInt32 >>> ((4 : Int32) &&& 31).toUInt32).toInt32) &&& (3 : Int32)) (((((p4.toUInt32 >>> ((4 : Int32) &&& 31).toUInt32).toInt32).toUInt32 >>> ((2 : Int32) &&& 31).toUInt32).toInt32) &&& (3 : Int32)) (((((p4.toUInt32 >>> ((4 : Int32) &&& 31).toUInt32).toInt32).toUInt32 >>> ((4 : Int32) &&& 31).toUInt32).toInt32) &&& (3 : Int32))) = (0 : Int32)))).1) ?_
          show Steps p.tables e below (T262.setTop (mkF m 186 #[.val (.int p0), .val (.int p1), .val (.int p2), .val (.int p3), .val (.int p4), .val (.int p5), .val (.ref b3), .val (.ref b52), .val (.int (p4 &&& (3 : Int32))), .val (.int (((p4.toUInt32 >>> ((2 : Int32) &&& 31).toUInt32).toInt32) &&& (3 : Int32))), .val (.int ((p4.toUInt32 >>> ((4 : Int32) &&& 31).toUInt32).toInt32)), .val (.int ((p4.toUInt32 >>> ((10 : Int32) &&& 31).toUInt32).toInt32)), .val (.ref r_o_123), .val (.ref r_o_139), .val (.ref b154), .val (.ref b183), .val (.int (p5 &&& (3 : Int32))), .unset] [])) _
          refine XS.aload X262.here hx rfl (hb hby at_186) rfl rfl ?_
          show Steps p.tables e below (T262.setTop (mkF m 188 #[.val (.int p0), .val (.int p1), .val (.int p2), .val (.int p3), .val (.int p4), .val (.int p5), .val (.ref b3), .val (.ref b52), .val (.int (p4 &&& (3 : Int32))), .val (.int (((p4.toUInt32 >>> ((2 : Int32) &&& 31).toUInt32).toInt32) &&& (3 : Int32))), .val (.int ((p4.toUInt32 >>> ((4 : Int32) &&& 31).toUInt32).toInt32)), .val (.int ((p4.toUInt32 >>> ((10 : Int32) &&& 31).toUInt32).toInt32)), .val (.ref r_o_123), .val (.ref r_o_139), .val (.ref b154), .val (.ref b183), .val (.int (p5 &&& (3 : Int32))), .unset] [(.ref b183)])) _
          refine XS.aload X262.here hx rfl (hb hby at_188) rfl rfl ?_
          show Steps p.tables e below (T262.setTop (mkF m 190 #[.val (.int p0), .val (.int p1), .val (.int p2), .val (.int p3), .val (.int p4), .val (.int p5), .val (.ref b3), .val (.ref b52), .val (.int (p4 &&& (3 : Int32))), .val (.int (((p4.toUInt32 >>> ((2 : Int32) &&& 31).toUInt32).toInt32) &&& (3 : Int32))), .val (.int ((p4.toUInt32 >>> ((4 : Int32) &&& 31).toUInt32).toInt32)), .val (.int ((p4.toUInt32 >>> ((10 : Int32) &&& 31).toUInt32).toInt32)), .val (.ref r_o_123), .val (.ref r_o_139), .val (.ref b154), .val (.ref b183), .val (.int (p5 &&& (3 : Int32))), .unset] [(.ref b183), (.ref b183)])) _
          refine st273.trans ?_
          show Steps p.tables e below (T273.setTop (mkF m 193 #[.val (.int p0), .val (.int p1), .val (.int p2), .val (.int p3), .val (.int p4), .val (.int p5), .val (.ref b3), .val (.ref b52), .val (.int (p4 &&& (3 : Int32))), .val (.int (((p4.toUInt32 >>> ((2 : Int32) &&& 31).toUInt32).toInt32) &&& (3 : Int32))), .val (.int ((p4.toUInt32 >>> ((4 : Int32) &&& 31).toUInt32).toInt32)), .val (.int ((p4.toUInt32 >>> ((10 : Int32) &&& 31).toUInt32).toInt32)), .val (.ref r_o_123), .val (.ref r_o_139), .val (.ref b154), .val (.ref b183), .val (.int (p5 &&& (3 : Int32))), .unset] [(.int (own_eq_f (((p4.toUInt32 >>> ((2 : Int32) &&& 31).toUInt32).toInt32) &&& (3 : Int32)) (((p4.toUInt32 >>> ((2 : Int32) &&& 31).toUInt32).toInt32) &&& (3 : Int32)) p1 p0 p3 p2 (((p4.toUInt32 >>> ((10 : Int32) &&& 31).toUInt32).toInt32) &&& (3 : Int32)) (((((p4.toUInt32 >>> ((10 : Int32) &&& 31).toUInt32).toInt32).toUInt32 >>> ((2 : Int32) &&& 31).toUInt32).toInt32) &&& (3 : Int32)) (((((p4.toUInt32 >>> ((10 : Int32) &&& 31).toUInt32).toInt32).toUInt32 >>> ((4 : Int32) &&& 31).toUInt32).toInt32) &&& (3 : Int32)) p1 p0 p3 p2 (((p4.toUInt32 >>> ((10 : Int32) &&& 31).toUInt32).toInt32) &&& (3 : Int32)) (((((p4.toUInt32 >>> ((10 : Int32) &&& 31).toUInt32).toInt32).toUInt32 >>> ((2 : Int32) &&& 31).toUInt32).toInt32) &&& (3 : Int32)) (((((p4.toUInt32 >>> ((10 : Int32) &&& 31).toUInt32).toInt32).toUInt32 >>> ((4 : Int32) &&& 31).toUInt32).toInt32) &&& (3 : Int32))))])) _
          refine XS.ifNo X273.here hx rfl (hb hby at_193) rfl ((if0 _ _).trans (feq (fun q => absurd ((own_refl _ _ _ _).symm.trans ((own_eqE _ _ _ _ _ _ _ _ _ _ _ _ _ _ _ _).symm.trans q)) (by decide) : ¬ ((own_eq_f (((p4.toUInt32 >>> ((2 : Int32) &&& 31).toUInt32).toInt32) &&& (3 : Int32)) (((p4.toUInt32 >>> ((2 : Int32) &&& 31).toUInt32).toInt32) &&& (3 : Int32)) p1 p0 p3 p2 (((p4.toUInt32 >>> ((10 : Int32) &&& 31).toUInt32).toInt32) &&& (3 : Int32)) (((((p4.toUInt32 >>> ((10 : Int32) &&& 31).toUInt32).toInt32).toUInt32 >>> ((2 : Int32) &&& 31).toUInt32).toInt32) &&& (3 : Int32)) (((((p4.toUInt32 >>> ((10 : Int32) &&& 31).toUInt32).toInt32).toUInt32 >>> ((4 : Int32) &&& 31).toUInt32).toInt32) &&& (3 : Int32)) p1 p0 p3 p2 (((p4.toUInt32 >>> ((10 : Int32) &&& 31).toUInt32).toInt32) &&& (3 : Int32)) (((((p4.toUInt32 >>> ((10 : Int32) &&& 31).toUInt32).toInt32).toUInt32 >>> ((2 : Int32) &&& 31).toUInt32).toInt32) &&& (3 : Int32)) (((((p4.toUInt32 >>> ((10 : Int32) &&& 31).toUInt32).toInt32).toUInt32 >>> ((4 : Int32) &&& 31).toUInt32).toInt32) &&& (3 : Int32))) = (0 : Int32)))).1) ?_
          show Steps p.tables e below (T273.setTop (mkF m 196 #[.val (.int p0), .val (.int p1), .val (.int p2), .val (.int p3), .val (.int p4), .val (.int p5), .val (.ref b3), .val (.ref b52), .val (.int (p4 &&& (3 : Int32))), .val (.int (((p4.toUInt32 >>> ((2 : Int32) &&& 31).toUInt32).toInt32) &&& (3 : Int32))), .val (.int ((p4.toUInt32 >>> ((4 : Int32) &&& 31).toUInt32).toInt32)), .val (.int ((p4.toUInt32 >>> ((10 : Int32) &&& 31).toUInt32).toInt32)), .val (.ref r_o_123), .val (.ref r_o_139), .val (.ref b154), .val (.ref b183), .val (.int (p5 &&& (3 : Int32))), .unset] [])) _
          refine XS.iconst X273.here hx rfl (hb hby at_196) ?_
          show Steps p.tables e below (T273.setTop (mkF m 197 #[.val (.int p0), .val (.int p1), .val (.int p2), .val (.int p3), .val (.int p4), .val (.int p5), .val (.ref b3), .val (.ref b52), .val (.int (p4 &&& (3 : Int32))), .val (.int (((p4.toUInt32 >>> ((2 : Int32) &&& 31).toUInt32).toInt32) &&& (3 : Int32))), .val (.int ((p4.toUInt32 >>> ((4 : Int32) &&& 31).toUInt32).toInt32)), .val (.int ((p4.toUInt32 >>> ((10 : Int32) &&& 31).toUInt32).toInt32)), .val (.ref r_o_123), .val (.ref r_o_139), .val (.ref b154), .val (.ref b183), .val (.int (p5 &&& (3 : Int32))), .unset] [(.int (1 : Int32))])) _
          refine XS.goto X273.here hx rfl (pc0 := 197) (pc' := 201) rfl (hb hby at_197) (by decide) (by decide) ?_
          show Steps p.tables e below (T273.setTop (mkF m 201 #[.val (.int p0), .val (.int p1), .val (.int p2), .val (.int p3), .val (.int p4), .val (.int p5), .val (.ref b3), .val (.ref b52), .val (.int (p4 &&& (3 : Int32))), .val (.int (((p4.toUInt32 >>> ((2 : Int32) &&& 31).toUInt32).toInt32) &&& (3 : Int32))), .val (.int ((p4.toUInt32 >>> ((4 : Int32) &&& 31).toUInt32).toInt32)), .val (.int ((p4.toUInt32 >>> ((10 : Int32) &&& 31).toUInt32).toInt32)), .val (.ref r_o_123), .val (.ref r_o_139), .val (.ref b154), .val (.ref b183), .val (.int (p5 &&& (3 : Int32))), .unset] [(.int (1 : Int32))])) _
          exact retN X273 hx (t := .boolean) Bd.returns (by simp) (hb hby at_201) hr
        · show Qown_law Z p0 p1 p2 p3 p4 p5 w_c k_c vs_c h0 n0 _ T273.heap _
          rw [eh273]
          exact ⟨rfl, N276⟩
      · have pre284 : ∀ t, Steps p.tables e below (T206.setTop (mkF m 206 #[.val (.int p0), .val (.int p1), .val (.int p2), .val (.int p3), .val (.int p4), .val (.int p5), .val (.ref b3), .val (.ref b52), .val (.int (p4 &&& (3 : Int32))), .val (.int (((p4.toUInt32 >>> ((2 : Int32) &&& 31).toUInt32).toInt32) &&& (3 : Int32))), .val (.int ((p4.toUInt32 >>> ((4 : Int32) &&& 31).toUInt32).toInt32)), .val (.int ((p4.toUInt32 >>> ((10 : Int32) &&& 31).toUInt32).toInt32)), .val (.ref r_o_123), .val (.ref r_o_139), .val (.ref b154), .val (.ref b183), .val (.int (p5 &&& (3 : Int32))), .unset] [(.int (((p4.toUInt32 >>> ((2 : Int32) &&& 31).toUInt32).toInt32) &&& (3 : Int32))), (.int (p4 &&& (3 : Int32)))])) t → Steps p.tables e below (s₁.setTop (entryFrame m #[(.int p0), (.int p1), (.int p2), (.int p3), (.int p4), (.int p5)] maxLocals)) t := by
          intro t kt
          refine pre257 _ ?_
          show Steps p.tables e below (T206.setTop (mkF m 173 #[.val (.int p0), .val (.int p1), .val (.int p2), .val (.int p3), .val (.int p4), .val (.int p5), .val (.ref b3), .val (.ref b52), .val (.int (p4 &&& (3 : Int32))), .val (.int (((p4.toUInt32 >>> ((2 : Int32) &&& 31).toUInt32).toInt32) &&& (3 : Int32))), .val (.int ((p4.toUInt32 >>> ((4 : Int32) &&& 31).toUInt32).toInt32)), .val (.int ((p4.toUInt32 >>> ((10 : Int32) &&& 31).toUInt32).toInt32)), .val (.ref r_o_123), .val (.ref r_o_139), .val (.ref b154), .val (.ref b183), .val (.int (p5 &&& (3 : Int32))), .unset] [(.int (3 : Int32)), (.int (p5 &&& (3 : Int32)))])) _
          refine XS.icmpYes X206.here hx rfl (pc0 := 173) (pc' := 202) rfl (hb hby at_173) rfl (feq hc173_258).2 (by decide) (by decide) ?_
          show Steps p.tables e below (T206.setTop (mkF m 202 #[.val (.int p0), .val (.int p1), .val (.int p2), .val (.int p3), .val (.int p4), .val (.int p5), .val (.ref b3), .val (.ref b52), .val (.int (p4 &&& (3 : Int32))), .val (.int (((p4.toUInt32 >>> ((2 : Int32) &&& 31).toUInt32).toInt32) &&& (3 : Int32))), .val (.int ((p4.toUInt32 >>> ((4 : Int32) &&& 31).toUInt32).toInt32)), .val (.int ((p4.toUInt32 >>> ((10 : Int32) &&& 31).toUInt32).toInt32)), .val (.ref r_o_123), .val (.ref r_o_139), .val (.ref b154), .val (.ref b183), .val (.int (p5 &&& (3 : Int32))), .unset] [])) _
          refine XS.iload X206.here hx rfl (hb hby at_202) rfl ?_
          show Steps p.tables e below (T206.setTop (mkF m 204 #[.val (.int p0), .val (.int p1), .val (.int p2), .val (.int p3), .val (.int p4), .val (.int p5), .val (.ref b3), .val (.ref b52), .val (.int (p4 &&& (3 : Int32))), .val (.int (((p4.toUInt32 >>> ((2 : Int32) &&& 31).toUInt32).toInt32) &&& (3 : Int32))), .val (.int ((p4.toUInt32 >>> ((4 : Int32) &&& 31).toUInt32).toInt32)), .val (.int ((p4.toUInt32 >>> ((10 : Int32) &&& 31).toUInt32).toInt32)), .val (.ref r_o_123), .val (.ref r_o_139), .val (.ref b154), .val (.ref b183), .val (.int (p5 &&& (3 : Int32))), .unset] [(.int (p4 &&& (3 : Int32)))])) _
          refine XS.iload X206.here hx rfl (hb hby at_204) rfl ?_
          exact kt
        by_cases hc206_285 : (p4 &&& (3 : Int32)) = (((p4.toUInt32 >>> ((2 : Int32) &&& 31).toUInt32).toInt32) &&& (3 : Int32))
        · have pre294 : ∀ t, Steps p.tables e below (T206.setTop (mkF m 224 #[.val (.int p0), .val (.int p1), .val (.int p2), .val (.int p3), .val (.int p4), .val (.int p5), .val (.ref b3), .val (.ref b52), .val (.int (p4 &&& (3 : Int32))), .val (.int (((p4.toUInt32 >>> ((2 : Int32) &&& 31).toUInt32).toInt32) &&& (3 : Int32))), .val (.int ((p4.toUInt32 >>> ((4 : Int32) &&& 31).toUInt32).toInt32)), .val (.int ((p4.toUInt32 >>> ((10 : Int32) &&& 31).toUInt32).toInt32)), .val (.ref r_o_123), .val (.ref r_o_139), .val (.ref b154), .val (.ref b183), .val (.int (p5 &&& (3 : Int32))), .val (.int (1 : Int32))] [(.int (1 : Int32)), (.int (p4 &&& (3 : Int32)))])) t → Steps p.tables e below (s₁.setTop (entryFrame m #[(.int p0), (.int p1), (.int p2), (.int p3), (.int p4), (.int p5)] maxLocals)) t := by
            intro t kt
            refine pre284 _ ?_
            show Steps p.tables e below (T206.setTop (mkF m 206 #[.val (.int p0), .val (.int p1), .val (.int p2), .val (.int p3), .val (.int p4), .val (.int p5), .val (.ref b3), .val (.ref b52), .val (.int (p4 &&& (3 : Int32))), .val (.int (((p4.toUInt32 >>> ((2 : Int32) &&& 31).toUInt32).toInt32) &&& (3 : Int32))), .val (.int ((p4.toUInt32 >>> ((4 : Int32) &&& 31).toUInt32).toInt32)), .val (.int ((p4.toUInt32 >>> ((10 : Int32) &&& 31).toUInt32).toInt32)), .val (.ref r_o_123), .val (.ref r_o_139), .val (.ref b154), .val (.ref b183), .val (.int (p5 &&& (3 : Int32))), .unset] [(.int (((p4.toUInt32 >>> ((2 : Int32) &&& 31).toUInt32).toInt32) &&& (3 : Int32))), (.int (p4 &&& (3 : Int32)))])) _
            refine XS.icmpNo X206.here hx rfl (hb hby at_206) rfl (teq hc206_285).2 ?_
            show Steps p.tables e below (T206.setTop (mkF m 209 #[.val (.int p0), .val (.int p1), .val (.int p2), .val (.int p3), .val (.int p4), .val (.int p5), .val (.ref b3), .val (.ref b52), .val (.int (p4 &&& (3 : Int32))), .val (.int (((p4.toUInt32 >>> ((2 : Int32) &&& 31).toUInt32).toInt32) &&& (3 : Int32))), .val (.int ((p4.toUInt32 >>> ((4 : Int32) &&& 31).toUInt32).toInt32)), .val (.int ((p4.toUInt32 >>> ((10 : Int32) &&& 31).toUInt32).toInt32)), .val (.ref r_o_123), .val (.ref r_o_139), .val (.ref b154), .val (.ref b183), .val (.int (p5 &&& (3 : Int32))), .unset] [])) _
            refine XS.iconst X206.here hx rfl (hb hby at_209) ?_
            show Steps p.tables e below (T206.setTop (mkF m 210 #[.val (.int p0), .val (.int p1), .val (.int p2), .val (.int p3), .val (.int p4), .val (.int p5), .val (.ref b3), .val (.ref b52), .val (.int (p4 &&& (3 : Int32))), .val (.int (((p4.toUInt32 >>> ((2 : Int32) &&& 31).toUInt32).toInt32) &&& (3 : Int32))), .val (.int ((p4.toUInt32 >>> ((4 : Int32) &&& 31).toUInt32).toInt32)), .val (.int ((p4.toUInt32 >>> ((10 : Int32) &&& 31).toUInt32).toInt32)), .val (.ref r_o_123), .val (.ref r_o_139), .val (.ref b154), .val (.ref b183), .val (.int (p5 &&& (3 : Int32))), .unset] [(.int (1 : Int32))])) _
            refine XS.goto X206.here hx rfl (pc0 := 210) (pc' := 214) rfl (hb hby at_210) (by decide) (by decide) ?_
            show Steps p.tables e below (T206.setTop (mkF m 214 #[.val (.int p0), .val (.int p1), .val (.int p2), .val (.int p3), .val (.int p4), .val (.int p5), .val (.ref b3), .val (.ref b52), .val (.int (p4 &&& (3 : Int32))), .val (.int (((p4.toUInt32 >>> ((2 : Int32) &&& 31).toUInt32).toInt32) &&& (3 : Int32))), .val (.int ((p4.toUInt32 >>> ((4 : Int32) &&& 31).toUInt32).toInt32)), .val (.int ((p4.toUInt32 >>> ((10 : Int32) &&& 31).toUInt32).toInt32)), .val (.ref r_o_123), .val (.ref r_o_139), .val (.ref b154), .val (.ref b183), .val (.int (p5 &&& (3 : Int32))), .unset] [(.int (1 : Int32))])) _
            refine XS.istore X206.here hx rfl (hb hby at_214) rfl (l' := #[.val (.int p0), .val (.int p1), .val (.int p2), .val (.int p3), .val (.int p4), .val (.int p5), .val (.ref b3), .val (.ref b52), .val (.int (p4 &&& (3 : Int32))), .val (.int (((p4.toUInt32 >>> ((2 : Int32) &&& 31).toUInt32).toInt32) &&& (3 : Int32))), .val (.int ((p4.toUInt32 >>> ((4 : Int32) &&& 31).toUInt32).toInt32)), .val (.int ((p4.toUInt32 >>> ((10 : Int32) &&& 31).toUInt32).toInt32)), .val (.ref r_o_123), .val (.ref r_o_139), .val (.ref b154), .val (.ref b183), .val (.int (p5 &&& (3 : Int32))), .val (.int (1 : Int32))]) rfl ?_
            show Steps p.tables e below (T206.setTop (mkF m 216 #[.val (.int p0), .val (.int p1), .val (.int p2), .val (.int p3), .val (.int p4), .val (.int p5), .val (.ref b3), .val (.ref b52), .val (.int (p4 &&& (3 : Int32))), .val (.int (((p4.toUInt32 >>> ((2 : Int32) &&& 31).toUInt32).toInt32) &&& (3 : Int32))), .val (.int ((p4.toUInt32 >>> ((4 : Int32) &&& 31).toUInt32).toInt32)), .val (.int ((p4.toUInt32 >>> ((10 : Int32) &&& 31).toUInt32).toInt32)), .val (.ref r_o_123), .val (.ref r_o_139), .val (.ref b154), .val (.ref b183), .val (.int (p5 &&& (3 : Int32))), .val (.int (1 : Int32))] [])) _
            refine XS.iload X206.here hx rfl (hb hby at_216) rfl ?_
            show Steps p.tables e below (T206.setTop (mkF m 218 #[.val (.int p0), .val (.int p1), .val (.int p2), .val (.int p3), .val (.int p4), .val (.int p5), .val (.ref b3), .val (.ref b52), .val (.int (p4 &&& (3 : Int32))), .val (.int (((p4.toUInt32 >>> ((2 : Int32) &&& 31).toUInt32).toInt32) &&& (3 : Int32))), .val (.int ((p4.toUInt32 >>> ((4 : Int32) &&& 31).toUInt32).toInt32)), .val (.int ((p4.toUInt32 >>> ((10 : Int32) &&& 31).toUInt32).toInt32)), .val (.ref r_o_123), .val (.ref r_o_139), .val (.ref b154), .val (.ref b183), .val (.int (p5 &&& (3 : Int32))), .val (.int (1 : Int32))] [(.int (1 : Int32))])) _
            refine XS.ifNo X206.here hx rfl (hb hby at_218) rfl ((if0 _ _).trans (feq ((by decide) : ¬ ((1 : Int32) = (0 : Int32)))).1) ?_
            show Steps p.tables e below (T206.setTop (mkF m 221 #[.val (.int p0), .val (.int p1), .val (.int p2), .val (.int p3), .val (.int p4), .val (.int p5), .val (.ref b3), .val (.ref b52), .val (.int (p4 &&& (3 : Int32))), .val (.int (((p4.toUInt32 >>> ((2 : Int32) &&& 31).toUInt32).toInt32) &&& (3 : Int32))), .val (.int ((p4.toUInt32 >>> ((4 : Int32) &&& 31).toUInt32).toInt32)), .val (.int ((p4.toUInt32 >>> ((10 : Int32) &&& 31).toUInt32).toInt32)), .val (.ref r_o_123), .val (.ref r_o_139), .val (.ref b154), .val (.ref b183), .val (.int (p5 &&& (3 : Int32))), .val (.int (1 : Int32))] [])) _
            refine XS.iload X206.here hx rfl (hb hby at_221) rfl ?_
            show Steps p.tables e below (T206.setTop (mkF m 223 #[.val (.int p0), .val (.int p1), .val (.int p2), .val (.int p3), .val (.int p4), .val (.int p5), .val (.ref b3), .val (.ref b52), .val (.int (p4 &&& (3 : Int32))), .val (.int (((p4.toUInt32 >>> ((2 : Int32) &&& 31).toUInt32).toInt32) &&& (3 : Int32))), .val (.int ((p4.toUInt32 >>> ((4 : Int32) &&& 31).toUInt32).toInt32)), .val (.int ((p4.toUInt32 >>> ((10 : Int32) &&& 31).toUInt32).toInt32)), .val (.ref r_o_123), .val (.ref r_o_139), .val (.ref b154), .val (.ref b183), .val (.int (p5 &&& (3 : Int32))), .val (.int (1 : Int32))] [(.int (p4 &&& (3 : Int32)))])) _
            refine XS.iconst X206.here hx rfl (hb hby at_223) ?_
            exact kt
          by_cases hc224_295 : (p4 &&& (3 : Int32)) < (1 : Int32)
          · have Fq310 : Fld Z T206.heap b154 "com/example/fovea/fovea/Memory$Key" "entry" "[I" (.ref b3) := ((Pf175_1.ext E183).keep K206 (ninS Ne194 nin0))
            have Fq311 : Fld Z T206.heap b154 "com/example/fovea/fovea/Memory$Key" "slots" "[I" (.ref r_o_123) := ((Pf175_2.ext E183).keep K206 (ninS Ne194 nin0))
            have Fq312 : Arv Z T206.heap b3 k3 .int (4 : Int32) [(.int p0), (.int p1), (.int p2), (.int p3)] (.int (0 : Int32)) := (((Fq176.keep K175 (ninS Ne157 nin0)).ext E183).keep K206 (ninS Ne186 nin0))
            have Fq313 : Arv Z T206.heap r_o_123 k_r_123 .int (p4 &&& (3 : Int32)) [(.int (((p4.toUInt32 >>> ((4 : Int32) &&& 31).toUInt32).toInt32) &&& (3 : Int32))), (.int (((((p4.toUInt32 >>> ((4 : Int32) &&& 31).toUInt32).toInt32).toUInt32 >>> ((2 : Int32) &&& 31).toUInt32).toInt32) &&& (3 : Int32))), (.int (((((p4.toUInt32 >>> ((4 : Int32) &&& 31).toUInt32).toInt32).toUInt32 >>> ((4 : Int32) &&& 31).toUInt32).toInt32) &&& (3 : Int32)))] (.int (0 : Int32)) := ((Fq191.ext E183).keep K206 (ninS Ne190 nin0))
            have Fq314 : Arv Z T206.heap b52 k52 .int (4 : Int32) [(.int p1), (.int p0), (.int p3), (.int p2)] (.int (0 : Int32)) := (Fq207.keep K206 (ninS Ne188 nin0))
            have Fq315 : Arv Z T206.heap r_o_139 k_r_139 .int (((p4.toUInt32 >>> ((2 : Int32) &&& 31).toUInt32).toInt32) &&& (3 : Int32)) [(.int (((p4.toUInt32 >>> ((10 : Int32) &&& 31).toUInt32).toInt32) &&& (3 : Int32))), (.int (((((p4.toUInt32 >>> ((10 : Int32) &&& 31).toUInt32).toInt32).toUInt32 >>> ((2 : Int32) &&& 31).toUInt32).toInt32) &&& (3 : Int32))), (.int (((((p4.toUInt32 >>> ((10 : Int32) &&& 31).toUInt32).toInt32).toUInt32 >>> ((4 : Int32) &&& 31).toUInt32).toInt32) &&& (3 : Int32)))] (.int (0 : Int32)) := (Fq208.keep K206 (ninS Ne192 nin0))
            have Fq316 : Exa Z T206.heap b154 "com/example/fovea/fovea/Memory$Key" := ((Pf175_0.ext E183).keep K206)
            obtain ⟨cq309, kq309, q309a, q309b, q309c⟩ := isOf hZ rfl Fq316
            obtain ⟨_, _, ⟨T309, L309, k309, n309⟩, -, X309, ⟨Lc309, hQ309, l309, y309, z309⟩, st309⟩ := X206.virtualBack hx (y := (⟨"com/example/fovea/fovea/Memory$Key", "equals", "(Ljava/lang/Object;)Z"⟩ : MethodName)) (z := (⟨"com/example/fovea/fovea/Memory$Key", "equals", "(Ljava/lang/Object;)Z"⟩ : MethodName)) hown (mvT hZ (hw _ (List.mem_of_getElem? (i := 25) rfl))) (mvT hZ (hw _ (List.mem_of_getElem? (i := 26) rfl))) (notFace_of_selects (args := #[]) (mvT hZ (hw _ (List.mem_of_getElem? (i := 28) rfl)))) (mvT hZ (hw _ (List.mem_of_getElem? (i := 28) rfl))) (mvT hZ (hw _ (List.mem_of_getElem? (i := 27) rfl))) (by decide) (backOf (W := 0) (own_eq l Z a0 hw [] b154 b183 b3 r_o_123 b52 r_o_139 k3 k_r_123 k52 k_r_139 (p4 &&& (3 : Int32)) (((p4.toUInt32 >>> ((2 : Int32) &&& 31).toUInt32).toInt32) &&& (3 : Int32)) p0 p1 p2 p3 (((p4.toUInt32 >>> ((4 : Int32) &&& 31).toUInt32).toInt32) &&& (3 : Int32)) (((((p4.toUInt32 >>> ((4 : Int32) &&& 31).toUInt32).toInt32).toUInt32 >>> ((2 : Int32) &&& 31).toUInt32).toInt32) &&& (3 : Int32)) (((((p4.toUInt32 >>> ((4 : Int32) &&& 31).toUInt32).toInt32).toUInt32 >>> ((4 : Int32) &&& 31).toUInt32).toInt32) &&& (3 : Int32)) p1 p0 p3 p2 (((p4.toUInt32 >>> ((10 : Int32) &&& 31).toUInt32).toInt32) &&& (3 : Int32)) (((((p4.toUInt32 >>> ((10 : Int32) &&& 31).toUInt32).toInt32).toUInt32 >>> ((2 : Int32) &&& 31).toUInt32).toInt32) &&& (3 : Int32)) (((((p4.toUInt32 >>> ((10 : Int32) &&& 31).toUInt32).toInt32).toUInt32 >>> ((4 : Int32) &&& 31).toUInt32).toInt32) &&& (3 : Int32)) T206.heap n0 Zs211 Pf206_0 Fq310 Fq311 Pf206_1 Pf206_2 Fq312 Fq313 Fq314 Fq315 (own_and4 _) (own_and4 _) (own_and4 _) (own_and4 _) (own_and4 _) (own_and4 _) (own_and3 _).2) hZ (hw _ (List.mem_of_getElem? (i := 29) rfl)) (hw _ (List.mem_of_getElem? (i := 7) rfl)) (by decide) (by decide)) q309a q309c (g := (mkF m 357 #[.val (.int p0), .val (.int p1), .val (.int p2), .val (.int p3), .val (.int p4), .val (.int p5), .val (.ref b3), .val (.ref b52), .val (.int (p4 &&& (3 : Int32))), .val (.int (((p4.toUInt32 >>> ((2 : Int32) &&& 31).toUInt32).toInt32) &&& (3 : Int32))), .val (.int ((p4.toUInt32 >>> ((4 : Int32) &&& 31).toUInt32).toInt32)), .val (.int ((p4.toUInt32 >>> ((10 : Int32) &&& 31).toUInt32).toInt32)), .val (.ref r_o_123), .val (.ref r_o_139), .val (.ref b154), .val (.ref b183), .val (.int (p5 &&& (3 : Int32))), .val (.int (1 : Int32))] [(.ref b183), (.ref b154)])) rfl (by rw [hml]; rfl) (Steps.refl _) (argsL := [(.ref b183)]) (rest := []) (lenOf own_pd5 rfl) rfl (by show 2 * 0 + _ ≤ _; exact Nat.le_of_eq rfl) (hb hby at_357) (fun _ _ => ⟨rfl, rfl, (by decide : 6 + 0 ≤ _), (by decide : 24 + 0 ≤ _)⟩)
            dsimp only [Pt.U, Pt.locs, Pt.cells, Pt.slots] at X309 l309 y309 z309 st309 hQ309
            rw [l309, y309, z309] at X309
            obtain ⟨rfl, Nq309, eh309⟩ := hQ309
            have N317 := Fr.app N209 Nq309
            obtain ⟨cq323, kq323, q323a, q323b, q323c⟩ := isOf hZ eh309 Pf206_0
            obtain ⟨_, _, ⟨T323, L323, k323, n323⟩, -, X323, ⟨Lc323, hQ323, l323, y323, z323⟩, st323⟩ := X309.virtualBack hx (y := (⟨"com/example/fovea/fovea/Memory$Key", "equals", "(Ljava/lang/Object;)Z"⟩ : MethodName)) (z := (⟨"com/example/fovea/fovea/Memory$Key", "equals", "(Ljava/lang/Object;)Z"⟩ : MethodName)) hown (mvT hZ (hw _ (List.mem_of_getElem? (i := 25) rfl))) (mvT hZ (hw _ (List.mem_of_getElem? (i := 26) rfl))) (notFace_of_selects (args := #[]) (mvT hZ (hw _ (List.mem_of_getElem? (i := 28) rfl)))) (mvT hZ (hw _ (List.mem_of_getElem? (i := 28) rfl))) (mvT hZ (hw _ (List.mem_of_getElem? (i := 27) rfl))) (by decide) (backOf (W := 0) (own_eq l Z a0 hw [] b183 b154 b52 r_o_139 b3 r_o_123 k52 k_r_139 k3 k_r_123 (((p4.toUInt32 >>> ((2 : Int32) &&& 31).toUInt32).toInt32) &&& (3 : Int32)) (p4 &&& (3 : Int32)) p1 p0 p3 p2 (((p4.toUInt32 >>> ((10 : Int32) &&& 31).toUInt32).toInt32) &&& (3 : Int32)) (((((p4.toUInt32 >>> ((10 : Int32) &&& 31).toUInt32).toInt32).toUInt32 >>> ((2 : Int32) &&& 31).toUInt32).toInt32) &&& (3 : Int32)) (((((p4.toUInt32 >>> ((10 : Int32) &&& 31).toUInt32).toInt32).toUInt32 >>> ((4 : Int32) &&& 31).toUInt32).toInt32) &&& (3 : Int32)) p0 p1 p2 p3 (((p4.toUInt32 >>> ((4 : Int32) &&& 31).toUInt32).toInt32) &&& (3 : Int32)) (((((p4.toUInt32 >>> ((4 : Int32) &&& 31).toUInt32).toInt32).toUInt32 >>> ((2 : Int32) &&& 31).toUInt32).toInt32) &&& (3 : Int32)) (((((p4.toUInt32 >>> ((4 : Int32) &&& 31).toUInt32).toInt32).toUInt32 >>> ((4 : Int32) &&& 31).toUInt32).toInt32) &&& (3 : Int32)) T206.heap n0 Zs211 Fq316 Pf206_1 Pf206_2 Fq310 Fq311 Fq314 Fq315 Fq312 Fq313 (own_and4 _) (own_and4 _) (own_and4 _) (own_and4 _) (own_and4 _) (own_and4 _) (own_and3 _).2) hZ (hw _ (List.mem_of_getElem? (i := 29) rfl)) (hw _ (List.mem_of_getElem? (i := 7) rfl)) (by decide) (by decide)) q323a q323c (g := (mkF m 369 #[.val (.int p0), .val (.int p1), .val (.int p2), .val (.int p3), .val (.int p4), .val (.int p5), .val (.ref b3), .val (.ref b52), .val (.int (p4 &&& (3 : Int32))), .val (.int (((p4.toUInt32 >>> ((2 : Int32) &&& 31).toUInt32).toInt32) &&& (3 : Int32))), .val (.int ((p4.toUInt32 >>> ((4 : Int32) &&& 31).toUInt32).toInt32)), .val (.int ((p4.toUInt32 >>> ((10 : Int32) &&& 31).toUInt32).toInt32)), .val (.ref r_o_123), .val (.ref r_o_139), .val (.ref b154), .val (.ref b183), .val (.int (p5 &&& (3 : Int32))), .val (.int (1 : Int32))] [(.ref b154), (.ref b183)])) rfl (by rw [hml]; rfl) (Steps.refl _) (argsL := [(.ref b154)]) (rest := []) (lenOf own_pd5 rfl) rfl (by show 2 * 0 + _ ≤ _; exact Nat.le_of_eq rfl) (hb hby at_369) (fun _ _ => ⟨rfl, eh309, (by decide : 6 + 0 ≤ _), (by decide : 24 + 0 ≤ _)⟩)
            dsimp only [Pt.U, Pt.locs, Pt.cells, Pt.slots] at X323 l323 y323 z323 st323 hQ323
            rw [l323, y323, z323] at X323
            obtain ⟨rfl, Nq323, eh323⟩ := hQ323
            have N324 := Fr.app N317 Nq323
            obtain ⟨fs, hr, hrun, hended, hW, hsame⟩ := X323.leave (v := some (.int (1 : Int32))) (fun h => by rw [Bd.returns] at h; cases h) (hlocks := BodyLoose.notSynchronized Bd)
            refine ⟨_, _, pre294 _ ?_, hrun, hended, _, _, rfl, ?_, ⟨_, rfl⟩, hW, hsame.mono (by decide) (by decide)⟩
            · show Steps p.tables e below (T206.setTop (mkF m 224 #[.val (.int p0), .val (.int p1), .val (.int p2), .val (.int p3), .val (.int p4), .val (.int p5), .val (.ref b3), .val (.ref b52), .val (.int (p4 &&& (3 : Int32))), .val (.int (((p4.toUInt32 >>> ((2 : Int32) &&& 31).toUInt32).toInt32) &&& (3 : Int32))), .val (.int ((p4.toUInt32 >>> ((4 : Int32) &&& 31).toUInt32).toInt32)), .val (.int ((p4.toUInt32 >>> ((10 : Int32) &&& 31).toUInt32).toInt32)), .val (.ref r_o_123), .val (.ref r_o_139), .val (.ref b154), .val (.ref b183), .val (.int (p5 &&& (3 : Int32))), .val (.int (1 : Int32))] [(.int (1 : Int32)), (.int (p4 &&& (3 : Int32)))])) _
              refine XS.icmpYes X206.here hx rfl (pc0 := 224) (pc' := 259) rfl (hb hby at_224) rfl (tlt hc224_295).1 (by decide) (by decide) ?_
              show Steps p.tables e below (T206.setTop (mkF m 259 #[.val (.int p0), .val (.int p1), .val (.int p2), .val (.int p3), .val (.int p4), .val (.int p5), .val (.ref b3), .val (.ref b52), .val (.int (p4 &&& (3 : Int32))), .val (.int (((p4.toUInt32 >>> ((2 : Int32) &&& 31).toUInt32).toInt32) &&& (3 : Int32))), .val (.int ((p4.toUInt32 >>> ((4 : Int32) &&& 31).toUInt32).toInt32)), .val (.int ((p4.toUInt32 >>> ((10 : Int32) &&& 31).toUInt32).toInt32)), .val (.ref r_o_123), .val (.ref r_o_139), .val (.ref b154), .val (.ref b183), .val (.int (p5 &&& (3 : Int32))), .val (.int (1 : Int32))] [])) _
              refine XS.iload X206.here hx rfl (hb hby at_259) rfl ?_
              show Steps p.tables e below (T206.setTop (mkF m 261 #[.val (.int p0), .val (.int p1), .val (.int p2), .val (.int p3), .val (.int p4), .val (.int p5), .val (.ref b3), .val (.ref b52), .val (.int (p4 &&& (3 : Int32))), .val (.int (((p4.toUInt32 >>> ((2 : Int32) &&& 31).toUInt32).toInt32) &&& (3 : Int32))), .val (.int ((p4.toUInt32 >>> ((4 : Int32) &&& 31).toUInt32).toInt32)), .val (.int ((p4.toUInt32 >>> ((10 : Int32) &&& 31).toUInt32).toInt32)), .val (.ref r_o_123), .val (.ref r_o_139), .val (.ref b154), .val (.ref b183), .val (.int (p5 &&& (3 : Int32))), .val (.int (1 : Int32))] [(.int (1 : Int32))])) _
              refine XS.ifNo X206.here hx rfl (hb hby at_261) rfl ((if0 _ _).trans (feq ((by decide) : ¬ ((1 : Int32) = (0 : Int32)))).1) ?_
              show Steps p.tables e below (T206.setTop (mkF m 264 #[.val (.int p0), .val (.int p1), .val (.int p2), .val (.int p3), .val (.int p4), .val (.int p5), .val (.ref b3), .val (.ref b52), .val (.int (p4 &&& (3 : Int32))), .val (.int (((p4.toUInt32 >>> ((2 : Int32) &&& 31).toUInt32).toInt32) &&& (3 : Int32))), .val (.int ((p4.toUInt32 >>> ((4 : Int32) &&& 31).toUInt32).toInt32)), .val (.int ((p4.toUInt32 >>> ((10 : Int32) &&& 31).toUInt32).toInt32)), .val (.ref r_o_123), .val (.ref r_o_139), .val (.ref b154), .val (.ref b183), .val (.int (p5 &&& (3 : Int32))), .val (.int (1 : Int32))] [])) _
              refine XS.iload X206.here hx rfl (hb hby at_264) rfl ?_
              show Steps p.tables e below (T206.setTop (mkF m 266 #[.val (.int p0), .val (.int p1), .val (.int p2), .val (.int p3), .val (.int p4), .val (.int p5), .val (.ref b3), .val (.ref b52), .val (.int (p4 &&& (3 : Int32))), .val (.int (((p4.toUInt32 >>> ((2 : Int32) &&& 31).toUInt32).toInt32) &&& (3 : Int32))), .val (.int ((p4.toUInt32 >>> ((4 : Int32) &&& 31).toUInt32).toInt32)), .val (.int ((p4.toUInt32 >>> ((10 : Int32) &&& 31).toUInt32).toInt32)), .val (.ref r_o_123), .val (.ref r_o_139), .val (.ref b154), .val (.ref b183), .val (.int (p5 &&& (3 : Int32))), .val (.int (1 : Int32))] [(.int (p4 &&& (3 : Int32)))])) _
              refine XS.iconst X206.here hx rfl (hb hby at_266) ?_
              show Steps p.tables e below (T206.setTop (mkF m 267 #[.val (.int p0), .val (.int p1), .val (.int p2), .val (.int p3), .val (.int p4), .val (.int p5), .val (.ref b3), .val (.ref b52), .val (.int (p4 &&& (3 : Int32))), .val (.int (((p4.toUInt32 >>> ((2 : Int32) &&& 31).toUInt32).toInt32) &&& (3 : Int32))), .val (.int ((p4.toUInt32 >>> ((4 : Int32) &&& 31).toUInt32).toInt32)), .val (.int ((p4.toUInt32 >>> ((10 : Int32) &&& 31).toUInt32).toInt32)), .val (.ref r_o_123), .val (.ref r_o_139), .val (.ref b154), .val (.ref b183), .val (.int (p5 &&& (3 : Int32))), .val (.int (1 : Int32))] [(.int (2 : Int32)), (.int (p4 &&& (3 : Int32)))])) _
              refine XS.icmpYes X206.here hx rfl (pc0 := 267) (pc' := 306) rfl (hb hby at_267) rfl (tlt (own_up hc224_295 (by decide) : (p4 &&& (3 : Int32)) < (2 : Int32))).1 (by decide) (by decide) ?_
              show Steps p.tables e below (T206.setTop (mkF m 306 #[.val (.int p0), .val (.int p1), .val (.int p2), .val (.int p3), .val (.int p4), .val (.int p5), .val (.ref b3), .val (.ref b52), .val (.int (p4 &&& (3 : Int32))), .val (.int (((p4.toUInt32 >>> ((2 : Int32) &&& 31).toUInt32).toInt32) &&& (3 : Int32))), .val (.int ((p4.toUInt32 >>> ((4 : Int32) &&& 31).toUInt32).toInt32)), .val (.int ((p4.toUInt32 >>> ((10 : Int32) &&& 31).toUInt32).toInt32)), .val (.ref r_o_123), .val (.ref r_o_139), .val (.ref b154), .val (.ref b183), .val (.int (p5 &&& (3 : Int32))), .val (.int (1 : Int32))] [])) _
              refine XS.iload X206.here hx rfl (hb hby at_306) rfl ?_
              show Steps p.tables e below (T206.setTop (mkF m 308 #[.val (.int p0), .val (.int p1), .val (.int p2), .val (.int p3), .val (.int p4), .val (.int p5), .val (.ref b3), .val (.ref b52), .val (.int (p4 &&& (3 : Int32))), .val (.int (((p4.toUInt32 >>> ((2 : Int32) &&& 31).toUInt32).toInt32) &&& (3 : Int32))), .val (.int ((p4.toUInt32 >>> ((4 : Int32) &&& 31).toUInt32).toInt32)), .val (.int ((p4.toUInt32 >>> ((10 : Int32) &&& 31).toUInt32).toInt32)), .val (.ref r_o_123), .val (.ref r_o_139), .val (.ref b154), .val (.ref b183), .val (.int (p5 &&& (3 : Int32))), .val (.int (1 : Int32))] [(.int (1 : Int32))])) _
              refine XS.ifNo X206.here hx rfl (hb hby at_308) rfl ((if0 _ _).trans (feq ((by decide) : ¬ ((1 : Int32) = (0 : Int32)))).1) ?_
              show Steps p.tables e below (T206.setTop (mkF m 311 #[.val (.int p0), .val (.int p1), .val (.int p2), .val (.int p3), .val (.int p4), .val (.int p5), .val (.ref b3), .val (.ref b52), .val (.int (p4 &&& (3 : Int32))), .val (.int (((p4.toUInt32 >>> ((2 : Int32) &&& 31).toUInt32).toInt32) &&& (3 : Int32))), .val (.int ((p4.toUInt32 >>> ((4 : Int32) &&& 31).toUInt32).toInt32)), .val (.int ((p4.toUInt32 >>> ((10 : Int32) &&& 31).toUInt32).toInt32)), .val (.ref r_o_123), .val (.ref r_o_139), .val (.ref b154), .val (.ref b183), .val (.int (p5 &&& (3 : Int32))), .val (.int (1 : Int32))] [])) _
              refine XS.iload X206.here hx rfl (hb hby at_311) rfl ?_
              show Steps p.tables e below (T206.setTop (mkF m 313 #[.val (.int p0), .val (.int p1), .val (.int p2), .val (.int p3), .val (.int p4), .val (.int p5), .val (.ref b3), .val (.ref b52), .val (.int (p4 &&& (3 : Int32))), .val (.int (((p4.toUInt32 >>> ((2 : Int32) &&& 31).toUInt32).toInt32) &&& (3 : Int32))), .val (.int ((p4.toUInt32 >>> ((4 : Int32) &&& 31).toUInt32).toInt32)), .val (.int ((p4.toUInt32 >>> ((10 : Int32) &&& 31).toUInt32).toInt32)), .val (.ref r_o_123), .val (.ref r_o_139), .val (.ref b154), .val (.ref b183), .val (.int (p5 &&& (3 : Int32))), .val (.int (1 : Int32))] [(.int (p4 &&& (3 : Int32)))])) _
              refine XS.iconst X206.here hx rfl (hb hby at_313) ?_
              show Steps p.tables e below (T206.setTop (mkF m 314 #[.val (.int p0), .val (.int p1), .val (.int p2), .val (.int p3), .val (.int p4), .val (.int p5), .val (.ref b3), .val (.ref b52), .val (.int (p4 &&& (3 : Int32))), .val (.int (((p4.toUInt32 >>> ((2 : Int32) &&& 31).toUInt32).toInt32) &&& (3 : Int32))), .val (.int ((p4.toUInt32 >>> ((4 : Int32) &&& 31).toUInt32).toInt32)), .val (.int ((p4.toUInt32 >>> ((10 : Int32) &&& 31).toUInt32).toInt32)), .val (.ref r_o_123), .val (.ref r_o_139), .val (.ref b154), .val (.ref b183), .val (.int (p5 &&& (3 : Int32))), .val (.int (1 : Int32))] [(.int (3 : Int32)), (.int (p4 &&& (3 : Int32)))])) _
              refine XS.icmpYes X206.here hx rfl (pc0 := 314) (pc' := 353) rfl (hb hby at_314) rfl (tlt (own_up hc224_295 (by decide) : (p4 &&& (3 : Int32)) < (3 : Int32))).1 (by decide) (by decide) ?_
              show Steps p.tables e below (T206.setTop (mkF m 353 #[.val (.int p0), .val (.int p1), .val (.int p2), .val (.int p3), .val (.int p4), .val (.int p5), .val (.ref b3), .val (.ref b52), .val (.int (p4 &&& (3 : Int32))), .val (.int (((p4.toUInt32 >>> ((2 : Int32) &&& 31).toUInt32).toInt32) &&& (3 : Int32))), .val (.int ((p4.toUInt32 >>> ((4 : Int32) &&& 31).toUInt32).toInt32)), .val (.int ((p4.toUInt32 >>> ((10 : Int32) &&& 31).toUInt32).toInt32)), .val (.ref r_o_123), .val (.ref r_o_139), .val (.ref b154), .val (.ref b183), .val (.int (p5 &&& (3 : Int32))), .val (.int (1 : Int32))] [])) _
              refine XS.aload X206.here hx rfl (hb hby at_353) rfl rfl ?_
              show Steps p.tables e below (T206.setTop (mkF m 355 #[.val (.int p0), .val (.int p1), .val (.int p2), .val (.int p3), .val (.int p4), .val (.int p5), .val (.ref b3), .val (.ref b52), .val (.int (p4 &&& (3 : Int32))), .val (.int (((p4.toUInt32 >>> ((2 : Int32) &&& 31).toUInt32).toInt32) &&& (3 : Int32))), .val (.int ((p4.toUInt32 >>> ((4 : Int32) &&& 31).toUInt32).toInt32)), .val (.int ((p4.toUInt32 >>> ((10 : Int32) &&& 31).toUInt32).toInt32)), .val (.ref r_o_123), .val (.ref r_o_139), .val (.ref b154), .val (.ref b183), .val (.int (p5 &&& (3 : Int32))), .val (.int (1 : Int32))] [(.ref b154)])) _
              refine XS.aload X206.here hx rfl (hb hby at_355) rfl rfl ?_
              show Steps p.tables e below (T206.setTop (mkF m 357 #[.val (.int p0), .val (.int p1), .val (.int p2), .val (.int p3), .val (.int p4), .val (.int p5), .val (.ref b3), .val (.ref b52), .val (.int (p4 &&& (3 : Int32))), .val (.int (((p4.toUInt32 >>> ((2 : Int32) &&& 31).toUInt32).toInt32) &&& (3 : Int32))), .val (.int ((p4.toUInt32 >>> ((4 : Int32) &&& 31).toUInt32).toInt32)), .val (.int ((p4.toUInt32 >>> ((10 : Int32) &&& 31).toUInt32).toInt32)), .val (.ref r_o_123), .val (.ref r_o_139), .val (.ref b154), .val (.ref b183), .val (.int (p5 &&& (3 : Int32))), .val (.int (1 : Int32))] [(.ref b183), (.ref b154)])) _
              refine st309.trans ?_
              show Steps p.tables e below (T309.setTop (mkF m 360 #[.val (.int p0), .val (.int p1), .val (.int p2), .val (.int p3), .val (.int p4), .val (.int p5), .val (.ref b3), .val (.ref b52), .val (.int (p4 &&& (3 : Int32))), .val (.int (((p4.toUInt32 >>> ((2 : Int32) &&& 31).toUInt32).toInt32) &&& (3 : Int32))), .val (.int ((p4.toUInt32 >>> ((4 : Int32) &&& 31).toUInt32).toInt32)), .val (.int ((p4.toUInt32 >>> ((10 : Int32) &&& 31).toUInt32).toInt32)), .val (.ref r_o_123), .val (.ref r_o_139), .val (.ref b154), .val (.ref b183), .val (.int (p5 &&& (3 : Int32))), .val (.int (1 : Int32))] [(.int (own_eq_f (p4 &&& (3 : Int32)) (((p4.toUInt32 >>> ((2 : Int32) &&& 31).toUInt32).toInt32) &&& (3 : Int32)) p0 p1 p2 p3 (((p4.toUInt32 >>> ((4 : Int32) &&& 31).toUInt32).toInt32) &&& (3 : Int32)) (((((p4.toUInt32 >>> ((4 : Int32) &&& 31).toUInt32).toInt32).toUInt32 >>> ((2 : Int32) &&& 31).toUInt32).toInt32) &&& (3 : Int32)) (((((p4.toUInt32 >>> ((4 : Int32) &&& 31).toUInt32).toInt32).toUInt32 >>> ((4 : Int32) &&& 31).toUInt32).toInt32) &&& (3 : Int32)) p1 p0 p3 p2 (((p4.toUInt32 >>> ((10 : Int32) &&& 31).toUInt32).toInt32) &&& (3 : Int32)) (((((p4.toUInt32 >>> ((10 : Int32) &&& 31).toUInt32).toInt32).toUInt32 >>> ((2 : Int32) &&& 31).toUInt32).toInt32) &&& (3 : Int32)) (((((p4.toUInt32 >>> ((10 : Int32) &&& 31).toUInt32).toInt32).toUInt32 >>> ((4 : Int32) &&& 31).toUInt32).toInt32) &&& (3 : Int32))))])) _
              refine XS.iload X309.here hx rfl (hb hby at_360) rfl ?_
              show Steps p.tables e below (T309.setTop (mkF m 362 #[.val (.int p0), .val (.int p1), .val (.int p2), .val (.int p3), .val (.int p4), .val (.int p5), .val (.ref b3), .val (.ref b52), .val (.int (p4 &&& (3 : Int32))), .val (.int (((p4.toUInt32 >>> ((2 : Int32) &&& 31).toUInt32).toInt32) &&& (3 : Int32))), .val (.int ((p4.toUInt32 >>> ((4 : Int32) &&& 31).toUInt32).toInt32)), .val (.int ((p4.toUInt32 >>> ((10 : Int32) &&& 31).toUInt32).toInt32)), .val (.ref r_o_123), .val (.ref r_o_139), .val (.ref b154), .val (.ref b183), .val (.int (p5 &&& (3 : Int32))), .val (.int (1 : Int32))] [(.int (1 : Int32)), (.int (own_eq_f (p4 &&& (3 : Int32)) (((p4.toUInt32 >>> ((2 : Int32) &&& 31).toUInt32).toInt32) &&& (3 : Int32)) p0 p1 p2 p3 (((p4.toUInt32 >>> ((4 : Int32) &&& 31).toUInt32).toInt32) &&& (3 : Int32)) (((((p4.toUInt32 >>> ((4 : Int32) &&& 31).toUInt32).toInt32).toUInt32 >>> ((2 : Int32) &&& 31).toUInt32).toInt32) &&& (3 : Int32)) (((((p4.toUInt32 >>> ((4 : Int32) &&& 31).toUInt32).toInt32).toUInt32 >>> ((4 : Int32) &&& 31).toUInt32).toInt32) &&& (3 : Int32)) p1 p0 p3 p2 (((p4.toUInt32 >>> ((10 : Int32) &&& 31).toUInt32).toInt32) &&& (3 : Int32)) (((((p4.toUInt32 >>> ((10 : Int32) &&& 31).toUInt32).toInt32).toUInt32 >>> ((2 : Int32) &&& 31).toUInt32).toInt32) &&& (3 : Int32)) (((((p4.toUInt32 >>> ((10 : Int32) &&& 31).toUInt32).toInt32).toUInt32 >>> ((4 : Int32) &&& 31).toUInt32).toInt32) &&& (3 : Int32))))])) _
              refine XS.icmpNo X309.here hx rfl (hb hby at_362) rfl (teq (((own_eqE _ _ _ _ _ _ _ _ _ _ _ _ _ _ _ _).trans (own_E1 hc206_285 hc224_295)) : (own_eq_f (p4 &&& (3 : Int32)) (((p4.toUInt32 >>> ((2 : Int32) &&& 31).toUInt32).toInt32) &&& (3 : Int32)) p0 p1 p2 p3 (((p4.toUInt32 >>> ((4 : Int32) &&& 31).toUInt32).toInt32) &&& (3 : Int32)) (((((p4.toUInt32 >>> ((4 : Int32) &&& 31).toUInt32).toInt32).toUInt32 >>> ((2 : Int32) &&& 31).toUInt32).toInt32) &&& (3 : Int32)) (((((p4.toUInt32 >>> ((4 : Int32) &&& 31).toUInt32).toInt32).toUInt32 >>> ((4 : Int32) &&& 31).toUInt32).toInt32) &&& (3 : Int32)) p1 p0 p3 p2 (((p4.toUInt32 >>> ((10 : Int32) &&& 31).toUInt32).toInt32) &&& (3 : Int32)) (((((p4.toUInt32 >>> ((10 : Int32) &&& 31).toUInt32).toInt32).toUInt32 >>> ((2 : Int32) &&& 31).toUInt32).toInt32) &&& (3 : Int32)) (((((p4.toUInt32 >>> ((10 : Int32) &&& 31).toUInt32).toInt32).toUInt32 >>> ((4 : Int32) &&& 31).toUInt32).toInt32) &&& (3 : Int32))) = (1 : Int32))).2 ?_
              show Steps p.tables e below (T309.setTop (mkF m 365 #[.val (.int p0), .val (.int p1), .val (.int p2), .val (.int p3), .val (.int p4), .val (.int p5), .val (.ref b3), .val (.ref b52), .val (.int (p4 &&& (3 : Int32))), .val (.int (((p4.toUInt32 >>> ((2 : Int32) &&& 31).toUInt32).toInt32) &&& (3 : Int32))), .val (.int ((p4.toUInt32 >>> ((4 : Int32) &&& 31).toUInt32).toInt32)), .val (.int ((p4.toUInt32 >>> ((10 : Int32) &&& 31).toUInt32).toInt32)), .val (.ref r_o_123), .val (.ref r_o_139), .val (.ref b154), .val (.ref b183), .val (.int (p5 &&& (3 : Int32))), .val (.int (1 : Int32))] [])) _
              refine XS.aload X309.here hx rfl (hb hby at_365) rfl rfl ?_
              show Steps p.tables e below (T309.setTop (mkF m 367 #[.val (.int p0), .val (.int p1), .val (.int p2), .val (.int p3), .val (.int p4), .val (.int p5), .val (.ref b3), .val (.ref b52), .val (.int (p4 &&& (3 : Int32))), .val (.int (((p4.toUInt32 >>> ((2 : Int32) &&& 31).toUInt32).toInt32) &&& (3 : Int32))), .val (.int ((p4.toUInt32 >>> ((4 : Int32) &&& 31).toUInt32).toInt32)), .val (.int ((p4.toUInt32 >>> ((10 : Int32) &&& 31).toUInt32).toInt32)), .val (.ref r_o_123), .val (.ref r_o_139), .val (.ref b154), .val (.ref b183), .val (.int (p5 &&& (3 : Int32))), .val (.int (1 : Int32))] [(.ref b183)])) _
              refine XS.aload X309.here hx rfl (hb hby at_367) rfl rfl ?_
              show Steps p.tables e below (T309.setTop (mkF m 369 #[.val (.int p0), .val (.int p1), .val (.int p2), .val (.int p3), .val (.int p4), .val (.int p5), .val (.ref b3), .val (.ref b52), .val (.int (p4 &&& (3 : Int32))), .val (.int (((p4.toUInt32 >>> ((2 : Int32) &&& 31).toUInt32).toInt32) &&& (3 : Int32))), .val (.int ((p4.toUInt32 >>> ((4 : Int32) &&& 31).toUInt32).toInt32)), .val (.int ((p4.toUInt32 >>> ((10 : Int32) &&& 31).toUInt32).toInt32)), .val (.ref r_o_123), .val (.ref r_o_139), .val (.ref b154), .val (.ref b183), .val (.int (p5 &&& (3 : Int32))), .val (.int (1 : Int32))] [(.ref b154), (.ref b183)])) _
              refine st323.trans ?_
              show Steps p.tables e below (T323.setTop (mkF m 372 #[.val (.int p0), .val (.int p1), .val (.int p2), .val (.int p3), .val (.int p4), .val (.int p5), .val (.ref b3), .val (.ref b52), .val (.int (p4 &&& (3 : Int32))), .val (.int (((p4.toUInt32 >>> ((2 : Int32) &&& 31).toUInt32).toInt32) &&& (3 : Int32))), .val (.int ((p4.toUInt32 >>> ((4 : Int32) &&& 31).toUInt32).toInt32)), .val (.int ((p4.toUInt32 >>> ((10 : Int32) &&& 31).toUInt32).toInt32)), .val (.ref r_o_123), .val (.ref r_o_139), .val (.ref b154), .val (.ref b183), .val (.int (p5 &&& (3 : Int32))), .val (.int (1 : Int32))] [(.int (own_eq_f (((p4.toUInt32 >>> ((2 : Int32) &&& 31).toUInt32).toInt32) &&& (3 : Int32)) (p4 &&& (3 : Int32)) p1 p0 p3 p2 (((p4.toUInt32 >>> ((10 : Int32) &&& 31).toUInt32).toInt32) &&& (3 : Int32)) (((((p4.toUInt32 >>> ((10 : Int32) &&& 31).toUInt32).toInt32).toUInt32 >>> ((2 : Int32) &&& 31).toUInt32).toInt32) &&& (3 : Int32)) (((((p4.toUInt32 >>> ((10 : Int32) &&& 31).toUInt32).toInt32).toUInt32 >>> ((4 : Int32) &&& 31).toUInt32).toInt32) &&& (3 : Int32)) p0 p1 p2 p3 (((p4.toUInt32 >>> ((4 : Int32) &&& 31).toUInt32).toInt32) &&& (3 : Int32)) (((((p4.toUInt32 >>> ((4 : Int32) &&& 31).toUInt32).toInt32).toUInt32 >>> ((2 : Int32) &&& 31).toUInt32).toInt32) &&& (3 : Int32)) (((((p4.toUInt32 >>> ((4 : Int32) &&& 31).toUInt32).toInt32).toUInt32 >>> ((4 : Int32) &&& 31).toUInt32).toInt32) &&& (3 : Int32))))])) _
              refine XS.iload X323.here hx rfl (hb hby at_372) rfl ?_
              show Steps p.tables e below (T323.setTop (mkF m 374 #[.val (.int p0), .val (.int p1), .val (.int p2), .val (.int p3), .val (.int p4), .val (.int p5), .val (.ref b3), .val (.ref b52), .val (.int (p4 &&& (3 : Int32))), .val (.int (((p4.toUInt32 >>> ((2 : Int32) &&& 31).toUInt32).toInt32) &&& (3 : Int32))), .val (.int ((p4.toUInt32 >>> ((4 : Int32) &&& 31).toUInt32).toInt32)), .val (.int ((p4.toUInt32 >>> ((10 : Int32) &&& 31).toUInt32).toInt32)), .val (.ref r_o_123), .val (.ref r_o_139), .val (.ref b154), .val (.ref b183), .val (.int (p5 &&& (3 : Int32))), .val (.int (1 : Int32))] [(.int (1 : Int32)), (.int (own_eq_f (((p4.toUInt32 >>> ((2 : Int32) &&& 31).toUInt32).toInt32) &&& (3 : Int32)) (p4 &&& (3 : Int32)) p1 p0 p3 p2 (((p4.toUInt32 >>> ((10 : Int32) &&& 31).toUInt32).toInt32) &&& (3 : Int32)) (((((p4.toUInt32 >>> ((10 : Int32) &&& 31).toUInt32).toInt32).toUInt32 >>> ((2 : Int32) &&& 31).toUInt32).toInt32) &&& (3 : Int32)) (((((p4.toUInt32 >>> ((10 : Int32) &&& 31).toUInt32).toInt32).toUInt32 >>> ((4 : Int32) &&& 31).toUInt32).toInt32) &&& (3 : Int32)) p0 p1 p2 p3 (((p4.toUInt32 >>> ((4 : Int32) &&& 31).toUInt32).toInt32) &&& (3 : Int32)) (((((p4.toUInt32 >>> ((4 : Int32) &&& 31).toUInt32).toInt32).toUInt32 >>> ((2 : Int32) &&& 31).toUInt32).toInt32) &&& (3 : Int32)) (((((p4.toUInt32 >>> ((4 : Int32) &&& 31).toUInt32).toInt32).toUInt32 >>> ((4 : Int32) &&& 31).toUInt32).toInt32) &&& (3 : Int32))))])) _
              refine XS.icmpNo X323.here hx rfl (hb hby at_374) rfl (teq (((own_eqE _ _ _ _ _ _ _ _ _ _ _ _ _ _ _ _).trans ((own_sym _ _ _ _ _ _ _ _).trans (own_E1 hc206_285 hc224_295))) : (own_eq_f (((p4.toUInt32 >>> ((2 : Int32) &&& 31).toUInt32).toInt32) &&& (3 : Int32)) (p4 &&& (3 : Int32)) p1 p0 p3 p2 (((p4.toUInt32 >>> ((10 : Int32) &&& 31).toUInt32).toInt32) &&& (3 : Int32)) (((((p4.toUInt32 >>> ((10 : Int32) &&& 31).toUInt32).toInt32).toUInt32 >>> ((2 : Int32) &&& 31).toUInt32).toInt32) &&& (3 : Int32)) (((((p4.toUInt32 >>> ((10 : Int32) &&& 31).toUInt32).toInt32).toUInt32 >>> ((4 : Int32) &&& 31).toUInt32).toInt32) &&& (3 : Int32)) p0 p1 p2 p3 (((p4.toUInt32 >>> ((4 : Int32) &&& 31).toUInt32).toInt32) &&& (3 : Int32)) (((((p4.toUInt32 >>> ((4 : Int32) &&& 31).toUInt32).toInt32).toUInt32 >>> ((2 : Int32) &&& 31).toUInt32).toInt32) &&& (3 : Int32)) (((((p4.toUInt32 >>> ((4 : Int32) &&& 31).toUInt32).toInt32).toUInt32 >>> ((4 : Int32) &&& 31).toUInt32).toInt32) &&& (3 : Int32))) = (1 : Int32))).2 ?_
              show Steps p.tables e below (T323.setTop (mkF m 377 #[.val (.int p0), .val (.int p1), .val (.int p2), .val (.int p3), .val (.int p4), .val (.int p5), .val (.ref b3), .val (.ref b52), .val (.int (p4 &&& (3 : Int32))), .val (.int (((p4.toUInt32 >>> ((2 : Int32) &&& 31).toUInt32).toInt32) &&& (3 : Int32))), .val (.int ((p4.toUInt32 >>> ((4 : Int32) &&& 31).toUInt32).toInt32)), .val (.int ((p4.toUInt32 >>> ((10 : Int32) &&& 31).toUInt32).toInt32)), .val (.ref r_o_123), .val (.ref r_o_139), .val (.ref b154), .val (.ref b183), .val (.int (p5 &&& (3 : Int32))), .val (.int (1 : Int32))] [])) _
              refine XS.iconst X323.here hx rfl (hb hby at_377) ?_
              show Steps p.tables e below (T323.setTop (mkF m 378 #[.val (.int p0), .val (.int p1), .val (.int p2), .val (.int p3), .val (.int p4), .val (.int p5), .val (.ref b3), .val (.ref b52), .val (.int (p4 &&& (3 : Int32))), .val (.int (((p4.toUInt32 >>> ((2 : Int32) &&& 31).toUInt32).toInt32) &&& (3 : Int32))), .val (.int ((p4.toUInt32 >>> ((4 : Int32) &&& 31).toUInt32).toInt32)), .val (.int ((p4.toUInt32 >>> ((10 : Int32) &&& 31).toUInt32).toInt32)), .val (.ref r_o_123), .val (.ref r_o_139), .val (.ref b154), .val (.ref b183), .val (.int (p5 &&& (3 : Int32))), .val (.int (1 : Int32))] [(.int (1 : Int32))])) _
              refine XS.goto X323.here hx rfl (pc0 := 378) (pc' := 382) rfl (hb hby at_378) (by decide) (by decide) ?_
              show Steps p.tables e below (T323.setTop (mkF m 382 #[.val (.int p0), .val (.int p1), .val (.int p2), .val (.int p3), .val (.int p4), .val (.int p5), .val (.ref b3), .val (.ref b52), .val (.int (p4 &&& (3 : Int32))), .val (.int (((p4.toUInt32 >>> ((2 : Int32) &&& 31).toUInt32).toInt32) &&& (3 : Int32))), .val (.int ((p4.toUInt32 >>> ((4 : Int32) &&& 31).toUInt32).toInt32)), .val (.int ((p4.toUInt32 >>> ((10 : Int32) &&& 31).toUInt32).toInt32)), .val (.ref r_o_123), .val (.ref r_o_139), .val (.ref b154), .val (.ref b183), .val (.int (p5 &&& (3 : Int32))), .val (.int (1 : Int32))] [(.int (1 : Int32))])) _
              exact retN X323 hx (t := .boolean) Bd.returns (by simp) (hb hby at_382) hr
            · show Qown_law Z p0 p1 p2 p3 p4 p5 w_c k_c vs_c h0 n0 _ T323.heap _
              rw [eh323]
              exact ⟨rfl, N324⟩
          · obtain ⟨_, _, ⟨T338, L338, k338, n338⟩, -, X338, ⟨Lc338, hQ338, l338, y338, z338⟩, st338⟩ := Jvm.LawKit.callS X206 hx (y := (⟨"com/example/fovea/fovea/KeyEqualsPinLaw", "v1", "(IIIII)I"⟩ : MethodName)) hown (mvT hZ (hw _ (List.mem_of_getElem? (i := 42) rfl))) (mvT hZ (hw _ (List.mem_of_getElem? (i := 43) rfl))) (mvT hZ (hw _ (List.mem_of_getElem? (i := 3) rfl))) (mvT hZ (hw _ (List.mem_of_getElem? (i := 44) rfl))) (by decide) (backOf (W := 0) (own_v1 l Z a0 hw [] p0 p1 p2 p3 (((p4.toUInt32 >>> ((4 : Int32) &&& 31).toUInt32).toInt32) &&& (3 : Int32)) T206.heap n0 Zs211 ) hZ (hw _ (List.mem_of_getElem? (i := 44) rfl)) (hw _ (List.mem_of_getElem? (i := 3) rfl)) (by decide) (by decide)) (g := (mkF m 235 #[.val (.int p0), .val (.int p1), .val (.int p2), .val (.int p3), .val (.int p4), .val (.int p5), .val (.ref b3), .val (.ref b52), .val (.int (p4 &&& (3 : Int32))), .val (.int (((p4.toUInt32 >>> ((2 : Int32) &&& 31).toUInt32).toInt32) &&& (3 : Int32))), .val (.int ((p4.toUInt32 >>> ((4 : Int32) &&& 31).toUInt32).toInt32)), .val (.int ((p4.toUInt32 >>> ((10 : Int32) &&& 31).toUInt32).toInt32)), .val (.ref r_o_123), .val (.ref r_o_139), .val (.ref b154), .val (.ref b183), .val (.int (p5 &&& (3 : Int32))), .val (.int (1 : Int32))] [(.int (((p4.toUInt32 >>> ((4 : Int32) &&& 31).toUInt32).toInt32) &&& (3 : Int32))), (.int p3), (.int p2), (.int p1), (.int p0)])) rfl (by rw [hml]; rfl) (argsL := [(.int p0), (.int p1), (.int p2), (.int p3), (.int (((p4.toUInt32 >>> ((4 : Int32) &&& 31).toUInt32).toInt32) &&& (3 : Int32)))]) (rest := []) (lenOf own_pd6 rfl) rfl (by show 2 * 0 + _ ≤ _; exact Nat.le_of_eq rfl) (hb hby at_235) (fun _ _ => ⟨rfl, rfl, (by decide : 6 + 0 ≤ _), (by decide : 24 + 0 ≤ _)⟩)
            dsimp only [Pt.U, Pt.locs, Pt.cells, Pt.slots] at X338 l338 y338 z338 st338 hQ338
            rw [l338, y338, z338] at X338
            obtain ⟨rfl, Nq338, eh338⟩ := hQ338
            have N339 := Fr.app N209 Nq338
            obtain ⟨_, _, ⟨T348, L348, k348, n348⟩, -, X348, ⟨Lc348, hQ348, l348, y348, z348⟩, st348⟩ := Jvm.LawKit.callS X338 hx (y := (⟨"com/example/fovea/fovea/KeyEqualsPinLaw", "v2", "(IIIII)I"⟩ : MethodName)) hown (mvT hZ (hw _ (List.mem_of_getElem? (i := 45) rfl))) (mvT hZ (hw _ (List.mem_of_getElem? (i := 46) rfl))) (mvT hZ (hw _ (List.mem_of_getElem? (i := 3) rfl))) (mvT hZ (hw _ (List.mem_of_getElem? (i := 47) rfl))) (by decide) (backOf (W := 1) (own_v2 l Z a0 hw [] p0 p1 p2 p3 (((p4.toUInt32 >>> ((10 : Int32) &&& 31).toUInt32).toInt32) &&& (3 : Int32)) T206.heap n0 Zs211 ) hZ (hw _ (List.mem_of_getElem? (i := 47) rfl)) (hw _ (List.mem_of_getElem? (i := 3) rfl)) (by decide) (by decide)) (g := (mkF m 246 #[.val (.int p0), .val (.int p1), .val (.int p2), .val (.int p3), .val (.int p4), .val (.int p5), .val (.ref b3), .val (.ref b52), .val (.int (p4 &&& (3 : Int32))), .val (.int (((p4.toUInt32 >>> ((2 : Int32) &&& 31).toUInt32).toInt32) &&& (3 : Int32))), .val (.int ((p4.toUInt32 >>> ((4 : Int32) &&& 31).toUInt32).toInt32)), .val (.int ((p4.toUInt32 >>> ((10 : Int32) &&& 31).toUInt32).toInt32)), .val (.ref r_o_123), .val (.ref r_o_139), .val (.ref b154), .val (.ref b183), .val (.int (p5 &&& (3 : Int32))), .val (.int (1 : Int32))] [(.int (((p4.toUInt32 >>> ((10 : Int32) &&& 31).toUInt32).toInt32) &&& (3 : Int32))), (.int p3), (.int p2), (.int p1), (.int p0), (.int (own_v1_f p0 p1 p2 p3 (((p4.toUInt32 >>> ((4 : Int32) &&& 31).toUInt32).toInt32) &&& (3 : Int32))))])) rfl (by rw [hml]; rfl) (argsL := [(.int p0), (.int p1), (.int p2), (.int p3), (.int (((p4.toUInt32 >>> ((10 : Int32) &&& 31).toUInt32).toInt32) &&& (3 : Int32)))]) (rest := [(.int (own_v1_f p0 p1 p2 p3 (((p4.toUInt32 >>> ((4 : Int32) &&& 31).toUInt32).toInt32) &&& (3 : Int32))))]) (lenOf own_pd6 rfl) rfl (by show 2 * 0 + _ ≤ _; exact Nat.le_of_eq rfl) (hb hby at_246) (fun _ _ => ⟨rfl, eh338, (by decide : 6 + 0 ≤ _), (by decide : 24 + 0 ≤ _)⟩)
            dsimp only [Pt.U, Pt.locs, Pt.cells, Pt.slots] at X348 l348 y348 z348 st348 hQ348
            rw [l348, y348, z348] at X348
            obtain ⟨rfl, Nq348, eh348⟩ := hQ348
            have N349 := Fr.app N339 Nq348
            have pre351 : ∀ t, Steps p.tables e below (T348.setTop (mkF m 249 #[.val (.int p0), .val (.int p1), .val (.int p2), .val (.int p3), .val (.int p4), .val (.int p5), .val (.ref b3), .val (.ref b52), .val (.int (p4 &&& (3 : Int32))), .val (.int (((p4.toUInt32 >>> ((2 : Int32) &&& 31).toUInt32).toInt32) &&& (3 : Int32))), .val (.int ((p4.toUInt32 >>> ((4 : Int32) &&& 31).toUInt32).toInt32)), .val (.int ((p4.toUInt32 >>> ((10 : Int32) &&& 31).toUInt32).toInt32)), .val (.ref r_o_123), .val (.ref r_o_139), .val (.ref b154), .val (.ref b183), .val (.int (p5 &&& (3 : Int32))), .val (.int (1 : Int32))] [(.int (own_v2_f p0 p1 p2 p3 (((p4.toUInt32 >>> ((10 : Int32) &&& 31).toUInt32).toInt32) &&& (3 : Int32)))), (.int (own_v1_f p0 p1 p2 p3 (((p4.toUInt32 >>> ((4 : Int32) &&& 31).toUInt32).toInt32) &&& (3 : Int32))))])) t → Steps p.tables e below (s₁.setTop (entryFrame m #[(.int p0), (.int p1), (.int p2), (.int p3), (.int p4), (.int p5)] maxLocals)) t := by
              intro t kt
              refine pre294 _ ?_
              show Steps p.tables e below (T206.setTop (mkF m 224 #[.val (.int p0), .val (.int p1), .val (.int p2), .val (.int p3), .val (.int p4), .val (.int p5), .val (.ref b3), .val (.ref b52), .val (.int (p4 &&& (3 : Int32))), .val (.int (((p4.toUInt32 >>> ((2 : Int32) &&& 31).toUInt32).toInt32) &&& (3 : Int32))), .val (.int ((p4.toUInt32 >>> ((4 : Int32) &&& 31).toUInt32).toInt32)), .val (.int ((p4.toUInt32 >>> ((10 : Int32) &&& 31).toUInt32).toInt32)), .val (.ref r_o_123), .val (.ref r_o_139), .val (.ref b154), .val (.ref b183), .val (.int (p5 &&& (3 : Int32))), .val (.int (1 : Int32))] [(.int (1 : Int32)), (.int (p4 &&& (3 : Int32)))])) _
              refine XS.icmpNo X206.here hx rfl (hb hby at_224) rfl (flt hc224_295).1 ?_
              show Steps p.tables e below (T206.setTop (mkF m 227 #[.val (.int p0), .val (.int p1), .val (.int p2), .val (.int p3), .val (.int p4), .val (.int p5), .val (.ref b3), .val (.ref b52), .val (.int (p4 &&& (3 : Int32))), .val (.int (((p4.toUInt32 >>> ((2 : Int32) &&& 31).toUInt32).toInt32) &&& (3 : Int32))), .val (.int ((p4.toUInt32 >>> ((4 : Int32) &&& 31).toUInt32).toInt32)), .val (.int ((p4.toUInt32 >>> ((10 : Int32) &&& 31).toUInt32).toInt32)), .val (.ref r_o_123), .val (.ref r_o_139), .val (.ref b154), .val (.ref b183), .val (.int (p5 &&& (3 : Int32))), .val (.int (1 : Int32))] [])) _
              refine XS.iloadN X206.here hx rfl (hb hby at_227) rfl ?_
              show Steps p.tables e below (T206.setTop (mkF m 228 #[.val (.int p0), .val (.int p1), .val (.int p2), .val (.int p3), .val (.int p4), .val (.int p5), .val (.ref b3), .val (.ref b52), .val (.int (p4 &&& (3 : Int32))), .val (.int (((p4.toUInt32 >>> ((2 : Int32) &&& 31).toUInt32).toInt32) &&& (3 : Int32))), .val (.int ((p4.toUInt32 >>> ((4 : Int32) &&& 31).toUInt32).toInt32)), .val (.int ((p4.toUInt32 >>> ((10 : Int32) &&& 31).toUInt32).toInt32)), .val (.ref r_o_123), .val (.ref r_o_139), .val (.ref b154), .val (.ref b183), .val (.int (p5 &&& (3 : Int32))), .val (.int (1 : Int32))] [(.int p0)])) _
              refine XS.iloadN X206.here hx rfl (hb hby at_228) rfl ?_
              show Steps p.tables e below (T206.setTop (mkF m 229 #[.val (.int p0), .val (.int p1), .val (.int p2), .val (.int p3), .val (.int p4), .val (.int p5), .val (.ref b3), .val (.ref b52), .val (.int (p4 &&& (3 : Int32))), .val (.int (((p4.toUInt32 >>> ((2 : Int32) &&& 31).toUInt32).toInt32) &&& (3 : Int32))), .val (.int ((p4.toUInt32 >>> ((4 : Int32) &&& 31).toUInt32).toInt32)), .val (.int ((p4.toUInt32 >>> ((10 : Int32) &&& 31).toUInt32).toInt32)), .val (.ref r_o_123), .val (.ref r_o_139), .val (.ref b154), .val (.ref b183), .val (.int (p5 &&& (3 : Int32))), .val (.int (1 : Int32))] [(.int p1), (.int p0)])) _
              refine XS.iloadN X206.here hx rfl (hb hby at_229) rfl ?_
              show Steps p.tables e below (T206.setTop (mkF m 230 #[.val (.int p0), .val (.int p1), .val (.int p2), .val (.int p3), .val (.int p4), .val (.int p5), .val (.ref b3), .val (.ref b52), .val (.int (p4 &&& (3 : Int32))), .val (.int (((p4.toUInt32 >>> ((2 : Int32) &&& 31).toUInt32).toInt32) &&& (3 : Int32))), .val (.int ((p4.toUInt32 >>> ((4 : Int32) &&& 31).toUInt32).toInt32)), .val (.int ((p4.toUInt32 >>> ((10 : Int32) &&& 31).toUInt32).toInt32)), .val (.ref r_o_123), .val (.ref r_o_139), .val (.ref b154), .val (.ref b183), .val (.int (p5 &&& (3 : Int32))), .val (.int (1 : Int32))] [(.int p2), (.int p1), (.int p0)])) _
              refine XS.iloadN X206.here hx rfl (hb hby at_230) rfl ?_
              show Steps p.tables e below (T206.setTop (mkF m 231 #[.val (.int p0), .val (.int p1), .val (.int p2), .val (.int p3), .val (.int p4), .val (.int p5), .val (.ref b3), .val (.ref b52), .val (.int (p4 &&& (3 : Int32))), .val (.int (((p4.toUInt32 >>> ((2 : Int32) &&& 31).toUInt32).toInt32) &&& (3 : Int32))), .val (.int ((p4.toUInt32 >>> ((4 : Int32) &&& 31).toUInt32).toInt32)), .val (.int ((p4.toUInt32 >>> ((10 : Int32) &&& 31).toUInt32).toInt32)), .val (.ref r_o_123), .val (.ref r_o_139), .val (.ref b154), .val (.ref b183), .val (.int (p5 &&& (3 : Int32))), .val (.int (1 : Int32))] [(.int p3), (.int p2), (.int p1), (.int p0)])) _
              refine XS.iload X206.here hx rfl (hb hby at_231) rfl ?_
              show Steps p.tables e below (T206.setTop (mkF m 233 #[.val (.int p0), .val (.int p1), .val (.int p2), .val (.int p3), .val (.int p4), .val (.int p5), .val (.ref b3), .val (.ref b52), .val (.int (p4 &&& (3 : Int32))), .val (.int (((p4.toUInt32 >>> ((2 : Int32) &&& 31).toUInt32).toInt32) &&& (3 : Int32))), .val (.int ((p4.toUInt32 >>> ((4 : Int32) &&& 31).toUInt32).toInt32)), .val (.int ((p4.toUInt32 >>> ((10 : Int32) &&& 31).toUInt32).toInt32)), .val (.ref r_o_123), .val (.ref r_o_139), .val (.ref b154), .val (.ref b183), .val (.int (p5 &&& (3 : Int32))), .val (.int (1 : Int32))] [(.int ((p4.toUInt32 >>> ((4 : Int32) &&& 31).toUInt32).toInt32)), (.int p3), (.int p2), (.int p1), (.int p0)])) _
              refine XS.iconst X206.here hx rfl (hb hby at_233) ?_
              show Steps p.tables e below (T206.setTop (mkF m 234 #[.val (.int p0), .val (.int p1), .val (.int p2), .val (.int p3), .val (.int p4), .val (.int p5), .val (.ref b3), .val (.ref b52), .val (.int (p4 &&& (3 : Int32))), .val (.int (((p4.toUInt32 >>> ((2 : Int32) &&& 31).toUInt32).toInt32) &&& (3 : Int32))), .val (.int ((p4.toUInt32 >>> ((4 : Int32) &&& 31).toUInt32).toInt32)), .val (.int ((p4.toUInt32 >>> ((10 : Int32) &&& 31).toUInt32).toInt32)), .val (.ref r_o_123), .val (.ref r_o_139), .val (.ref b154), .val (.ref b183), .val (.int (p5 &&& (3 : Int32))), .val (.int (1 : Int32))] [(.int (3 : Int32)), (.int ((p4.toUInt32 >>> ((4 : Int32) &&& 31).toUInt32).toInt32)), (.int p3), (.int p2), (.int p1), (.int p0)])) _
              refine XS.iand X206.here hx rfl (hb hby at_234) rfl ?_
              show Steps p.tables e below (T206.setTop (mkF m 235 #[.val (.int p0), .val (.int p1), .val (.int p2), .val (.int p3), .val (.int p4), .val (.int p5), .val (.ref b3), .val (.ref b52), .val (.int (p4 &&& (3 : Int32))), .val (.int (((p4.toUInt32 >>> ((2 : Int32) &&& 31).toUInt32).toInt32) &&& (3 : Int32))), .val (.int ((p4.toUInt32 >>> ((4 : Int32) &&& 31).toUInt32).toInt32)), .val (.int ((p4.toUInt32 >>> ((10 : Int32) &&& 31).toUInt32).toInt32)), .val (.ref r_o_123), .val (.ref r_o_139), .val (.ref b154), .val (.ref b183), .val (.int (p5 &&& (3 : Int32))), .val (.int (1 : Int32))] [(.int (((p4.toUInt32 >>> ((4 : Int32) &&& 31).toUInt32).toInt32) &&& (3 : Int32))), (.int p3), (.int p2), (.int p1), (.int p0)])) _
              refine st338 _ ?_
              show Steps p.tables e below (T338.setTop (mkF m 238 #[.val (.int p0), .val (.int p1), .val (.int p2), .val (.int p3), .val (.int p4), .val (.int p5), .val (.ref b3), .val (.ref b52), .val (.int (p4 &&& (3 : Int32))), .val (.int (((p4.toUInt32 >>> ((2 : Int32) &&& 31).toUInt32).toInt32) &&& (3 : Int32))), .val (.int ((p4.toUInt32 >>> ((4 : Int32) &&& 31).toUInt32).toInt32)), .val (.int ((p4.toUInt32 >>> ((10 : Int32) &&& 31).toUInt32).toInt32)), .val (.ref r_o_123), .val (.ref r_o_139), .val (.ref b154), .val (.ref b183), .val (.int (p5 &&& (3 : Int32))), .val (.int (1 : Int32))] [(.int (own_v1_f p0 p1 p2 p3 (((p4.toUInt32 >>> ((4 : Int32) &&& 31).toUInt32).toInt32) &&& (3 : Int32))))])) _
              refine XS.iloadN X338.here hx rfl (hb hby at_238) rfl ?_
              show Steps p.tables e below (T338.setTop (mkF m 239 #[.val (.int p0), .val (.int p1), .val (.int p2), .val (.int p3), .val (.int p4), .val (.int p5), .val (.ref b3), .val (.ref b52), .val (.int (p4 &&& (3 : Int32))), .val (.int (((p4.toUInt32 >>> ((2 : Int32) &&& 31).toUInt32).toInt32) &&& (3 : Int32))), .val (.int ((p4.toUInt32 >>> ((4 : Int32) &&& 31).toUInt32).toInt32)), .val (.int ((p4.toUInt32 >>> ((10 : Int32) &&& 31).toUInt32).toInt32)), .val (.ref r_o_123), .val (.ref r_o_139), .val (.ref b154), .val (.ref b183), .val (.int (p5 &&& (3 : Int32))), .val (.int (1 : Int32))] [(.int p0), (.int (own_v1_f p0 p1 p2 p3 (((p4.toUInt32 >>> ((4 : Int32) &&& 31).toUInt32).toInt32) &&& (3 : Int32))))])) _
              refine XS.iloadN X338.here hx rfl (hb hby at_239) rfl ?_
              show Steps p.tables e below (T338.setTop (mkF m 240 #[.val (.int p0), .val (.int p1), .val (.int p2), .val (.int p3), .val (.int p4), .val (.int p5), .val (.ref b3), .val (.ref b52), .val (.int (p4 &&& (3 : Int32))), .val (.int (((p4.toUInt32 >>> ((2 : Int32) &&& 31).toUInt32).toInt32) &&& (3 : Int32))), .val (.int ((p4.toUInt32 >>> ((4 : Int32) &&& 31).toUInt32).toInt32)), .val (.int ((p4.toUInt32 >>> ((10 : Int32) &&& 31).toUInt32).toInt32)), .val (.ref r_o_123), .val (.ref r_o_139), .val (.ref b154), .val (.ref b183), .val (.int (p5 &&& (3 : Int32))), .val (.int (1 : Int32))] [(.int p1), (.int p0), (.int (own_v1_f p0 p1 p2 p3 (((p4.toUInt32 >>> ((4 : Int32) &&& 31).toUInt32).toInt32) &&& (3 : Int32))))])) _
              refine XS.iloadN X338.here hx rfl (hb hby at_240) rfl ?_
              show Steps p.tables e below (T338.setTop (mkF m 241 #[.val (.int p0), .val (.int p1), .val (.int p2), .val (.int p3), .val (.int p4), .val (.int p5), .val (.ref b3), .val (.ref b52), .val (.int (p4 &&& (3 : Int32))), .val (.int (((p4.toUInt32 >>> ((2 : Int32) &&& 31).toUInt32).toInt32) &&& (3 : Int32))), .val (.int ((p4.toUInt32 >>> ((4 : Int32) &&& 31).toUInt32).toInt32)), .val (.int ((p4.toUInt32 >>> ((10 : Int32) &&& 31).toUInt32).toInt32)), .val (.ref r_o_123), .val (.ref r_o_139), .val (.ref b154), .val (.ref b183), .val (.int (p5 &&& (3 : Int32))), .val (.int (1 : Int32))] [(.int p2), (.int p1), (.int p0), (.int (own_v1_f p0 p1 p2 p3 (((p4.toUInt32 >>> ((4 : Int32) &&& 31).toUInt32).toInt32) &&& (3 : Int32))))])) _
              refine XS.iloadN X338.here hx rfl (hb hby at_241) rfl ?_
              show Steps p.tables e below (T338.setTop (mkF m 242 #[.val (.int p0), .val (.int p1), .val (.int p2), .val (.int p3), .val (.int p4), .val (.int p5), .val (.ref b3), .val (.ref b52), .val (.int (p4 &&& (3 : Int32))), .val (.int (((p4.toUInt32 >>> ((2 : Int32) &&& 31).toUInt32).toInt32) &&& (3 : Int32))), .val (.int ((p4.toUInt32 >>> ((4 : Int32) &&& 31).toUInt32).toInt32)), .val (.int ((p4.toUInt32 >>> ((10 : Int32) &&& 31).toUInt32).toInt32)), .val (.ref r_o_123), .val (.ref r_o_139), .val (.ref b154), .val (.ref b183), .val (.int (p5 &&& (3 : Int32))), .val (.int (1 : Int32))] [(.int p3), (.int p2), (.int p1), (.int p0), (.int (own_v1_f p0 p1 p2 p3 (((p4.toUInt32 >>> ((4 : Int32) &&& 31).toUInt32).toInt32) &&& (3 : Int32))))])) _
              refine XS.iload X338.here hx rfl (hb hby at_242) rfl ?_
              show Steps p.tables e below (T338.setTop (mkF m 244 #[.val (.int p0), .val (.int p1), .val (.int p2), .val (.int p3), .val (.int p4), .val (.int p5), .val (.ref b3), .val (.ref b52), .val (.int (p4 &&& (3 : Int32))), .val (.int (((p4.toUInt32 >>> ((2 : Int32) &&& 31).toUInt32).toInt32) &&& (3 : Int32))), .val (.int ((p4.toUInt32 >>> ((4 : Int32) &&& 31).toUInt32).toInt32)), .val (.int ((p4.toUInt32 >>> ((10 : Int32) &&& 31).toUInt32).toInt32)), .val (.ref r_o_123), .val (.ref r_o_139), .val (.ref b154), .val (.ref b183), .val (.int (p5 &&& (3 : Int32))), .val (.int (1 : Int32))] [(.int ((p4.toUInt32 >>> ((10 : Int32) &&& 31).toUInt32).toInt32)), (.int p3), (.int p2), (.int p1), (.int p0), (.int (own_v1_f p0 p1 p2 p3 (((p4.toUInt32 >>> ((4 : Int32) &&& 31).toUInt32).toInt32) &&& (3 : Int32))))])) _
              refine XS.iconst X338.here hx rfl (hb hby at_244) ?_
              show Steps p.tables e below (T338.setTop (mkF m 245 #[.val (.int p0), .val (.int p1), .val (.int p2), .val (.int p3), .val (.int p4), .val (.int p5), .val (.ref b3), .val (.ref b52), .val (.int (p4 &&& (3 : Int32))), .val (.int (((p4.toUInt32 >>> ((2 : Int32) &&& 31).toUInt32).toInt32) &&& (3 : Int32))), .val (.int ((p4.toUInt32 >>> ((4 : Int32) &&& 31).toUInt32).toInt32)), .val (.int ((p4.toUInt32 >>> ((10 : Int32) &&& 31).toUInt32).toInt32)), .val (.ref r_o_123), .val (.ref r_o_139), .val (.ref b154), .val (.ref b183), .val (.int (p5 &&& (3 : Int32))), .val (.int (1 : Int32))] [(.int (3 : Int32)), (.int ((p4.toUInt32 >>> ((10 : Int32) &&& 31).toUInt32).toInt32)), (.int p3), (.int p2), (.int p1), (.int p0), (.int (own_v1_f p0 p1 p2 p3 (((p4.toUInt32 >>> ((4 : Int32) &&& 31).toUInt32).toInt32) &&& (3 : Int32))))])) _
              refine XS.iand X338.here hx rfl (hb hby at_245) rfl ?_
              show Steps p.tables e below (T338.setTop (mkF m 246 #[.val (.int p0), .val (.int p1), .val (.int p2), .val (.int p3), .val (.int p4), .val (.int p5), .val (.ref b3), .val (.ref b52), .val (.int (p4 &&& (3 : Int32))), .val (.int (((p4.toUInt32 >>> ((2 : Int32) &&& 31).toUInt32).toInt32) &&& (3 : Int32))), .val (.int ((p4.toUInt32 >>> ((4 : Int32) &&& 31).toUInt32).toInt32)), .val (.int ((p4.toUInt32 >>> ((10 : Int32) &&& 31).toUInt32).toInt32)), .val (.ref r_o_123), .val (.ref r_o_139), .val (.ref b154), .val (.ref b183), .val (.int (p5 &&& (3 : Int32))), .val (.int (1 : Int32))] [(.int (((p4.toUInt32 >>> ((10 : Int32) &&& 31).toUInt32).toInt32) &&& (3 : Int32))), (.int p3), (.int p2), (.int p1), (.int p0), (.int (own_v1_f p0 p1 p2 p3 (((p4.toUInt32 >>> ((4 : Int32) &&& 31).toUInt32).toInt32) &&& (3 : Int32))))])) _
              refine st348 _ ?_
              exact kt
            by_cases hc249_352 : (own_v1_f p0 p1 p2 p3 (((p4.toUInt32 >>> ((4 : Int32) &&& 31).toUInt32).toInt32) &&& (3 : Int32))) = (own_v2_f p0 p1 p2 p3 (((p4.toUInt32 >>> ((10 : Int32) &&& 31).toUInt32).toInt32) &&& (3 : Int32)))
            · have pre361 : ∀ t, Steps p.tables e below (T348.setTop (mkF m 267 #[.val (.int p0), .val (.int p1), .val (.int p2), .val (.int p3), .val (.int p4), .val (.int p5), .val (.ref b3), .val (.ref b52), .val (.int (p4 &&& (3 : Int32))), .val (.int (((p4.toUInt32 >>> ((2 : Int32) &&& 31).toUInt32).toInt32) &&& (3 : Int32))), .val (.int ((p4.toUInt32 >>> ((4 : Int32) &&& 31).toUInt32).toInt32)), .val (.int ((p4.toUInt32 >>> ((10 : Int32) &&& 31).toUInt32).toInt32)), .val (.ref r_o_123), .val (.ref r_o_139), .val (.ref b154), .val (.ref b183), .val (.int (p5 &&& (3 : Int32))), .val (.int (1 : Int32))] [(.int (2 : Int32)), (.int (p4 &&& (3 : Int32)))])) t → Steps p.tables e below (s₁.setTop (entryFrame m #[(.int p0), (.int p1), (.int p2), (.int p3), (.int p4), (.int p5)] maxLocals)) t := by
                intro t kt
                refine pre351 _ ?_
                show Steps p.tables e below (T348.setTop (mkF m 249 #[.val (.int p0), .val (.int p1), .val (.int p2), .val (.int p3), .val (.int p4), .val (.int p5), .val (.ref b3), .val (.ref b52), .val (.int (p4 &&& (3 : Int32))), .val (.int (((p4.toUInt32 >>> ((2 : Int32) &&& 31).toUInt32).toInt32) &&& (3 : Int32))), .val (.int ((p4.toUInt32 >>> ((4 : Int32) &&& 31).toUInt32).toInt32)), .val (.int ((p4.toUInt32 >>> ((10 : Int32) &&& 31).toUInt32).toInt32)), .val (.ref r_o_123), .val (.ref r_o_139), .val (.ref b154), .val (.ref b183), .val (.int (p5 &&& (3 : Int32))), .val (.int (1 : Int32))] [(.int (own_v2_f p0 p1 p2 p3 (((p4.toUInt32 >>> ((10 : Int32) &&& 31).toUInt32).toInt32) &&& (3 : Int32)))), (.int (own_v1_f p0 p1 p2 p3 (((p4.toUInt32 >>> ((4 : Int32) &&& 31).toUInt32).toInt32) &&& (3 : Int32))))])) _
                refine XS.icmpNo X348.here hx rfl (hb hby at_249) rfl (teq hc249_352).2 ?_
                show Steps p.tables e below (T348.setTop (mkF m 252 #[.val (.int p0), .val (.int p1), .val (.int p2), .val (.int p3), .val (.int p4), .val (.int p5), .val (.ref b3), .val (.ref b52), .val (.int (p4 &&& (3 : Int32))), .val (.int (((p4.toUInt32 >>> ((2 : Int32) &&& 31).toUInt32).toInt32) &&& (3 : Int32))), .val (.int ((p4.toUInt32 >>> ((4 : Int32) &&& 31).toUInt32).toInt32)), .val (.int ((p4.toUInt32 >>> ((10 : Int32) &&& 31).toUInt32).toInt32)), .val (.ref r_o_123), .val (.ref r_o_139), .val (.ref b154), .val (.ref b183), .val (.int (p5 &&& (3 : Int32))), .val (.int (1 : Int32))] [])) _
                refine XS.iconst X348.here hx rfl (hb hby at_252) ?_
                show Steps p.tables e below (T348.setTop (mkF m 253 #[.val (.int p0), .val (.int p1), .val (.int p2), .val (.int p3), .val (.int p4), .val (.int p5), .val (.ref b3), .val (.ref b52), .val (.int (p4 &&& (3 : Int32))), .val (.int (((p4.toUInt32 >>> ((2 : Int32) &&& 31).toUInt32).toInt32) &&& (3 : Int32))), .val (.int ((p4.toUInt32 >>> ((4 : Int32) &&& 31).toUInt32).toInt32)), .val (.int ((p4.toUInt32 >>> ((10 : Int32) &&& 31).toUInt32).toInt32)), .val (.ref r_o_123), .val (.ref r_o_139), .val (.ref b154), .val (.ref b183), .val (.int (p5 &&& (3 : Int32))), .val (.int (1 : Int32))] [(.int (1 : Int32))])) _
                refine XS.goto X348.here hx rfl (pc0 := 253) (pc' := 257) rfl (hb hby at_253) (by decide) (by decide) ?_
                show Steps p.tables e below (T348.setTop (mkF m 257 #[.val (.int p0), .val (.int p1), .val (.int p2), .val (.int p3), .val (.int p4), .val (.int p5), .val (.ref b3), .val (.ref b52), .val (.int (p4 &&& (3 : Int32))), .val (.int (((p4.toUInt32 >>> ((2 : Int32) &&& 31).toUInt32).toInt32) &&& (3 : Int32))), .val (.int ((p4.toUInt32 >>> ((4 : Int32) &&& 31).toUInt32).toInt32)), .val (.int ((p4.toUInt32 >>> ((10 : Int32) &&& 31).toUInt32).toInt32)), .val (.ref r_o_123), .val (.ref r_o_139), .val (.ref b154), .val (.ref b183), .val (.int (p5 &&& (3 : Int32))), .val (.int (1 : Int32))] [(.int (1 : Int32))])) _
                refine XS.istore X348.here hx rfl (hb hby at_257) rfl (l' := #[.val (.int p0), .val (.int p1), .val (.int p2), .val (.int p3), .val (.int p4), .val (.int p5), .val (.ref b3), .val (.ref b52), .val (.int (p4 &&& (3 : Int32))), .val (.int (((p4.toUInt32 >>> ((2 : Int32) &&& 31).toUInt32).toInt32) &&& (3 : Int32))), .val (.int ((p4.toUInt32 >>> ((4 : Int32) &&& 31).toUInt32).toInt32)), .val (.int ((p4.toUInt32 >>> ((10 : Int32) &&& 31).toUInt32).toInt32)), .val (.ref r_o_123), .val (.ref r_o_139), .val (.ref b154), .val (.ref b183), .val (.int (p5 &&& (3 : Int32))), .val (.int (1 : Int32))]) rfl ?_
                show Steps p.tables e below (T348.setTop (mkF m 259 #[.val (.int p0), .val (.int p1), .val (.int p2), .val (.int p3), .val (.int p4), .val (.int p5), .val (.ref b3), .val (.ref b52), .val (.int (p4 &&& (3 : Int32))), .val (.int (((p4.toUInt32 >>> ((2 : Int32) &&& 31).toUInt32).toInt32) &&& (3 : Int32))), .val (.int ((p4.toUInt32 >>> ((4 : Int32) &&& 31).toUInt32).toInt32)), .val (.int ((p4.toUInt32 >>> ((10 : Int32) &&& 31).toUInt32).toInt32)), .val (.ref r_o_123), .val (.ref r_o_139), .val (.ref b154), .val (.ref b183), .val (.int (p5 &&& (3 : Int32))), .val (.int (1 : Int32))] [])) _
                refine XS.iload X348.here hx rfl (hb hby at_259) rfl ?_
                show Steps p.tables e below (T348.setTop (mkF m 261 #[.val (.int p0), .val (.int p1), .val (.int p2), .val (.int p3), .val (.int p4), .val (.int p5), .val (.ref b3), .val (.ref b52), .val (.int (p4 &&& (3 : Int32))), .val (.int (((p4.toUInt32 >>> ((2 : Int32) &&& 31).toUInt32).toInt32) &&& (3 : Int32))), .val (.int ((p4.toUInt32 >>> ((4 : Int32) &&& 31).toUInt32).toInt32)), .val (.int ((p4.toUInt32 >>> ((10 : Int32) &&& 31).toUInt32).toInt32)), .val (.ref r_o_123), .val (.ref r_o_139), .val (.ref b154), .val (.ref b183), .val (.int (p5 &&& (3 : Int32))), .val (.int (1 : Int32))] [(.int (1 : Int32))])) _
                refine XS.ifNo X348.here hx rfl (hb hby at_261) rfl ((if0 _ _).trans (feq ((by decide) : ¬ ((1 : Int32) = (0 : Int32)))).1) ?_
                show Steps p.tables e below (T348.setTop (mkF m 264 #[.val (.int p0), .val (.int p1), .val (.int p2), .val (.int p3), .val (.int p4), .val (.int p5), .val (.ref b3), .val (.ref b52), .val (.int (p4 &&& (3 : Int32))), .val (.int (((p4.toUInt32 >>> ((2 : Int32) &&& 31).toUInt32).toInt32) &&& (3 : Int32))), .val (.int ((p4.toUInt32 >>> ((4 : Int32) &&& 31).toUInt32).toInt32)), .val (.int ((p4.toUInt32 >>> ((10 : Int32) &&& 31).toUInt32).toInt32)), .val (.ref r_o_123), .val (.ref r_o_139), .val (.ref b154), .val (.ref b183), .val (.int (p5 &&& (3 : Int32))), .val (.int (1 : Int32))] [])) _
                refine XS.iload X348.here hx rfl (hb hby at_264) rfl ?_
                show Steps p.tables e below (T348.setTop (mkF m 266 #[.val (.int p0), .val (.int p1), .val (.int p2), .val (.int p3), .val (.int p4), .val (.int p5), .val (.ref b3), .val (.ref b52), .val (.int (p4 &&& (3 : Int32))), .val (.int (((p4.toUInt32 >>> ((2 : Int32) &&& 31).toUInt32).toInt32) &&& (3 : Int32))), .val (.int ((p4.toUInt32 >>> ((4 : Int32) &&& 31).toUInt32).toInt32)), .val (.int ((p4.toUInt32 >>> ((10 : Int32) &&& 31).toUInt32).toInt32)), .val (.ref r_o_123), .val (.ref r_o_139), .val (.ref b154), .val (.ref b183), .val (.int (p5 &&& (3 : Int32))), .val (.int (1 : Int32))] [(.int (p4 &&& (3 : Int32)))])) _
                refine XS.iconst X348.here hx rfl (hb hby at_266) ?_
                exact kt
              by_cases hc267_362 : (p4 &&& (3 : Int32)) < (2 : Int32)
              · have Fq372 : Fld Z T206.heap b154 "com/example/fovea/fovea/Memory$Key" "entry" "[I" (.ref b3) := ((Pf175_1.ext E183).keep K206 (ninS Ne194 nin0))
                have Fq373 : Fld Z T206.heap b154 "com/example/fovea/fovea/Memory$Key" "slots" "[I" (.ref r_o_123) := ((Pf175_2.ext E183).keep K206 (ninS Ne194 nin0))
                have Fq374 : Arv Z T206.heap b3 k3 .int (4 : Int32) [(.int p0), (.int p1), (.int p2), (.int p3)] (.int (0 : Int32)) := (((Fq176.keep K175 (ninS Ne157 nin0)).ext E183).keep K206 (ninS Ne186 nin0))
                have Fq375 : Arv Z T206.heap r_o_123 k_r_123 .int (p4 &&& (3 : Int32)) [(.int (((p4.toUInt32 >>> ((4 : Int32) &&& 31).toUInt32).toInt32) &&& (3 : Int32))), (.int (((((p4.toUInt32 >>> ((4 : Int32) &&& 31).toUInt32).toInt32).toUInt32 >>> ((2 : Int32) &&& 31).toUInt32).toInt32) &&& (3 : Int32))), (.int (((((p4.toUInt32 >>> ((4 : Int32) &&& 31).toUInt32).toInt32).toUInt32 >>> ((4 : Int32) &&& 31).toUInt32).toInt32) &&& (3 : Int32)))] (.int (0 : Int32)) := ((Fq191.ext E183).keep K206 (ninS Ne190 nin0))
                have Fq376 : Arv Z T206.heap b52 k52 .int (4 : Int32) [(.int p1), (.int p0), (.int p3), (.int p2)] (.int (0 : Int32)) := (Fq207.keep K206 (ninS Ne188 nin0))
                have Fq377 : Arv Z T206.heap r_o_139 k_r_139 .int (((p4.toUInt32 >>> ((2 : Int32) &&& 31).toUInt32).toInt32) &&& (3 : Int32)) [(.int (((p4.toUInt32 >>> ((10 : Int32) &&& 31).toUInt32).toInt32) &&& (3 : Int32))), (.int (((((p4.toUInt32 >>> ((10 : Int32) &&& 31).toUInt32).toInt32).toUInt32 >>> ((2 : Int32) &&& 31).toUInt32).toInt32) &&& (3 : Int32))), (.int (((((p4.toUInt32 >>> ((10 : Int32) &&& 31).toUInt32).toInt32).toUInt32 >>> ((4 : Int32) &&& 31).toUInt32).toInt32) &&& (3 : Int32)))] (.int (0 : Int32)) := (Fq208.keep K206 (ninS Ne192 nin0))
                have Fq378 : Exa Z T206.heap b154 "com/example/fovea/fovea/Memory$Key" := ((Pf175_0.ext E183).keep K206)
                obtain ⟨cq371, kq371, q371a, q371b, q371c⟩ := isOf hZ eh348 Fq378
                obtain ⟨_, _, ⟨T371, L371, k371, n371⟩, -, X371, ⟨Lc371, hQ371, l371, y371, z371⟩, st371⟩ := X348.virtualBack hx (y := (⟨"com/example/fovea/fovea/Memory$Key", "equals", "(Ljava/lang/Object;)Z"⟩ : MethodName)) (z := (⟨"com/example/fovea/fovea/Memory$Key", "equals", "(Ljava/lang/Object;)Z"⟩ : MethodName)) hown (mvT hZ (hw _ (List.mem_of_getElem? (i := 25) rfl))) (mvT hZ (hw _ (List.mem_of_getElem? (i := 26) rfl))) (notFace_of_selects (args := #[]) (mvT hZ (hw _ (List.mem_of_getElem? (i := 28) rfl)))) (mvT hZ (hw _ (List.mem_of_getElem? (i := 28) rfl))) (mvT hZ (hw _ (List.mem_of_getElem? (i := 27) rfl))) (by decide) (backOf (W := 0) (own_eq l Z a0 hw [] b154 b183 b3 r_o_123 b52 r_o_139 k3 k_r_123 k52 k_r_139 (p4 &&& (3 : Int32)) (((p4.toUInt32 >>> ((2 : Int32) &&& 31).toUInt32).toInt32) &&& (3 : Int32)) p0 p1 p2 p3 (((p4.toUInt32 >>> ((4 : Int32) &&& 31).toUInt32).toInt32) &&& (3 : Int32)) (((((p4.toUInt32 >>> ((4 : Int32) &&& 31).toUInt32).toInt32).toUInt32 >>> ((2 : Int32) &&& 31).toUInt32).toInt32) &&& (3 : Int32)) (((((p4.toUInt32 >>> ((4 : Int32) &&& 31).toUInt32).toInt32).toUInt32 >>> ((4 : Int32) &&& 31).toUInt32).toInt32) &&& (3 : Int32)) p1 p0 p3 p2 (((p4.toUInt32 >>> ((10 : Int32) &&& 31).toUInt32).toInt32) &&& (3 : Int32)) (((((p4.toUInt32 >>> ((10 : Int32) &&& 31).toUInt32).toInt32).toUInt32 >>> ((2 : Int32) &&& 31).toUInt32).toInt32) &&& (3 : Int32)) (((((p4.toUInt32 >>> ((10 : Int32) &&& 31).toUInt32).toInt32).toUInt32 >>> ((4 : Int32) &&& 31).toUInt32).toInt32) &&& (3 : Int32)) T206.heap n0 Zs211 Pf206_0 Fq372 Fq373 Pf206_1 Pf206_2 Fq374 Fq375 Fq376 Fq377 (own_and4 _) (own_and4 _) (own_and4 _) (own_and4 _) (own_and4 _) (own_and4 _) (own_and3 _).2) hZ (hw _ (List.mem_of_getElem? (i := 29) rfl)) (hw _ (List.mem_of_getElem? (i := 7) rfl)) (by decide) (by decide)) q371a q371c (g := (mkF m 357 #[.val (.int p0), .val (.int p1), .val (.int p2), .val (.int p3), .val (.int p4), .val (.int p5), .val (.ref b3), .val (.ref b52), .val (.int (p4 &&& (3 : Int32))), .val (.int (((p4.toUInt32 >>> ((2 : Int32) &&& 31).toUInt32).toInt32) &&& (3 : Int32))), .val (.int ((p4.toUInt32 >>> ((4 : Int32) &&& 31).toUInt32).toInt32)), .val (.int ((p4.toUInt32 >>> ((10 : Int32) &&& 31).toUInt32).toInt32)), .val (.ref r_o_123), .val (.ref r_o_139), .val (.ref b154), .val (.ref b183), .val (.int (p5 &&& (3 : Int32))), .val (.int (1 : Int32))] [(.ref b183), (.ref b154)])) rfl (by rw [hml]; rfl) (Steps.refl _) (argsL := [(.ref b183)]) (rest := []) (lenOf own_pd5 rfl) rfl (by show 2 * 0 + _ ≤ _; exact Nat.le_of_eq rfl) (hb hby at_357) (fun _ _ => ⟨rfl, eh348, (by decide : 6 + 0 ≤ _), (by decide : 24 + 0 ≤ _)⟩)
                dsimp only [Pt.U, Pt.locs, Pt.cells, Pt.slots] at X371 l371 y371 z371 st371 hQ371
                rw [l371, y371, z371] at X371
                obtain ⟨rfl, Nq371, eh371⟩ := hQ371
                have N379 := Fr.app N349 Nq371
                obtain ⟨cq385, kq385, q385a, q385b, q385c⟩ := isOf hZ eh371 Pf206_0
                obtain ⟨_, _, ⟨T385, L385, k385, n385⟩, -, X385, ⟨Lc385, hQ385, l385, y385, z385⟩, st385⟩ := X371.virtualBack hx (y := (⟨"com/example/fovea/fovea/Memory$Key", "equals", "(Ljava/lang/Object;)Z"⟩ : MethodName)) (z := (⟨"com/example/fovea/fovea/Memory$Key", "equals", "(Ljava/lang/Object;)Z"⟩ : MethodName)) hown (mvT hZ (hw _ (List.mem_of_getElem? (i := 25) rfl))) (mvT hZ (hw _ (List.mem_of_getElem? (i := 26) rfl))) (notFace_of_selects (args := #[]) (mvT hZ (hw _ (List.mem_of_getElem? (i := 28) rfl)))) (mvT hZ (hw _ (List.mem_of_getElem? (i := 28) rfl))) (mvT hZ (hw _ (List.mem_of_getElem? (i := 27) rfl))) (by decide) (backOf (W := 0) (own_eq l Z a0 hw [] b183 b154 b52 r_o_139 b3 r_o_123 k52 k_r_139 k3 k_r_123 (((p4.toUInt32 >>> ((2 : Int32) &&& 31).toUInt32).toInt32) &&& (3 : Int32)) (p4 &&& (3 : Int32)) p1 p0 p3 p2 (((p4.toUInt32 >>> ((10 : Int32) &&& 31).toUInt32).toInt32) &&& (3 : Int32)) (((((p4.toUInt32 >>> ((10 : Int32) &&& 31).toUInt32).toInt32).toUInt32 >>> ((2 : Int32) &&& 31).toUInt32).toInt32) &&& (3 : Int32)) (((((p4.toUInt32 >>> ((10 : Int32) &&& 31).toUInt32).toInt32).toUInt32 >>> ((4 : Int32) &&& 31).toUInt32).toInt32) &&& (3 : Int32)) p0 p1 p2 p3 (((p4.toUInt32 >>> ((4 : Int32) &&& 31).toUInt32).toInt32) &&& (3 : Int32)) (((((p4.toUInt32 >>> ((4 : Int32) &&& 31).toUInt32).toInt32).toUInt32 >>> ((2 : Int32) &&& 31).toUInt32).toInt32) &&& (3 : Int32)) (((((p4.toUInt32 >>> ((4 : Int32) &&& 31).toUInt32).toInt32).toUInt32 >>> ((4 : Int32) &&& 31).toUInt32).toInt32) &&& (3 : Int32)) T206.heap n0 Zs211 Fq378 Pf206_1 Pf206_2 Fq372 Fq373 Fq376 Fq377 Fq374 Fq375 (own_and4 _) (own_and4 _) (own_and4 _) (own_and4 _) (own_and4 _) (own_and4 _) (own_and3 _).2) hZ (hw _ (List.mem_of_getElem? (i := 29) rfl)) (hw _ (List.mem_of_getElem? (i := 7) rfl)) (by decide) (by decide)) q385a q385c (g := (mkF m 369 #[.val (.int p0), .val (.int p1), .val (.int p2), .val (.int p3), .val (.int p4), .val (.int p5), .val (.ref b3), .val (.ref b52), .val (.int (p4 &&& (3 : Int32))), .val (.int (((p4.toUInt32 >>> ((2 : Int32) &&& 31).toUInt32).toInt32) &&& (3 : Int32))), .val (.int ((p4.toUInt32 >>> ((4 : Int32) &&& 31).toUInt32).toInt32)), .val (.int ((p4.toUInt32 >>> ((10 : Int32) &&& 31).toUInt32).toInt32)), .val (.ref r_o_123), .val (.ref r_o_139), .val (.ref b154), .val (.ref b183), .val (.int (p5 &&& (3 : Int32))), .val (.int (1 : Int32))] [(.ref b154), (.ref b183)])) rfl (by rw [hml]; rfl) (Steps.refl _) (argsL := [(.ref b154)]) (rest := []) (lenOf own_pd5 rfl) rfl (by show 2 * 0 + _ ≤ _; exact Nat.le_of_eq rfl) (hb hby at_369) (fun _ _ => ⟨rfl, eh371, (by decide : 6 + 0 ≤ _), (by decide : 24 + 0 ≤ _)⟩)
                dsimp only [Pt.U, Pt.locs, Pt.cells, Pt.slots] at X385 l385 y385 z385 st385 hQ385
                rw [l385, y385, z385] at X385
                obtain ⟨rfl, Nq385, eh385⟩ := hQ385
                have N386 := Fr.app N379 Nq385
                obtain ⟨fs, hr, hrun, hended, hW, hsame⟩ := X385.leave (v := some (.int (1 : Int32))) (fun h => by rw [Bd.returns] at h; cases h) (hlocks := BodyLoose.notSynchronized Bd)
                refine ⟨_, _, pre361 _ ?_, hrun, hended, _, _, rfl, ?_, ⟨_, rfl⟩, hW, hsame.mono (by decide) (by decide)⟩
                · show Steps p.tables e below (T348.setTop (mkF m 267 #[.val (.int p0), .val (.int p1), .val (.int p2), .val (.int p3), .val (.int p4), .val (.int p5), .val (.ref b3), .val (.ref b52), .val (.int (p4 &&& (3 : Int32))), .val (.int (((p4.toUInt32 >>> ((2 : Int32) &&& 31).toUInt32).toInt32) &&& (3 : Int32))), .val (.int ((p4.toUInt32 >>> ((4 : Int32) &&& 31).toUInt32).toInt32)), .val (.int ((p4.toUInt32 >>> ((10 : Int32) &&& 31).toUInt32).toInt32)), .val (.ref r_o_123), .val (.ref r_o_139), .val (.ref b154), .val (.ref b183), .val (.int (p5 &&& (3 : Int32))), .val (.int (1 : Int32))] [(.int (2 : Int32)), (.int (p4 &&& (3 : Int32)))])) _
                  refine XS.icmpYes X348.here hx rfl (pc0 := 267) (pc' := 306) rfl (hb hby at_267) rfl (tlt hc267_362).1 (by decide) (by decide) ?_
                  show Steps p.tables e below (T348.setTop (mkF m 306 #[.val (.int p0), .val (.int p1), .val (.int p2), .val (.int p3), .val (.int p4), .val (.int p5), .val (.ref b3), .val (.ref b52), .val (.int (p4 &&& (3 : Int32))), .val (.int (((p4.toUInt32 >>> ((2 : Int32) &&& 31).toUInt32).toInt32) &&& (3 : Int32))), .val (.int ((p4.toUInt32 >>> ((4 : Int32) &&& 31).toUInt32).toInt32)), .val (.int ((p4.toUInt32 >>> ((10 : Int32) &&& 31).toUInt32).toInt32)), .val (.ref r_o_123), .val (.ref r_o_139), .val (.ref b154), .val (.ref b183), .val (.int (p5 &&& (3 : Int32))), .val (.int (1 : Int32))] [])) _
                  refine XS.iload X348.here hx rfl (hb hby at_306) rfl ?_
                  show Steps p.tables e below (T348.setTop (mkF m 308 #[.val (.int p0), .val (.int p1), .val (.int p2), .val (.int p3), .val (.int p4), .val (.int p5), .val (.ref b3), .val (.ref b52), .val (.int (p4 &&& (3 : Int32))), .val (.int (((p4.toUInt32 >>> ((2 : Int32) &&& 31).toUInt32).toInt32) &&& (3 : Int32))), .val (.int ((p4.toUInt32 >>> ((4 : Int32) &&& 31).toUInt32).toInt32)), .val (.int ((p4.toUInt32 >>> ((10 : Int32) &&& 31).toUInt32).toInt32)), .val (.ref r_o_123), .val (.ref r_o_139), .val (.ref b154), .val (.ref b183), .val (.int (p5 &&& (3 : Int32))), .val (.int (1 : Int32))] [(.int (1 : Int32))])) _
                  refine XS.ifNo X348.here hx rfl (hb hby at_308) rfl ((if0 _ _).trans (feq ((by decide) : ¬ ((1 : Int32) = (0 : Int32)))).1) ?_
                  show Steps p.tables e below (T348.setTop (mkF m 311 #[.val (.int p0), .val (.int p1), .val (.int p2), .val (.int p3), .val (.int p4), .val (.int p5), .val (.ref b3), .val (.ref b52), .val (.int (p4 &&& (3 : Int32))), .val (.int (((p4.toUInt32 >>> ((2 : Int32) &&& 31).toUInt32).toInt32) &&& (3 : Int32))), .val (.int ((p4.toUInt32 >>> ((4 : Int32) &&& 31).toUInt32).toInt32)), .val (.int ((p4.toUInt32 >>> ((10 : Int32) &&& 31).toUInt32).toInt32)), .val (.ref r_o_123), .val (.ref r_o_139), .val (.ref b154), .val (.ref b183), .val (.int (p5 &&& (3 : Int32))), .val (.int (1 : Int32))] [])) _
                  refine XS.iload X348.here hx rfl (hb hby at_311) rfl ?_
                  show Steps p.tables e below (T348.setTop (mkF m 313 #[.val (.int p0), .val (.int p1), .val (.int p2), .val (.int p3), .val (.int p4), .val (.int p5), .val (.ref b3), .val (.ref b52), .val (.int (p4 &&& (3 : Int32))), .val (.int (((p4.toUInt32 >>> ((2 : Int32) &&& 31).toUInt32).toInt32) &&& (3 : Int32))), .val (.int ((p4.toUInt32 >>> ((4 : Int32) &&& 31).toUInt32).toInt32)), .val (.int ((p4.toUInt32 >>> ((10 : Int32) &&& 31).toUInt32).toInt32)), .val (.ref r_o_123), .val (.ref r_o_139), .val (.ref b154), .val (.ref b183), .val (.int (p5 &&& (3 : Int32))), .val (.int (1 : Int32))] [(.int (p4 &&& (3 : Int32)))])) _
                  refine XS.iconst X348.here hx rfl (hb hby at_313) ?_
                  show Steps p.tables e below (T348.setTop (mkF m 314 #[.val (.int p0), .val (.int p1), .val (.int p2), .val (.int p3), .val (.int p4), .val (.int p5), .val (.ref b3), .val (.ref b52), .val (.int (p4 &&& (3 : Int32))), .val (.int (((p4.toUInt32 >>> ((2 : Int32) &&& 31).toUInt32).toInt32) &&& (3 : Int32))), .val (.int ((p4.toUInt32 >>> ((4 : Int32) &&& 31).toUInt32).toInt32)), .val (.int ((p4.toUInt32 >>> ((10 : Int32) &&& 31).toUInt32).toInt32)), .val (.ref r_o_123), .val (.ref r_o_139), .val (.ref b154), .val (.ref b183), .val (.int (p5 &&& (3 : Int32))), .val (.int (1 : Int32))] [(.int (3 : Int32)), (.int (p4 &&& (3 : Int32)))])) _
                  refine XS.icmpYes X348.here hx rfl (pc0 := 314) (pc' := 353) rfl (hb hby at_314) rfl (tlt (own_up hc267_362 (by decide) : (p4 &&& (3 : Int32)) < (3 : Int32))).1 (by decide) (by decide) ?_
                  show Steps p.tables e below (T348.setTop (mkF m 353 #[.val (.int p0), .val (.int p1), .val (.int p2), .val (.int p3), .val (.int p4), .val (.int p5), .val (.ref b3), .val (.ref b52), .val (.int (p4 &&& (3 : Int32))), .val (.int (((p4.toUInt32 >>> ((2 : Int32) &&& 31).toUInt32).toInt32) &&& (3 : Int32))), .val (.int ((p4.toUInt32 >>> ((4 : Int32) &&& 31).toUInt32).toInt32)), .val (.int ((p4.toUInt32 >>> ((10 : Int32) &&& 31).toUInt32).toInt32)), .val (.ref r_o_123), .val (.ref r_o_139), .val (.ref b154), .val (.ref b183), .val (.int (p5 &&& (3 : Int32))), .val (.int (1 : Int32))] [])) _
                  refine XS.aload X348.here hx rfl (hb hby at_353) rfl rfl ?_
                  show Steps p.tables e below (T348.setTop (mkF m 355 #[.val (.int p0), .val (.int p1), .val (.int p2), .val (.int p3), .val (.int p4), .val (.int p5), .val (.ref b3), .val (.ref b52), .val (.int (p4 &&& (3 : Int32))), .val (.int (((p4.toUInt32 >>> ((2 : Int32) &&& 31).toUInt32).toInt32) &&& (3 : Int32))), .val (.int ((p4.toUInt32 >>> ((4 : Int32) &&& 31).toUInt32).toInt32)), .val (.int ((p4.toUInt32 >>> ((10 : Int32) &&& 31).toUInt32).toInt32)), .val (.ref r_o_123), .val (.ref r_o_139), .val (.ref b154), .val (.ref b183), .val (.int (p5 &&& (3 : Int32))), .val (.int (1 : Int32))] [(.ref b154)])) _
                  refine XS.aload X348.here hx rfl (hb hby at_355) rfl rfl ?_
                  show Steps p.tables e below (T348.setTop (mkF m 357 #[.val (.int p0), .val (.int p1), .val (.int p2), .val (.int p3), .val (.int p4), .val (.int p5), .val (.ref b3), .val (.ref b52), .val (.int (p4 &&& (3 : Int32))), .val (.int (((p4.toUInt32 >>> ((2 : Int32) &&& 31).toUInt32).toInt32) &&& (3 : Int32))), .val (.int ((p4.toUInt32 >>> ((4 : Int32) &&& 31).toUInt32).toInt32)), .val (.int ((p4.toUInt32 >>> ((10 : Int32) &&& 31).toUInt32).toInt32)), .val (.ref r_o_123), .val (.ref r_o_139), .val (.ref b154), .val (.ref b183), .val (.int (p5 &&& (3 : Int32))), .val (.int (1 : Int32))] [(.ref b183), (.ref b154)])) _
                  refine st371.trans ?_
                  show Steps p.tables e below (T371.setTop (mkF m 360 #[.val (.int p0), .val (.int p1), .val (.int p2), .val (.int p3), .val (.int p4), .val (.int p5), .val (.ref b3), .val (.ref b52), .val (.int (p4 &&& (3 : Int32))), .val (.int (((p4.toUInt32 >>> ((2 : Int32) &&& 31).toUInt32).toInt32) &&& (3 : Int32))), .val (.int ((p4.toUInt32 >>> ((4 : Int32) &&& 31).toUInt32).toInt32)), .val (.int ((p4.toUInt32 >>> ((10 : Int32) &&& 31).toUInt32).toInt32)), .val (.ref r_o_123), .val (.ref r_o_139), .val (.ref b154), .val (.ref b183), .val (.int (p5 &&& (3 : Int32))), .val (.int (1 : Int32))] [(.int (own_eq_f (p4 &&& (3 : Int32)) (((p4.toUInt32 >>> ((2 : Int32) &&& 31).toUInt32).toInt32) &&& (3 : Int32)) p0 p1 p2 p3 (((p4.toUInt32 >>> ((4 : Int32) &&& 31).toUInt32).toInt32) &&& (3 : Int32)) (((((p4.toUInt32 >>> ((4 : Int32) &&& 31).toUInt32).toInt32).toUInt32 >>> ((2 : Int32) &&& 31).toUInt32).toInt32) &&& (3 : Int32)) (((((p4.toUInt32 >>> ((4 : Int32) &&& 31).toUInt32).toInt32).toUInt32 >>> ((4 : Int32) &&& 31).toUInt32).toInt32) &&& (3 : Int32)) p1 p0 p3 p2 (((p4.toUInt32 >>> ((10 : Int32) &&& 31).toUInt32).toInt32) &&& (3 : Int32)) (((((p4.toUInt32 >>> ((10 : Int32) &&& 31).toUInt32).toInt32).toUInt32 >>> ((2 : Int32) &&& 31).toUInt32).toInt32) &&& (3 : Int32)) (((((p4.toUInt32 >>> ((10 : Int32) &&& 31).toUInt32).toInt32).toUInt32 >>> ((4 : Int32) &&& 31).toUInt32).toInt32) &&& (3 : Int32))))])) _
                  refine XS.iload X371.here hx rfl (hb hby at_360) rfl ?_
                  show Steps p.tables e below (T371.setTop (mkF m 362 #[.val (.int p0), .val (.int p1), .val (.int p2), .val (.int p3), .val (.int p4), .val (.int p5), .val (.ref b3), .val (.ref b52), .val (.int (p4 &&& (3 : Int32))), .val (.int (((p4.toUInt32 >>> ((2 : Int32) &&& 31).toUInt32).toInt32) &&& (3 : Int32))), .val (.int ((p4.toUInt32 >>> ((4 : Int32) &&& 31).toUInt32).toInt32)), .val (.int ((p4.toUInt32 >>> ((10 : Int32) &&& 31).toUInt32).toInt32)), .val (.ref r_o_123), .val (.ref r_o_139), .val (.ref b154), .val (.ref b183), .val (.int (p5 &&& (3 : Int32))), .val (.int (1 : Int32))] [(.int (1 : Int32)), (.int (own_eq_f (p4 &&& (3 : Int32)) (((p4.toUInt32 >>> ((2 : Int32) &&& 31).toUInt32).toInt32) &&& (3 : Int32)) p0 p1 p2 p3 (((p4.toUInt32 >>> ((4 : Int32) &&& 31).toUInt32).toInt32) &&& (3 : Int32)) (((((p4.toUInt32 >>> ((4 : Int32) &&& 31).toUInt32).toInt32).toUInt32 >>> ((2 : Int32) &&& 31).toUInt32).toInt32) &&& (3 : Int32)) (((((p4.toUInt32 >>> ((4 : Int32) &&& 31).toUInt32).toInt32).toUInt32 >>> ((4 : Int32) &&& 31).toUInt32).toInt32) &&& (3 : Int32)) p1 p0 p3 p2 (((p4.toUInt32 >>> ((10 : Int32) &&& 31).toUInt32).toInt32) &&& (3 : Int32)) (((((p4.toUInt32 >>> ((10 : Int32) &&& 31).toUInt32).toInt32).toUInt32 >>> ((2 : Int32) &&& 31).toUInt32).toInt32) &&& (3 : Int32)) (((((p4.toUInt32 >>> ((10 : Int32) &&& 31).toUInt32).toInt32).toUInt32 >>> ((4 : Int32) &&& 31).toUInt32).toInt32) &&& (3 : Int32))))])) _
                  refine XS.icmpNo X371.here hx rfl (hb hby at_362) rfl (teq (((own_eqE _ _ _ _ _ _ _ _ _ _ _ _ _ _ _ _).trans (own_E3 hc206_285 hc224_295 (own_veq hc249_352) hc267_362)) : (own_eq_f (p4 &&& (3 : Int32)) (((p4.toUInt32 >>> ((2 : Int32) &&& 31).toUInt32).toInt32) &&& (3 : Int32)) p0 p1 p2 p3 (((p4.toUInt32 >>> ((4 : Int32) &&& 31).toUInt32).toInt32) &&& (3 : Int32)) (((((p4.toUInt32 >>> ((4 : Int32) &&& 31).toUInt32).toInt32).toUInt32 >>> ((2 : Int32) &&& 31).toUInt32).toInt32) &&& (3 : Int32)) (((((p4.toUInt32 >>> ((4 : Int32) &&& 31).toUInt32).toInt32).toUInt32 >>> ((4 : Int32) &&& 31).toUInt32).toInt32) &&& (3 : Int32)) p1 p0 p3 p2 (((p4.toUInt32 >>> ((10 : Int32) &&& 31).toUInt32).toInt32) &&& (3 : Int32)) (((((p4.toUInt32 >>> ((10 : Int32) &&& 31).toUInt32).toInt32).toUInt32 >>> ((2 : Int32) &&& 31).toUInt32).toInt32) &&& (3 : Int32)) (((((p4.toUInt32 >>> ((10 : Int32) &&& 31).toUInt32).toInt32).toUInt32 >>> ((4 : Int32) &&& 31).toUInt32).toInt32) &&& (3 : Int32))) = (1 : Int32))).2 ?_
                  show Steps p.tables e below (T371.setTop (mkF m 365 #[.val (.int p0), .val (.int p1), .val (.int p2), .val (.int p3), .val (.int p4), .val (.int p5), .val (.ref b3), .val (.ref b52), .val (.int (p4 &&& (3 : Int32))), .val (.int (((p4.toUInt32 >>> ((2 : Int32) &&& 31).toUInt32).toInt32) &&& (3 : Int32))), .val (.int ((p4.toUInt32 >>> ((4 : Int32) &&& 31).toUInt32).toInt32)), .val (.int ((p4.toUInt32 >>> ((10 : Int32) &&& 31).toUInt32).toInt32)), .val (.ref r_o_123), .val (.ref r_o_139), .val (.ref b154), .val (.ref b183), .val (.int (p5 &&& (3 : Int32))), .val (.int (1 : Int32))] [])) _
                  refine XS.aload X371.here hx rfl (hb hby at_365) rfl rfl ?_
                  show Steps p.tables e below (T371.setTop (mkF m 367 #[.val (.int p0), .val (.int p1), .val (.int p2), .val (.int p3), .val (.int p4), .val (.int p5), .val (.ref b3), .val (.ref b52), .val (.int (p4 &&& (3 : Int32))), .val (.int (((p4.toUInt32 >>> ((2 : Int32) &&& 31).toUInt32).toInt32) &&& (3 : Int32))), .val (.int ((p4.toUInt32 >>> ((4 : Int32) &&& 31).toUInt32).toInt32)), .val (.int ((p4.toUInt32 >>> ((10 : Int32) &&& 31).toUInt32).toInt32)), .val (.ref r_o_123), .val (.ref r_o_139), .val (.ref b154), .val (.ref b183), .val (.int (p5 &&& (3 : Int32))), .val (.int (1 : Int32))] [(.ref b183)])) _
                  refine XS.aload X371.here hx rfl (hb hby at_367) rfl rfl ?_
                  show Steps p.tables e below (T371.setTop (mkF m 369 #[.val (.int p0), .val (.int p1), .val (.int p2), .val (.int p3), .val (.int p4), .val (.int p5), .val (.ref b3), .val (.ref b52), .val (.int (p4 &&& (3 : Int32))), .val (.int (((p4.toUInt32 >>> ((2 : Int32) &&& 31).toUInt32).toInt32) &&& (3 : Int32))), .val (.int ((p4.toUInt32 >>> ((4 : Int32) &&& 31).toUInt32).toInt32)), .val (.int ((p4.toUInt32 >>> ((10 : Int32) &&& 31).toUInt32).toInt32)), .val (.ref r_o_123), .val (.ref r_o_139), .val (.ref b154), .val (.ref b183), .val (.int (p5 &&& (3 : Int32))), .val (.int (1 : Int32))] [(.ref b154), (.ref b183)])) _
                  refine st385.trans ?_
                  show Steps p.tables e below (T385.setTop (mkF m 372 #[.val (.int p0), .val (.int p1), .val (.int p2), .val (.int p3), .val (.int p4), .val (.int p5), .val (.ref b3), .val (.ref b52), .val (.int (p4 &&& (3 : Int32))), .val (.int (((p4.toUInt32 >>> ((2 : Int32) &&& 31).toUInt32).toInt32) &&& (3 : Int32))), .val (.int ((p4.toUInt32 >>> ((4 : Int32) &&& 31).toUInt32).toInt32)), .val (.int ((p4.toUInt32 >>> ((10 : Int32) &&& 31).toUInt32).toInt32)), .val (.ref r_o_123), .val (.ref r_o_139), .val (.ref b154), .val (.ref b183), .val (.int (p5 &&& (3 : Int32))), .val (.int (1 : Int32))] [(.int (own_eq_f (((p4.toUInt32 >>> ((2 : Int32) &&& 31).toUInt32).toInt32) &&& (3 : Int32)) (p4 &&& (3 : Int32)) p1 p0 p3 p2 (((p4.toUInt32 >>> ((10 : Int32) &&& 31).toUInt32).toInt32) &&& (3 : Int32)) (((((p4.toUInt32 >>> ((10 : Int32) &&& 31).toUInt32).toInt32).toUInt32 >>> ((2 : Int32) &&& 31).toUInt32).toInt32) &&& (3 : Int32)) (((((p4.toUInt32 >>> ((10 : Int32) &&& 31).toUInt32).toInt32).toUInt32 >>> ((4 : Int32) &&& 31).toUInt32).toInt32) &&& (3 : Int32)) p0 p1 p2 p3 (((p4.toUInt32 >>> ((4 : Int32) &&& 31).toUInt32).toInt32) &&& (3 : Int32)) (((((p4.toUInt32 >>> ((4 : Int32) &&& 31).toUInt32).toInt32).toUInt32 >>> ((2 : Int32) &&& 31).toUInt32).toInt32) &&& (3 : Int32)) (((((p4.toUInt32 >>> ((4 : Int32) &&& 31).toUInt32).toInt32).toUInt32 >>> ((4 : Int32) &&& 31).toUInt32).toInt32) &&& (3 : Int32))))])) _
                  refine XS.iload X385.here hx rfl (hb hby at_372) rfl ?_
                  show Steps p.tables e below (T385.setTop (mkF m 374 #[.val (.int p0), .val (.int p1), .val (.int p2), .val (.int p3), .val (.int p4), .val (.int p5), .val (.ref b3), .val (.ref b52), .val (.int (p4 &&& (3 : Int32))), .val (.int (((p4.toUInt32 >>> ((2 : Int32) &&& 31).toUInt32).toInt32) &&& (3 : Int32))), .val (.int ((p4.toUInt32 >>> ((4 : Int32) &&& 31).toUInt32).toInt32)), .val (.int ((p4.toUInt32 >>> ((10 : Int32) &&& 31).toUInt32).toInt32)), .val (.ref r_o_123), .val (.ref r_o_139), .val (.ref b154), .val (.ref b183), .val (.int (p5 &&& (3 : Int32))), .val (.int (1 : Int32))] [(.int (1 : Int32)), (.int (own_eq_f (((p4.toUInt32 >>> ((2 : Int32) &&& 31).toUInt32).toInt32) &&& (3 : Int32)) (p4 &&& (3 : Int32)) p1 p0 p3 p2 (((p4.toUInt32 >>> ((10 : Int32) &&& 31).toUInt32).toInt32) &&& (3 : Int32)) (((((p4.toUInt32 >>> ((10 : Int32) &&& 31).toUInt32).toInt32).toUInt32 >>> ((2 : Int32) &&& 31).toUInt32).toInt32) &&& (3 : Int32)) (((((p4.toUInt32 >>> ((10 : Int32) &&& 31).toUInt32).toInt32).toUInt32 >>> ((4 : Int32) &&& 31).toUInt32).toInt32) &&& (3 : Int32)) p0 p1 p2 p3 (((p4.toUInt32 >>> ((4 : Int32) &&& 31).toUInt32).toInt32) &&& (3 : Int32)) (((((p4.toUInt32 >>> ((4 : Int32) &&& 31).toUInt32).toInt32).toUInt32 >>> ((2 : Int32) &&& 31).toUInt32).toInt32) &&& (3 : Int32)) (((((p4.toUInt32 >>> ((4 : Int32) &&& 31).toUInt32).toInt32).toUInt32 >>> ((4 : Int32) &&& 31).toUInt32).toInt32) &&& (3 : Int32))))])) _
                  refine XS.icmpNo X385.here hx rfl (hb hby at_374) rfl (teq (((own_eqE _ _ _ _ _ _ _ _ _ _ _ _ _ _ _ _).trans ((own_sym _ _ _ _ _ _ _ _).trans (own_E3 hc206_285 hc224_295 (own_veq hc249_352) hc267_362))) : (own_eq_f (((p4.toUInt32 >>> ((2 : Int32) &&& 31).toUInt32).toInt32) &&& (3 : Int32)) (p4 &&& (3 : Int32)) p1 p0 p3 p2 (((p4.toUInt32 >>> ((10 : Int32) &&& 31).toUInt32).toInt32) &&& (3 : Int32)) (((((p4.toUInt32 >>> ((10 : Int32) &&& 31).toUInt32).toInt32).toUInt32 >>> ((2 : Int32) &&& 31).toUInt32).toInt32) &&& (3 : Int32)) (((((p4.toUInt32 >>> ((10 : Int32) &&& 31).toUInt32).toInt32).toUInt32 >>> ((4 : Int32) &&& 31).toUInt32).toInt32) &&& (3 : Int32)) p0 p1 p2 p3 (((p4.toUInt32 >>> ((4 : Int32) &&& 31).toUInt32).toInt32) &&& (3 : Int32)) (((((p4.toUInt32 >>> ((4 : Int32) &&& 31).toUInt32).toInt32).toUInt32 >>> ((2 : Int32) &&& 31).toUInt32).toInt32) &&& (3 : Int32)) (((((p4.toUInt32 >>> ((4 : Int32) &&& 31).toUInt32).toInt32).toUInt32 >>> ((4 : Int32) &&& 31).toUInt32).toInt32) &&& (3 : Int32))) = (1 : Int32))).2 ?_
                  show Steps p.tables e below (T385.setTop (mkF m 377 #[.val (.int p0), .val (.int p1), .val (.int p2), .val (.int p3), .val (.int p4), .val (.int p5), .val (.ref b3), .val (.ref b52), .val (.int (p4 &&& (3 : Int32))), .val (.int (((p4.toUInt32 >>> ((2 : Int32) &&& 31).toUInt32).toInt32) &&& (3 : Int32))), .val (.int ((p4.toUInt32 >>> ((4 : Int32) &&& 31).toUInt32).toInt32)), .val (.int ((p4.toUInt32 >>> ((10 : Int32) &&& 31).toUInt32).toInt32)), .val (.ref r_o_123), .val (.ref r_o_139), .val (.ref b154), .val (.ref b183), .val (.int (p5 &&& (3 : Int32))), .val (.int (1 : Int32))] [])) _
                  refine XS.iconst X385.here hx rfl (hb hby at_377) ?_
                  show Steps p.tables e below (T385.setTop (mkF m 378 #[.val (.int p0), .val (.int p1), .val (.int p2), .val (.int p3), .val (.int p4), .val (.int p5), .val (.ref b3), .val (.ref b52), .val (.int (p4 &&& (3 : Int32))), .val (.int (((p4.toUInt32 >>> ((2 : Int32) &&& 31).toUInt32).toInt32) &&& (3 : Int32))), .val (.int ((p4.toUInt32 >>> ((4 : Int32) &&& 31).toUInt32).toInt32)), .val (.int ((p4.toUInt32 >>> ((10 : Int32) &&& 31).toUInt32).toInt32)), .val (.ref r_o_123), .val (.ref r_o_139), .val (.ref b154), .val (.ref b183), .val (.int (p5 &&& (3 : Int32))), .val (.int (1 : Int32))] [(.int (1 : Int32))])) _
                  refine XS.goto X385.here hx rfl (pc0 := 378) (pc' := 382) rfl (hb hby at_378) (by decide) (by decide) ?_
                  show Steps p.tables e below (T385.setTop (mkF m 382 #[.val (.int p0), .val (.int p1), .val (.int p2), .val (.int p3), .val (.int p4), .val (.int p5), .val (.ref b3), .val (.ref b52), .val (.int (p4 &&& (3 : Int32))), .val (.int (((p4.toUInt32 >>> ((2 : Int32) &&& 31).toUInt32).toInt32) &&& (3 : Int32))), .val (.int ((p4.toUInt32 >>> ((4 : Int32) &&& 31).toUInt32).toInt32)), .val (.int ((p4.toUInt32 >>> ((10 : Int32) &&& 31).toUInt32).toInt32)), .val (.ref r_o_123), .val (.ref r_o_139), .val (.ref b154), .val (.ref b183), .val (.int (p5 &&& (3 : Int32))), .val (.int (1 : Int32))] [(.int (1 : Int32))])) _
                  exact retN X385 hx (t := .boolean) Bd.returns (by simp) (hb hby at_382) hr
                · show Qown_law Z p0 p1 p2 p3 p4 p5 w_c k_c vs_c h0 n0 _ T385.heap _
                  rw [eh385]
                  exact ⟨rfl, N386⟩
              · obtain ⟨_, _, ⟨T402, L402, k402, n402⟩, -, X402, ⟨Lc402, hQ402, l402, y402, z402⟩, st402⟩ := Jvm.LawKit.callS X348 hx (y := (⟨"com/example/fovea/fovea/KeyEqualsPinLaw", "v1", "(IIIII)I"⟩ : MethodName)) hown (mvT hZ (hw _ (List.mem_of_getElem? (i := 42) rfl))) (mvT hZ (hw _ (List.mem_of_getElem? (i := 43) rfl))) (mvT hZ (hw _ (List.mem_of_getElem? (i := 3) rfl))) (mvT hZ (hw _ (List.mem_of_getElem? (i := 44) rfl))) (by decide) (backOf (W := 0) (own_v1 l Z a0 hw [] p0 p1 p2 p3 (((((p4.toUInt32 >>> ((4 : Int32) &&& 31).toUInt32).toInt32).toUInt32 >>> ((2 : Int32) &&& 31).toUInt32).toInt32) &&& (3 : Int32)) T206.heap n0 Zs211 ) hZ (hw _ (List.mem_of_getElem? (i := 44) rfl)) (hw _ (List.mem_of_getElem? (i := 3) rfl)) (by decide) (by decide)) (g := (mkF m 280 #[.val (.int p0), .val (.int p1), .val (.int p2), .val (.int p3), .val (.int p4), .val (.int p5), .val (.ref b3), .val (.ref b52), .val (.int (p4 &&& (3 : Int32))), .val (.int (((p4.toUInt32 >>> ((2 : Int32) &&& 31).toUInt32).toInt32) &&& (3 : Int32))), .val (.int ((p4.toUInt32 >>> ((4 : Int32) &&& 31).toUInt32).toInt32)), .val (.int ((p4.toUInt32 >>> ((10 : Int32) &&& 31).toUInt32).toInt32)), .val (.ref r_o_123), .val (.ref r_o_139), .val (.ref b154), .val (.ref b183), .val (.int (p5 &&& (3 : Int32))), .val (.int (1 : Int32))] [(.int (((((p4.toUInt32 >>> ((4 : Int32) &&& 31).toUInt32).toInt32).toUInt32 >>> ((2 : Int32) &&& 31).toUInt32).toInt32) &&& (3 : Int32))), (.int p3), (.int p2), (.int p1), (.int p0)])) rfl (by rw [hml]; rfl) (argsL := [(.int p0), (.int p1), (.int p2), (.int p3), (.int (((((p4.toUInt32 >>> ((4 : Int32) &&& 31).toUInt32).toInt32).toUInt32 >>> ((2 : Int32) &&& 31).toUInt32).toInt32) &&& (3 : Int32)))]) (rest := []) (lenOf own_pd6 rfl) rfl (by show 2 * 0 + _ ≤ _; exact Nat.le_of_eq rfl) (hb hby at_280) (fun _ _ => ⟨rfl, eh348, (by decide : 6 + 0 ≤ _), (by decide : 24 + 0 ≤ _)⟩)
                dsimp only [Pt.U, Pt.locs, Pt.cells, Pt.slots] at X402 l402 y402 z402 st402 hQ402
                rw [l402, y402, z402] at X402
                obtain ⟨rfl, Nq402, eh402⟩ := hQ402
                have N403 := Fr.app N349 Nq402
                obtain ⟨_, _, ⟨T414, L414, k414, n414⟩, -, X414, ⟨Lc414, hQ414, l414, y414, z414⟩, st414⟩ := Jvm.LawKit.callS X402 hx (y := (⟨"com/example/fovea/fovea/KeyEqualsPinLaw", "v2", "(IIIII)I"⟩ : MethodName)) hown (mvT hZ (hw _ (List.mem_of_getElem? (i := 45) rfl))) (mvT hZ (hw _ (List.mem_of_getElem? (i := 46) rfl))) (mvT hZ (hw _ (List.mem_of_getElem? (i := 3) rfl))) (mvT hZ (hw _ (List.mem_of_getElem? (i := 47) rfl))) (by decide) (backOf (W := 1) (own_v2 l Z a0 hw [] p0 p1 p2 p3 (((((p4.toUInt32 >>> ((10 : Int32) &&& 31).toUInt32).toInt32).toUInt32 >>> ((2 : Int32) &&& 31).toUInt32).toInt32) &&& (3 : Int32)) T206.heap n0 Zs211 ) hZ (hw _ (List.mem_of_getElem? (i := 47) rfl)) (hw _ (List.mem_of_getElem? (i := 3) rfl)) (by decide) (by decide)) (g := (mkF m 293 #[.val (.int p0), .val (.int p1), .val (.int p2), .val (.int p3), .val (.int p4), .val (.int p5), .val (.ref b3), .val (.ref b52), .val (.int (p4 &&& (3 : Int32))), .val (.int (((p4.toUInt32 >>> ((2 : Int32) &&& 31).toUInt32).toInt32) &&& (3 : Int32))), .val (.int ((p4.toUInt32 >>> ((4 : Int32) &&& 31).toUInt32).toInt32)), .val (.int ((p4.toUInt32 >>> ((10 : Int32) &&& 31).toUInt32).toInt32)), .val (.ref r_o_123), .val (.ref r_o_139), .val (.ref b154), .val (.ref b183), .val (.int (p5 &&& (3 : Int32))), .val (.int (1 : Int32))] [(.int (((((p4.toUInt32 >>> ((10 : Int32) &&& 31).toUInt32).toInt32).toUInt32 >>> ((2 : Int32) &&& 31).toUInt32).toInt32) &&& (3 : Int32))), (.int p3), (.int p2), (.int p1), (.int p0), (.int (own_v1_f p0 p1 p2 p3 (((((p4.toUInt32 >>> ((4 : Int32) &&& 31).toUInt32).toInt32).toUInt32 >>> ((2 : Int32) &&& 31).toUInt32).toInt32) &&& (3 : Int32))))])) rfl (by rw [hml]; rfl) (argsL := [(.int p0), (.int p1), (.int p2), (.int p3), (.int (((((p4.toUInt32 >>> ((10 : Int32) &&& 31).toUInt32).toInt32).toUInt32 >>> ((2 : Int32) &&& 31).toUInt32).toInt32) &&& (3 : Int32)))]) (rest := [(.int (own_v1_f p0 p1 p2 p3 (((((p4.toUInt32 >>> ((4 : Int32) &&& 31).toUInt32).toInt32).toUInt32 >>> ((2 : Int32) &&& 31).toUInt32).toInt32) &&& (3 : Int32))))]) (lenOf own_pd6 rfl) rfl (by show 2 * 0 + _ ≤ _; exact Nat.le_of_eq rfl) (hb hby at_293) (fun _ _ => ⟨rfl, eh402, (by decide : 6 + 0 ≤ _), (by decide : 24 + 0 ≤ _)⟩)
                dsimp only [Pt.U, Pt.locs, Pt.cells, Pt.slots] at X414 l414 y414 z414 st414 hQ414
                rw [l414, y414, z414] at X414
                obtain ⟨rfl, Nq414, eh414⟩ := hQ414
                have N415 := Fr.app N403 Nq414
                have pre417 : ∀ t, Steps p.tables e below (T414.setTop (mkF m 296 #[.val (.int p0), .val (.int p1), .val (.int p2), .val (.int p3), .val (.int p4), .val (.int p5), .val (.ref b3), .val (.ref b52), .val (.int (p4 &&& (3 : Int32))), .val (.int (((p4.toUInt32 >>> ((2 : Int32) &&& 31).toUInt32).toInt32) &&& (3 : Int32))), .val (.int ((p4.toUInt32 >>> ((4 : Int32) &&& 31).toUInt32).toInt32)), .val (.int ((p4.toUInt32 >>> ((10 : Int32) &&& 31).toUInt32).toInt32)), .val (.ref r_o_123), .val (.ref r_o_139), .val (.ref b154), .val (.ref b183), .val (.int (p5 &&& (3 : Int32))), .val (.int (1 : Int32))] [(.int (own_v2_f p0 p1 p2 p3 (((((p4.toUInt32 >>> ((10 : Int32) &&& 31).toUInt32).toInt32).toUInt32 >>> ((2 : Int32) &&& 31).toUInt32).toInt32) &&& (3 : Int32)))), (.int (own_v1_f p0 p1 p2 p3 (((((p4.toUInt32 >>> ((4 : Int32) &&& 31).toUInt32).toInt32).toUInt32 >>> ((2 : Int32) &&& 31).toUInt32).toInt32) &&& (3 : Int32))))])) t → Steps p.tables e below (s₁.setTop (entryFrame m #[(.int p0), (.int p1), (.int p2), (.int p3), (.int p4), (.int p5)] maxLocals)) t := by
                  intro t kt
                  refine pre361 _ ?_
                  show Steps p.tables e below (T348.setTop (mkF m 267 #[.val (.int p0), .val (.int p1), .val (.int p2), .val (.int p3), .val (.int p4), .val (.int p5), .val (.ref b3), .val (.ref b52), .val (.int (p4 &&& (3 : Int32))), .val (.int (((p4.toUInt32 >>> ((2 : Int32) &&& 31).toUInt32).toInt32) &&& (3 : Int32))), .val (.int ((p4.toUInt32 >>> ((4 : Int32) &&& 31).toUInt32).toInt32)), .val (.int ((p4.toUInt32 >>> ((10 : Int32) &&& 31).toUInt32).toInt32)), .val (.ref r_o_123), .val (.ref r_o_139), .val (.ref b154), .val (.ref b183), .val (.int (p5 &&& (3 : Int32))), .val (.int (1 : Int32))] [(.int (2 : Int32)), (.int (p4 &&& (3 : Int32)))])) _
                  refine XS.icmpNo X348.here hx rfl (hb hby at_267) rfl (flt hc267_362).1 ?_
                  show Steps p.tables e below (T348.setTop (mkF m 270 #[.val (.int p0), .val (.int p1), .val (.int p2), .val (.int p3), .val (.int p4), .val (.int p5), .val (.ref b3), .val (.ref b52), .val (.int (p4 &&& (3 : Int32))), .val (.int (((p4.toUInt32 >>> ((2 : Int32) &&& 31).toUInt32).toInt32) &&& (3 : Int32))), .val (.int ((p4.toUInt32 >>> ((4 : Int32) &&& 31).toUInt32).toInt32)), .val (.int ((p4.toUInt32 >>> ((10 : Int32) &&& 31).toUInt32).toInt32)), .val (.ref r_o_123), .val (.ref r_o_139), .val (.ref b154), .val (.ref b183), .val (.int (p5 &&& (3 : Int32))), .val (.int (1 : Int32))] [])) _
                  refine XS.iloadN X348.here hx rfl (hb hby at_270) rfl ?_
                  show Steps p.tables e below (T348.setTop (mkF m 271 #[.val (.int p0), .val (.int p1), .val (.int p2), .val (.int p3), .val (.int p4), .val (.int p5), .val (.ref b3), .val (.ref b52), .val (.int (p4 &&& (3 : Int32))), .val (.int (((p4.toUInt32 >>> ((2 : Int32) &&& 31).toUInt32).toInt32) &&& (3 : Int32))), .val (.int ((p4.toUInt32 >>> ((4 : Int32) &&& 31).toUInt32).toInt32)), .val (.int ((p4.toUInt32 >>> ((10 : Int32) &&& 31).toUInt32).toInt32)), .val (.ref r_o_123), .val (.ref r_o_139), .val (.ref b154), .val (.ref b183), .val (.int (p5 &&& (3 : Int32))), .val (.int (1 : Int32))] [(.int p0)])) _
                  refine XS.iloadN X348.here hx rfl (hb hby at_271) rfl ?_
                  show Steps p.tables e below (T348.setTop (mkF m 272 #[.val (.int p0), .val (.int p1), .val (.int p2), .val (.int p3), .val (.int p4), .val (.int p5), .val (.ref b3), .val (.ref b52), .val (.int (p4 &&& (3 : Int32))), .val (.int (((p4.toUInt32 >>> ((2 : Int32) &&& 31).toUInt32).toInt32) &&& (3 : Int32))), .val (.int ((p4.toUInt32 >>> ((4 : Int32) &&& 31).toUInt32).toInt32)), .val (.int ((p4.toUInt32 >>> ((10 : Int32) &&& 31).toUInt32).toInt32)), .val (.ref r_o_123), .val (.ref r_o_139), .val (.ref b154), .val (.ref b183), .val (.int (p5 &&& (3 : Int32))), .val (.int (1 : Int32))] [(.int p1), (.int p0)])) _
                  refine XS.iloadN X348.here hx rfl (hb hby at_272) rfl ?_
                  show Steps p.tables e below (T348.setTop (mkF m 273 #[.val (.int p0), .val (.int p1), .val (.int p2), .val (.int p3), .val (.int p4), .val (.int p5), .val (.ref b3), .val (.ref b52), .val (.int (p4 &&& (3 : Int32))), .val (.int (((p4.toUInt32 >>> ((2 : Int32) &&& 31).toUInt32).toInt32) &&& (3 : Int32))), .val (.int ((p4.toUInt32 >>> ((4 : Int32) &&& 31).toUInt32).toInt32)), .val (.int ((p4.toUInt32 >>> ((10 : Int32) &&& 31).toUInt32).toInt32)), .val (.ref r_o_123), .val (.ref r_o_139), .val (.ref b154), .val (.ref b183), .val (.int (p5 &&& (3 : Int32))), .val (.int (1 : Int32))] [(.int p2), (.int p1), (.int p0)])) _
                  refine XS.iloadN X348.here hx rfl (hb hby at_273) rfl ?_
                  show Steps p.tables e below (T348.setTop (mkF m 274 #[.val (.int p0), .val (.int p1), .val (.int p2), .val (.int p3), .val (.int p4), .val (.int p5), .val (.ref b3), .val (.ref b52), .val (.int (p4 &&& (3 : Int32))), .val (.int (((p4.toUInt32 >>> ((2 : Int32) &&& 31).toUInt32).toInt32) &&& (3 : Int32))), .val (.int ((p4.toUInt32 >>> ((4 : Int32) &&& 31).toUInt32).toInt32)), .val (.int ((p4.toUInt32 >>> ((10 : Int32) &&& 31).toUInt32).toInt32)), .val (.ref r_o_123), .val (.ref r_o_139), .val (.ref b154), .val (.ref b183), .val (.int (p5 &&& (3 : Int32))), .val (.int (1 : Int32))] [(.int p3), (.int p2), (.int p1), (.int p0)])) _
                  refine XS.iload X348.here hx rfl (hb hby at_274) rfl ?_
                  show Steps p.tables e below (T348.setTop (mkF m 276 #[.val (.int p0), .val (.int p1), .val (.int p2), .val (.int p3), .val (.int p4), .val (.int p5), .val (.ref b3), .val (.ref b52), .val (.int (p4 &&& (3 : Int32))), .val (.int (((p4.toUInt32 >>> ((2 : Int32) &&& 31).toUInt32).toInt32) &&& (3 : Int32))), .val (.int ((p4.toUInt32 >>> ((4 : Int32) &&& 31).toUInt32).toInt32)), .val (.int ((p4.toUInt32 >>> ((10 : Int32) &&& 31).toUInt32).toInt32)), .val (.ref r_o_123), .val (.ref r_o_139), .val (.ref b154), .val (.ref b183), .val (.int (p5 &&& (3 : Int32))), .val (.int (1 : Int32))] [(.int ((p4.toUInt32 >>> ((4 : Int32) &&& 31).toUInt32).toInt32)), (.int p3), (.int p2), (.int p1), (.int p0)])) _
                  refine XS.iconst X348.here hx rfl (hb hby at_276) ?_
                  show Steps p.tables e below (T348.setTop (mkF m 277 #[.val (.int p0), .val (.int p1), .val (.int p2), .val (.int p3), .val (.int p4), .val (.int p5), .val (.ref b3), .val (.ref b52), .val (.int (p4 &&& (3 : Int32))), .val (.int (((p4.toUInt32 >>> ((2 : Int32) &&& 31).toUInt32).toInt32) &&& (3 : Int32))), .val (.int ((p4.toUInt32 >>> ((4 : Int32) &&& 31).toUInt32).toInt32)), .val (.int ((p4.toUInt32 >>> ((10 : Int32) &&& 31).toUInt32).toInt32)), .val (.ref r_o_123), .val (.ref r_o_139), .val (.ref b154), .val (.ref b183), .val (.int (p5 &&& (3 : Int32))), .val (.int (1 : Int32))] [(.int (2 : Int32)), (.int ((p4.toUInt32 >>> ((4 : Int32) &&& 31).toUInt32).toInt32)), (.int p3), (.int p2), (.int p1), (.int p0)])) _
                  refine XS.iushr X348.here hx rfl (hb hby at_277) rfl ?_
                  show Steps p.tables e below (T348.setTop (mkF m 278 #[.val (.int p0), .val (.int p1), .val (.int p2), .val (.int p3), .val (.int p4), .val (.int p5), .val (.ref b3), .val (.ref b52), .val (.int (p4 &&& (3 : Int32))), .val (.int (((p4.toUInt32 >>> ((2 : Int32) &&& 31).toUInt32).toInt32) &&& (3 : Int32))), .val (.int ((p4.toUInt32 >>> ((4 : Int32) &&& 31).toUInt32).toInt32)), .val (.int ((p4.toUInt32 >>> ((10 : Int32) &&& 31).toUInt32).toInt32)), .val (.ref r_o_123), .val (.ref r_o_139), .val (.ref b154), .val (.ref b183), .val (.int (p5 &&& (3 : Int32))), .val (.int (1 : Int32))] [(.int ((((p4.toUInt32 >>> ((4 : Int32) &&& 31).toUInt32).toInt32).toUInt32 >>> ((2 : Int32) &&& 31).toUInt32).toInt32)), (.int p3), (.int p2), (.int p1), (.int p0)])) _
                  refine XS.iconst X348.here hx rfl (hb hby at_278) ?_
                  show Steps p.tables e below (T348.setTop (mkF m 279 #[.val (.int p0), .val (.int p1), .val (.int p2), .val (.int p3), .val (.int p4), .val (.int p5), .val (.ref b3), .val (.ref b52), .val (.int (p4 &&& (3 : Int32))), .val (.int (((p4.toUInt32 >>> ((2 : Int32) &&& 31).toUInt32).toInt32) &&& (3 : Int32))), .val (.int ((p4.toUInt32 >>> ((4 : Int32) &&& 31).toUInt32).toInt32)), .val (.int ((p4.toUInt32 >>> ((10 : Int32) &&& 31).toUInt32).toInt32)), .val (.ref r_o_123), .val (.ref r_o_139), .val (.ref b154), .val (.ref b183), .val (.int (p5 &&& (3 : Int32))), .val (.int (1 : Int32))] [(.int (3 : Int32)), (.int ((((p4.toUInt32 >>> ((4 : Int32) &&& 31).toUInt32).toInt32).toUInt32 >>> ((2 : Int32) &&& 31).toUInt32).toInt32)), (.int p3), (.int p2), (.int p1), (.int p0)])) _
                  refine XS.iand X348.here hx rfl (hb hby at_279) rfl ?_
                  show Steps p.tables e below (T348.setTop (mkF m 280 #[.val (.int p0), .val (.int p1), .val (.int p2), .val (.int p3), .val (.int p4), .val (.int p5), .val (.ref b3), .val (.ref b52), .val (.int (p4 &&& (3 : Int32))), .val (.int (((p4.toUInt32 >>> ((2 : Int32) &&& 31).toUInt32).toInt32) &&& (3 : Int32))), .val (.int ((p4.toUInt32 >>> ((4 : Int32) &&& 31).toUInt32).toInt32)), .val (.int ((p4.toUInt32 >>> ((10 : Int32) &&& 31).toUInt32).toInt32)), .val (.ref r_o_123), .val (.ref r_o_139), .val (.ref b154), .val (.ref b183), .val (.int (p5 &&& (3 : Int32))), .val (.int (1 : Int32))] [(.int (((((p4.toUInt32 >>> ((4 : Int32) &&& 31).toUInt32).toInt32).toUInt32 >>> ((2 : Int32) &&& 31).toUInt32).toInt32) &&& (3 : Int32))), (.int p3), (.int p2), (.int p1), (.int p0)])) _
                  refine st402 _ ?_
                  show Steps p.tables e below (T402.setTop (mkF m 283 #[.val (.int p0), .val (.int p1), .val (.int p2), .val (.int p3), .val (.int p4), .val (.int p5), .val (.ref b3), .val (.ref b52), .val (.int (p4 &&& (3 : Int32))), .val (.int (((p4.toUInt32 >>> ((2 : Int32) &&& 31).toUInt32).toInt32) &&& (3 : Int32))), .val (.int ((p4.toUInt32 >>> ((4 : Int32) &&& 31).toUInt32).toInt32)), .val (.int ((p4.toUInt32 >>> ((10 : Int32) &&& 31).toUInt32).toInt32)), .val (.ref r_o_123), .val (.ref r_o_139), .val (.ref b154), .val (.ref b183), .val (.int (p5 &&& (3 : Int32))), .val (.int (1 : Int32))] [(.int (own_v1_f p0 p1 p2 p3 (((((p4.toUInt32 >>> ((4 : Int32) &&& 31).toUInt32).toInt32).toUInt32 >>> ((2 : Int32) &&& 31).toUInt32).toInt32) &&& (3 : Int32))))])) _
                  refine XS.iloadN X402.here hx rfl (hb hby at_283) rfl ?_
                  show Steps p.tables e below (T402.setTop (mkF m 284 #[.val (.int p0), .val (.int p1), .val (.int p2), .val (.int p3), .val (.int p4), .val (.int p5), .val (.ref b3), .val (.ref b52), .val (.int (p4 &&& (3 : Int32))), .val (.int (((p4.toUInt32 >>> ((2 : Int32) &&& 31).toUInt32).toInt32) &&& (3 : Int32))), .val (.int ((p4.toUInt32 >>> ((4 : Int32) &&& 31).toUInt32).toInt32)), .val (.int ((p4.toUInt32 >>> ((10 : Int32) &&& 31).toUInt32).toInt32)), .val (.ref r_o_123), .val (.ref r_o_139), .val (.ref b154), .val (.ref b183), .val (.int (p5 &&& (3 : Int32))), .val (.int (1 : Int32))] [(.int p0), (.int (own_v1_f p0 p1 p2 p3 (((((p4.toUInt32 >>> ((4 : Int32) &&& 31).toUInt32).toInt32).toUInt32 >>> ((2 : Int32) &&& 31).toUInt32).toInt32) &&& (3 : Int32))))])) _
                  refine XS.iloadN X402.here hx rfl (hb hby at_284) rfl ?_
                  show Steps p.tables e below (T402.setTop (mkF m 285 #[.val (.int p0), .val (.int p1), .val (.int p2), .val (.int p3), .val (.int p4), .val (.int p5), .val (.ref b3), .val (.ref b52), .val (.int (p4 &&& (3 : Int32))), .val (.int (((p4.toUInt32 >>> ((2 : Int32) &&& 31).toUInt32).toInt32) &&& (3 : Int32))), .val (.int ((p4.toUInt32 >>> ((4 : Int32) &&& 31).toUInt32).toInt32)), .val (.int ((p4.toUInt32 >>> ((10 : Int32) &&& 31).toUInt32).toInt32)), .val (.ref r_o_123), .val (.ref r_o_139), .val (.ref b154), .val (.ref b183), .val (.int (p5 &&& (3 : Int32))), .val (.int (1 : Int32))] [(.int p1), (.int p0), (.int (own_v1_f p0 p1 p2 p3 (((((p4.toUInt32 >>> ((4 : Int32) &&& 31).toUInt32).toInt32).toUInt32 >>> ((2 : Int32) &&& 31).toUInt32).toInt32) &&& (3 : Int32))))])) _
                  refine XS.iloadN X402.here hx rfl (hb hby at_285) rfl ?_
                  show Steps p.tables e below (T402.setTop (mkF m 286 #[.val (.int p0), .val (.int p1), .val (.int p2), .val (.int p3), .val (.int p4), .val (.int p5), .val (.ref b3), .val (.ref b52), .val (.int (p4 &&& (3 : Int32))), .val (.int (((p4.toUInt32 >>> ((2 : Int32) &&& 31).toUInt32).toInt32) &&& (3 : Int32))), .val (.int ((p4.toUInt32 >>> ((4 : Int32) &&& 31).toUInt32).toInt32)), .val (.int ((p4.toUInt32 >>> ((10 : Int32) &&& 31).toUInt32).toInt32)), .val (.ref r_o_123), .val (.ref r_o_139), .val (.ref b154), .val (.ref b183), .val (.int (p5 &&& (3 : Int32))), .val (.int (1 : Int32))] [(.int p2), (.int p1), (.int p0), (.int (own_v1_f p0 p1 p2 p3 (((((p4.toUInt32 >>> ((4 : Int32) &&& 31).toUInt32).toInt32).toUInt32 >>> ((2 : Int32) &&& 31).toUInt32).toInt32) &&& (3 : Int32))))])) _
                  refine XS.iloadN X402.here hx rfl (hb hby at_286) rfl ?_
                  show Steps p.tables e below (T402.setTop (mkF m 287 #[.val (.int p0), .val (.int p1), .val (.int p2), .val (.int p3), .val (.int p4), .val (.int p5), .val (.ref b3), .val (.ref b52), .val (.int (p4 &&& (3 : Int32))), .val (.int (((p4.toUInt32 >>> ((2 : Int32) &&& 31).toUInt32).toInt32) &&& (3 : Int32))), .val (.int ((p4.toUInt32 >>> ((4 : Int32) &&& 31).toUInt32).toInt32)), .val (.int ((p4.toUInt32 >>> ((10 : Int32) &&& 31).toUInt32).toInt32)), .val (.ref r_o_123), .val (.ref r_o_139), .val (.ref b154), .val (.ref b183), .val (.int (p5 &&& (3 : Int32))), .val (.int (1 : Int32))] [(.int p3), (.int p2), (.int p1), (.int p0), (.int (own_v1_f p0 p1 p2 p3 (((((p4.toUInt32 >>> ((4 : Int32) &&& 31).toUInt32).toInt32).toUInt32 >>> ((2 : Int32) &&& 31).toUInt32).toInt32) &&& (3 : Int32))))])) _
                  refine XS.iload X402.here hx rfl (hb hby at_287) rfl ?_
                  show Steps p.tables e below (T402.setTop (mkF m 289 #[.val (.int p0), .val (.int p1), .val (.int p2), .val (.int p3), .val (.int p4), .val (.int p5), .val (.ref b3), .val (.ref b52), .val (.int (p4 &&& (3 : Int32))), .val (.int (((p4.toUInt32 >>> ((2 : Int32) &&& 31).toUInt32).toInt32) &&& (3 : Int32))), .val (.int ((p4.toUInt32 >>> ((4 : Int32) &&& 31).toUInt32).toInt32)), .val (.int ((p4.toUInt32 >>> ((10 : Int32) &&& 31).toUInt32).toInt32)), .val (.ref r_o_123), .val (.ref r_o_139), .val (.ref b154), .val (.ref b183), .val (.int (p5 &&& (3 : Int32))), .val (.int (1 : Int32))] [(.int ((p4.toUInt32 >>> ((10 : Int32) &&& 31).toUInt32).toInt32)), (.int p3), (.int p2), (.int p1), (.int p0), (.int (own_v1_f p0 p1 p2 p3 (((((p4.toUInt32 >>> ((4 : Int32) &&& 31).toUInt32).toInt32).toUInt32 >>> ((2 : Int32) &&& 31).toUInt32).toInt32) &&& (3 : Int32))))])) _
                  refine XS.iconst X402.here hx rfl (hb hby at_289) ?_
                  show Steps p.tables e below (T402.setTop (mkF m 290 #[.val (.int p0), .val (.int p1), .val (.int p2), .val (.int p3), .val (.int p4), .val (.int p5), .val (.ref b3), .val (.ref b52), .val (.int (p4 &&& (3 : Int32))), .val (.int (((p4.toUInt32 >>> ((2 : Int32) &&& 31).toUInt32).toInt32) &&& (3 : Int32))), .val (.int ((p4.toUInt32 >>> ((4 : Int32) &&& 31).toUInt32).toInt32)), .val (.int ((p4.toUInt32 >>> ((10 : Int32) &&& 31).toUInt32).toInt32)), .val (.ref r_o_123), .val (.ref r_o_139), .val (.ref b154), .val (.ref b183), .val (.int (p5 &&& (3 : Int32))), .val (.int (1 : Int32))] [(.int (2 : Int32)), (.int ((p4.toUInt32 >>> ((10 : Int32) &&& 31).toUInt32).toInt32)), (.int p3), (.int p2), (.int p1), (.int p0), (.int (own_v1_f p0 p1 p2 p3 (((((p4.toUInt32 >>> ((4 : Int32) &&& 31).toUInt32).toInt32).toUInt32 >>> ((2 : Int32) &&& 31).toUInt32).toInt32) &&& (3 : Int32))))])) _
                  refine XS.iushr X402.here hx rfl (hb hby at_290) rfl ?_
                  show Steps p.tables e below (T402.setTop (mkF m 291 #[.val (.int p0), .val (.int p1), .val (.int p2), .val (.int p3), .val (.int p4), .val (.int p5), .val (.ref b3), .val (.ref b52), .val (.int (p4 &&& (3 : Int32))), .val (.int (((p4.toUInt32 >>> ((2 : Int32) &&& 31).toUInt32).toInt32) &&& (3 : Int32))), .val (.int ((p4.toUInt32 >>> ((4 : Int32) &&& 31).toUInt32).toInt32)), .val (.int ((p4.toUInt32 >>> ((10 : Int32) &&& 31).toUInt32).toInt32)), .val (.ref r_o_123), .val (.ref r_o_139), .val (.ref b154), .val (.ref b183), .val (.int (p5 &&& (3 : Int32))), .val (.int (1 : Int32))] [(.int ((((p4.toUInt32 >>> ((10 : Int32) &&& 31).toUInt32).toInt32).toUInt32 >>> ((2 : Int32) &&& 31).toUInt32).toInt32)), (.int p3), (.int p2), (.int p1), (.int p0), (.int (own_v1_f p0 p1 p2 p3 (((((p4.toUInt32 >>> ((4 : Int32) &&& 31).toUInt32).toInt32).toUInt32 >>> ((2 : Int32) &&& 31).toUInt32).toInt32) &&& (3 : Int32))))])) _
                  refine XS.iconst X402.here hx rfl (hb hby at_291) ?_
                  show Steps p.tables e below (T402.setTop (mkF m 292 #[.val (.int p0), .val (.int p1), .val (.int p2), .val (.int p3), .val (.int p4), .val (.int p5), .val (.ref b3), .val (.ref b52), .val (.int (p4 &&& (3 : Int32))), .val (.int (((p4.toUInt32 >>> ((2 : Int32) &&& 31).toUInt32).toInt32) &&& (3 : Int32))), .val (.int ((p4.toUInt32 >>> ((4 : Int32) &&& 31).toUInt32).toInt32)), .val (.int ((p4.toUInt32 >>> ((10 : Int32) &&& 31).toUInt32).toInt32)), .val (.ref r_o_123), .val (.ref r_o_139), .val (.ref b154), .val (.ref b183), .val (.int (p5 &&& (3 : Int32))), .val (.int (1 : Int32))] [(.int (3 : Int32)), (.int ((((p4.toUInt32 >>> ((10 : Int32) &&& 31).toUInt32).toInt32).toUInt32 >>> ((2 : Int32) &&& 31).toUInt32).toInt32)), (.int p3), (.int p2), (.int p1), (.int p0), (.int (own_v1_f p0 p1 p2 p3 (((((p4.toUInt32 >>> ((4 : Int32) &&& 31).toUInt32).toInt32).toUInt32 >>> ((2 : Int32) &&& 31).toUInt32).toInt32) &&& (3 : Int32))))])) _
                  refine XS.iand X402.here hx rfl (hb hby at_292) rfl ?_
                  show Steps p.tables e below (T402.setTop (mkF m 293 #[.val (.int p0), .val (.int p1), .val (.int p2), .val (.int p3), .val (.int p4), .val (.int p5), .val (.ref b3), .val (.ref b52), .val (.int (p4 &&& (3 : Int32))), .val (.int (((p4.toUInt32 >>> ((2 : Int32) &&& 31).toUInt32).toInt32) &&& (3 : Int32))), .val (.int ((p4.toUInt32 >>> ((4 : Int32) &&& 31).toUInt32).toInt32)), .val (.int ((p4.toUInt32 >>> ((10 : Int32) &&& 31).toUInt32).toInt32)), .val (.ref r_o_123), .val (.ref r_o_139), .val (.ref b154), .val (.ref b183), .val (.int (p5 &&& (3 : Int32))), .val (.int (1 : Int32))] [(.int (((((p4.toUInt32 >>> ((10 : Int32) &&& 31).toUInt32).toInt32).toUInt32 >>> ((2 : Int32) &&& 31).toUInt32).toInt32) &&& (3 : Int32))), (.int p3), (.int p2), (.int p1), (.int p0), (.int (own_v1_f p0 p1 p2 p3 (((((p4.toUInt32 >>> ((4 : Int32) &&& 31).toUInt32).toInt32).toUInt32 >>> ((2 : Int32) &&& 31).toUInt32).toInt32) &&& (3 : Int32))))])) _
                  refine st414 _ ?_
                  exact kt
                by_cases hc296_418 : (own_v1_f p0 p1 p2 p3 (((((p4.toUInt32 >>> ((4 : Int32) &&& 31).toUInt32).toInt32).toUInt32 >>> ((2 : Int32) &&& 31).toUInt32).toInt32) &&& (3 : Int32))) = (own_v2_f p0 p1 p2 p3 (((((p4.toUInt32 >>> ((10 : Int32) &&& 31).toUInt32).toInt32).toUInt32 >>> ((2 : Int32) &&& 31).toUInt32).toInt32) &&& (3 : Int32)))
                · have pre427 : ∀ t, Steps p.tables e below (T414.setTop (mkF m 314 #[.val (.int p0), .val (.int p1), .val (.int p2), .val (.int p3), .val (.int p4), .val (.int p5), .val (.ref b3), .val (.ref b52), .val (.int (p4 &&& (3 : Int32))), .val (.int (((p4.toUInt32 >>> ((2 : Int32) &&& 31).toUInt32).toInt32) &&& (3 : Int32))), .val (.int ((p4.toUInt32 >>> ((4 : Int32) &&& 31).toUInt32).toInt32)), .val (.int ((p4.toUInt32 >>> ((10 : Int32) &&& 31).toUInt32).toInt32)), .val (.ref r_o_123), .val (.ref r_o_139), .val (.ref b154), .val (.ref b183), .val (.int (p5 &&& (3 : Int32))), .val (.int (1 : Int32))] [(.int (3 : Int32)), (.int (p4 &&& (3 : Int32)))])) t → Steps p.tables e below (s₁.setTop (entryFrame m #[(.int p0), (.int p1), (.int p2), (.int p3), (.int p4), (.int p5)] maxLocals)) t := by
                    intro t kt
                    refine pre417 _ ?_
                    show Steps p.tables e below (T414.setTop (mkF m 296 #[.val (.int p0), .val (.int p1), .val (.int p2), .val (.int p3), .val (.int p4), .val (.int p5), .val (.ref b3), .val (.ref b52), .val (.int (p4 &&& (3 : Int32))), .val (.int (((p4.toUInt32 >>> ((2 : Int32) &&& 31).toUInt32).toInt32) &&& (3 : Int32))), .val (.int ((p4.toUInt32 >>> ((4 : Int32) &&& 31).toUInt32).toInt32)), .val (.int ((p4.toUInt32 >>> ((10 : Int32) &&& 31).toUInt32).toInt32)), .val (.ref r_o_123), .val (.ref r_o_139), .val (.ref b154), .val (.ref b183), .val (.int (p5 &&& (3 : Int32))), .val (.int (1 : Int32))] [(.int (own_v2_f p0 p1 p2 p3 (((((p4.toUInt32 >>> ((10 : Int32) &&& 31).toUInt32).toInt32).toUInt32 >>> ((2 : Int32) &&& 31).toUInt32).toInt32) &&& (3 : Int32)))), (.int (own_v1_f p0 p1 p2 p3 (((((p4.toUInt32 >>> ((4 : Int32) &&& 31).toUInt32).toInt32).toUInt32 >>> ((2 : Int32) &&& 31).toUInt32).toInt32) &&& (3 : Int32))))])) _
                    refine XS.icmpNo X414.here hx rfl (hb hby at_296) rfl (teq hc296_418).2 ?_
                    show Steps p.tables e below (T414.setTop (mkF m 299 #[.val (.int p0), .val (.int p1), .val (.int p2), .val (.int p3), .val (.int p4), .val (.int p5), .val (.ref b3), .val (.ref b52), .val (.int (p4 &&& (3 : Int32))), .val (.int (((p4.toUInt32 >>> ((2 : Int32) &&& 31).toUInt32).toInt32) &&& (3 : Int32))), .val (.int ((p4.toUInt32 >>> ((4 : Int32) &&& 31).toUInt32).toInt32)), .val (.int ((p4.toUInt32 >>> ((10 : Int32) &&& 31).toUInt32).toInt32)), .val (.ref r_o_123), .val (.ref r_o_139), .val (.ref b154), .val (.ref b183), .val (.int (p5 &&& (3 : Int32))), .val (.int (1 : Int32))] [])) _
                    refine XS.iconst X414.here hx rfl (hb hby at_299) ?_
                    show Steps p.tables e below (T414.setTop (mkF m 300 #[.val (.int p0), .val (.int p1), .val (.int p2), .val (.int p3), .val (.int p4), .val (.int p5), .val (.ref b3), .val (.ref b52), .val (.int (p4 &&& (3 : Int32))), .val (.int (((p4.toUInt32 >>> ((2 : Int32) &&& 31).toUInt32).toInt32) &&& (3 : Int32))), .val (.int ((p4.toUInt32 >>> ((4 : Int32) &&& 31).toUInt32).toInt32)), .val (.int ((p4.toUInt32 >>> ((10 : Int32) &&& 31).toUInt32).toInt32)), .val (.ref r_o_123), .val (.ref r_o_139), .val (.ref b154), .val (.ref b183), .val (.int (p5 &&& (3 : Int32))), .val (.int (1 : Int32))] [(.int (1 : Int32))])) _
                    refine XS.goto X414.here hx rfl (pc0 := 300) (pc' := 304) rfl (hb hby at_300) (by decide) (by decide) ?_
                    show Steps p.tables e below (T414.setTop (mkF m 304 #[.val (.int p0), .val (.int p1), .val (.int p2), .val (.int p3), .val (.int p4), .val (.int p5), .val (.ref b3), .val (.ref b52), .val (.int (p4 &&& (3 : Int32))), .val (.int (((p4.toUInt32 >>> ((2 : Int32) &&& 31).toUInt32).toInt32) &&& (3 : Int32))), .val (.int ((p4.toUInt32 >>> ((4 : Int32) &&& 31).toUInt32).toInt32)), .val (.int ((p4.toUInt32 >>> ((10 : Int32) &&& 31).toUInt32).toInt32)), .val (.ref r_o_123), .val (.ref r_o_139), .val (.ref b154), .val (.ref b183), .val (.int (p5 &&& (3 : Int32))), .val (.int (1 : Int32))] [(.int (1 : Int32))])) _
                    refine XS.istore X414.here hx rfl (hb hby at_304) rfl (l' := #[.val (.int p0), .val (.int p1), .val (.int p2), .val (.int p3), .val (.int p4), .val (.int p5), .val (.ref b3), .val (.ref b52), .val (.int (p4 &&& (3 : Int32))), .val (.int (((p4.toUInt32 >>> ((2 : Int32) &&& 31).toUInt32).toInt32) &&& (3 : Int32))), .val (.int ((p4.toUInt32 >>> ((4 : Int32) &&& 31).toUInt32).toInt32)), .val (.int ((p4.toUInt32 >>> ((10 : Int32) &&& 31).toUInt32).toInt32)), .val (.ref r_o_123), .val (.ref r_o_139), .val (.ref b154), .val (.ref b183), .val (.int (p5 &&& (3 : Int32))), .val (.int (1 : Int32))]) rfl ?_
                    show Steps p.tables e below (T414.setTop (mkF m 306 #[.val (.int p0), .val (.int p1), .val (.int p2), .val (.int p3), .val (.int p4), .val (.int p5), .val (.ref b3), .val (.ref b52), .val (.int (p4 &&& (3 : Int32))), .val (.int (((p4.toUInt32 >>> ((2 : Int32) &&& 31).toUInt32).toInt32) &&& (3 : Int32))), .val (.int ((p4.toUInt32 >>> ((4 : Int32) &&& 31).toUInt32).toInt32)), .val (.int ((p4.toUInt32 >>> ((10 : Int32) &&& 31).toUInt32).toInt32)), .val (.ref r_o_123), .val (.ref r_o_139), .val (.ref b154), .val (.ref b183), .val (.int (p5 &&& (3 : Int32))), .val (.int (1 : Int32))] [])) _
                    refine XS.iload X414.here hx rfl (hb hby at_306) rfl ?_
                    show Steps p.tables e below (T414.setTop (mkF m 308 #[.val (.int p0), .val (.int p1), .val (.int p2), .val (.int p3), .val (.int p4), .val (.int p5), .val (.ref b3), .val (.ref b52), .val (.int (p4 &&& (3 : Int32))), .val (.int (((p4.toUInt32 >>> ((2 : Int32) &&& 31).toUInt32).toInt32) &&& (3 : Int32))), .val (.int ((p4.toUInt32 >>> ((4 : Int32) &&& 31).toUInt32).toInt32)), .val (.int ((p4.toUInt32 >>> ((10 : Int32) &&& 31).toUInt32).toInt32)), .val (.ref r_o_123), .val (.ref r_o_139), .val (.ref b154), .val (.ref b183), .val (.int (p5 &&& (3 : Int32))), .val (.int (1 : Int32))] [(.int (1 : Int32))])) _
                    refine XS.ifNo X414.here hx rfl (hb hby at_308) rfl ((if0 _ _).trans (feq ((by decide) : ¬ ((1 : Int32) = (0 : Int32)))).1) ?_
                    show Steps p.tables e below (T414.setTop (mkF m 311 #[.val (.int p0), .val (.int p1), .val (.int p2), .val (.int p3), .val (.int p4), .val (.int p5), .val (.ref b3), .val (.ref b52), .val (.int (p4 &&& (3 : Int32))), .val (.int (((p4.toUInt32 >>> ((2 : Int32) &&& 31).toUInt32).toInt32) &&& (3 : Int32))), .val (.int ((p4.toUInt32 >>> ((4 : Int32) &&& 31).toUInt32).toInt32)), .val (.int ((p4.toUInt32 >>> ((10 : Int32) &&& 31).toUInt32).toInt32)), .val (.ref r_o_123), .val (.ref r_o_139), .val (.ref b154), .val (.ref b183), .val (.int (p5 &&& (3 : Int32))), .val (.int (1 : Int32))] [])) _
                    refine XS.iload X414.here hx rfl (hb hby at_311) rfl ?_
                    show Steps p.tables e below (T414.setTop (mkF m 313 #[.val (.int p0), .val (.int p1), .val (.int p2), .val (.int p3), .val (.int p4), .val (.int p5), .val (.ref b3), .val (.ref b52), .val (.int (p4 &&& (3 : Int32))), .val (.int (((p4.toUInt32 >>> ((2 : Int32) &&& 31).toUInt32).toInt32) &&& (3 : Int32))), .val (.int ((p4.toUInt32 >>> ((4 : Int32) &&& 31).toUInt32).toInt32)), .val (.int ((p4.toUInt32 >>> ((10 : Int32) &&& 31).toUInt32).toInt32)), .val (.ref r_o_123), .val (.ref r_o_139), .val (.ref b154), .val (.ref b183), .val (.int (p5 &&& (3 : Int32))), .val (.int (1 : Int32))] [(.int (p4 &&& (3 : Int32)))])) _
                    refine XS.iconst X414.here hx rfl (hb hby at_313) ?_
                    exact kt
                  by_cases hc314_428 : (p4 &&& (3 : Int32)) < (3 : Int32)
                  · have Fq433 : Fld Z T206.heap b154 "com/example/fovea/fovea/Memory$Key" "entry" "[I" (.ref b3) := ((Pf175_1.ext E183).keep K206 (ninS Ne194 nin0))
                    have Fq434 : Fld Z T206.heap b154 "com/example/fovea/fovea/Memory$Key" "slots" "[I" (.ref r_o_123) := ((Pf175_2.ext E183).keep K206 (ninS Ne194 nin0))
                    have Fq435 : Arv Z T206.heap b3 k3 .int (4 : Int32) [(.int p0), (.int p1), (.int p2), (.int p3)] (.int (0 : Int32)) := (((Fq176.keep K175 (ninS Ne157 nin0)).ext E183).keep K206 (ninS Ne186 nin0))
                    have Fq436 : Arv Z T206.heap r_o_123 k_r_123 .int (p4 &&& (3 : Int32)) [(.int (((p4.toUInt32 >>> ((4 : Int32) &&& 31).toUInt32).toInt32) &&& (3 : Int32))), (.int (((((p4.toUInt32 >>> ((4 : Int32) &&& 31).toUInt32).toInt32).toUInt32 >>> ((2 : Int32) &&& 31).toUInt32).toInt32) &&& (3 : Int32))), (.int (((((p4.toUInt32 >>> ((4 : Int32) &&& 31).toUInt32).toInt32).toUInt32 >>> ((4 : Int32) &&& 31).toUInt32).toInt32) &&& (3 : Int32)))] (.int (0 : Int32)) := ((Fq191.ext E183).keep K206 (ninS Ne190 nin0))
                    have Fq437 : Arv Z T206.heap b52 k52 .int (4 : Int32) [(.int p1), (.int p0), (.int p3), (.int p2)] (.int (0 : Int32)) := (Fq207.keep K206 (ninS Ne188 nin0))
                    have Fq438 : Arv Z T206.heap r_o_139 k_r_139 .int (((p4.toUInt32 >>> ((2 : Int32) &&& 31).toUInt32).toInt32) &&& (3 : Int32)) [(.int (((p4.toUInt32 >>> ((10 : Int32) &&& 31).toUInt32).toInt32) &&& (3 : Int32))), (.int (((((p4.toUInt32 >>> ((10 : Int32) &&& 31).toUInt32).toInt32).toUInt32 >>> ((2 : Int32) &&& 31).toUInt32).toInt32) &&& (3 : Int32))), (.int (((((p4.toUInt32 >>> ((10 : Int32) &&& 31).toUInt32).toInt32).toUInt32 >>> ((4 : Int32) &&& 31).toUInt32).toInt32) &&& (3 : Int32)))] (.int (0 : Int32)) := (Fq208.keep K206 (ninS Ne192 nin0))
                    have Fq439 : Exa Z T206.heap b154 "com/example/fovea/fovea/Memory$Key" := ((Pf175_0.ext E183).keep K206)
                    obtain ⟨cq432, kq432, q432a, q432b, q432c⟩ := isOf hZ eh414 Fq439
                    obtain ⟨_, _, ⟨T432, L432, k432, n432⟩, -, X432, ⟨Lc432, hQ432, l432, y432, z432⟩, st432⟩ := X414.virtualBack hx (y := (⟨"com/example/fovea/fovea/Memory$Key", "equals", "(Ljava/lang/Object;)Z"⟩ : MethodName)) (z := (⟨"com/example/fovea/fovea/Memory$Key", "equals", "(Ljava/lang/Object;)Z"⟩ : MethodName)) hown (mvT hZ (hw _ (List.mem_of_getElem? (i := 25) rfl))) (mvT hZ (hw _ (List.mem_of_getElem? (i := 26) rfl))) (notFace_of_selects (args := #[]) (mvT hZ (hw _ (List.mem_of_getElem? (i := 28) rfl)))) (mvT hZ (hw _ (List.mem_of_getElem? (i := 28) rfl))) (mvT hZ (hw _ (List.mem_of_getElem? (i := 27) rfl))) (by decide) (backOf (W := 0) (own_eq l Z a0 hw [] b154 b183 b3 r_o_123 b52 r_o_139 k3 k_r_123 k52 k_r_139 (p4 &&& (3 : Int32)) (((p4.toUInt32 >>> ((2 : Int32) &&& 31).toUInt32).toInt32) &&& (3 : Int32)) p0 p1 p2 p3 (((p4.toUInt32 >>> ((4 : Int32) &&& 31).toUInt32).toInt32) &&& (3 : Int32)) (((((p4.toUInt32 >>> ((4 : Int32) &&& 31).toUInt32).toInt32).toUInt32 >>> ((2 : Int32) &&& 31).toUInt32).toInt32) &&& (3 : Int32)) (((((p4.toUInt32 >>> ((4 : Int32) &&& 31).toUInt32).toInt32).toUInt32 >>> ((4 : Int32) &&& 31).toUInt32).toInt32) &&& (3 : Int32)) p1 p0 p3 p2 (((p4.toUInt32 >>> ((10 : Int32) &&& 31).toUInt32).toInt32) &&& (3 : Int32)) (((((p4.toUInt32 >>> ((10 : Int32) &&& 31).toUInt32).toInt32).toUInt32 >>> ((2 : Int32) &&& 31).toUInt32).toInt32) &&& (3 : Int32)) (((((p4.toUInt32 >>> ((10 : Int32) &&& 31).toUInt32).toInt32).toUInt32 >>> ((4 : Int32) &&& 31).toUInt32).toInt32) &&& (3 : Int32)) T206.heap n0 Zs211 Pf206_0 Fq433 Fq434 Pf206_1 Pf206_2 Fq435 Fq436 Fq437 Fq438 (own_and4 _) (own_and4 _) (own_and4 _) (own_and4 _) (own_and4 _) (own_and4 _) (own_and3 _).2) hZ (hw _ (List.mem_of_getElem? (i := 29) rfl)) (hw _ (List.mem_of_getElem? (i := 7) rfl)) (by decide) (by decide)) q432a q432c (g := (mkF m 357 #[.val (.int p0), .val (.int p1), .val (.int p2), .val (.int p3), .val (.int p4), .val (.int p5), .val (.ref b3), .val (.ref b52), .val (.int (p4 &&& (3 : Int32))), .val (.int (((p4.toUInt32 >>> ((2 : Int32) &&& 31).toUInt32).toInt32) &&& (3 : Int32))), .val (.int ((p4.toUInt32 >>> ((4 : Int32) &&& 31).toUInt32).toInt32)), .val (.int ((p4.toUInt32 >>> ((10 : Int32) &&& 31).toUInt32).toInt32)), .val (.ref r_o_123), .val (.ref r_o_139), .val (.ref b154), .val (.ref b183), .val (.int (p5 &&& (3 : Int32))), .val (.int (1 : Int32))] [(.ref b183), (.ref b154)])) rfl (by rw [hml]; rfl) (Steps.refl _) (argsL := [(.ref b183)]) (rest := []) (lenOf own_pd5 rfl) rfl (by show 2 * 0 + _ ≤ _; exact Nat.le_of_eq rfl) (hb hby at_357) (fun _ _ => ⟨rfl, eh414, (by decide : 6 + 0 ≤ _), (by decide : 24 + 0 ≤ _)⟩)
                    dsimp only [Pt.U, Pt.locs, Pt.cells, Pt.slots] at X432 l432 y432 z432 st432 hQ432
                    rw [l432, y432, z432] at X432
                    obtain ⟨rfl, Nq432, eh432⟩ := hQ432
                    have N440 := Fr.app N415 Nq432
                    obtain ⟨cq446, kq446, q446a, q446b, q446c⟩ := isOf hZ eh432 Pf206_0
                    obtain ⟨_, _, ⟨T446, L446, k446, n446⟩, -, X446, ⟨Lc446, hQ446, l446, y446, z446⟩, st446⟩ := X432.virtualBack hx (y := (⟨"com/example/fovea/fovea/Memory$Key", "equals", "(Ljava/lang/Object;)Z"⟩ : MethodName)) (z := (⟨"com/example/fovea/fovea/Memory$Key", "equals", "(Ljava/lang/Object;)Z"⟩ : MethodName)) hown (mvT hZ (hw _ (List.mem_of_getElem? (i := 25) rfl))) (mvT hZ (hw _ (List.mem_of_getElem? (i := 26) rfl))) (notFace_of_selects (args := #[]) (mvT hZ (hw _ (List.mem_of_getElem? (i := 28) rfl)))) (mvT hZ (hw _ (List.mem_of_getElem? (i := 28) rfl))) (mvT hZ (hw _ (List.mem_of_getElem? (i := 27) rfl))) (by decide) (backOf (W := 0) (own_eq l Z a0 hw [] b183 b154 b52 r_o_139 b3 r_o_123 k52 k_r_139 k3 k_r_123 (((p4.toUInt32 >>> ((2 : Int32) &&& 31).toUInt32).toInt32) &&& (3 : Int32)) (p4 &&& (3 : Int32)) p1 p0 p3 p2 (((p4.toUInt32 >>> ((10 : Int32) &&& 31).toUInt32).toInt32) &&& (3 : Int32)) (((((p4.toUInt32 >>> ((10 : Int32) &&& 31).toUInt32).toInt32).toUInt32 >>> ((2 : Int32) &&& 31).toUInt32).toInt32) &&& (3 : Int32)) (((((p4.toUInt32 >>> ((10 : Int32) &&& 31).toUInt32).toInt32).toUInt32 >>> ((4 : Int32) &&& 31).toUInt32).toInt32) &&& (3 : Int32)) p0 p1 p2 p3 (((p4.toUInt32 >>> ((4 : Int32) &&& 31).toUInt32).toInt32) &&& (3 : Int32)) (((((p4.toUInt32 >>> ((4 : Int32) &&& 31).toUInt32).toInt32).toUInt32 >>> ((2 : Int32) &&& 31).toUInt32).toInt32) &&& (3 : Int32)) (((((p4.toUInt32 >>> ((4 : Int32) &&& 31).toUInt32).toInt32).toUInt32 >>> ((4 : Int32) &&& 31).toUInt32).toInt32) &&& (3 : Int32)) T206.heap n0 Zs211 Fq439 Pf206_1 Pf206_2 Fq433 Fq434 Fq437 Fq438 Fq435 Fq436 (own_and4 _) (own_and4 _) (own_and4 _) (own_and4 _) (own_and4 _) (own_and4 _) (own_and3 _).2) hZ (hw _ (List.mem_of_getElem? (i := 29) rfl)) (hw _ (List.mem_of_getElem? (i := 7) rfl)) (by decide) (by decide)) q446a q446c (g := (mkF m 369 #[.val (.int p0), .val (.int p1), .val (.int p2), .val (.int p3), .val (.int p4), .val (.int p5), .val (.ref b3), .val (.ref b52), .val (.int (p4 &&& (3 : Int32))), .val (.int (((p4.toUInt32 >>> ((2 : Int32) &&& 31).toUInt32).toInt32) &&& (3 : Int32))), .val (.int ((p4.toUInt32 >>> ((4 : Int32) &&& 31).toUInt32).toInt32)), .val (.int ((p4.toUInt32 >>> ((10 : Int32) &&& 31).toUInt32).toInt32)), .val (.ref r_o_123), .val (.ref r_o_139), .val (.ref b154), .val (.ref b183), .val (.int (p5 &&& (3 : Int32))), .val (.int (1 : Int32))] [(.ref b154), (.ref b183)])) rfl (by rw [hml]; rfl) (Steps.refl _) (argsL := [(.ref b154)]) (rest := []) (lenOf own_pd5 rfl) rfl (by show 2 * 0 + _ ≤ _; exact Nat.le_of_eq rfl) (hb hby at_369) (fun _ _ => ⟨rfl, eh432, (by decide : 6 + 0 ≤ _), (by decide : 24 + 0 ≤ _)⟩)
                    dsimp only [Pt.U, Pt.locs, Pt.cells, Pt.slots] at X446 l446 y446 z446 st446 hQ446
                    rw [l446, y446, z446] at X446
                    obtain ⟨rfl, Nq446, eh446⟩ := hQ446
                    have N447 := Fr.app N440 Nq446
                    obtain ⟨fs, hr, hrun, hended, hW, hsame⟩ := X446.leave (v := some (.int (1 : Int32))) (fun h => by rw [Bd.returns] at h; cases h) (hlocks := BodyLoose.notSynchronized Bd)
                    refine ⟨_, _, pre427 _ ?_, hrun, hended, _, _, rfl, ?_, ⟨_, rfl⟩, hW, hsame.mono (by decide) (by decide)⟩
                    · show Steps p.tables e below (T414.setTop (mkF m 314 #[.val (.int p0), .val (.int p1), .val (.int p2), .val (.int p3), .val (.int p4), .val (.int p5), .val (.ref b3), .val (.ref b52), .val (.int (p4 &&& (3 : Int32))), .val (.int (((p4.toUInt32 >>> ((2 : Int32) &&& 31).toUInt32).toInt32) &&& (3 : Int32))), .val (.int ((p4.toUInt32 >>> ((4 : Int32) &&& 31).toUInt32).toInt32)), .val (.int ((p4.toUInt32 >>> ((10 : Int32) &&& 31).toUInt32).toInt32)), .val (.ref r_o_123), .val (.ref r_o_139), .val (.ref b154), .val (.ref b183), .val (.int (p5 &&& (3 : Int32))), .val (.int (1 : Int32))] [(.int (3 : Int32)), (.int (p4 &&& (3 : Int32)))])) _
                      refine XS.icmpYes X414.here hx rfl (pc0 := 314) (pc' := 353) rfl (hb hby at_314) rfl (tlt hc314_428).1 (by decide) (by decide) ?_
                      show Steps p.tables e below (T414.setTop (mkF m 353 #[.val (.int p0), .val (.int p1), .val (.int p2), .val (.int p3), .val (.int p4), .val (.int p5), .val (.ref b3), .val (.ref b52), .val (.int (p4 &&& (3 : Int32))), .val (.int (((p4.toUInt32 >>> ((2 : Int32) &&& 31).toUInt32).toInt32) &&& (3 : Int32))), .val (.int ((p4.toUInt32 >>> ((4 : Int32) &&& 31).toUInt32).toInt32)), .val (.int ((p4.toUInt32 >>> ((10 : Int32) &&& 31).toUInt32).toInt32)), .val (.ref r_o_123), .val (.ref r_o_139), .val (.ref b154), .val (.ref b183), .val (.int (p5 &&& (3 : Int32))), .val (.int (1 : Int32))] [])) _
                      refine XS.aload X414.here hx rfl (hb hby at_353) rfl rfl ?_
                      show Steps p.tables e below (T414.setTop (mkF m 355 #[.val (.int p0), .val (.int p1), .val (.int p2), .val (.int p3), .val (.int p4), .val (.int p5), .val (.ref b3), .val (.ref b52), .val (.int (p4 &&& (3 : Int32))), .val (.int (((p4.toUInt32 >>> ((2 : Int32) &&& 31).toUInt32).toInt32) &&& (3 : Int32))), .val (.int ((p4.toUInt32 >>> ((4 : Int32) &&& 31).toUInt32).toInt32)), .val (.int ((p4.toUInt32 >>> ((10 : Int32) &&& 31).toUInt32).toInt32)), .val (.ref r_o_123), .val (.ref r_o_139), .val (.ref b154), .val (.ref b183), .val (.int (p5 &&& (3 : Int32))), .val (.int (1 : Int32))] [(.ref b154)])) _
                      refine XS.aload X414.here hx rfl (hb hby at_355) rfl rfl ?_
                      show Steps p.tables e below (T414.setTop (mkF m 357 #[.val (.int p0), .val (.int p1), .val (.int p2), .val (.int p3), .val (.int p4), .val (.int p5), .val (.ref b3), .val (.ref b52), .val (.int (p4 &&& (3 : Int32))), .val (.int (((p4.toUInt32 >>> ((2 : Int32) &&& 31).toUInt32).toInt32) &&& (3 : Int32))), .val (.int ((p4.toUInt32 >>> ((4 : Int32) &&& 31).toUInt32).toInt32)), .val (.int ((p4.toUInt32 >>> ((10 : Int32) &&& 31).toUInt32).toInt32)), .val (.ref r_o_123), .val (.ref r_o_139), .val (.ref b154), .val (.ref b183), .val (.int (p5 &&& (3 : Int32))), .val (.int (1 : Int32))] [(.ref b183), (.ref b154)])) _
                      refine st432.trans ?_
                      show Steps p.tables e below (T432.setTop (mkF m 360 #[.val (.int p0), .val (.int p1), .val (.int p2), .val (.int p3), .val (.int p4), .val (.int p5), .val (.ref b3), .val (.ref b52), .val (.int (p4 &&& (3 : Int32))), .val (.int (((p4.toUInt32 >>> ((2 : Int32) &&& 31).toUInt32).toInt32) &&& (3 : Int32))), .val (.int ((p4.toUInt32 >>> ((4 : Int32) &&& 31).toUInt32).toInt32)), .val (.int ((p4.toUInt32 >>> ((10 : Int32) &&& 31).toUInt32).toInt32)), .val (.ref r_o_123), .val (.ref r_o_139), .val (.ref b154), .val (.ref b183), .val (.int (p5 &&& (3 : Int32))), .val (.int (1 : Int32))] [(.int (own_eq_f (p4 &&& (3 : Int32)) (((p4.toUInt32 >>> ((2 : Int32) &&& 31).toUInt32).toInt32) &&& (3 : Int32)) p0 p1 p2 p3 (((p4.toUInt32 >>> ((4 : Int32) &&& 31).toUInt32).toInt32) &&& (3 : Int32)) (((((p4.toUInt32 >>> ((4 : Int32) &&& 31).toUInt32).toInt32).toUInt32 >>> ((2 : Int32) &&& 31).toUInt32).toInt32) &&& (3 : Int32)) (((((p4.toUInt32 >>> ((4 : Int32) &&& 31).toUInt32).toInt32).toUInt32 >>> ((4 : Int32) &&& 31).toUInt32).toInt32) &&& (3 : Int32)) p1 p0 p3 p2 (((p4.toUInt32 >>> ((10 : Int32) &&& 31).toUInt32).toInt32) &&& (3 : Int32)) (((((p4.toUInt32 >>> ((10 : Int32) &&& 31).toUInt32).toInt32).toUInt32 >>> ((2 : Int32) &&& 31).toUInt32).toInt32) &&& (3 : Int32)) (((((p4.toUInt32 >>> ((10 : Int32) &&& 31).toUInt32).toInt32).toUInt32 >>> ((4 : Int32) &&& 31).toUInt32).toInt32) &&& (3 : Int32))))])) _
                      refine XS.iload X432.here hx rfl (hb hby at_360) rfl ?_
                      show Steps p.tables e below (T432.setTop (mkF m 362 #[.val (.int p0), .val (.int p1), .val (.int p2), .val (.int p3), .val (.int p4), .val (.int p5), .val (.ref b3), .val (.ref b52), .val (.int (p4 &&& (3 : Int32))), .val (.int (((p4.toUInt32 >>> ((2 : Int32) &&& 31).toUInt32).toInt32) &&& (3 : Int32))), .val (.int ((p4.toUInt32 >>> ((4 : Int32) &&& 31).toUInt32).toInt32)), .val (.int ((p4.toUInt32 >>> ((10 : Int32) &&& 31).toUInt32).toInt32)), .val (.ref r_o_123), .val (.ref r_o_139), .val (.ref b154), .val (.ref b183), .val (.int (p5 &&& (3 : Int32))), .val (.int (1 : Int32))] [(.int (1 : Int32)), (.int (own_eq_f (p4 &&& (3 : Int32)) (((p4.toUInt32 >>> ((2 : Int32) &&& 31).toUInt32).toInt32) &&& (3 : Int32)) p0 p1 p2 p3 (((p4.toUInt32 >>> ((4 : Int32) &&& 31).toUInt32).toInt32) &&& (3 : Int32)) (((((p4.toUInt32 >>> ((4 : Int32) &&& 31).toUInt32).toInt32).toUInt32 >>> ((2 : Int32) &&& 31).toUInt32).toInt32) &&& (3 : Int32)) (((((p4.toUInt32 >>> ((4 : Int32) &&& 31).toUInt32).toInt32).toUInt32 >>> ((4 : Int32) &&& 31).toUInt32).toInt32) &&& (3 : Int32)) p1 p0 p3 p2 (((p4.toUInt32 >>> ((10 : Int32) &&& 31).toUInt32).toInt32) &&& (3 : Int32)) (((((p4.toUInt32 >>> ((10 : Int32) &&& 31).toUInt32).toInt32).toUInt32 >>> ((2 : Int32) &&& 31).toUInt32).toInt32) &&& (3 : Int32)) (((((p4.toUInt32 >>> ((10 : Int32) &&& 31).toUInt32).toInt32).toUInt32 >>> ((4 : Int32) &&& 31).toUInt32).toInt32) &&& (3 : Int32))))])) _
                      refine XS.icmpNo X432.here hx rfl (hb hby at_362) rfl (teq (((own_eqE _ _ _ _ _ _ _ _ _ _ _ _ _ _ _ _).trans (own_E5 hc206_285 hc224_295 (own_veq hc249_352) hc267_362 (own_veq hc296_418) hc314_428)) : (own_eq_f (p4 &&& (3 : Int32)) (((p4.toUInt32 >>> ((2 : Int32) &&& 31).toUInt32).toInt32) &&& (3 : Int32)) p0 p1 p2 p3 (((p4.toUInt32 >>> ((4 : Int32) &&& 31).toUInt32).toInt32) &&& (3 : Int32)) (((((p4.toUInt32 >>> ((4 : Int32) &&& 31).toUInt32).toInt32).toUInt32 >>> ((2 : Int32) &&& 31).toUInt32).toInt32) &&& (3 : Int32)) (((((p4.toUInt32 >>> ((4 : Int32) &&& 31).toUInt32).toInt32).toUInt32 >>> ((4 : Int32) &&& 31).toUInt32).toInt32) &&& (3 : Int32)) p1 p0 p3 p2 (((p4.toUInt32 >>> ((10 : Int32) &&& 31).toUInt32).toInt32) &&& (3 : Int32)) (((((p4.toUInt32 >>> ((10 : Int32) &&& 31).toUInt32).toInt32).toUInt32 >>> ((2 : Int32) &&& 31).toUInt32).toInt32) &&& (3 : Int32)) (((((p4.toUInt32 >>> ((10 : Int32) &&& 31).toUInt32).toInt32).toUInt32 >>> ((4 : Int32) &&& 31).toUInt32).toInt32) &&& (3 : Int32))) = (1 : Int32))).2 ?_
                      show Steps p.tables e below (T432.setTop (mkF m 365 #[.val (.int p0), .val (.int p1), .val (.int p2), .val (.int p3), .val (.int p4), .val (.int p5), .val (.ref b3), .val (.ref b52), .val (.int (p4 &&& (3 : Int32))), .val (.int (((p4.toUInt32 >>> ((2 : Int32) &&& 31).toUInt32).toInt32) &&& (3 : Int32))), .val (.int ((p4.toUInt32 >>> ((4 : Int32) &&& 31).toUInt32).toInt32)), .val (.int ((p4.toUInt32 >>> ((10 : Int32) &&& 31).toUInt32).toInt32)), .val (.ref r_o_123), .val (.ref r_o_139), .val (.ref b154), .val (.ref b183), .val (.int (p5 &&& (3 : Int32))), .val (.int (1 : Int32))] [])) _
                      refine XS.aload X432.here hx rfl (hb hby at_365) rfl rfl ?_
                      show Steps p.tables e below (T432.setTop (mkF m 367 #[.val (.int p0), .val (.int p1), .val (.int p2), .val (.int p3), .val (.int p4), .val (.int p5), .val (.ref b3), .val (.ref b52), .val (.int (p4 &&& (3 : Int32))), .val (.int (((p4.toUInt32 >>> ((2 : Int32) &&& 31).toUInt32).toInt32) &&& (3 : Int32))), .val (.int ((p4.toUInt32 >>> ((4 : Int32) &&& 31).toUInt32).toInt32)), .val (.int ((p4.toUInt32 >>> ((10 : Int32) &&& 31).toUInt32).toInt32)), .val (.ref r_o_123), .val (.ref r_o_139), .val (.ref b154), .val (.ref b183), .val (.int (p5 &&& (3 : Int32))), .val (.int (1 : Int32))] [(.ref b183)])) _
                      refine XS.aload X432.here hx rfl (hb hby at_367) rfl rfl ?_
                      show Steps p.tables e below (T432.setTop (mkF m 369 #[.val (.int p0), .val (.int p1), .val (.int p2), .val (.int p3), .val (.int p4), .val (.int p5), .val (.ref b3), .val (.ref b52), .val (.int (p4 &&& (3 : Int32))), .val (.int (((p4.toUInt32 >>> ((2 : Int32) &&& 31).toUInt32).toInt32) &&& (3 : Int32))), .val (.int ((p4.toUInt32 >>> ((4 : Int32) &&& 31).toUInt32).toInt32)), .val (.int ((p4.toUInt32 >>> ((10 : Int32) &&& 31).toUInt32).toInt32)), .val (.ref r_o_123), .val (.ref r_o_139), .val (.ref b154), .val (.ref b183), .val (.int (p5 &&& (3 : Int32))), .val (.int (1 : Int32))] [(.ref b154), (.ref b183)])) _
                      refine st446.trans ?_
                      show Steps p.tables e below (T446.setTop (mkF m 372 #[.val (.int p0), .val (.int p1), .val (.int p2), .val (.int p3), .val (.int p4), .val (.int p5), .val (.ref b3), .val (.ref b52), .val (.int (p4 &&& (3 : Int32))), .val (.int (((p4.toUInt32 >>> ((2 : Int32) &&& 31).toUInt32).toInt32) &&& (3 : Int32))), .val (.int ((p4.toUInt32 >>> ((4 : Int32) &&& 31).toUInt32).toInt32)), .val (.int ((p4.toUInt32 >>> ((10 : Int32) &&& 31).toUInt32).toInt32)), .val (.ref r_o_123), .val (.ref r_o_139), .val (.ref b154), .val (.ref b183), .val (.int (p5 &&& (3 : Int32))), .val (.int (1 : Int32))] [(.int (own_eq_f (((p4.toUInt32 >>> ((2 : Int32) &&& 31).toUInt32).toInt32) &&& (3 : Int32)) (p4 &&& (3 : Int32)) p1 p0 p3 p2 (((p4.toUInt32 >>> ((10 : Int32) &&& 31).toUInt32).toInt32) &&& (3 : Int32)) (((((p4.toUInt32 >>> ((10 : Int32) &&& 31).toUInt32).toInt32).toUInt32 >>> ((2 : Int32) &&& 31).toUInt32).toInt32) &&& (3 : Int32)) (((((p4.toUInt32 >>> ((10 : Int32) &&& 31).toUInt32).toInt32).toUInt32 >>> ((4 : Int32) &&& 31).toUInt32).toInt32) &&& (3 : Int32)) p0 p1 p2 p3 (((p4.toUInt32 >>> ((4 : Int32) &&& 31).toUInt32).toInt32) &&& (3 : Int32)) (((((p4.toUInt32 >>> ((4 : Int32) &&& 31).toUInt32).toInt32).toUInt32 >>> ((2 : Int32) &&& 31).toUInt32).toInt32) &&& (3 : Int32)) (((((p4.toUInt32 >>> ((4 : Int32) &&& 31).toUInt32).toInt32).toUInt32 >>> ((4 : Int32) &&& 31).toUInt32).toInt32) &&& (3 : Int32))))])) _
                      refine XS.iload X446.here hx rfl (hb hby at_372) rfl ?_
                      show Steps p.tables e below (T446.setTop (mkF m 374 #[.val (.int p0), .val (.int p1), .val (.int p2), .val (.int p3), .val (.int p4), .val (.int p5), .val (.ref b3), .val (.ref b52), .val (.int (p4 &&& (3 : Int32))), .val (.int (((p4.toUInt32 >>> ((2 : Int32) &&& 31).toUInt32).toInt32) &&& (3 : Int32))), .val (.int ((p4.toUInt32 >>> ((4 : Int32) &&& 31).toUInt32).toInt32)), .val (.int ((p4.toUInt32 >>> ((10 : Int32) &&& 31).toUInt32).toInt32)), .val (.ref r_o_123), .val (.ref r_o_139), .val (.ref b154), .val (.ref b183), .val (.int (p5 &&& (3 : Int32))), .val (.int (1 : Int32))] [(.int (1 : Int32)), (.int (own_eq_f (((p4.toUInt32 >>> ((2 : Int32) &&& 31).toUInt32).toInt32) &&& (3 : Int32)) (p4 &&& (3 : Int32)) p1 p0 p3 p2 (((p4.toUInt32 >>> ((10 : Int32) &&& 31).toUInt32).toInt32) &&& (3 : Int32)) (((((p4.toUInt32 >>> ((10 : Int32) &&& 31).toUInt32).toInt32).toUInt32 >>> ((2 : Int32) &&& 31).toUInt32).toInt32) &&& (3 : Int32)) (((((p4.toUInt32 >>> ((10 : Int32) &&& 31).toUInt32).toInt32).toUInt32 >>> ((4 : Int32) &&& 31).toUInt32).toInt32) &&& (3 : Int32)) p0 p1 p2 p3 (((p4.toUInt32 >>> ((4 : Int32) &&& 31).toUInt32).toInt32) &&& (3 : Int32)) (((((p4.toUInt32 >>> ((4 : Int32) &&& 31).toUInt32).toInt32).toUInt32 >>> ((2 : Int32) &&& 31).toUInt32).toInt32) &&& (3 : Int32)) (((((p4.toUInt32 >>> ((4 : Int32) &&& 31).toUInt32).toInt32).toUInt32 >>> ((4 : Int32) &&& 31).toUInt32).toInt32) &&& (3 : Int32))))])) _
                      refine XS.icmpNo X446.here hx rfl (hb hby at_374) rfl (teq (((own_eqE _ _ _ _ _ _ _ _ _ _ _ _ _ _ _ _).trans ((own_sym _ _ _ _ _ _ _ _).trans (own_E5 hc206_285 hc224_295 (own_veq hc249_352) hc267_362 (own_veq hc296_418) hc314_428))) : (own_eq_f (((p4.toUInt32 >>> ((2 : Int32) &&& 31).toUInt32).toInt32) &&& (3 : Int32)) (p4 &&& (3 : Int32)) p1 p0 p3 p2 (((p4.toUInt32 >>> ((10 : Int32) &&& 31).toUInt32).toInt32) &&& (3 : Int32)) (((((p4.toUInt32 >>> ((10 : Int32) &&& 31).toUInt32).toInt32).toUInt32 >>> ((2 : Int32) &&& 31).toUInt32).toInt32) &&& (3 : Int32)) (((((p4.toUInt32 >>> ((10 : Int32) &&& 31).toUInt32).toInt32).toUInt32 >>> ((4 : Int32) &&& 31).toUInt32).toInt32) &&& (3 : Int32)) p0 p1 p2 p3 (((p4.toUInt32 >>> ((4 : Int32) &&& 31).toUInt32).toInt32) &&& (3 : Int32)) (((((p4.toUInt32 >>> ((4 : Int32) &&& 31).toUInt32).toInt32).toUInt32 >>> ((2 : Int32) &&& 31).toUInt32).toInt32) &&& (3 : Int32)) (((((p4.toUInt32 >>> ((4 : Int32) &&& 31).toUInt32).toInt32).toUInt32 >>> ((4 : Int32) &&& 31).toUInt32).toInt32) &&& (3 : Int32))) = (1 : Int32))).2 ?_
                      show Steps p.tables e below (T446.setTop (mkF m 377 #[.val (.int p0), .val (.int p1), .val (.int p2), .val (.int p3), .val (.int p4), .val (.int p5), .val (.ref b3), .val (.ref b52), .val (.int (p4 &&& (3 : Int32))), .val (.int (((p4.toUInt32 >>> ((2 : Int32) &&& 31).toUInt32).toInt32) &&& (3 : Int32))), .val (.int ((p4.toUInt32 >>> ((4 : Int32) &&& 31).toUInt32).toInt32)), .val (.int ((p4.toUInt32 >>> ((10 : Int32) &&& 31).toUInt32).toInt32)), .val (.ref r_o_123), .val (.ref r_o_139), .val (.ref b154), .val (.ref b183), .val (.int (p5 &&& (3 : Int32))), .val (.int (1 : Int32))] [])) _
                      refine XS.iconst X446.here hx rfl (hb hby at_377) ?_
                      show Steps p.tables e below (T446.setTop (mkF m 378 #[.val (.int p0), .val (.int p1), .val (.int p2), .val (.int p3), .val (.int p4), .val (.int p5), .val (.ref b3), .val (.ref b52), .val (.int (p4 &&& (3 : Int32))), .val (.int (((p4.toUInt32 >>> ((2 : Int32) &&& 31).toUInt32).toInt32) &&& (3 : Int32))), .val (.int ((p4.toUInt32 >>> ((4 : Int32) &&& 31).toUInt32).toInt32)), .val (.int ((p4.toUInt32 >>> ((10 : Int32) &&& 31).toUInt32).toInt32)), .val (.ref r_o_123), .val (.ref r_o_139), .val (.ref b154), .val (.ref b183), .val (.int (p5 &&& (3 : Int32))), .val (.int (1 : Int32))] [(.int (1 : Int32))])) _
                      refine XS.goto X446.here hx rfl (pc0 := 378) (pc' := 382) rfl (hb hby at_378) (by decide) (by decide) ?_
                      show Steps p.tables e below (T446.setTop (mkF m 382 #[.val (.int p0), .val (.int p1), .val (.int p2), .val (.int p3), .val (.int p4), .val (.int p5), .val (.ref b3), .val (.ref b52), .val (.int (p4 &&& (3 : Int32))), .val (.int (((p4.toUInt32 >>> ((2 : Int32) &&& 31).toUInt32).toInt32) &&& (3 : Int32))), .val (.int ((p4.toUInt32 >>> ((4 : Int32) &&& 31).toUInt32).toInt32)), .val (.int ((p4.toUInt32 >>> ((10 : Int32) &&& 31).toUInt32).toInt32)), .val (.ref r_o_123), .val (.ref r_o_139), .val (.ref b154), .val (.ref b183), .val (.int (p5 &&& (3 : Int32))), .val (.int (1 : Int32))] [(.int (1 : Int32))])) _
                      exact retN X446 hx (t := .boolean) Bd.returns (by simp) (hb hby at_382) hr
                    · show Qown_law Z p0 p1 p2 p3 p4 p5 w_c k_c vs_c h0 n0 _ T446.heap _
                      rw [eh446]
                      exact ⟨rfl, N447⟩
                  · obtain ⟨_, _, ⟨T463, L463, k463, n463⟩, -, X463, ⟨Lc463, hQ463, l463, y463, z463⟩, st463⟩ := Jvm.LawKit.callS X414 hx (y := (⟨"com/example/fovea/fovea/KeyEqualsPinLaw", "v1", "(IIIII)I"⟩ : MethodName)) hown (mvT hZ (hw _ (List.mem_of_getElem? (i := 42) rfl))) (mvT hZ (hw _ (List.mem_of_getElem? (i := 43) rfl))) (mvT hZ (hw _ (List.mem_of_getElem? (i := 3) rfl))) (mvT hZ (hw _ (List.mem_of_getElem? (i := 44) rfl))) (by decide) (backOf (W := 0) (own_v1 l Z a0 hw [] p0 p1 p2 p3 (((((p4.toUInt32 >>> ((4 : Int32) &&& 31).toUInt32).toInt32).toUInt32 >>> ((4 : Int32) &&& 31).toUInt32).toInt32) &&& (3 : Int32)) T206.heap n0 Zs211 ) hZ (hw _ (List.mem_of_getElem? (i := 44) rfl)) (hw _ (List.mem_of_getElem? (i := 3) rfl)) (by decide) (by decide)) (g := (mkF m 327 #[.val (.int p0), .val (.int p1), .val (.int p2), .val (.int p3), .val (.int p4), .val (.int p5), .val (.ref b3), .val (.ref b52), .val (.int (p4 &&& (3 : Int32))), .val (.int (((p4.toUInt32 >>> ((2 : Int32) &&& 31).toUInt32).toInt32) &&& (3 : Int32))), .val (.int ((p4.toUInt32 >>> ((4 : Int32) &&& 31).toUInt32).toInt32)), .val (.int ((p4.toUInt32 >>> ((10 : Int32) &&& 31).toUInt32).toInt32)), .val (.ref r_o_123), .val (.ref r_o_139), .val (.ref b154), .val (.ref b183), .val (.int (p5 &&& (3 : Int32))), .val (.int (1 : Int32))] [(.int (((((p4.toUInt32 >>> ((4 : Int32) &&& 31).toUInt32).toInt32).toUInt32 >>> ((4 : Int32) &&& 31).toUInt32).toInt32) &&& (3 : Int32))), (.int p3), (.int p2), (.int p1), (.int p0)])) rfl (by rw [hml]; rfl) (argsL := [(.int p0), (.int p1), (.int p2), (.int p3), (.int (((((p4.toUInt32 >>> ((4 : Int32) &&& 31).toUInt32).toInt32).toUInt32 >>> ((4 : Int32) &&& 31).toUInt32).toInt32) &&& (3 : Int32)))]) (rest := []) (lenOf own_pd6 rfl) rfl (by show 2 * 0 + _ ≤ _; exact Nat.le_of_eq rfl) (hb hby at_327) (fun _ _ => ⟨rfl, eh414, (by decide : 6 + 0 ≤ _), (by decide : 24 + 0 ≤ _)⟩)
                    dsimp only [Pt.U, Pt.locs, Pt.cells, Pt.slots] at X463 l463 y463 z463 st463 hQ463
                    rw [l463, y463, z463] at X463
                    obtain ⟨rfl, Nq463, eh463⟩ := hQ463
                    have N464 := Fr.app N415 Nq463
                    obtain ⟨_, _, ⟨T475, L475, k475, n475⟩, -, X475, ⟨Lc475, hQ475, l475, y475, z475⟩, st475⟩ := Jvm.LawKit.callS X463 hx (y := (⟨"com/example/fovea/fovea/KeyEqualsPinLaw", "v2", "(IIIII)I"⟩ : MethodName)) hown (mvT hZ (hw _ (List.mem_of_getElem? (i := 45) rfl))) (mvT hZ (hw _ (List.mem_of_getElem? (i := 46) rfl))) (mvT hZ (hw _ (List.mem_of_getElem? (i := 3) rfl))) (mvT hZ (hw _ (List.mem_of_getElem? (i := 47) rfl))) (by decide) (backOf (W := 1) (own_v2 l Z a0 hw [] p0 p1 p2 p3 (((((p4.toUInt32 >>> ((10 : Int32) &&& 31).toUInt32).toInt32).toUInt32 >>> ((4 : Int32) &&& 31).toUInt32).toInt32) &&& (3 : Int32)) T206.heap n0 Zs211 ) hZ (hw _ (List.mem_of_getElem? (i := 47) rfl)) (hw _ (List.mem_of_getElem? (i := 3) rfl)) (by decide) (by decide)) (g := (mkF m 340 #[.val (.int p0), .val (.int p1), .val (.int p2), .val (.int p3), .val (.int p4), .val (.int p5), .val (.ref b3), .val (.ref b52), .val (.int (p4 &&& (3 : Int32))), .val (.int (((p4.toUInt32 >>> ((2 : Int32) &&& 31).toUInt32).toInt32) &&& (3 : Int32))), .val (.int ((p4.toUInt32 >>> ((4 : Int32) &&& 31).toUInt32).toInt32)), .val (.int ((p4.toUInt32 >>> ((10 : Int32) &&& 31).toUInt32).toInt32)), .val (.ref r_o_123), .val (.ref r_o_139), .val (.ref b154), .val (.ref b183), .val (.int (p5 &&& (3 : Int32))), .val (.int (1 : Int32))] [(.int (((((p4.toUInt32 >>> ((10 : Int32) &&& 31).toUInt32).toInt32).toUInt32 >>> ((4 : Int32) &&& 31).toUInt32).toInt32) &&& (3 : Int32))), (.int p3), (.int p2), (.int p1), (.int p0), (.int (own_v1_f p0 p1 p2 p3 (((((p4.toUInt32 >>> ((4 : Int32) &&& 31).toUInt32).toInt32).toUInt32 >>> ((4 : Int32) &&& 31).toUInt32).toInt32) &&& (3 : Int32))))])) rfl (by rw [hml]; rfl) (argsL := [(.int p0), (.int p1), (.int p2), (.int p3), (.int (((((p4.toUInt32 >>> ((10 : Int32) &&& 31).toUInt32).toInt32).toUInt32 >>> ((4 : Int32) &&& 31).toUInt32).toInt32) &&& (3 : Int32)))]) (rest := [(.int (own_v1_f p0 p1 p2 p3 (((((p4.toUInt32 >>> ((4 : Int32) &&& 31).toUInt32).toInt32).toUInt32 >>> ((4 : Int32) &&& 31).toUInt32).toInt32) &&& (3 : Int32))))]) (lenOf own_pd6 rfl) rfl (by show 2 * 0 + _ ≤ _; exact Nat.le_of_eq rfl) (hb hby at_340) (fun _ _ => ⟨rfl, eh463, (by decide : 6 + 0 ≤ _), (by decide : 24 + 0 ≤ _)⟩)
                    dsimp only [Pt.U, Pt.locs, Pt.cells, Pt.slots] at X475 l475 y475 z475 st475 hQ475
                    rw [l475, y475, z475] at X475
                    obtain ⟨rfl, Nq475, eh475⟩ := hQ475
                    have N476 := Fr.app N464 Nq475
                    have pre478 : ∀ t, Steps p.tables e below (T475.setTop (mkF m 343 #[.val (.int p0), .val (.int p1), .val (.int p2), .val (.int p3), .val (.int p4), .val (.int p5), .val (.ref b3), .val (.ref b52), .val (.int (p4 &&& (3 : Int32))), .val (.int (((p4.toUInt32 >>> ((2 : Int32) &&& 31).toUInt32).toInt32) &&& (3 : Int32))), .val (.int ((p4.toUInt32 >>> ((4 : Int32) &&& 31).toUInt32).toInt32)), .val (.int ((p4.toUInt32 >>> ((10 : Int32) &&& 31).toUInt32).toInt32)), .val (.ref r_o_123), .val (.ref r_o_139), .val (.ref b154), .val (.ref b183), .val (.int (p5 &&& (3 : Int32))), .val (.int (1 : Int32))] [(.int (own_v2_f p0 p1 p2 p3 (((((p4.toUInt32 >>> ((10 : Int32) &&& 31).toUInt32).toInt32).toUInt32 >>> ((4 : Int32) &&& 31).toUInt32).toInt32) &&& (3 : Int32)))), (.int (own_v1_f p0 p1 p2 p3 (((((p4.toUInt32 >>> ((4 : Int32) &&& 31).toUInt32).toInt32).toUInt32 >>> ((4 : Int32) &&& 31).toUInt32).toInt32) &&& (3 : Int32))))])) t → Steps p.tables e below (s₁.setTop (entryFrame m #[(.int p0), (.int p1), (.int p2), (.int p3), (.int p4), (.int p5)] maxLocals)) t := by
                      intro t kt
                      refine pre427 _ ?_
                      show Steps p.tables e below (T414.setTop (mkF m 314 #[.val (.int p0), .val (.int p1), .val (.int p2), .val (.int p3), .val (.int p4), .val (.int p5), .val (.ref b3), .val (.ref b52), .val (.int (p4 &&& (3 : Int32))), .val (.int (((p4.toUInt32 >>> ((2 : Int32) &&& 31).toUInt32).toInt32) &&& (3 : Int32))), .val (.int ((p4.toUInt32 >>> ((4 : Int32) &&& 31).toUInt32).toInt32)), .val (.int ((p4.toUInt32 >>> ((10 : Int32) &&& 31).toUInt32).toInt32)), .val (.ref r_o_123), .val (.ref r_o_139), .val (.ref b154), .val (.ref b183), .val (.int (p5 &&& (3 : Int32))), .val (.int (1 : Int32))] [(.int (3 : Int32)), (.int (p4 &&& (3 : Int32)))])) _
                      refine XS.icmpNo X414.here hx rfl (hb hby at_314) rfl (flt hc314_428).1 ?_
                      show Steps p.tables e below (T414.setTop (mkF m 317 #[.val (.int p0), .val (.int p1), .val (.int p2), .val (.int p3), .val (.int p4), .val (.int p5), .val (.ref b3), .val (.ref b52), .val (.int (p4 &&& (3 : Int32))), .val (.int (((p4.toUInt32 >>> ((2 : Int32) &&& 31).toUInt32).toInt32) &&& (3 : Int32))), .val (.int ((p4.toUInt32 >>> ((4 : Int32) &&& 31).toUInt32).toInt32)), .val (.int ((p4.toUInt32 >>> ((10 : Int32) &&& 31).toUInt32).toInt32)), .val (.ref r_o_123), .val (.ref r_o_139), .val (.ref b154), .val (.ref b183), .val (.int (p5 &&& (3 : Int32))), .val (.int (1 : Int32))] [])) _
                      refine XS.iloadN X414.here hx rfl (hb hby at_317) rfl ?_
                      show Steps p.tables e below (T414.setTop (mkF m 318 #[.val (.int p0), .val (.int p1), .val (.int p2), .val (.int p3), .val (.int p4), .val (.int p5), .val (.ref b3), .val (.ref b52), .val (.int (p4 &&& (3 : Int32))), .val (.int (((p4.toUInt32 >>> ((2 : Int32) &&& 31).toUInt32).toInt32) &&& (3 : Int32))), .val (.int ((p4.toUInt32 >>> ((4 : Int32) &&& 31).toUInt32).toInt32)), .val (.int ((p4.toUInt32 >>> ((10 : Int32) &&& 31).toUInt32).toInt32)), .val (.ref r_o_123), .val (.ref r_o_139), .val (.ref b154), .val (.ref b183), .val (.int (p5 &&& (3 : Int32))), .val (.int (1 : Int32))] [(.int p0)])) _
                      refine XS.iloadN X414.here hx rfl (hb hby at_318) rfl ?_
                      show Steps p.tables e below (T414.setTop (mkF m 319 #[.val (.int p0), .val (.int p1), .val (.int p2), .val (.int p3), .val (.int p4), .val (.int p5), .val (.ref b3), .val (.ref b52), .val (.int (p4 &&& (3 : Int32))), .val (.int (((p4.toUInt32 >>> ((2 : Int32) &&& 31).toUInt32).toInt32) &&& (3 : Int32))), .val (.int ((p4.toUInt32 >>> ((4 : Int32) &&& 31).toUInt32).toInt32)), .val (.int ((p4.toUInt32 >>> ((10 : Int32) &&& 31).toUInt32).toInt32)), .val (.ref r_o_123), .val (.ref r_o_139), .val (.ref b154), .val (.ref b183), .val (.int (p5 &&& (3 : Int32))), .val (.int (1 : Int32))] [(.int p1), (.int p0)])) _
                      refine XS.iloadN X414.here hx rfl (hb hby at_319) rfl ?_
                      show Steps p.tables e below (T414.setTop (mkF m 320 #[.val (.int p0), .val (.int p1), .val (.int p2), .val (.int p3), .val (.int p4), .val (.int p5), .val (.ref b3), .val (.ref b52), .val (.int (p4 &&& (3 : Int32))), .val (.int (((p4.toUInt32 >>> ((2 : Int32) &&& 31).toUInt32).toInt32) &&& (3 : Int32))), .val (.int ((p4.toUInt32 >>> ((4 : Int32) &&& 31).toUInt32).toInt32)), .val (.int ((p4.toUInt32 >>> ((10 : Int32) &&& 31).toUInt32).toInt32)), .val (.ref r_o_123), .val (.ref r_o_139), .val (.ref b154), .val (.ref b183), .val (.int (p5 &&& (3 : Int32))), .val (.int (1 : Int32))] [(.int p2), (.int p1), (.int p0)])) _
                      refine XS.iloadN X414.here hx rfl (hb hby at_320) rfl ?_
                      show Steps p.tables e below (T414.setTop (mkF m 321 #[.val (.int p0), .val (.int p1), .val (.int p2), .val (.int p3), .val (.int p4), .val (.int p5), .val (.ref b3), .val (.ref b52), .val (.int (p4 &&& (3 : Int32))), .val (.int (((p4.toUInt32 >>> ((2 : Int32) &&& 31).toUInt32).toInt32) &&& (3 : Int32))), .val (.int ((p4.toUInt32 >>> ((4 : Int32) &&& 31).toUInt32).toInt32)), .val (.int ((p4.toUInt32 >>> ((10 : Int32) &&& 31).toUInt32).toInt32)), .val (.ref r_o_123), .val (.ref r_o_139), .val (.ref b154), .val (.ref b183), .val (.int (p5 &&& (3 : Int32))), .val (.int (1 : Int32))] [(.int p3), (.int p2), (.int p1), (.int p0)])) _
                      refine XS.iload X414.here hx rfl (hb hby at_321) rfl ?_
                      show Steps p.tables e below (T414.setTop (mkF m 323 #[.val (.int p0), .val (.int p1), .val (.int p2), .val (.int p3), .val (.int p4), .val (.int p5), .val (.ref b3), .val (.ref b52), .val (.int (p4 &&& (3 : Int32))), .val (.int (((p4.toUInt32 >>> ((2 : Int32) &&& 31).toUInt32).toInt32) &&& (3 : Int32))), .val (.int ((p4.toUInt32 >>> ((4 : Int32) &&& 31).toUInt32).toInt32)), .val (.int ((p4.toUInt32 >>> ((10 : Int32) &&& 31).toUInt32).toInt32)), .val (.ref r_o_123), .val (.ref r_o_139), .val (.ref b154), .val (.ref b183), .val (.int (p5 &&& (3 : Int32))), .val (.int (1 : Int32))] [(.int ((p4.toUInt32 >>> ((4 : Int32) &&& 31).toUInt32).toInt32)), (.int p3), (.int p2), (.int p1), (.int p0)])) _
                      refine XS.iconst X414.here hx rfl (hb hby at_323) ?_
                      show Steps p.tables e below (T414.setTop (mkF m 324 #[.val (.int p0), .val (.int p1), .val (.int p2), .val (.int p3), .val (.int p4), .val (.int p5), .val (.ref b3), .val (.ref b52), .val (.int (p4 &&& (3 : Int32))), .val (.int (((p4.toUInt32 >>> ((2 : Int32) &&& 31).toUInt32).toInt32) &&& (3 : Int32))), .val (.int ((p4.toUInt32 >>> ((4 : Int32) &&& 31).toUInt32).toInt32)), .val (.int ((p4.toUInt32 >>> ((10 : Int32) &&& 31).toUInt32).toInt32)), .val (.ref r_o_123), .val (.ref r_o_139), .val (.ref b154), .val (.ref b183), .val (.int (p5 &&& (3 : Int32))), .val (.int (1 : Int32))] [(.int (4 : Int32)), (.int ((p4.toUInt32 >>> ((4 : Int32) &&& 31).toUInt32).toInt32)), (.int p3), (.int p2), (.int p1), (.int p0)])) _
                      refine XS.iushr X414.here hx rfl (hb hby at_324) rfl ?_
                      show Steps p.tables e below (T414.setTop (mkF m 325 #[.val (.int p0), .val (.int p1), .val (.int p2), .val (.int p3), .val (.int p4), .val (.int p5), .val (.ref b3), .val (.ref b52), .val (.int (p4 &&& (3 : Int32))), .val (.int (((p4.toUInt32 >>> ((2 : Int32) &&& 31).toUInt32).toInt32) &&& (3 : Int32))), .val (.int ((p4.toUInt32 >>> ((4 : Int32) &&& 31).toUInt32).toInt32)), .val (.int ((p4.toUInt32 >>> ((10 : Int32) &&& 31).toUInt32).toInt32)), .val (.ref r_o_123), .val (.ref r_o_139), .val (.ref b154), .val (.ref b183), .val (.int (p5 &&& (3 : Int32))), .val (.int (1 : Int32))] [(.int ((((p4.toUInt32 >>> ((4 : Int32) &&& 31).toUInt32).toInt32).toUInt32 >>> ((4 : Int32) &&& 31).toUInt32).toInt32)), (.int p3), (.int p2), (.int p1), (.int p0)])) _
                      refine XS.iconst X414.here hx rfl (hb hby at_325) ?_
                      show Steps p.tables e below (T414.setTop (mkF m 326 #[.val (.int p0), .val (.int p1), .val (.int p2), .val (.int p3), .val (.int p4), .val (.int p5), .val (.ref b3), .val (.ref b52), .val (.int (p4 &&& (3 : Int32))), .val (.int (((p4.toUInt32 >>> ((2 : Int32) &&& 31).toUInt32).toInt32) &&& (3 : Int32))), .val (.int ((p4.toUInt32 >>> ((4 : Int32) &&& 31).toUInt32).toInt32)), .val (.int ((p4.toUInt32 >>> ((10 : Int32) &&& 31).toUInt32).toInt32)), .val (.ref r_o_123), .val (.ref r_o_139), .val (.ref b154), .val (.ref b183), .val (.int (p5 &&& (3 : Int32))), .val (.int (1 : Int32))] [(.int (3 : Int32)), (.int ((((p4.toUInt32 >>> ((4 : Int32) &&& 31).toUInt32).toInt32).toUInt32 >>> ((4 : Int32) &&& 31).toUInt32).toInt32)), (.int p3), (.int p2), (.int p1), (.int p0)])) _
                      refine XS.iand X414.here hx rfl (hb hby at_326) rfl ?_
                      show Steps p.tables e below (T414.setTop (mkF m 327 #[.val (.int p0), .val (.int p1), .val (.int p2), .val (.int p3), .val (.int p4), .val (.int p5), .val (.ref b3), .val (.ref b52), .val (.int (p4 &&& (3 : Int32))), .val (.int (((p4.toUInt32 >>> ((2 : Int32) &&& 31).toUInt32).toInt32) &&& (3 : Int32))), .val (.int ((p4.toUInt32 >>> ((4 : Int32) &&& 31).toUInt32).toInt32)), .val (.int ((p4.toUInt32 >>> ((10 : Int32) &&& 31).toUInt32).toInt32)), .val (.ref r_o_123), .val (.ref r_o_139), .val (.ref b154), .val (.ref b183), .val (.int (p5 &&& (3 : Int32))), .val (.int (1 : Int32))] [(.int (((((p4.toUInt32 >>> ((4 : Int32) &&& 31).toUInt32).toInt32).toUInt32 >>> ((4 : Int32) &&& 31).toUInt32).toInt32) &&& (3 : Int32))), (.int p3), (.int p2), (.int p1), (.int p0)])) _
                      refine st463 _ ?_
                      show Steps p.tables e below (T463.setTop (mkF m 330 #[.val (.int p0), .val (.int p1), .val (.int p2), .val (.int p3), .val (.int p4), .val (.int p5), .val (.ref b3), .val (.ref b52), .val (.int (p4 &&& (3 : Int32))), .val (.int (((p4.toUInt32 >>> ((2 : Int32) &&& 31).toUInt32).toInt32) &&& (3 : Int32))), .val (.int ((p4.toUInt32 >>> ((4 : Int32) &&& 31).toUInt32).toInt32)), .val (.int ((p4.toUInt32 >>> ((10 : Int32) &&& 31).toUInt32).toInt32)), .val (.ref r_o_123), .val (.ref r_o_139), .val (.ref b154), .val (.ref b183), .val (.int (p5 &&& (3 : Int32))), .val (.int (1 : Int32))] [(.int (own_v1_f p0 p1 p2 p3 (((((p4.toUInt32 >>> ((4 : Int32) &&& 31).toUInt32).toInt32).toUInt32 >>> ((4 : Int32) &&& 31).toUInt32).toInt32) &&& (3 : Int32))))])) _
                      refine XS.iloadN X463.here hx rfl (hb hby at_330) rfl ?_
                      show Steps p.tables e below (T463.setTop (mkF m 331 #[.val (.int p0), .val (.int p1), .val (.int p2), .val (.int p3), .val (.int p4), .val (.int p5), .val (.ref b3), .val (.ref b52), .val (.int (p4 &&& (3 : Int32))), .val (.int (((p4.toUInt32 >>> ((2 : Int32) &&& 31).toUInt32).toInt32) &&& (3 : Int32))), .val (.int ((p4.toUInt32 >>> ((4 : Int32) &&& 31).toUInt32).toInt32)), .val (.int ((p4.toUInt32 >>> ((10 : Int32) &&& 31).toUInt32).toInt32)), .val (.ref r_o_123), .val (.ref r_o_139), .val (.ref b154), .val (.ref b183), .val (.int (p5 &&& (3 : Int32))), .val (.int (1 : Int32))] [(.int p0), (.int (own_v1_f p0 p1 p2 p3 (((((p4.toUInt32 >>> ((4 : Int32) &&& 31).toUInt32).toInt32).toUInt32 >>> ((4 : Int32) &&& 31).toUInt32).toInt32) &&& (3 : Int32))))])) _
                      refine XS.iloadN X463.here hx rfl (hb hby at_331) rfl ?_
                      show Steps p.tables e below (T463.setTop (mkF m 332 #[.val (.int p0), .val (.int p1), .val (.int p2), .val (.int p3), .val (.int p4), .val (.int p5), .val (.ref b3), .val (.ref b52), .val (.int (p4 &&& (3 : Int32))), .val (.int (((p4.toUInt32 >>> ((2 : Int32) &&& 31).toUInt32).toInt32) &&& (3 : Int32))), .val (.int ((p4.toUInt32 >>> ((4 : Int32) &&& 31).toUInt32).toInt32)), .val (.int ((p4.toUInt32 >>> ((10 : Int32) &&& 31).toUInt32).toInt32)), .val (.ref r_o_123), .val (.ref r_o_139), .val (.ref b154), .val (.ref b183), .val (.int (p5 &&& (3 : Int32))), .val (.int (1 : Int32))] [(.int p1), (.int p0), (.int (own_v1_f p0 p1 p2 p3 (((((p4.toUInt32 >>> ((4 : Int32) &&& 31).toUInt32).toInt32).toUInt32 >>> ((4 : Int32) &&& 31).toUInt32).toInt32) &&& (3 : Int32))))])) _
                      refine XS.iloadN X463.here hx rfl (hb hby at_332) rfl ?_
                      show Steps p.tables e below (T463.setTop (mkF m 333 #[.val (.int p0), .val (.int p1), .val (.int p2), .val (.int p3), .val (.int p4), .val (.int p5), .val (.ref b3), .val (.ref b52), .val (.int (p4 &&& (3 : Int32))), .val (.int (((p4.toUInt32 >>> ((2 : Int32) &&& 31).toUInt32).toInt32) &&& (3 : Int32))), .val (.int ((p4.toUInt32 >>> ((4 : Int32) &&& 31).toUInt32).toInt32)), .val (.int ((p4.toUInt32 >>> ((10 : Int32) &&& 31).toUInt32).toInt32)), .val (.ref r_o_123), .val (.ref r_o_139), .val (.ref b154), .val (.ref b183), .val (.int (p5 &&& (3 : Int32))), .val (.int (1 : Int32))] [(.int p2), (.int p1), (.int p0), (.int (own_v1_f p0 p1 p2 p3 (((((p4.toUInt32 >>> ((4 : Int32) &&& 31).toUInt32).toInt32).toUInt32 >>> ((4 : Int32) &&& 31).toUInt32).toInt32) &&& (3 : Int32))))])) _
                      refine XS.iloadN X463.here hx rfl (hb hby at_333) rfl ?_
                      show Steps p.tables e below (T463.setTop (mkF m 334 #[.val (.int p0), .val (.int p1), .val (.int p2), .val (.int p3), .val (.int p4), .val (.int p5), .val (.ref b3), .val (.ref b52), .val (.int (p4 &&& (3 : Int32))), .val (.int (((p4.toUInt32 >>> ((2 : Int32) &&& 31).toUInt32).toInt32) &&& (3 : Int32))), .val (.int ((p4.toUInt32 >>> ((4 : Int32) &&& 31).toUInt32).toInt32)), .val (.int ((p4.toUInt32 >>> ((10 : Int32) &&& 31).toUInt32).toInt32)), .val (.ref r_o_123), .val (.ref r_o_139), .val (.ref b154), .val (.ref b183), .val (.int (p5 &&& (3 : Int32))), .val (.int (1 : Int32))] [(.int p3), (.int p2), (.int p1), (.int p0), (.int (own_v1_f p0 p1 p2 p3 (((((p4.toUInt32 >>> ((4 : Int32) &&& 31).toUInt32).toInt32).toUInt32 >>> ((4 : Int32) &&& 31).toUInt32).toInt32) &&& (3 : Int32))))])) _
                      refine XS.iload X463.here hx rfl (hb hby at_334) rfl ?_
                      show Steps p.tables e below (T463.setTop (mkF m 336 #[.val (.int p0), .val (.int p1), .val (.int p2), .val (.int p3), .val (.int p4), .val (.int p5), .val (.ref b3), .val (.ref b52), .val (.int (p4 &&& (3 : Int32))), .val (.int (((p4.toUInt32 >>> ((2 : Int32) &&& 31).toUInt32).toInt32) &&& (3 : Int32))), .val (.int ((p4.toUInt32 >>> ((4 : Int32) &&& 31).toUInt32).toInt32)), .val (.int ((p4.toUInt32 >>> ((10 : Int32) &&& 31).toUInt32).toInt32)), .val (.ref r_o_123), .val (.ref r_o_139), .val (.ref b154), .val (.ref b183), .val (.int (p5 &&& (3 : Int32))), .val (.int (1 : Int32))] [(.int ((p4.toUInt32 >>> ((10 : Int32) &&& 31).toUInt32).toInt32)), (.int p3), (.int p2), (.int p1), (.int p0), (.int (own_v1_f p0 p1 p2 p3 (((((p4.toUInt32 >>> ((4 : Int32) &&& 31).toUInt32).toInt32).toUInt32 >>> ((4 : Int32) &&& 31).toUInt32).toInt32) &&& (3 : Int32))))])) _
                      refine XS.iconst X463.here hx rfl (hb hby at_336) ?_
                      show Steps p.tables e below (T463.setTop (mkF m 337 #[.val (.int p0), .val (.int p1), .val (.int p2), .val (.int p3), .val (.int p4), .val (.int p5), .val (.ref b3), .val (.ref b52), .val (.int (p4 &&& (3 : Int32))), .val (.int (((p4.toUInt32 >>> ((2 : Int32) &&& 31).toUInt32).toInt32) &&& (3 : Int32))), .val (.int ((p4.toUInt32 >>> ((4 : Int32) &&& 31).toUInt32).toInt32)), .val (.int ((p4.toUInt32 >>> ((10 : Int32) &&& 31).toUInt32).toInt32)), .val (.ref r_o_123), .val (.ref r_o_139), .val (.ref b154), .val (.ref b183), .val (.int (p5 &&& (3 : Int32))), .val (.int (1 : Int32))] [(.int (4 : Int32)), (.int ((p4.toUInt32 >>> ((10 : Int32) &&& 31).toUInt32).toInt32)), (.int p3), (.int p2), (.int p1), (.int p0), (.int (own_v1_f p0 p1 p2 p3 (((((p4.toUInt32 >>> ((4 : Int32) &&& 31).toUInt32).toInt32).toUInt32 >>> ((4 : Int32) &&& 31).toUInt32).toInt32) &&& (3 : Int32))))])) _
                      refine XS.iushr X463.here hx rfl (hb hby at_337) rfl ?_
                      show Steps p.tables e below (T463.setTop (mkF m 338 #[.val (.int p0), .val (.int p1), .val (.int p2), .val (.int p3), .val (.int p4), .val (.int p5), .val (.ref b3), .val (.ref b52), .val (.int (p4 &&& (3 : Int32))), .val (.int (((p4.toUInt32 >>> ((2 : Int32) &&& 31).toUInt32).toInt32) &&& (3 : Int32))), .val (.int ((p4.toUInt32 >>> ((4 : Int32) &&& 31).toUInt32).toInt32)), .val (.int ((p4.toUInt32 >>> ((10 : Int32) &&& 31).toUInt32).toInt32)), .val (.ref r_o_123), .val (.ref r_o_139), .val (.ref b154), .val (.ref b183), .val (.int (p5 &&& (3 : Int32))), .val (.int (1 : Int32))] [(.int ((((p4.toUInt32 >>> ((10 : Int32) &&& 31).toUInt32).toInt32).toUInt32 >>> ((4 : Int32) &&& 31).toUInt32).toInt32)), (.int p3), (.int p2), (.int p1), (.int p0), (.int (own_v1_f p0 p1 p2 p3 (((((p4.toUInt32 >>> ((4 : Int32) &&& 31).toUInt32).toInt32).toUInt32 >>> ((4 : Int32) &&& 31).toUInt32).toInt32) &&& (3 : Int32))))])) _
                      refine XS.iconst X463.here hx rfl (hb hby at_338) ?_
                      show Steps p.tables e below (T463.setTop (mkF m 339 #[.val (.int p0), .val (.int p1), .val (.int p2), .val (.int p3), .val (.int p4), .val (.int p5), .val (.ref b3), .val (.ref b52), .val (.int (p4 &&& (3 : Int32))), .val (.int (((p4.toUInt32 >>> ((2 : Int32) &&& 31).toUInt32).toInt32) &&& (3 : Int32))), .val (.int ((p4.toUInt32 >>> ((4 : Int32) &&& 31).toUInt32).toInt32)), .val (.int ((p4.toUInt32 >>> ((10 : Int32) &&& 31).toUInt32).toInt32)), .val (.ref r_o_123), .val (.ref r_o_139), .val (.ref b154), .val (.ref b183), .val (.int (p5 &&& (3 : Int32))), .val (.int (1 : Int32))] [(.int (3 : Int32)), (.int ((((p4.toUInt32 >>> ((10 : Int32) &&& 31).toUInt32).toInt32).toUInt32 >>> ((4 : Int32) &&& 31).toUInt32).toInt32)), (.int p3), (.int p2), (.int p1), (.int p0), (.int (own_v1_f p0 p1 p2 p3 (((((p4.toUInt32 >>> ((4 : Int32) &&& 31).toUInt32).toInt32).toUInt32 >>> ((4 : Int32) &&& 31).toUInt32).toInt32) &&& (3 : Int32))))])) _
                      refine XS.iand X463.here hx rfl (hb hby at_339) rfl ?_
                      show Steps p.tables e below (T463.setTop (mkF m 340 #[.val (.int p0), .val (.int p1), .val (.int p2), .val (.int p3), .val (.int p4), .val (.int p5), .val (.ref b3), .val (.ref b52), .val (.int (p4 &&& (3 : Int32))), .val (.int (((p4.toUInt32 >>> ((2 : Int32) &&& 31).toUInt32).toInt32) &&& (3 : Int32))), .val (.int ((p4.toUInt32 >>> ((4 : Int32) &&& 31).toUInt32).toInt32)), .val (.int ((p4.toUInt32 >>> ((10 : Int32) &&& 31).toUInt32).toInt32)), .val (.ref r_o_123), .val (.ref r_o_139), .val (.ref b154), .val (.ref b183), .val (.int (p5 &&& (3 : Int32))), .val (.int (1 : Int32))] [(.int (((((p4.toUInt32 >>> ((10 : Int32) &&& 31).toUInt32).toInt32).toUInt32 >>> ((4 : Int32) &&& 31).toUInt32).toInt32) &&& (3 : Int32))), (.int p3), (.int p2), (.int p1), (.int p0), (.int (own_v1_f p0 p1 p2 p3 (((((p4.toUInt32 >>> ((4 : Int32) &&& 31).toUInt32).toInt32).toUInt32 >>> ((4 : Int32) &&& 31).toUInt32).toInt32) &&& (3 : Int32))))])) _
                      refine st475 _ ?_
                      exact kt
                    by_cases hc343_479 : (own_v1_f p0 p1 p2 p3 (((((p4.toUInt32 >>> ((4 : Int32) &&& 31).toUInt32).toInt32).toUInt32 >>> ((4 : Int32) &&& 31).toUInt32).toInt32) &&& (3 : Int32))) = (own_v2_f p0 p1 p2 p3 (((((p4.toUInt32 >>> ((10 : Int32) &&& 31).toUInt32).toInt32).toUInt32 >>> ((4 : Int32) &&& 31).toUInt32).toInt32) &&& (3 : Int32)))
                    · have Fq487 : Fld Z T206.heap b154 "com/example/fovea/fovea/Memory$Key" "entry" "[I" (.ref b3) := ((Pf175_1.ext E183).keep K206 (ninS Ne194 nin0))
                      have Fq488 : Fld Z T206.heap b154 "com/example/fovea/fovea/Memory$Key" "slots" "[I" (.ref r_o_123) := ((Pf175_2.ext E183).keep K206 (ninS Ne194 nin0))
                      have Fq489 : Arv Z T206.heap b3 k3 .int (4 : Int32) [(.int p0), (.int p1), (.int p2), (.int p3)] (.int (0 : Int32)) := (((Fq176.keep K175 (ninS Ne157 nin0)).ext E183).keep K206 (ninS Ne186 nin0))
                      have Fq490 : Arv Z T206.heap r_o_123 k_r_123 .int (p4 &&& (3 : Int32)) [(.int (((p4.toUInt32 >>> ((4 : Int32) &&& 31).toUInt32).toInt32) &&& (3 : Int32))), (.int (((((p4.toUInt32 >>> ((4 : Int32) &&& 31).toUInt32).toInt32).toUInt32 >>> ((2 : Int32) &&& 31).toUInt32).toInt32) &&& (3 : Int32))), (.int (((((p4.toUInt32 >>> ((4 : Int32) &&& 31).toUInt32).toInt32).toUInt32 >>> ((4 : Int32) &&& 31).toUInt32).toInt32) &&& (3 : Int32)))] (.int (0 : Int32)) := ((Fq191.ext E183).keep K206 (ninS Ne190 nin0))
                      have Fq491 : Arv Z T206.heap b52 k52 .int (4 : Int32) [(.int p1), (.int p0), (.int p3), (.int p2)] (.int (0 : Int32)) := (Fq207.keep K206 (ninS Ne188 nin0))
                      have Fq492 : Arv Z T206.heap r_o_139 k_r_139 .int (((p4.toUInt32 >>> ((2 : Int32) &&& 31).toUInt32).toInt32) &&& (3 : Int32)) [(.int (((p4.toUInt32 >>> ((10 : Int32) &&& 31).toUInt32).toInt32) &&& (3 : Int32))), (.int (((((p4.toUInt32 >>> ((10 : Int32) &&& 31).toUInt32).toInt32).toUInt32 >>> ((2 : Int32) &&& 31).toUInt32).toInt32) &&& (3 : Int32))), (.int (((((p4.toUInt32 >>> ((10 : Int32) &&& 31).toUInt32).toInt32).toUInt32 >>> ((4 : Int32) &&& 31).toUInt32).toInt32) &&& (3 : Int32)))] (.int (0 : Int32)) := (Fq208.keep K206 (ninS Ne192 nin0))
                      have Fq493 : Exa Z T206.heap b154 "com/example/fovea/fovea/Memory$Key" := ((Pf175_0.ext E183).keep K206)
                      obtain ⟨cq486, kq486, q486a, q486b, q486c⟩ := isOf hZ eh475 Fq493
                      obtain ⟨_, _, ⟨T486, L486, k486, n486⟩, -, X486, ⟨Lc486, hQ486, l486, y486, z486⟩, st486⟩ := X475.virtualBack hx (y := (⟨"com/example/fovea/fovea/Memory$Key", "equals", "(Ljava/lang/Object;)Z"⟩ : MethodName)) (z := (⟨"com/example/fovea/fovea/Memory$Key", "equals", "(Ljava/lang/Object;)Z"⟩ : MethodName)) hown (mvT hZ (hw _ (List.mem_of_getElem? (i := 25) rfl))) (mvT hZ (hw _ (List.mem_of_getElem? (i := 26) rfl))) (notFace_of_selects (args := #[]) (mvT hZ (hw _ (List.mem_of_getElem? (i := 28) rfl)))) (mvT hZ (hw _ (List.mem_of_getElem? (i := 28) rfl))) (mvT hZ (hw _ (List.mem_of_getElem? (i := 27) rfl))) (by decide) (backOf (W := 0) (own_eq l Z a0 hw [] b154 b183 b3 r_o_123 b52 r_o_139 k3 k_r_123 k52 k_r_139 (p4 &&& (3 : Int32)) (((p4.toUInt32 >>> ((2 : Int32) &&& 31).toUInt32).toInt32) &&& (3 : Int32)) p0 p1 p2 p3 (((p4.toUInt32 >>> ((4 : Int32) &&& 31).toUInt32).toInt32) &&& (3 : Int32)) (((((p4.toUInt32 >>> ((4 : Int32) &&& 31).toUInt32).toInt32).toUInt32 >>> ((2 : Int32) &&& 31).toUInt32).toInt32) &&& (3 : Int32)) (((((p4.toUInt32 >>> ((4 : Int32) &&& 31).toUInt32).toInt32).toUInt32 >>> ((4 : Int32) &&& 31).toUInt32).toInt32) &&& (3 : Int32)) p1 p0 p3 p2 (((p4.toUInt32 >>> ((10 : Int32) &&& 31).toUInt32).toInt32) &&& (3 : Int32)) (((((p4.toUInt32 >>> ((10 : Int32) &&& 31).toUInt32).toInt32).toUInt32 >>> ((2 : Int32) &&& 31).toUInt32).toInt32) &&& (3 : Int32)) (((((p4.toUInt32 >>> ((10 : Int32) &&& 31).toUInt32).toInt32).toUInt32 >>> ((4 : Int32) &&& 31).toUInt32).toInt32) &&& (3 : Int32)) T206.heap n0 Zs211 Pf206_0 Fq487 Fq488 Pf206_1 Pf206_2 Fq489 Fq490 Fq491 Fq492 (own_and4 _) (own_and4 _) (own_and4 _) (own_and4 _) (own_and4 _) (own_and4 _) (own_and3 _).2) hZ (hw _ (List.mem_of_getElem? (i := 29) rfl)) (hw _ (List.mem_of_getElem? (i := 7) rfl)) (by decide) (by decide)) q486a q486c (g := (mkF m 357 #[.val (.int p0), .val (.int p1), .val (.int p2), .val (.int p3), .val (.int p4), .val (.int p5), .val (.ref b3), .val (.ref b52), .val (.int (p4 &&& (3 : Int32))), .val (.int (((p4.toUInt32 >>> ((2 : Int32) &&& 31).toUInt32).toInt32) &&& (3 : Int32))), .val (.int ((p4.toUInt32 >>> ((4 : Int32) &&& 31).toUInt32).toInt32)), .val (.int ((p4.toUInt32 >>> ((10 : Int32) &&& 31).toUInt32).toInt32)), .val (.ref r_o_123), .val (.ref r_o_139), .val (.ref b154), .val (.ref b183), .val (.int (p5 &&& (3 : Int32))), .val (.int (1 : Int32))] [(.ref b183), (.ref b154)])) rfl (by rw [hml]; rfl) (Steps.refl _) (argsL := [(.ref b183)]) (rest := []) (lenOf own_pd5 rfl) rfl (by show 2 * 0 + _ ≤ _; exact Nat.le_of_eq rfl) (hb hby at_357) (fun _ _ => ⟨rfl, eh475, (by decide : 6 + 0 ≤ _), (by decide : 24 + 0 ≤ _)⟩)
                      dsimp only [Pt.U, Pt.locs, Pt.cells, Pt.slots] at X486 l486 y486 z486 st486 hQ486
                      rw [l486, y486, z486] at X486
                      obtain ⟨rfl, Nq486, eh486⟩ := hQ486
                      have N494 := Fr.app N476 Nq486
                      obtain ⟨cq500, kq500, q500a, q500b, q500c⟩ := isOf hZ eh486 Pf206_0
                      obtain ⟨_, _, ⟨T500, L500, k500, n500⟩, -, X500, ⟨Lc500, hQ500, l500, y500, z500⟩, st500⟩ := X486.virtualBack hx (y := (⟨"com/example/fovea/fovea/Memory$Key", "equals", "(Ljava/lang/Object;)Z"⟩ : MethodName)) (z := (⟨"com/example/fovea/fovea/Memory$Key", "equals", "(Ljava/lang/Object;)Z"⟩ : MethodName)) hown (mvT hZ (hw _ (List.mem_of_getElem? (i := 25) rfl))) (mvT hZ (hw _ (List.mem_of_getElem? (i := 26) rfl))) (notFace_of_selects (args := #[]) (mvT hZ (hw _ (List.mem_of_getElem? (i := 28) rfl)))) (mvT hZ (hw _ (List.mem_of_getElem? (i := 28) rfl))) (mvT hZ (hw _ (List.mem_of_getElem? (i := 27) rfl))) (by decide) (backOf (W := 0) (own_eq l Z a0 hw [] b183 b154 b52 r_o_139 b3 r_o_123 k52 k_r_139 k3 k_r_123 (((p4.toUInt32 >>> ((2 : Int32) &&& 31).toUInt32).toInt32) &&& (3 : Int32)) (p4 &&& (3 : Int32)) p1 p0 p3 p2 (((p4.toUInt32 >>> ((10 : Int32) &&& 31).toUInt32).toInt32) &&& (3 : Int32)) (((((p4.toUInt32 >>> ((10 : Int32) &&& 31).toUInt32).toInt32).toUInt32 >>> ((2 : Int32) &&& 31).toUInt32).toInt32) &&& (3 : Int32)) (((((p4.toUInt32 >>> ((10 : Int32) &&& 31).toUInt32).toInt32).toUInt32 >>> ((4 : Int32) &&& 31).toUInt32).toInt32) &&& (3 : Int32)) p0 p1 p2 p3 (((p4.toUInt32 >>> ((4 : Int32) &&& 31).toUInt32).toInt32) &&& (3 : Int32)) (((((p4.toUInt32 >>> ((4 : Int32) &&& 31).toUInt32).toInt32).toUInt32 >>> ((2 : Int32) &&& 31).toUInt32).toInt32) &&& (3 : Int32)) (((((p4.toUInt32 >>> ((4 : Int32) &&& 31).toUInt32).toInt32).toUInt32 >>> ((4 : Int32) &&& 31).toUInt32).toInt32) &&& (3 : Int32)) T206.heap n0 Zs211 Fq493 Pf206_1 Pf206_2 Fq487 Fq488 Fq491 Fq492 Fq489 Fq490 (own_and4 _) (own_and4 _) (own_and4 _) (own_and4 _) (own_and4 _) (own_and4 _) (own_and3 _).2) hZ (hw _ (List.mem_of_getElem? (i := 29) rfl)) (hw _ (List.mem_of_getElem? (i := 7) rfl)) (by decide) (by decide)) q500a q500c (g := (mkF m 369 #[.val (.int p0), .val (.int p1), .val (.int p2), .val (.int p3), .val (.int p4), .val (.int p5), .val (.ref b3), .val (.ref b52), .val (.int (p4 &&& (3 : Int32))), .val (.int (((p4.toUInt32 >>> ((2 : Int32) &&& 31).toUInt32).toInt32) &&& (3 : Int32))), .val (.int ((p4.toUInt32 >>> ((4 : Int32) &&& 31).toUInt32).toInt32)), .val (.int ((p4.toUInt32 >>> ((10 : Int32) &&& 31).toUInt32).toInt32)), .val (.ref r_o_123), .val (.ref r_o_139), .val (.ref b154), .val (.ref b183), .val (.int (p5 &&& (3 : Int32))), .val (.int (1 : Int32))] [(.ref b154), (.ref b183)])) rfl (by rw [hml]; rfl) (Steps.refl _) (argsL := [(.ref b154)]) (rest := []) (lenOf own_pd5 rfl) rfl (by show 2 * 0 + _ ≤ _; exact Nat.le_of_eq rfl) (hb hby at_369) (fun _ _ => ⟨rfl, eh486, (by decide : 6 + 0 ≤ _), (by decide : 24 + 0 ≤ _)⟩)
                      dsimp only [Pt.U, Pt.locs, Pt.cells, Pt.slots] at X500 l500 y500 z500 st500 hQ500
                      rw [l500, y500, z500] at X500
                      obtain ⟨rfl, Nq500, eh500⟩ := hQ500
                      have N501 := Fr.app N494 Nq500
                      obtain ⟨fs, hr, hrun, hended, hW, hsame⟩ := X500.leave (v := some (.int (1 : Int32))) (fun h => by rw [Bd.returns] at h; cases h) (hlocks := BodyLoose.notSynchronized Bd)
                      refine ⟨_, _, pre478 _ ?_, hrun, hended, _, _, rfl, ?_, ⟨_, rfl⟩, hW, hsame.mono (by decide) (by decide)⟩
                      · show Steps p.tables e below (T475.setTop (mkF m 343 #[.val (.int p0), .val (.int p1), .val (.int p2), .val (.int p3), .val (.int p4), .val (.int p5), .val (.ref b3), .val (.ref b52), .val (.int (p4 &&& (3 : Int32))), .val (.int (((p4.toUInt32 >>> ((2 : Int32) &&& 31).toUInt32).toInt32) &&& (3 : Int32))), .val (.int ((p4.toUInt32 >>> ((4 : Int32) &&& 31).toUInt32).toInt32)), .val (.int ((p4.toUInt32 >>> ((10 : Int32) &&& 31).toUInt32).toInt32)), .val (.ref r_o_123), .val (.ref r_o_139), .val (.ref b154), .val (.ref b183), .val (.int (p5 &&& (3 : Int32))), .val (.int (1 : Int32))] [(.int (own_v2_f p0 p1 p2 p3 (((((p4.toUInt32 >>> ((10 : Int32) &&& 31).toUInt32).toInt32).toUInt32 >>> ((4 : Int32) &&& 31).toUInt32).toInt32) &&& (3 : Int32)))), (.int (own_v1_f p0 p1 p2 p3 (((((p4.toUInt32 >>> ((4 : Int32) &&& 31).toUInt32).toInt32).toUInt32 >>> ((4 : Int32) &&& 31).toUInt32).toInt32) &&& (3 : Int32))))])) _
                        refine XS.icmpNo X475.here hx rfl (hb hby at_343) rfl (teq hc343_479).2 ?_
                        show Steps p.tables e below (T475.setTop (mkF m 346 #[.val (.int p0), .val (.int p1), .val (.int p2), .val (.int p3), .val (.int p4), .val (.int p5), .val (.ref b3), .val (.ref b52), .val (.int (p4 &&& (3 : Int32))), .val (.int (((p4.toUInt32 >>> ((2 : Int32) &&& 31).toUInt32).toInt32) &&& (3 : Int32))), .val (.int ((p4.toUInt32 >>> ((4 : Int32) &&& 31).toUInt32).toInt32)), .val (.int ((p4.toUInt32 >>> ((10 : Int32) &&& 31).toUInt32).toInt32)), .val (.ref r_o_123), .val (.ref r_o_139), .val (.ref b154), .val (.ref b183), .val (.int (p5 &&& (3 : Int32))), .val (.int (1 : Int32))] [])) _
                        refine XS.iconst X475.here hx rfl (hb hby at_346) ?_
                        show Steps p.tables e below (T475.setTop (mkF m 347 #[.val (.int p0), .val (.int p1), .val (.int p2), .val (.int p3), .val (.int p4), .val (.int p5), .val (.ref b3), .val (.ref b52), .val (.int (p4 &&& (3 : Int32))), .val (.int (((p4.toUInt32 >>> ((2 : Int32) &&& 31).toUInt32).toInt32) &&& (3 : Int32))), .val (.int ((p4.toUInt32 >>> ((4 : Int32) &&& 31).toUInt32).toInt32)), .val (.int ((p4.toUInt32 >>> ((10 : Int32) &&& 31).toUInt32).toInt32)), .val (.ref r_o_123), .val (.ref r_o_139), .val (.ref b154), .val (.ref b183), .val (.int (p5 &&& (3 : Int32))), .val (.int (1 : Int32))] [(.int (1 : Int32))])) _
                        refine XS.goto X475.here hx rfl (pc0 := 347) (pc' := 351) rfl (hb hby at_347) (by decide) (by decide) ?_
                        show Steps p.tables e below (T475.setTop (mkF m 351 #[.val (.int p0), .val (.int p1), .val (.int p2), .val (.int p3), .val (.int p4), .val (.int p5), .val (.ref b3), .val (.ref b52), .val (.int (p4 &&& (3 : Int32))), .val (.int (((p4.toUInt32 >>> ((2 : Int32) &&& 31).toUInt32).toInt32) &&& (3 : Int32))), .val (.int ((p4.toUInt32 >>> ((4 : Int32) &&& 31).toUInt32).toInt32)), .val (.int ((p4.toUInt32 >>> ((10 : Int32) &&& 31).toUInt32).toInt32)), .val (.ref r_o_123), .val (.ref r_o_139), .val (.ref b154), .val (.ref b183), .val (.int (p5 &&& (3 : Int32))), .val (.int (1 : Int32))] [(.int (1 : Int32))])) _
                        refine XS.istore X475.here hx rfl (hb hby at_351) rfl (l' := #[.val (.int p0), .val (.int p1), .val (.int p2), .val (.int p3), .val (.int p4), .val (.int p5), .val (.ref b3), .val (.ref b52), .val (.int (p4 &&& (3 : Int32))), .val (.int (((p4.toUInt32 >>> ((2 : Int32) &&& 31).toUInt32).toInt32) &&& (3 : Int32))), .val (.int ((p4.toUInt32 >>> ((4 : Int32) &&& 31).toUInt32).toInt32)), .val (.int ((p4.toUInt32 >>> ((10 : Int32) &&& 31).toUInt32).toInt32)), .val (.ref r_o_123), .val (.ref r_o_139), .val (.ref b154), .val (.ref b183), .val (.int (p5 &&& (3 : Int32))), .val (.int (1 : Int32))]) rfl ?_
                        show Steps p.tables e below (T475.setTop (mkF m 353 #[.val (.int p0), .val (.int p1), .val (.int p2), .val (.int p3), .val (.int p4), .val (.int p5), .val (.ref b3), .val (.ref b52), .val (.int (p4 &&& (3 : Int32))), .val (.int (((p4.toUInt32 >>> ((2 : Int32) &&& 31).toUInt32).toInt32) &&& (3 : Int32))), .val (.int ((p4.toUInt32 >>> ((4 : Int32) &&& 31).toUInt32).toInt32)), .val (.int ((p4.toUInt32 >>> ((10 : Int32) &&& 31).toUInt32).toInt32)), .val (.ref r_o_123), .val (.ref r_o_139), .val (.ref b154), .val (.ref b183), .val (.int (p5 &&& (3 : Int32))), .val (.int (1 : Int32))] [])) _
                        refine XS.aload X475.here hx rfl (hb hby at_353) rfl rfl ?_
                        show Steps p.tables e below (T475.setTop (mkF m 355 #[.val (.int p0), .val (.int p1), .val (.int p2), .val (.int p3), .val (.int p4), .val (.int p5), .val (.ref b3), .val (.ref b52), .val (.int (p4 &&& (3 : Int32))), .val (.int (((p4.toUInt32 >>> ((2 : Int32) &&& 31).toUInt32).toInt32) &&& (3 : Int32))), .val (.int ((p4.toUInt32 >>> ((4 : Int32) &&& 31).toUInt32).toInt32)), .val (.int ((p4.toUInt32 >>> ((10 : Int32) &&& 31).toUInt32).toInt32)), .val (.ref r_o_123), .val (.ref r_o_139), .val (.ref b154), .val (.ref b183), .val (.int (p5 &&& (3 : Int32))), .val (.int (1 : Int32))] [(.ref b154)])) _
                        refine XS.aload X475.here hx rfl (hb hby at_355) rfl rfl ?_
                        show Steps p.tables e below (T475.setTop (mkF m 357 #[.val (.int p0), .val (.int p1), .val (.int p2), .val (.int p3), .val (.int p4), .val (.int p5), .val (.ref b3), .val (.ref b52), .val (.int (p4 &&& (3 : Int32))), .val (.int (((p4.toUInt32 >>> ((2 : Int32) &&& 31).toUInt32).toInt32) &&& (3 : Int32))), .val (.int ((p4.toUInt32 >>> ((4 : Int32) &&& 31).toUInt32).toInt32)), .val (.int ((p4.toUInt32 >>> ((10 : Int32) &&& 31).toUInt32).toInt32)), .val (.ref r_o_123), .val (.ref r_o_139), .val (.ref b154), .val (.ref b183), .val (.int (p5 &&& (3 : Int32))), .val (.int (1 : Int32))] [(.ref b183), (.ref b154)])) _
                        refine st486.trans ?_
                        show Steps p.tables e below (T486.setTop (mkF m 360 #[.val (.int p0), .val (.int p1), .val (.int p2), .val (.int p3), .val (.int p4), .val (.int p5), .val (.ref b3), .val (.ref b52), .val (.int (p4 &&& (3 : Int32))), .val (.int (((p4.toUInt32 >>> ((2 : Int32) &&& 31).toUInt32).toInt32) &&& (3 : Int32))), .val (.int ((p4.toUInt32 >>> ((4 : Int32) &&& 31).toUInt32).toInt32)), .val (.int ((p4.toUInt32 >>> ((10 : Int32) &&& 31).toUInt32).toInt32)), .val (.ref r_o_123), .val (.ref r_o_139), .val (.ref b154), .val (.ref b183), .val (.int (p5 &&& (3 : Int32))), .val (.int (1 : Int32))] [(.int (own_eq_f (p4 &&& (3 : Int32)) (((p4.toUInt32 >>> ((2 : Int32) &&& 31).toUInt32).toInt32) &&& (3 : Int32)) p0 p1 p2 p3 (((p4.toUInt32 >>> ((4 : Int32) &&& 31).toUInt32).toInt32) &&& (3 : Int32)) (((((p4.toUInt32 >>> ((4 : Int32) &&& 31).toUInt32).toInt32).toUInt32 >>> ((2 : Int32) &&& 31).toUInt32).toInt32) &&& (3 : Int32)) (((((p4.toUInt32 >>> ((4 : Int32) &&& 31).toUInt32).toInt32).toUInt32 >>> ((4 : Int32) &&& 31).toUInt32).toInt32) &&& (3 : Int32)) p1 p0 p3 p2 (((p4.toUInt32 >>> ((10 : Int32) &&& 31).toUInt32).toInt32) &&& (3 : Int32)) (((((p4.toUInt32 >>> ((10 : Int32) &&& 31).toUInt32).toInt32).toUInt32 >>> ((2 : Int32) &&& 31).toUInt32).toInt32) &&& (3 : Int32)) (((((p4.toUInt32 >>> ((10 : Int32) &&& 31).toUInt32).toInt32).toUInt32 >>> ((4 : Int32) &&& 31).toUInt32).toInt32) &&& (3 : Int32))))])) _
                        refine XS.iload X486.here hx rfl (hb hby at_360) rfl ?_
                        show Steps p.tables e below (T486.setTop (mkF m 362 #[.val (.int p0), .val (.int p1), .val (.int p2), .val (.int p3), .val (.int p4), .val (.int p5), .val (.ref b3), .val (.ref b52), .val (.int (p4 &&& (3 : Int32))), .val (.int (((p4.toUInt32 >>> ((2 : Int32) &&& 31).toUInt32).toInt32) &&& (3 : Int32))), .val (.int ((p4.toUInt32 >>> ((4 : Int32) &&& 31).toUInt32).toInt32)), .val (.int ((p4.toUInt32 >>> ((10 : Int32) &&& 31).toUInt32).toInt32)), .val (.ref r_o_123), .val (.ref r_o_139), .val (.ref b154), .val (.ref b183), .val (.int (p5 &&& (3 : Int32))), .val (.int (1 : Int32))] [(.int (1 : Int32)), (.int (own_eq_f (p4 &&& (3 : Int32)) (((p4.toUInt32 >>> ((2 : Int32) &&& 31).toUInt32).toInt32) &&& (3 : Int32)) p0 p1 p2 p3 (((p4.toUInt32 >>> ((4 : Int32) &&& 31).toUInt32).toInt32) &&& (3 : Int32)) (((((p4.toUInt32 >>> ((4 : Int32) &&& 31).toUInt32).toInt32).toUInt32 >>> ((2 : Int32) &&& 31).toUInt32).toInt32) &&& (3 : Int32)) (((((p4.toUInt32 >>> ((4 : Int32) &&& 31).toUInt32).toInt32).toUInt32 >>> ((4 : Int32) &&& 31).toUInt32).toInt32) &&& (3 : Int32)) p1 p0 p3 p2 (((p4.toUInt32 >>> ((10 : Int32) &&& 31).toUInt32).toInt32) &&& (3 : Int32)) (((((p4.toUInt32 >>> ((10 : Int32) &&& 31).toUInt32).toInt32).toUInt32 >>> ((2 : Int32) &&& 31).toUInt32).toInt32) &&& (3 : Int32)) (((((p4.toUInt32 >>> ((10 : Int32) &&& 31).toUInt32).toInt32).toUInt32 >>> ((4 : Int32) &&& 31).toUInt32).toInt32) &&& (3 : Int32))))])) _
                        refine XS.icmpNo X486.here hx rfl (hb hby at_362) rfl (teq (((own_eqE _ _ _ _ _ _ _ _ _ _ _ _ _ _ _ _).trans (own_E7 hc206_285 hc224_295 (own_veq hc249_352) hc267_362 (own_veq hc296_418) hc314_428 (own_veq hc343_479))) : (own_eq_f (p4 &&& (3 : Int32)) (((p4.toUInt32 >>> ((2 : Int32) &&& 31).toUInt32).toInt32) &&& (3 : Int32)) p0 p1 p2 p3 (((p4.toUInt32 >>> ((4 : Int32) &&& 31).toUInt32).toInt32) &&& (3 : Int32)) (((((p4.toUInt32 >>> ((4 : Int32) &&& 31).toUInt32).toInt32).toUInt32 >>> ((2 : Int32) &&& 31).toUInt32).toInt32) &&& (3 : Int32)) (((((p4.toUInt32 >>> ((4 : Int32) &&& 31).toUInt32).toInt32).toUInt32 >>> ((4 : Int32) &&& 31).toUInt32).toInt32) &&& (3 : Int32)) p1 p0 p3 p2 (((p4.toUInt32 >>> ((10 : Int32) &&& 31).toUInt32).toInt32) &&& (3 : Int32)) (((((p4.toUInt32 >>> ((10 : Int32) &&& 31).toUInt32).toInt32).toUInt32 >>> ((2 : Int32) &&& 31).toUInt32).toInt32) &&& (3 : Int32)) (((((p4.toUInt32 >>> ((10 : Int32) &&& 31).toUInt32).toInt32).toUInt32 >>> ((4 : Int32) &&& 31).toUInt32).toInt32) &&& (3 : Int32))) = (1 : Int32))).2 ?_
                        show Steps p.tables e below (T486.setTop (mkF m 365 #[.val (.int p0), .val (.int p1), .val (.int p2), .val (.int p3), .val (.int p4), .val (.int p5), .val (.ref b3), .val (.ref b52), .val (.int (p4 &&& (3 : Int32))), .val (.int (((p4.toUInt32 >>> ((2 : Int32) &&& 31).toUInt32).toInt32) &&& (3 : Int32))), .val (.int ((p4.toUInt32 >>> ((4 : Int32) &&& 31).toUInt32).toInt32)), .val (.int ((p4.toUInt32 >>> ((10 : Int32) &&& 31).toUInt32).toInt32)), .val (.ref r_o_123), .val (.ref r_o_139), .val (.ref b154), .val (.ref b183), .val (.int (p5 &&& (3 : Int32))), .val (.int (1 : Int32))] [])) _
                        refine XS.aload X486.here hx rfl (hb hby at_365) rfl rfl ?_
                        show Steps p.tables e below (T486.setTop (mkF m 367 #[.val (.int p0), .val (.int p1), .val (.int p2), .val (.int p3), .val (.int p4), .val (.int p5), .val (.ref b3), .val (.ref b52), .val (.int (p4 &&& (3 : Int32))), .val (.int (((p4.toUInt32 >>> ((2 : Int32) &&& 31).toUInt32).toInt32) &&& (3 : Int32))), .val (.int ((p4.toUInt32 >>> ((4 : Int32) &&& 31).toUInt32).toInt32)), .val (.int ((p4.toUInt32 >>> ((10 : Int32) &&& 31).toUInt32).toInt32)), .val (.ref r_o_123), .val (.ref r_o_139), .val (.ref b154), .val (.ref b183), .val (.int (p5 &&& (3 : Int32))), .val (.int (1 : Int32))] [(.ref b183)])) _
                        refine XS.aload X486.here hx rfl (hb hby at_367) rfl rfl ?_
                        show Steps p.tables e below (T486.setTop (mkF m 369 #[.val (.int p0), .val (.int p1), .val (.int p2), .val (.int p3), .val (.int p4), .val (.int p5), .val (.ref b3), .val (.ref b52), .val (.int (p4 &&& (3 : Int32))), .val (.int (((p4.toUInt32 >>> ((2 : Int32) &&& 31).toUInt32).toInt32) &&& (3 : Int32))), .val (.int ((p4.toUInt32 >>> ((4 : Int32) &&& 31).toUInt32).toInt32)), .val (.int ((p4.toUInt32 >>> ((10 : Int32) &&& 31).toUInt32).toInt32)), .val (.ref r_o_123), .val (.ref r_o_139), .val (.ref b154), .val (.ref b183), .val (.int (p5 &&& (3 : Int32))), .val (.int (1 : Int32))] [(.ref b154), (.ref b183)])) _
                        refine st500.trans ?_
                        show Steps p.tables e below (T500.setTop (mkF m 372 #[.val (.int p0), .val (.int p1), .val (.int p2), .val (.int p3), .val (.int p4), .val (.int p5), .val (.ref b3), .val (.ref b52), .val (.int (p4 &&& (3 : Int32))), .val (.int (((p4.toUInt32 >>> ((2 : Int32) &&& 31).toUInt32).toInt32) &&& (3 : Int32))), .val (.int ((p4.toUInt32 >>> ((4 : Int32) &&& 31).toUInt32).toInt32)), .val (.int ((p4.toUInt32 >>> ((10 : Int32) &&& 31).toUInt32).toInt32)), .val (.ref r_o_123), .val (.ref r_o_139), .val (.ref b154), .val (.ref b183), .val (.int (p5 &&& (3 : Int32))), .val (.int (1 : Int32))] [(.int (own_eq_f (((p4.toUInt32 >>> ((2 : Int32) &&& 31).toUInt32).toInt32) &&& (3 : Int32)) (p4 &&& (3 : Int32)) p1 p0 p3 p2 (((p4.toUInt32 >>> ((10 : Int32) &&& 31).toUInt32).toInt32) &&& (3 : Int32)) (((((p4.toUInt32 >>> ((10 : Int32) &&& 31).toUInt32).toInt32).toUInt32 >>> ((2 : Int32) &&& 31).toUInt32).toInt32) &&& (3 : Int32)) (((((p4.toUInt32 >>> ((10 : Int32) &&& 31).toUInt32).toInt32).toUInt32 >>> ((4 : Int32) &&& 31).toUInt32).toInt32) &&& (3 : Int32)) p0 p1 p2 p3 (((p4.toUInt32 >>> ((4 : Int32) &&& 31).toUInt32).toInt32) &&& (3 : Int32)) (((((p4.toUInt32 >>> ((4 : Int32) &&& 31).toUInt32).toInt32).toUInt32 >>> ((2 : Int32) &&& 31).toUInt32).toInt32) &&& (3 : Int32)) (((((p4.toUInt32 >>> ((4 : Int32) &&& 31).toUInt32).toInt32).toUInt32 >>> ((4 : Int32) &&& 31).toUInt32).toInt32) &&& (3 : Int32))))])) _
                        refine XS.iload X500.here hx rfl (hb hby at_372) rfl ?_
                        show Steps p.tables e below (T500.setTop (mkF m 374 #[.val (.int p0), .val (.int p1), .val (.int p2), .val (.int p3), .val (.int p4), .val (.int p5), .val (.ref b3), .val (.ref b52), .val (.int (p4 &&& (3 : Int32))), .val (.int (((p4.toUInt32 >>> ((2 : Int32) &&& 31).toUInt32).toInt32) &&& (3 : Int32))), .val (.int ((p4.toUInt32 >>> ((4 : Int32) &&& 31).toUInt32).toInt32)), .val (.int ((p4.toUInt32 >>> ((10 : Int32) &&& 31).toUInt32).toInt32)), .val (.ref r_o_123), .val (.ref r_o_139), .val (.ref b154), .val (.ref b183), .val (.int (p5 &&& (3 : Int32))), .val (.int (1 : Int32))] [(.int (1 : Int32)), (.int (own_eq_f (((p4.toUInt32 >>> ((2 : Int32) &&& 31).toUInt32).toInt32) &&& (3 : Int32)) (p4 &&& (3 : Int32)) p1 p0 p3 p2 (((p4.toUInt32 >>> ((10 : Int32) &&& 31).toUInt32).toInt32) &&& (3 : Int32)) (((((p4.toUInt32 >>> ((10 : Int32) &&& 31).toUInt32).toInt32).toUInt32 >>> ((2 : Int32) &&& 31).toUInt32).toInt32) &&& (3 : Int32)) (((((p4.toUInt32 >>> ((10 : Int32) &&& 31).toUInt32).toInt32).toUInt32 >>> ((4 : Int32) &&& 31).toUInt32).toInt32) &&& (3 : Int32)) p0 p1 p2 p3 (((p4.toUInt32 >>> ((4 : Int32) &&& 31).toUInt32).toInt32) &&& (3 : Int32)) (((((p4.toUInt32 >>> ((4 : Int32) &&& 31).toUInt32).toInt32).toUInt32 >>> ((2 : Int32) &&& 31).toUInt32).toInt32) &&& (3 : Int32)) (((((p4.toUInt32 >>> ((4 : Int32) &&& 31).toUInt32).toInt32).toUInt32 >>> ((4 : Int32) &&& 31).toUInt32).toInt32) &&& (3 : Int32))))])) _
                        refine XS.icmpNo X500.here hx rfl (hb hby at_374) rfl (teq (((own_eqE _ _ _ _ _ _ _ _ _ _ _ _ _ _ _ _).trans ((own_sym _ _ _ _ _ _ _ _).trans (own_E7 hc206_285 hc224_295 (own_veq hc249_352) hc267_362 (own_veq hc296_418) hc314_428 (own_veq hc343_479)))) : (own_eq_f (((p4.toUInt32 >>> ((2 : Int32) &&& 31).toUInt32).toInt32) &&& (3 : Int32)) (p4 &&& (3 : Int32)) p1 p0 p3 p2 (((p4.toUInt32 >>> ((10 : Int32) &&& 31).toUInt32).toInt32) &&& (3 : Int32)) (((((p4.toUInt32 >>> ((10 : Int32) &&& 31).toUInt32).toInt32).toUInt32 >>> ((2 : Int32) &&& 31).toUInt32).toInt32) &&& (3 : Int32)) (((((p4.toUInt32 >>> ((10 : Int32) &&& 31).toUInt32).toInt32).toUInt32 >>> ((4 : Int32) &&& 31).toUInt32).toInt32) &&& (3 : Int32)) p0 p1 p2 p3 (((p4.toUInt32 >>> ((4 : Int32) &&& 31).toUInt32).toInt32) &&& (3 : Int32)) (((((p4.toUInt32 >>> ((4 : Int32) &&& 31).toUInt32).toInt32).toUInt32 >>> ((2 : Int32) &&& 31).toUInt32).toInt32) &&& (3 : Int32)) (((((p4.toUInt32 >>> ((4 : Int32) &&& 31).toUInt32).toInt32).toUInt32 >>> ((4 : Int32) &&& 31).toUInt32).toInt32) &&& (3 : Int32))) = (1 : Int32))).2 ?_
                        show Steps p.tables e below (T500.setTop (mkF m 377 #[.val (.int p0), .val (.int p1), .val (.int p2), .val (.int p3), .val (.int p4), .val (.int p5), .val (.ref b3), .val (.ref b52), .val (.int (p4 &&& (3 : Int32))), .val (.int (((p4.toUInt32 >>> ((2 : Int32) &&& 31).toUInt32).toInt32) &&& (3 : Int32))), .val (.int ((p4.toUInt32 >>> ((4 : Int32) &&& 31).toUInt32).toInt32)), .val (.int ((p4.toUInt32 >>> ((10 : Int32) &&& 31).toUInt32).toInt32)), .val (.ref r_o_123), .val (.ref r_o_139), .val (.ref b154), .val (.ref b183), .val (.int (p5 &&& (3 : Int32))), .val (.int (1 : Int32))] [])) _
                        refine XS.iconst X500.here hx rfl (hb hby at_377) ?_
                        show Steps p.tables e below (T500.setTop (mkF m 378 #[.val (.int p0), .val (.int p1), .val (.int p2), .val (.int p3), .val (.int p4), .val (.int p5), .val (.ref b3), .val (.ref b52), .val (.int (p4 &&& (3 : Int32))), .val (.int (((p4.toUInt32 >>> ((2 : Int32) &&& 31).toUInt32).toInt32) &&& (3 : Int32))), .val (.int ((p4.toUInt32 >>> ((4 : Int32) &&& 31).toUInt32).toInt32)), .val (.int ((p4.toUInt32 >>> ((10 : Int32) &&& 31).toUInt32).toInt32)), .val (.ref r_o_123), .val (.ref r_o_139), .val (.ref b154), .val (.ref b183), .val (.int (p5 &&& (3 : Int32))), .val (.int (1 : Int32))] [(.int (1 : Int32))])) _
                        refine XS.goto X500.here hx rfl (pc0 := 378) (pc' := 382) rfl (hb hby at_378) (by decide) (by decide) ?_
                        show Steps p.tables e below (T500.setTop (mkF m 382 #[.val (.int p0), .val (.int p1), .val (.int p2), .val (.int p3), .val (.int p4), .val (.int p5), .val (.ref b3), .val (.ref b52), .val (.int (p4 &&& (3 : Int32))), .val (.int (((p4.toUInt32 >>> ((2 : Int32) &&& 31).toUInt32).toInt32) &&& (3 : Int32))), .val (.int ((p4.toUInt32 >>> ((4 : Int32) &&& 31).toUInt32).toInt32)), .val (.int ((p4.toUInt32 >>> ((10 : Int32) &&& 31).toUInt32).toInt32)), .val (.ref r_o_123), .val (.ref r_o_139), .val (.ref b154), .val (.ref b183), .val (.int (p5 &&& (3 : Int32))), .val (.int (1 : Int32))] [(.int (1 : Int32))])) _
                        exact retN X500 hx (t := .boolean) Bd.returns (by simp) (hb hby at_382) hr
                      · show Qown_law Z p0 p1 p2 p3 p4 p5 w_c k_c vs_c h0 n0 _ T500.heap _
                        rw [eh500]
                        exact ⟨rfl, N501⟩
                    · have Fq513 : Fld Z T206.heap b154 "com/example/fovea/fovea/Memory$Key" "entry" "[I" (.ref b3) := ((Pf175_1.ext E183).keep K206 (ninS Ne194 nin0))
                      have Fq514 : Fld Z T206.heap b154 "com/example/fovea/fovea/Memory$Key" "slots" "[I" (.ref r_o_123) := ((Pf175_2.ext E183).keep K206 (ninS Ne194 nin0))
                      have Fq515 : Arv Z T206.heap b3 k3 .int (4 : Int32) [(.int p0), (.int p1), (.int p2), (.int p3)] (.int (0 : Int32)) := (((Fq176.keep K175 (ninS Ne157 nin0)).ext E183).keep K206 (ninS Ne186 nin0))
                      have Fq516 : Arv Z T206.heap r_o_123 k_r_123 .int (p4 &&& (3 : Int32)) [(.int (((p4.toUInt32 >>> ((4 : Int32) &&& 31).toUInt32).toInt32) &&& (3 : Int32))), (.int (((((p4.toUInt32 >>> ((4 : Int32) &&& 31).toUInt32).toInt32).toUInt32 >>> ((2 : Int32) &&& 31).toUInt32).toInt32) &&& (3 : Int32))), (.int (((((p4.toUInt32 >>> ((4 : Int32) &&& 31).toUInt32).toInt32).toUInt32 >>> ((4 : Int32) &&& 31).toUInt32).toInt32) &&& (3 : Int32)))] (.int (0 : Int32)) := ((Fq191.ext E183).keep K206 (ninS Ne190 nin0))
                      have Fq517 : Arv Z T206.heap b52 k52 .int (4 : Int32) [(.int p1), (.int p0), (.int p3), (.int p2)] (.int (0 : Int32)) := (Fq207.keep K206 (ninS Ne188 nin0))
                      have Fq518 : Arv Z T206.heap r_o_139 k_r_139 .int (((p4.toUInt32 >>> ((2 : Int32) &&& 31).toUInt32).toInt32) &&& (3 : Int32)) [(.int (((p4.toUInt32 >>> ((10 : Int32) &&& 31).toUInt32).toInt32) &&& (3 : Int32))), (.int (((((p4.toUInt32 >>> ((10 : Int32) &&& 31).toUInt32).toInt32).toUInt32 >>> ((2 : Int32) &&& 31).toUInt32).toInt32) &&& (3 : Int32))), (.int (((((p4.toUInt32 >>> ((10 : Int32) &&& 31).toUInt32).toInt32).toUInt32 >>> ((4 : Int32) &&& 31).toUInt32).toInt32) &&& (3 : Int32)))] (.int (0 : Int32)) := (Fq208.keep K206 (ninS Ne192 nin0))
                      have Fq519 : Exa Z T206.heap b154 "com/example/fovea/fovea/Memory$Key" := ((Pf175_0.ext E183).keep K206)
                      obtain ⟨cq512, kq512, q512a, q512b, q512c⟩ := isOf hZ eh475 Fq519
                      obtain ⟨_, _, ⟨T512, L512, k512, n512⟩, -, X512, ⟨Lc512, hQ512, l512, y512, z512⟩, st512⟩ := X475.virtualBack hx (y := (⟨"com/example/fovea/fovea/Memory$Key", "equals", "(Ljava/lang/Object;)Z"⟩ : MethodName)) (z := (⟨"com/example/fovea/fovea/Memory$Key", "equals", "(Ljava/lang/Object;)Z"⟩ : MethodName)) hown (mvT hZ (hw _ (List.mem_of_getElem? (i := 25) rfl))) (mvT hZ (hw _ (List.mem_of_getElem? (i := 26) rfl))) (notFace_of_selects (args := #[]) (mvT hZ (hw _ (List.mem_of_getElem? (i := 28) rfl)))) (mvT hZ (hw _ (List.mem_of_getElem? (i := 28) rfl))) (mvT hZ (hw _ (List.mem_of_getElem? (i := 27) rfl))) (by decide) (backOf (W := 0) (own_eq l Z a0 hw [] b154 b183 b3 r_o_123 b52 r_o_139 k3 k_r_123 k52 k_r_139 (p4 &&& (3 : Int32)) (((p4.toUInt32 >>> ((2 : Int32) &&& 31).toUInt32).toInt32) &&& (3 : Int32)) p0 p1 p2 p3 (((p4.toUInt32 >>> ((4 : Int32) &&& 31).toUInt32).toInt32) &&& (3 : Int32)) (((((p4.toUInt32 >>> ((4 : Int32) &&& 31).toUInt32).toInt32).toUInt32 >>> ((2 : Int32) &&& 31).toUInt32).toInt32) &&& (3 : Int32)) (((((p4.toUInt32 >>> ((4 : Int32) &&& 31).toUInt32).toInt32).toUInt32 >>> ((4 : Int32) &&& 31).toUInt32).toInt32) &&& (3 : Int32)) p1 p0 p3 p2 (((p4.toUInt32 >>> ((10 : Int32) &&& 31).toUInt32).toInt32) &&& (3 : Int32)) (((((p4.toUInt32 >>> ((10 : Int32) &&& 31).toUInt32).toInt32).toUInt32 >>> ((2 : Int32) &&& 31).toUInt32).toInt32) &&& (3 : Int32)) (((((p4.toUInt32 >>> ((10 : Int32) &&& 31).toUInt32).toInt32).toUInt32 >>> ((4 : Int32) &&& 31).toUInt32).toInt32) &&& (3 : Int32)) T206.heap n0 Zs211 Pf206_0 Fq513 Fq514 Pf206_1 Pf206_2 Fq515 Fq516 Fq517 Fq518 (own_and4 _) (own_and4 _) (own_and4 _) (own_and4 _) (own_and4 _) (own_and4 _) (own_and3 _).2) hZ (hw _ (List.mem_of_getElem? (i := 29) rfl)) (hw _ (List.mem_of_getElem? (i := 7) rfl)) (by decide) (by decide)) q512a q512c (g := (mkF m 357 #[.val (.int p0), .val (.int p1), .val (.int p2), .val (.int p3), .val (.int p4), .val (.int p5), .val (.ref b3), .val (.ref b52), .val (.int (p4 &&& (3 : Int32))), .val (.int (((p4.toUInt32 >>> ((2 : Int32) &&& 31).toUInt32).toInt32) &&& (3 : Int32))), .val (.int ((p4.toUInt32 >>> ((4 : Int32) &&& 31).toUInt32).toInt32)), .val (.int ((p4.toUInt32 >>> ((10 : Int32) &&& 31).toUInt32).toInt32)), .val (.ref r_o_123), .val (.ref r_o_139), .val (.ref b154), .val (.ref b183), .val (.int (p5 &&& (3 : Int32))), .val (.int (0 : Int32))] [(.ref b183), (.ref b154)])) rfl (by rw [hml]; rfl) (Steps.refl _) (argsL := [(.ref b183)]) (rest := []) (lenOf own_pd5 rfl) rfl (by show 2 * 0 + _ ≤ _; exact Nat.le_of_eq rfl) (hb hby at_357) (fun _ _ => ⟨rfl, eh475, (by decide : 6 + 0 ≤ _), (by decide : 24 + 0 ≤ _)⟩)
                      dsimp only [Pt.U, Pt.locs, Pt.cells, Pt.slots] at X512 l512 y512 z512 st512 hQ512
                      rw [l512, y512, z512] at X512
                      obtain ⟨rfl, Nq512, eh512⟩ := hQ512
                      have N520 := Fr.app N476 Nq512
                      obtain ⟨cq526, kq526, q526a, q526b, q526c⟩ := isOf hZ eh512 Pf206_0
                      obtain ⟨_, _, ⟨T526, L526, k526, n526⟩, -, X526, ⟨Lc526, hQ526, l526, y526, z526⟩, st526⟩ := X512.virtualBack hx (y := (⟨"com/example/fovea/fovea/Memory$Key", "equals", "(Ljava/lang/Object;)Z"⟩ : MethodName)) (z := (⟨"com/example/fovea/fovea/Memory$Key", "equals", "(Ljava/lang/Object;)Z"⟩ : MethodName)) hown (mvT hZ (hw _ (List.mem_of_getElem? (i := 25) rfl))) (mvT hZ (hw _ (List.mem_of_getElem? (i := 26) rfl))) (notFace_of_selects (args := #[]) (mvT hZ (hw _ (List.mem_of_getElem? (i := 28) rfl)))) (mvT hZ (hw _ (List.mem_of_getElem? (i := 28) rfl))) (mvT hZ (hw _ (List.mem_of_getElem? (i := 27) rfl))) (by decide) (backOf (W := 0) (own_eq l Z a0 hw [] b183 b154 b52 r_o_139 b3 r_o_123 k52 k_r_139 k3 k_r_123 (((p4.toUInt32 >>> ((2 : Int32) &&& 31).toUInt32).toInt32) &&& (3 : Int32)) (p4 &&& (3 : Int32)) p1 p0 p3 p2 (((p4.toUInt32 >>> ((10 : Int32) &&& 31).toUInt32).toInt32) &&& (3 : Int32)) (((((p4.toUInt32 >>> ((10 : Int32) &&& 31).toUInt32).toInt32).toUInt32 >>> ((2 : Int32) &&& 31).toUInt32).toInt32) &&& (3 : Int32)) (((((p4.toUInt32 >>> ((10 : Int32) &&& 31).toUInt32).toInt32).toUInt32 >>> ((4 : Int32) &&& 31).toUInt32).toInt32) &&& (3 : Int32)) p0 p1 p2 p3 (((p4.toUInt32 >>> ((4 : Int32) &&& 31).toUInt32).toInt32) &&& (3 : Int32)) (((((p4.toUInt32 >>> ((4 : Int32) &&& 31).toUInt32).toInt32).toUInt32 >>> ((2 : Int32) &&& 31).toUInt32).toInt32) &&& (3 : Int32)) (((((p4.toUInt32 >>> ((4 : Int32) &&& 31).toUInt32).toInt32).toUInt32 >>> ((4 : Int32) &&& 31).toUInt32).toInt32) &&& (3 : Int32)) T206.heap n0 Zs211 Fq519 Pf206_1 Pf206_2 Fq513 Fq514 Fq517 Fq518 Fq515 Fq516 (own_and4 _) (own_and4 _) (own_and4 _) (own_and4 _) (own_and4 _) (own_and4 _) (own_and3 _).2) hZ (hw _ (List.mem_of_getElem? (i := 29) rfl)) (hw _ (List.mem_of_getElem? (i := 7) rfl)) (by decide) (by decide)) q526a q526c (g := (mkF m 369 #[.val (.int p0), .val (.int p1), .val (.int p2), .val (.int p3), .val (.int p4), .val (.int p5), .val (.ref b3), .val (.ref b52), .val (.int (p4 &&& (3 : Int32))), .val (.int (((p4.toUInt32 >>> ((2 : Int32) &&& 31).toUInt32).toInt32) &&& (3 : Int32))), .val (.int ((p4.toUInt32 >>> ((4 : Int32) &&& 31).toUInt32).toInt32)), .val (.int ((p4.toUInt32 >>> ((10 : Int32) &&& 31).toUInt32).toInt32)), .val (.ref r_o_123), .val (.ref r_o_139), .val (.ref b154), .val (.ref b183), .val (.int (p5 &&& (3 : Int32))), .val (.int (0 : Int32))] [(.ref b154), (.ref b183)])) rfl (by rw [hml]; rfl) (Steps.refl _) (argsL := [(.ref b154)]) (rest := []) (lenOf own_pd5 rfl) rfl (by show 2 * 0 + _ ≤ _; exact Nat.le_of_eq rfl) (hb hby at_369) (fun _ _ => ⟨rfl, eh512, (by decide : 6 + 0 ≤ _), (by decide : 24 + 0 ≤ _)⟩)
                      dsimp only [Pt.U, Pt.locs, Pt.cells, Pt.slots] at X526 l526 y526 z526 st526 hQ526
                      rw [l526, y526, z526] at X526
                      obtain ⟨rfl, Nq526, eh526⟩ := hQ526
                      have N527 := Fr.app N520 Nq526
                      obtain ⟨fs, hr, hrun, hended, hW, hsame⟩ := X526.leave (v := some (.int (1 : Int32))) (fun h => by rw [Bd.returns] at h; cases h) (hlocks := BodyLoose.notSynchronized Bd)
                      refine ⟨_, _, pre478 _ ?_, hrun, hended, _, _, rfl, ?_, ⟨_, rfl⟩, hW, hsame.mono (by decide) (by decide)⟩
                      · show Steps p.tables e below (T475.setTop (mkF m 343 #[.val (.int p0), .val (.int p1), .val (.int p2), .val (.int p3), .val (.int p4), .val (.int p5), .val (.ref b3), .val (.ref b52), .val (.int (p4 &&& (3 : Int32))), .val (.int (((p4.toUInt32 >>> ((2 : Int32) &&& 31).toUInt32).toInt32) &&& (3 : Int32))), .val (.int ((p4.toUInt32 >>> ((4 : Int32) &&& 31).toUInt32).toInt32)), .val (.int ((p4.toUInt32 >>> ((10 : Int32) &&& 31).toUInt32).toInt32)), .val (.ref r_o_123), .val (.ref r_o_139), .val (.ref b154), .val (.ref b183), .val (.int (p5 &&& (3 : Int32))), .val (.int (1 : Int32))] [(.int (own_v2_f p0 p1 p2 p3 (((((p4.toUInt32 >>> ((10 : Int32) &&& 31).toUInt32).toInt32).toUInt32 >>> ((4 : Int32) &&& 31).toUInt32).toInt32) &&& (3 : Int32)))), (.int (own_v1_f p0 p1 p2 p3 (((((p4.toUInt32 >>> ((4 : Int32) &&& 31).toUInt32).toInt32).toUInt32 >>> ((4 : Int32) &&& 31).toUInt32).toInt32) &&& (3 : Int32))))])) _
                        refine XS.icmpYes X475.here hx rfl (pc0 := 343) (pc' := 350) rfl (hb hby at_343) rfl (feq hc343_479).2 (by decide) (by decide) ?_
                        show Steps p.tables e below (T475.setTop (mkF m 350 #[.val (.int p0), .val (.int p1), .val (.int p2), .val (.int p3), .val (.int p4), .val (.int p5), .val (.ref b3), .val (.ref b52), .val (.int (p4 &&& (3 : Int32))), .val (.int (((p4.toUInt32 >>> ((2 : Int32) &&& 31).toUInt32).toInt32) &&& (3 : Int32))), .val (.int ((p4.toUInt32 >>> ((4 : Int32) &&& 31).toUInt32).toInt32)), .val (.int ((p4.toUInt32 >>> ((10 : Int32) &&& 31).toUInt32).toInt32)), .val (.ref r_o_123), .val (.ref r_o_139), .val (.ref b154), .val (.ref b183), .val (.int (p5 &&& (3 : Int32))), .val (.int (1 : Int32))] [])) _
                        refine XS.iconst X475.here hx rfl (hb hby at_350) ?_
                        show Steps p.tables e below (T475.setTop (mkF m 351 #[.val (.int p0), .val (.int p1), .val (.int p2), .val (.int p3), .val (.int p4), .val (.int p5), .val (.ref b3), .val (.ref b52), .val (.int (p4 &&& (3 : Int32))), .val (.int (((p4.toUInt32 >>> ((2 : Int32) &&& 31).toUInt32).toInt32) &&& (3 : Int32))), .val (.int ((p4.toUInt32 >>> ((4 : Int32) &&& 31).toUInt32).toInt32)), .val (.int ((p4.toUInt32 >>> ((10 : Int32) &&& 31).toUInt32).toInt32)), .val (.ref r_o_123), .val (.ref r_o_139), .val (.ref b154), .val (.ref b183), .val (.int (p5 &&& (3 : Int32))), .val (.int (1 : Int32))] [(.int (0 : Int32))])) _
                        refine XS.istore X475.here hx rfl (hb hby at_351) rfl (l' := #[.val (.int p0), .val (.int p1), .val (.int p2), .val (.int p3), .val (.int p4), .val (.int p5), .val (.ref b3), .val (.ref b52), .val (.int (p4 &&& (3 : Int32))), .val (.int (((p4.toUInt32 >>> ((2 : Int32) &&& 31).toUInt32).toInt32) &&& (3 : Int32))), .val (.int ((p4.toUInt32 >>> ((4 : Int32) &&& 31).toUInt32).toInt32)), .val (.int ((p4.toUInt32 >>> ((10 : Int32) &&& 31).toUInt32).toInt32)), .val (.ref r_o_123), .val (.ref r_o_139), .val (.ref b154), .val (.ref b183), .val (.int (p5 &&& (3 : Int32))), .val (.int (0 : Int32))]) rfl ?_
                        show Steps p.tables e below (T475.setTop (mkF m 353 #[.val (.int p0), .val (.int p1), .val (.int p2), .val (.int p3), .val (.int p4), .val (.int p5), .val (.ref b3), .val (.ref b52), .val (.int (p4 &&& (3 : Int32))), .val (.int (((p4.toUInt32 >>> ((2 : Int32) &&& 31).toUInt32).toInt32) &&& (3 : Int32))), .val (.int ((p4.toUInt32 >>> ((4 : Int32) &&& 31).toUInt32).toInt32)), .val (.int ((p4.toUInt32 >>> ((10 : Int32) &&& 31).toUInt32).toInt32)), .val (.ref r_o_123), .val (.ref r_o_139), .val (.ref b154), .val (.ref b183), .val (.int (p5 &&& (3 : Int32))), .val (.int (0 : Int32))] [])) _
                        refine XS.aload X475.here hx rfl (hb hby at_353) rfl rfl ?_
                        show Steps p.tables e below (T475.setTop (mkF m 355 #[.val (.int p0), .val (.int p1), .val (.int p2), .val (.int p3), .val (.int p4), .val (.int p5), .val (.ref b3), .val (.ref b52), .val (.int (p4 &&& (3 : Int32))), .val (.int (((p4.toUInt32 >>> ((2 : Int32) &&& 31).toUInt32).toInt32) &&& (3 : Int32))), .val (.int ((p4.toUInt32 >>> ((4 : Int32) &&& 31).toUInt32).toInt32)), .val (.int ((p4.toUInt32 >>> ((10 : Int32) &&& 31).toUInt32).toInt32)), .val (.ref r_o_123), .val (.ref r_o_139), .val (.ref b154), .val (.ref b183), .val (.int (p5 &&& (3 : Int32))), .val (.int (0 : Int32))] [(.ref b154)])) _
                        refine XS.aload X475.here hx rfl (hb hby at_355) rfl rfl ?_
                        show Steps p.tables e below (T475.setTop (mkF m 357 #[.val (.int p0), .val (.int p1), .val (.int p2), .val (.int p3), .val (.int p4), .val (.int p5), .val (.ref b3), .val (.ref b52), .val (.int (p4 &&& (3 : Int32))), .val (.int (((p4.toUInt32 >>> ((2 : Int32) &&& 31).toUInt32).toInt32) &&& (3 : Int32))), .val (.int ((p4.toUInt32 >>> ((4 : Int32) &&& 31).toUInt32).toInt32)), .val (.int ((p4.toUInt32 >>> ((10 : Int32) &&& 31).toUInt32).toInt32)), .val (.ref r_o_123), .val (.ref r_o_139), .val (.ref b154), .val (.ref b183), .val (.int (p5 &&& (3 : Int32))), .val (.int (0 : Int32))] [(.ref b183), (.ref b154)])) _
                        refine st512.trans ?_
                        show Steps p.tables e below (T512.setTop (mkF m 360 #[.val (.int p0), .val (.int p1), .val (.int p2), .val (.int p3), .val (.int p4), .val (.int p5), .val (.ref b3), .val (.ref b52), .val (.int (p4 &&& (3 : Int32))), .val (.int (((p4.toUInt32 >>> ((2 : Int32) &&& 31).toUInt32).toInt32) &&& (3 : Int32))), .val (.int ((p4.toUInt32 >>> ((4 : Int32) &&& 31).toUInt32).toInt32)), .val (.int ((p4.toUInt32 >>> ((10 : Int32) &&& 31).toUInt32).toInt32)), .val (.ref r_o_123), .val (.ref r_o_139), .val (.ref b154), .val (.ref b183), .val (.int (p5 &&& (3 : Int32))), .val (.int (0 : Int32))] [(.int (own_eq_f (p4 &&& (3 : Int32)) (((p4.toUInt32 >>> ((2 : Int32) &&& 31).toUInt32).toInt32) &&& (3 : Int32)) p0 p1 p2 p3 (((p4.toUInt32 >>> ((4 : Int32) &&& 31).toUInt32).toInt32) &&& (3 : Int32)) (((((p4.toUInt32 >>> ((4 : Int32) &&& 31).toUInt32).toInt32).toUInt32 >>> ((2 : Int32) &&& 31).toUInt32).toInt32) &&& (3 : Int32)) (((((p4.toUInt32 >>> ((4 : Int32) &&& 31).toUInt32).toInt32).toUInt32 >>> ((4 : Int32) &&& 31).toUInt32).toInt32) &&& (3 : Int32)) p1 p0 p3 p2 (((p4.toUInt32 >>> ((10 : Int32) &&& 31).toUInt32).toInt32) &&& (3 : Int32)) (((((p4.toUInt32 >>> ((10 : Int32) &&& 31).toUInt32).toInt32).toUInt32 >>> ((2 : Int32) &&& 31).toUInt32).toInt32) &&& (3 : Int32)) (((((p4.toUInt32 >>> ((10 : Int32) &&& 31).toUInt32).toInt32).toUInt32 >>> ((4 : Int32) &&& 31).toUInt32).toInt32) &&& (3 : Int32))))])) _
                        refine XS.iload X512.here hx rfl (hb hby at_360) rfl ?_
                        show Steps p.tables e below (T512.setTop (mkF m 362 #[.val (.int p0), .val (.int p1), .val (.int p2), .val (.int p3), .val (.int p4), .val (.int p5), .val (.ref b3), .val (.ref b52), .val (.int (p4 &&& (3 : Int32))), .val (.int (((p4.toUInt32 >>> ((2 : Int32) &&& 31).toUInt32).toInt32) &&& (3 : Int32))), .val (.int ((p4.toUInt32 >>> ((4 : Int32) &&& 31).toUInt32).toInt32)), .val (.int ((p4.toUInt32 >>> ((10 : Int32) &&& 31).toUInt32).toInt32)), .val (.ref r_o_123), .val (.ref r_o_139), .val (.ref b154), .val (.ref b183), .val (.int (p5 &&& (3 : Int32))), .val (.int (0 : Int32))] [(.int (0 : Int32)), (.int (own_eq_f (p4 &&& (3 : Int32)) (((p4.toUInt32 >>> ((2 : Int32) &&& 31).toUInt32).toInt32) &&& (3 : Int32)) p0 p1 p2 p3 (((p4.toUInt32 >>> ((4 : Int32) &&& 31).toUInt32).toInt32) &&& (3 : Int32)) (((((p4.toUInt32 >>> ((4 : Int32) &&& 31).toUInt32).toInt32).toUInt32 >>> ((2 : Int32) &&& 31).toUInt32).toInt32) &&& (3 : Int32)) (((((p4.toUInt32 >>> ((4 : Int32) &&& 31).toUInt32).toInt32).toUInt32 >>> ((4 : Int32) &&& 31).toUInt32).toInt32) &&& (3 : Int32)) p1 p0 p3 p2 (((p4.toUInt32 >>> ((10 : Int32) &&& 31).toUInt32).toInt32) &&& (3 : Int32)) (((((p4.toUInt32 >>> ((10 : Int32) &&& 31).toUInt32).toInt32).toUInt32 >>> ((2 : Int32) &&& 31).toUInt32).toInt32) &&& (3 : Int32)) (((((p4.toUInt32 >>> ((10 : Int32) &&& 31).toUInt32).toInt32).toUInt32 >>> ((4 : Int32) &&& 31).toUInt32).toInt32) &&& (3 : Int32))))])) _
                        refine XS.icmpNo X512.here hx rfl (hb hby at_362) rfl (teq (((own_eqE _ _ _ _ _ _ _ _ _ _ _ _ _ _ _ _).trans (own_E6 hc206_285 hc224_295 (own_veq hc249_352) hc267_362 (own_veq hc296_418) hc314_428 (own_vne hc343_479))) : (own_eq_f (p4 &&& (3 : Int32)) (((p4.toUInt32 >>> ((2 : Int32) &&& 31).toUInt32).toInt32) &&& (3 : Int32)) p0 p1 p2 p3 (((p4.toUInt32 >>> ((4 : Int32) &&& 31).toUInt32).toInt32) &&& (3 : Int32)) (((((p4.toUInt32 >>> ((4 : Int32) &&& 31).toUInt32).toInt32).toUInt32 >>> ((2 : Int32) &&& 31).toUInt32).toInt32) &&& (3 : Int32)) (((((p4.toUInt32 >>> ((4 : Int32) &&& 31).toUInt32).toInt32).toUInt32 >>> ((4 : Int32) &&& 31).toUInt32).toInt32) &&& (3 : Int32)) p1 p0 p3 p2 (((p4.toUInt32 >>> ((10 : Int32) &&& 31).toUInt32).toInt32) &&& (3 : Int32)) (((((p4.toUInt32 >>> ((10 : Int32) &&& 31).toUInt32).toInt32).toUInt32 >>> ((2 : Int32) &&& 31).toUInt32).toInt32) &&& (3 : Int32)) (((((p4.toUInt32 >>> ((10 : Int32) &&& 31).toUInt32).toInt32).toUInt32 >>> ((4 : Int32) &&& 31).toUInt32).toInt32) &&& (3 : Int32))) = (0 : Int32))).2 ?_
                        show Steps p.tables e below (T512.setTop (mkF m 365 #[.val (.int p0), .val (.int p1), .val (.int p2), .val (.int p3), .val (.int p4), .val (.int p5), .val (.ref b3), .val (.ref b52), .val (.int (p4 &&& (3 : Int32))), .val (.int (((p4.toUInt32 >>> ((2 : Int32) &&& 31).toUInt32).toInt32) &&& (3 : Int32))), .val (.int ((p4.toUInt32 >>> ((4 : Int32) &&& 31).toUInt32).toInt32)), .val (.int ((p4.toUInt32 >>> ((10 : Int32) &&& 31).toUInt32).toInt32)), .val (.ref r_o_123), .val (.ref r_o_139), .val (.ref b154), .val (.ref b183), .val (.int (p5 &&& (3 : Int32))), .val (.int (0 : Int32))] [])) _
                        refine XS.aload X512.here hx rfl (hb hby at_365) rfl rfl ?_
                        show Steps p.tables e below (T512.setTop (mkF m 367 #[.val (.int p0), .val (.int p1), .val (.int p2), .val (.int p3), .val (.int p4), .val (.int p5), .val (.ref b3), .val (.ref b52), .val (.int (p4 &&& (3 : Int32))), .val (.int (((p4.toUInt32 >>> ((2 : Int32) &&& 31).toUInt32).toInt32) &&& (3 : Int32))), .val (.int ((p4.toUInt32 >>> ((4 : Int32) &&& 31).toUInt32).toInt32)), .val (.int ((p4.toUInt32 >>> ((10 : Int32) &&& 31).toUInt32).toInt32)), .val (.ref r_o_123), .val (.ref r_o_139), .val (.ref b154), .val (.ref b183), .val (.int (p5 &&& (3 : Int32))), .val (.int (0 : Int32))] [(.ref b183)])) _
                        refine XS.aload X512.here hx rfl (hb hby at_367) rfl rfl ?_
                        show Steps p.tables e below (T512.setTop (mkF m 369 #[.val (.int p0), .val (.int p1), .val (.int p2), .val (.int p3), .val (.int p4), .val (.int p5), .val (.ref b3), .val (.ref b52), .val (.int (p4 &&& (3 : Int32))), .val (.int (((p4.toUInt32 >>> ((2 : Int32) &&& 31).toUInt32).toInt32) &&& (3 : Int32))), .val (.int ((p4.toUInt32 >>> ((4 : Int32) &&& 31).toUInt32).toInt32)), .val (.int ((p4.toUInt32 >>> ((10 : Int32) &&& 31).toUInt32).toInt32)), .val (.ref r_o_123), .val (.ref r_o_139), .val (.ref b154), .val (.ref b183), .val (.int (p5 &&& (3 : Int32))), .val (.int (0 : Int32))] [(.ref b154), (.ref b183)])) _
                        refine st526.trans ?_
                        show Steps p.tables e below (T526.setTop (mkF m 372 #[.val (.int p0), .val (.int p1), .val (.int p2), .val (.int p3), .val (.int p4), .val (.int p5), .val (.ref b3), .val (.ref b52), .val (.int (p4 &&& (3 : Int32))), .val (.int (((p4.toUInt32 >>> ((2 : Int32) &&& 31).toUInt32).toInt32) &&& (3 : Int32))), .val (.int ((p4.toUInt32 >>> ((4 : Int32) &&& 31).toUInt32).toInt32)), .val (.int ((p4.toUInt32 >>> ((10 : Int32) &&& 31).toUInt32).toInt32)), .val (.ref r_o_123), .val (.ref r_o_139), .val (.ref b154), .val (.ref b183), .val (.int (p5 &&& (3 : Int32))), .val (.int (0 : Int32))] [(.int (own_eq_f (((p4.toUInt32 >>> ((2 : Int32) &&& 31).toUInt32).toInt32) &&& (3 : Int32)) (p4 &&& (3 : Int32)) p1 p0 p3 p2 (((p4.toUInt32 >>> ((10 : Int32) &&& 31).toUInt32).toInt32) &&& (3 : Int32)) (((((p4.toUInt32 >>> ((10 : Int32) &&& 31).toUInt32).toInt32).toUInt32 >>> ((2 : Int32) &&& 31).toUInt32).toInt32) &&& (3 : Int32)) (((((p4.toUInt32 >>> ((10 : Int32) &&& 31).toUInt32).toInt32).toUInt32 >>> ((4 : Int32) &&& 31).toUInt32).toInt32) &&& (3 : Int32)) p0 p1 p2 p3 (((p4.toUInt32 >>> ((4 : Int32) &&& 31).toUInt32).toInt32) &&& (3 : Int32)) (((((p4.toUInt32 >>> ((4 : Int32) &&& 31).toUInt32).toInt32).toUInt32 >>> ((2 : Int32) &&& 31).toUInt32).toInt32) &&& (3 : Int32)) (((((p4.toUInt32 >>> ((4 : Int32) &&& 31).toUInt32).toInt32).toUInt32 >>> ((4 : Int32) &&& 31).toUInt32).toInt32) &&& (3 : Int32))))])) _
                        refine XS.iload X526.here hx rfl (hb hby at_372) rfl ?_
                        show Steps p.tables e below (T526.setTop (mkF m 374 #[.val (.int p0), .val (.int p1), .val (.int p2), .val (.int p3), .val (.int p4), .val (.int p5), .val (.ref b3), .val (.ref b52), .val (.int (p4 &&& (3 : Int32))), .val (.int (((p4.toUInt32 >>> ((2 : Int32) &&& 31).toUInt32).toInt32) &&& (3 : Int32))), .val (.int ((p4.toUInt32 >>> ((4 : Int32) &&& 31).toUInt32).toInt32)), .val (.int ((p4.toUInt32 >>> ((10 : Int32) &&& 31).toUInt32).toInt32)), .val (.ref r_o_123), .val (.ref r_o_139), .val (.ref b154), .val (.ref b183), .val (.int (p5 &&& (3 : Int32))), .val (.int (0 : Int32))] [(.int (0 : Int32)), (.int (own_eq_f (((p4.toUInt32 >>> ((2 : Int32) &&& 31).toUInt32).toInt32) &&& (3 : Int32)) (p4 &&& (3 : Int32)) p1 p0 p3 p2 (((p4.toUInt32 >>> ((10 : Int32) &&& 31).toUInt32).toInt32) &&& (3 : Int32)) (((((p4.toUInt32 >>> ((10 : Int32) &&& 31).toUInt32).toInt32).toUInt32 >>> ((2 : Int32) &&& 31).toUInt32).toInt32) &&& (3 : Int32)) (((((p4.toUInt32 >>> ((10 : Int32) &&& 31).toUInt32).toInt32).toUInt32 >>> ((4 : Int32) &&& 31).toUInt32).toInt32) &&& (3 : Int32)) p0 p1 p2 p3 (((p4.toUInt32 >>> ((4 : Int32) &&& 31).toUInt32).toInt32) &&& (3 : Int32)) (((((p4.toUInt32 >>> ((4 : Int32) &&& 31).toUInt32).toInt32).toUInt32 >>> ((2 : Int32) &&& 31).toUInt32).toInt32) &&& (3 : Int32)) (((((p4.toUInt32 >>> ((4 : Int32) &&& 31).toUInt32).toInt32).toUInt32 >>> ((4 : Int32) &&& 31).toUInt32).toInt32) &&& (3 : Int32))))])) _
                        refine XS.icmpNo X526.here hx rfl (hb hby at_374) rfl (teq (((own_eqE _ _ _ _ _ _ _ _ _ _ _ _ _ _ _ _).trans ((own_sym _ _ _ _ _ _ _ _).trans (own_E6 hc206_285 hc224_295 (own_veq hc249_352) hc267_362 (own_veq hc296_418) hc314_428 (own_vne hc343_479)))) : (own_eq_f (((p4.toUInt32 >>> ((2 : Int32) &&& 31).toUInt32).toInt32) &&& (3 : Int32)) (p4 &&& (3 : Int32)) p1 p0 p3 p2 (((p4.toUInt32 >>> ((10 : Int32) &&& 31).toUInt32).toInt32) &&& (3 : Int32)) (((((p4.toUInt32 >>> ((10 : Int32) &&& 31).toUInt32).toInt32).toUInt32 >>> ((2 : Int32) &&& 31).toUInt32).toInt32) &&& (3 : Int32)) (((((p4.toUInt32 >>> ((10 : Int32) &&& 31).toUInt32).toInt32).toUInt32 >>> ((4 : Int32) &&& 31).toUInt32).toInt32) &&& (3 : Int32)) p0 p1 p2 p3 (((p4.toUInt32 >>> ((4 : Int32) &&& 31).toUInt32).toInt32) &&& (3 : Int32)) (((((p4.toUInt32 >>> ((4 : Int32) &&& 31).toUInt32).toInt32).toUInt32 >>> ((2 : Int32) &&& 31).toUInt32).toInt32) &&& (3 : Int32)) (((((p4.toUInt32 >>> ((4 : Int32) &&& 31).toUInt32).toInt32).toUInt32 >>> ((4 : Int32) &&& 31).toUInt32).toInt32) &&& (3 : Int32))) = (0 : Int32))).2 ?_
                        show Steps p.tables e below (T526.setTop (mkF m 377 #[.val (.int p0), .val (.int p1), .val (.int p2), .val (.int p3), .val (.int p4), .val (.int p5), .val (.ref b3), .val (.ref b52), .val (.int (p4 &&& (3 : Int32))), .val (.int (((p4.toUInt32 >>> ((2 : Int32) &&& 31).toUInt32).toInt32) &&& (3 : Int32))), .val (.int ((p4.toUInt32 >>> ((4 : Int32) &&& 31).toUInt32).toInt32)), .val (.int ((p4.toUInt32 >>> ((10 : Int32) &&& 31).toUInt32).toInt32)), .val (.ref r_o_123), .val (.ref r_o_139), .val (.ref b154), .val (.ref b183), .val (.int (p5 &&& (3 : Int32))), .val (.int (0 : Int32))] [])) _
                        refine XS.iconst X526.here hx rfl (hb hby at_377) ?_
                        show Steps p.tables e below (T526.setTop (mkF m 378 #[.val (.int p0), .val (.int p1), .val (.int p2), .val (.int p3), .val (.int p4), .val (.int p5), .val (.ref b3), .val (.ref b52), .val (.int (p4 &&& (3 : Int32))), .val (.int (((p4.toUInt32 >>> ((2 : Int32) &&& 31).toUInt32).toInt32) &&& (3 : Int32))), .val (.int ((p4.toUInt32 >>> ((4 : Int32) &&& 31).toUInt32).toInt32)), .val (.int ((p4.toUInt32 >>> ((10 : Int32) &&& 31).toUInt32).toInt32)), .val (.ref r_o_123), .val (.ref r_o_139), .val (.ref b154), .val (.ref b183), .val (.int (p5 &&& (3 : Int32))), .val (.int (0 : Int32))] [(.int (1 : Int32))])) _
                        refine XS.goto X526.here hx rfl (pc0 := 378) (pc' := 382) rfl (hb hby at_378) (by decide) (by decide) ?_
                        show Steps p.tables e below (T526.setTop (mkF m 382 #[.val (.int p0), .val (.int p1), .val (.int p2), .val (.int p3), .val (.int p4), .val (.int p5), .val (.ref b3), .val (.ref b52), .val (.int (p4 &&& (3 : Int32))), .val (.int (((p4.toUInt32 >>> ((2 : Int32) &&& 31).toUInt32).toInt32) &&& (3 : Int32))), .val (.int ((p4.toUInt32 >>> ((4 : Int32) &&& 31).toUInt32).toInt32)), .val (.int ((p4.toUInt32 >>> ((10 : Int32) &&& 31).toUInt32).toInt32)), .val (.ref r_o_123), .val (.ref r_o_139), .val (.ref b154), .val (.ref b183), .val (.int (p5 &&& (3 : Int32))), .val (.int (0 : Int32))] [(.int (1 : Int32))])) _
                        exact retN X526 hx (t := .boolean) Bd.returns (by simp) (hb hby at_382) hr
                      · show Qown_law Z p0 p1 p2 p3 p4 p5 w_c k_c vs_c h0 n0 _ T526.heap _
                        rw [eh526]
                        exact ⟨rfl, N527⟩
                · have Fq541 : Fld Z T206.heap b154 "com/example/fovea/fovea/Memory$Key" "entry" "[I" (.ref b3) := ((Pf175_1.ext E183).keep K206 (ninS Ne194 nin0))
                  have Fq542 : Fld Z T206.heap b154 "com/example/fovea/fovea/Memory$Key" "slots" "[I" (.ref r_o_123) := ((Pf175_2.ext E183).keep K206 (ninS Ne194 nin0))
                  have Fq543 : Arv Z T206.heap b3 k3 .int (4 : Int32) [(.int p0), (.int p1), (.int p2), (.int p3)] (.int (0 : Int32)) := (((Fq176.keep K175 (ninS Ne157 nin0)).ext E183).keep K206 (ninS Ne186 nin0))
                  have Fq544 : Arv Z T206.heap r_o_123 k_r_123 .int (p4 &&& (3 : Int32)) [(.int (((p4.toUInt32 >>> ((4 : Int32) &&& 31).toUInt32).toInt32) &&& (3 : Int32))), (.int (((((p4.toUInt32 >>> ((4 : Int32) &&& 31).toUInt32).toInt32).toUInt32 >>> ((2 : Int32) &&& 31).toUInt32).toInt32) &&& (3 : Int32))), (.int (((((p4.toUInt32 >>> ((4 : Int32) &&& 31).toUInt32).toInt32).toUInt32 >>> ((4 : Int32) &&& 31).toUInt32).toInt32) &&& (3 : Int32)))] (.int (0 : Int32)) := ((Fq191.ext E183).keep K206 (ninS Ne190 nin0))
                  have Fq545 : Arv Z T206.heap b52 k52 .int (4 : Int32) [(.int p1), (.int p0), (.int p3), (.int p2)] (.int (0 : Int32)) := (Fq207.keep K206 (ninS Ne188 nin0))
                  have Fq546 : Arv Z T206.heap r_o_139 k_r_139 .int (((p4.toUInt32 >>> ((2 : Int32) &&& 31).toUInt32).toInt32) &&& (3 : Int32)) [(.int (((p4.toUInt32 >>> ((10 : Int32) &&& 31).toUInt32).toInt32) &&& (3 : Int32))), (.int (((((p4.toUInt32 >>> ((10 : Int32) &&& 31).toUInt32).toInt32).toUInt32 >>> ((2 : Int32) &&& 31).toUInt32).toInt32) &&& (3 : Int32))), (.int (((((p4.toUInt32 >>> ((10 : Int32) &&& 31).toUInt32).toInt32).toUInt32 >>> ((4 : Int32) &&& 31).toUInt32).toInt32) &&& (3 : Int32)))] (.int (0 : Int32)) := (Fq208.keep K206 (ninS Ne192 nin0))
                  have Fq547 : Exa Z T206.heap b154 "com/example/fovea/fovea/Memory$Key" := ((Pf175_0.ext E183).keep K206)
                  obtain ⟨cq540, kq540, q540a, q540b, q540c⟩ := isOf hZ eh414 Fq547
                  obtain ⟨_, _, ⟨T540, L540, k540, n540⟩, -, X540, ⟨Lc540, hQ540, l540, y540, z540⟩, st540⟩ := X414.virtualBack hx (y := (⟨"com/example/fovea/fovea/Memory$Key", "equals", "(Ljava/lang/Object;)Z"⟩ : MethodName)) (z := (⟨"com/example/fovea/fovea/Memory$Key", "equals", "(Ljava/lang/Object;)Z"⟩ : MethodName)) hown (mvT hZ (hw _ (List.mem_of_getElem? (i := 25) rfl))) (mvT hZ (hw _ (List.mem_of_getElem? (i := 26) rfl))) (notFace_of_selects (args := #[]) (mvT hZ (hw _ (List.mem_of_getElem? (i := 28) rfl)))) (mvT hZ (hw _ (List.mem_of_getElem? (i := 28) rfl))) (mvT hZ (hw _ (List.mem_of_getElem? (i := 27) rfl))) (by decide) (backOf (W := 0) (own_eq l Z a0 hw [] b154 b183 b3 r_o_123 b52 r_o_139 k3 k_r_123 k52 k_r_139 (p4 &&& (3 : Int32)) (((p4.toUInt32 >>> ((2 : Int32) &&& 31).toUInt32).toInt32) &&& (3 : Int32)) p0 p1 p2 p3 (((p4.toUInt32 >>> ((4 : Int32) &&& 31).toUInt32).toInt32) &&& (3 : Int32)) (((((p4.toUInt32 >>> ((4 : Int32) &&& 31).toUInt32).toInt32).toUInt32 >>> ((2 : Int32) &&& 31).toUInt32).toInt32) &&& (3 : Int32)) (((((p4.toUInt32 >>> ((4 : Int32) &&& 31).toUInt32).toInt32).toUInt32 >>> ((4 : Int32) &&& 31).toUInt32).toInt32) &&& (3 : Int32)) p1 p0 p3 p2 (((p4.toUInt32 >>> ((10 : Int32) &&& 31).toUInt32).toInt32) &&& (3 : Int32)) (((((p4.toUInt32 >>> ((10 : Int32) &&& 31).toUInt32).toInt32).toUInt32 >>> ((2 : Int32) &&& 31).toUInt32).toInt32) &&& (3 : Int32)) (((((p4.toUInt32 >>> ((10 : Int32) &&& 31).toUInt32).toInt32).toUInt32 >>> ((4 : Int32) &&& 31).toUInt32).toInt32) &&& (3 : Int32)) T206.heap n0 Zs211 Pf206_0 Fq541 Fq542 Pf206_1 Pf206_2 Fq543 Fq544 Fq545 Fq546 (own_and4 _) (own_and4 _) (own_and4 _) (own_and4 _) (own_and4 _) (own_and4 _) (own_and3 _).2) hZ (hw _ (List.mem_of_getElem? (i := 29) rfl)) (hw _ (List.mem_of_getElem? (i := 7) rfl)) (by decide) (by decide)) q540a q540c (g := (mkF m 357 #[.val (.int p0), .val (.int p1), .val (.int p2), .val (.int p3), .val (.int p4), .val (.int p5), .val (.ref b3), .val (.ref b52), .val (.int (p4 &&& (3 : Int32))), .val (.int (((p4.toUInt32 >>> ((2 : Int32) &&& 31).toUInt32).toInt32) &&& (3 : Int32))), .val (.int ((p4.toUInt32 >>> ((4 : Int32) &&& 31).toUInt32).toInt32)), .val (.int ((p4.toUInt32 >>> ((10 : Int32) &&& 31).toUInt32).toInt32)), .val (.ref r_o_123), .val (.ref r_o_139), .val (.ref b154), .val (.ref b183), .val (.int (p5 &&& (3 : Int32))), .val (.int (0 : Int32))] [(.ref b183), (.ref b154)])) rfl (by rw [hml]; rfl) (Steps.refl _) (argsL := [(.ref b183)]) (rest := []) (lenOf own_pd5 rfl) rfl (by show 2 * 0 + _ ≤ _; exact Nat.le_of_eq rfl) (hb hby at_357) (fun _ _ => ⟨rfl, eh414, (by decide : 6 + 0 ≤ _), (by decide : 24 + 0 ≤ _)⟩)
                  dsimp only [Pt.U, Pt.locs, Pt.cells, Pt.slots] at X540 l540 y540 z540 st540 hQ540
                  rw [l540, y540, z540] at X540
                  obtain ⟨rfl, Nq540, eh540⟩ := hQ540
                  have N548 := Fr.app N415 Nq540
                  obtain ⟨cq554, kq554, q554a, q554b, q554c⟩ := isOf hZ eh540 Pf206_0
                  obtain ⟨_, _, ⟨T554, L554, k554, n554⟩, -, X554, ⟨Lc554, hQ554, l554, y554, z554⟩, st554⟩ := X540.virtualBack hx (y := (⟨"com/example/fovea/fovea/Memory$Key", "equals", "(Ljava/lang/Object;)Z"⟩ : MethodName)) (z := (⟨"com/example/fovea/fovea/Memory$Key", "equals", "(Ljava/lang/Object;)Z"⟩ : MethodName)) hown (mvT hZ (hw _ (List.mem_of_getElem? (i := 25) rfl))) (mvT hZ (hw _ (List.mem_of_getElem? (i := 26) rfl))) (notFace_of_selects (args := #[]) (mvT hZ (hw _ (List.mem_of_getElem? (i := 28) rfl)))) (mvT hZ (hw _ (List.mem_of_getElem? (i := 28) rfl))) (mvT hZ (hw _ (List.mem_of_getElem? (i := 27) rfl))) (by decide) (backOf (W := 0) (own_eq l Z a0 hw [] b183 b154 b52 r_o_139 b3 r_o_123 k52 k_r_139 k3 k_r_123 (((p4.toUInt32 >>> ((2 : Int32) &&& 31).toUInt32).toInt32) &&& (3 : Int32)) (p4 &&& (3 : Int32)) p1 p0 p3 p2 (((p4.toUInt32 >>> ((10 : Int32) &&& 31).toUInt32).toInt32) &&& (3 : Int32)) (((((p4.toUInt32 >>> ((10 : Int32) &&& 31).toUInt32).toInt32).toUInt32 >>> ((2 : Int32) &&& 31).toUInt32).toInt32) &&& (3 : Int32)) (((((p4.toUInt32 >>> ((10 : Int32) &&& 31).toUInt32).toInt32).toUInt32 >>> ((4 : Int32) &&& 31).toUInt32).toInt32) &&& (3 : Int32)) p0 p1 p2 p3 (((p4.toUInt32 >>> ((4 : Int32) &&& 31).toUInt32).toInt32) &&& (3 : Int32)) (((((p4.toUInt32 >>> ((4 : Int32) &&& 31).toUInt32).toInt32).toUInt32 >>> ((2 : Int32) &&& 31).toUInt32).toInt32) &&& (3 : Int32)) (((((p4.toUInt32 >>> ((4 : Int32) &&& 31).toUInt32).toInt32).toUInt32 >>> ((4 : Int32) &&& 31).toUInt32).toInt32) &&& (3 : Int32)) T206.heap n0 Zs211 Fq547 Pf206_1 Pf206_2 Fq541 Fq542 Fq545 Fq546 Fq543 Fq544 (own_and4 _) (own_and4 _) (own_and4 _) (own_and4 _) (own_and4 _) (own_and4 _) (own_and3 _).2) hZ (hw _ (List.mem_of_getElem? (i := 29) rfl)) (hw _ (List.mem_of_getElem? (i := 7) rfl)) (by decide) (by decide)) q554a q554c (g := (mkF m 369 #[.val (.int p0), .val (.int p1), .val (.int p2), .val (.int p3), .val (.int p4), .val (.int p5), .val (.ref b3), .val (.ref b52), .val (.int (p4 &&& (3 : Int32))), .val (.int (((p4.toUInt32 >>> ((2 : Int32) &&& 31).toUInt32).toInt32) &&& (3 : Int32))), .val (.int ((p4.toUInt32 >>> ((4 : Int32) &&& 31).toUInt32).toInt32)), .val (.int ((p4.toUInt32 >>> ((10 : Int32) &&& 31).toUInt32).toInt32)), .val (.ref r_o_123), .val (.ref r_o_139), .val (.ref b154), .val (.ref b183), .val (.int (p5 &&& (3 : Int32))), .val (.int (0 : Int32))] [(.ref b154), (.ref b183)])) rfl (by rw [hml]; rfl) (Steps.refl _) (argsL := [(.ref b154)]) (rest := []) (lenOf own_pd5 rfl) rfl (by show 2 * 0 + _ ≤ _; exact Nat.le_of_eq rfl) (hb hby at_369) (fun _ _ => ⟨rfl, eh540, (by decide : 6 + 0 ≤ _), (by decide : 24 + 0 ≤ _)⟩)
                  dsimp only [Pt.U, Pt.locs, Pt.cells, Pt.slots] at X554 l554 y554 z554 st554 hQ554
                  rw [l554, y554, z554] at X554
                  obtain ⟨rfl, Nq554, eh554⟩ := hQ554
                  have N555 := Fr.app N548 Nq554
                  obtain ⟨fs, hr, hrun, hended, hW, hsame⟩ := X554.leave (v := some (.int (1 : Int32))) (fun h => by rw [Bd.returns] at h; cases h) (hlocks := BodyLoose.notSynchronized Bd)
                  refine ⟨_, _, pre417 _ ?_, hrun, hended, _, _, rfl, ?_, ⟨_, rfl⟩, hW, hsame.mono (by decide) (by decide)⟩
                  · show Steps p.tables e below (T414.setTop (mkF m 296 #[.val (.int p0), .val (.int p1), .val (.int p2), .val (.int p3), .val (.int p4), .val (.int p5), .val (.ref b3), .val (.ref b52), .val (.int (p4 &&& (3 : Int32))), .val (.int (((p4.toUInt32 >>> ((2 : Int32) &&& 31).toUInt32).toInt32) &&& (3 : Int32))), .val (.int ((p4.toUInt32 >>> ((4 : Int32) &&& 31).toUInt32).toInt32)), .val (.int ((p4.toUInt32 >>> ((10 : Int32) &&& 31).toUInt32).toInt32)), .val (.ref r_o_123), .val (.ref r_o_139), .val (.ref b154), .val (.ref b183), .val (.int (p5 &&& (3 : Int32))), .val (.int (1 : Int32))] [(.int (own_v2_f p0 p1 p2 p3 (((((p4.toUInt32 >>> ((10 : Int32) &&& 31).toUInt32).toInt32).toUInt32 >>> ((2 : Int32) &&& 31).toUInt32).toInt32) &&& (3 : Int32)))), (.int (own_v1_f p0 p1 p2 p3 (((((p4.toUInt32 >>> ((4 : Int32) &&& 31).toUInt32).toInt32).toUInt32 >>> ((2 : Int32) &&& 31).toUInt32).toInt32) &&& (3 : Int32))))])) _
                    refine XS.icmpYes X414.here hx rfl (pc0 := 296) (pc' := 303) rfl (hb hby at_296) rfl (feq hc296_418).2 (by decide) (by decide) ?_
                    show Steps p.tables e below (T414.setTop (mkF m 303 #[.val (.int p0), .val (.int p1), .val (.int p2), .val (.int p3), .val (.int p4), .val (.int p5), .val (.ref b3), .val (.ref b52), .val (.int (p4 &&& (3 : Int32))), .val (.int (((p4.toUInt32 >>> ((2 : Int32) &&& 31).toUInt32).toInt32) &&& (3 : Int32))), .val (.int ((p4.toUInt32 >>> ((4 : Int32) &&& 31).toUInt32).toInt32)), .val (.int ((p4.toUInt32 >>> ((10 : Int32) &&& 31).toUInt32).toInt32)), .val (.ref r_o_123), .val (.ref r_o_139), .val (.ref b154), .val (.ref b183), .val (.int (p5 &&& (3 : Int32))), .val (.int (1 : Int32))] [])) _
                    refine XS.iconst X414.here hx rfl (hb hby at_303) ?_
                    show Steps p.tables e below (T414.setTop (mkF m 304 #[.val (.int p0), .val (.int p1), .val (.int p2), .val (.int p3), .val (.int p4), .val (.int p5), .val (.ref b3), .val (.ref b52), .val (.int (p4 &&& (3 : Int32))), .val (.int (((p4.toUInt32 >>> ((2 : Int32) &&& 31).toUInt32).toInt32) &&& (3 : Int32))), .val (.int ((p4.toUInt32 >>> ((4 : Int32) &&& 31).toUInt32).toInt32)), .val (.int ((p4.toUInt32 >>> ((10 : Int32) &&& 31).toUInt32).toInt32)), .val (.ref r_o_123), .val (.ref r_o_139), .val (.ref b154), .val (.ref b183), .val (.int (p5 &&& (3 : Int32))), .val (.int (1 : Int32))] [(.int (0 : Int32))])) _
                    refine XS.istore X414.here hx rfl (hb hby at_304) rfl (l' := #[.val (.int p0), .val (.int p1), .val (.int p2), .val (.int p3), .val (.int p4), .val (.int p5), .val (.ref b3), .val (.ref b52), .val (.int (p4 &&& (3 : Int32))), .val (.int (((p4.toUInt32 >>> ((2 : Int32) &&& 31).toUInt32).toInt32) &&& (3 : Int32))), .val (.int ((p4.toUInt32 >>> ((4 : Int32) &&& 31).toUInt32).toInt32)), .val (.int ((p4.toUInt32 >>> ((10 : Int32) &&& 31).toUInt32).toInt32)), .val (.ref r_o_123), .val (.ref r_o_139), .val (.ref b154), .val (.ref b183), .val (.int (p5 &&& (3 : Int32))), .val (.int (0 : Int32))]) rfl ?_
                    show Steps p.tables e below (T414.setTop (mkF m 306 #[.val (.int p0), .val (.int p1), .val (.int p2), .val (.int p3), .val (.int p4), .val (.int p5), .val (.ref b3), .val (.ref b52), .val (.int (p4 &&& (3 : Int32))), .val (.int (((p4.toUInt32 >>> ((2 : Int32) &&& 31).toUInt32).toInt32) &&& (3 : Int32))), .val (.int ((p4.toUInt32 >>> ((4 : Int32) &&& 31).toUInt32).toInt32)), .val (.int ((p4.toUInt32 >>> ((10 : Int32) &&& 31).toUInt32).toInt32)), .val (.ref r_o_123), .val (.ref r_o_139), .val (.ref b154), .val (.ref b183), .val (.int (p5 &&& (3 : Int32))), .val (.int (0 : Int32))] [])) _
                    refine XS.iload X414.here hx rfl (hb hby at_306) rfl ?_
                    show Steps p.tables e below (T414.setTop (mkF m 308 #[.val (.int p0), .val (.int p1), .val (.int p2), .val (.int p3), .val (.int p4), .val (.int p5), .val (.ref b3), .val (.ref b52), .val (.int (p4 &&& (3 : Int32))), .val (.int (((p4.toUInt32 >>> ((2 : Int32) &&& 31).toUInt32).toInt32) &&& (3 : Int32))), .val (.int ((p4.toUInt32 >>> ((4 : Int32) &&& 31).toUInt32).toInt32)), .val (.int ((p4.toUInt32 >>> ((10 : Int32) &&& 31).toUInt32).toInt32)), .val (.ref r_o_123), .val (.ref r_o_139), .val (.ref b154), .val (.ref b183), .val (.int (p5 &&& (3 : Int32))), .val (.int (0 : Int32))] [(.int (0 : Int32))])) _
                    refine XS.ifYes X414.here hx rfl (pc0 := 308) (pc' := 353) rfl (hb hby at_308) rfl ((if0 _ _).trans (teq ((by decide) : (0 : Int32) = (0 : Int32))).1) (by decide) (by decide) ?_
                    show Steps p.tables e below (T414.setTop (mkF m 353 #[.val (.int p0), .val (.int p1), .val (.int p2), .val (.int p3), .val (.int p4), .val (.int p5), .val (.ref b3), .val (.ref b52), .val (.int (p4 &&& (3 : Int32))), .val (.int (((p4.toUInt32 >>> ((2 : Int32) &&& 31).toUInt32).toInt32) &&& (3 : Int32))), .val (.int ((p4.toUInt32 >>> ((4 : Int32) &&& 31).toUInt32).toInt32)), .val (.int ((p4.toUInt32 >>> ((10 : Int32) &&& 31).toUInt32).toInt32)), .val (.ref r_o_123), .val (.ref r_o_139), .val (.ref b154), .val (.ref b183), .val (.int (p5 &&& (3 : Int32))), .val (.int (0 : Int32))] [])) _
                    refine XS.aload X414.here hx rfl (hb hby at_353) rfl rfl ?_
                    show Steps p.tables e below (T414.setTop (mkF m 355 #[.val (.int p0), .val (.int p1), .val (.int p2), .val (.int p3), .val (.int p4), .val (.int p5), .val (.ref b3), .val (.ref b52), .val (.int (p4 &&& (3 : Int32))), .val (.int (((p4.toUInt32 >>> ((2 : Int32) &&& 31).toUInt32).toInt32) &&& (3 : Int32))), .val (.int ((p4.toUInt32 >>> ((4 : Int32) &&& 31).toUInt32).toInt32)), .val (.int ((p4.toUInt32 >>> ((10 : Int32) &&& 31).toUInt32).toInt32)), .val (.ref r_o_123), .val (.ref r_o_139), .val (.ref b154), .val (.ref b183), .val (.int (p5 &&& (3 : Int32))), .val (.int (0 : Int32))] [(.ref b154)])) _
                    refine XS.aload X414.here hx rfl (hb hby at_355) rfl rfl ?_
                    show Steps p.tables e below (T414.setTop (mkF m 357 #[.val (.int p0), .val (.int p1), .val (.int p2), .val (.int p3), .val (.int p4), .val (.int p5), .val (.ref b3), .val (.ref b52), .val (.int (p4 &&& (3 : Int32))), .val (.int (((p4.toUInt32 >>> ((2 : Int32) &&& 31).toUInt32).toInt32) &&& (3 : Int32))), .val (.int ((p4.toUInt32 >>> ((4 : Int32) &&& 31).toUInt32).toInt32)), .val (.int ((p4.toUInt32 >>> ((10 : Int32) &&& 31).toUInt32).toInt32)), .val (.ref r_o_123), .val (.ref r_o_139), .val (.ref b154), .val (.ref b183), .val (.int (p5 &&& (3 : Int32))), .val (.int (0 : Int32))] [(.ref b183), (.ref b154)])) _
                    refine st540.trans ?_
                    show Steps p.tables e below (T540.setTop (mkF m 360 #[.val (.int p0), .val (.int p1), .val (.int p2), .val (.int p3), .val (.int p4), .val (.int p5), .val (.ref b3), .val (.ref b52), .val (.int (p4 &&& (3 : Int32))), .val (.int (((p4.toUInt32 >>> ((2 : Int32) &&& 31).toUInt32).toInt32) &&& (3 : Int32))), .val (.int ((p4.toUInt32 >>> ((4 : Int32) &&& 31).toUInt32).toInt32)), .val (.int ((p4.toUInt32 >>> ((10 : Int32) &&& 31).toUInt32).toInt32)), .val (.ref r_o_123), .val (.ref r_o_139), .val (.ref b154), .val (.ref b183), .val (.int (p5 &&& (3 : Int32))), .val (.int (0 : Int32))] [(.int (own_eq_f (p4 &&& (3 : Int32)) (((p4.toUInt32 >>> ((2 : Int32) &&& 31).toUInt32).toInt32) &&& (3 : Int32)) p0 p1 p2 p3 (((p4.toUInt32 >>> ((4 : Int32) &&& 31).toUInt32).toInt32) &&& (3 : Int32)) (((((p4.toUInt32 >>> ((4 : Int32) &&& 31).toUInt32).toInt32).toUInt32 >>> ((2 : Int32) &&& 31).toUInt32).toInt32) &&& (3 : Int32)) (((((p4.toUInt32 >>> ((4 : Int32) &&& 31).toUInt32).toInt32).toUInt32 >>> ((4 : Int32) &&& 31).toUInt32).toInt32) &&& (3 : Int32)) p1 p0 p3 p2 (((p4.toUInt32 >>> ((10 : Int32) &&& 31).toUInt32).toInt32) &&& (3 : Int32)) (((((p4.toUInt32 >>> ((10 : Int32) &&& 31).toUInt32).toInt32).toUInt32 >>> ((2 : Int32) &&& 31).toUInt32).toInt32) &&& (3 : Int32)) (((((p4.toUInt32 >>> ((10 : Int32) &&& 31).toUInt32).toInt32).toUInt32 >>> ((4 : Int32) &&& 31).toUInt32).toInt32) &&& (3 : Int32))))])) _
                    refine XS.iload X540.here hx rfl (hb hby at_360) rfl ?_
                    show Steps p.tables e below (T540.setTop (mkF m 362 #[.val (.int p0), .val (.int p1), .val (.int p2), .val (.int p3), .val (.int p4), .val (.int p5), .val (.ref b3), .val (.ref b52), .val (.int (p4 &&& (3 : Int32))), .val (.int (((p4.toUInt32 >>> ((2 : Int32) &&& 31).toUInt32).toInt32) &&& (3 : Int32))), .val (.int ((p4.toUInt32 >>> ((4 : Int32) &&& 31).toUInt32).toInt32)), .val (.int ((p4.toUInt32 >>> ((10 : Int32) &&& 31).toUInt32).toInt32)), .val (.ref r_o_123), .val (.ref r_o_139), .val (.ref b154), .val (.ref b183), .val (.int (p5 &&& (3 : Int32))), .val (.int (0 : Int32))] [(.int (0 : Int32)), (.int (own_eq_f (p4 &&& (3 : Int32)) (((p4.toUInt32 >>> ((2 : Int32) &&& 31).toUInt32).toInt32) &&& (3 : Int32)) p0 p1 p2 p3 (((p4.toUInt32 >>> ((4 : Int32) &&& 31).toUInt32).toInt32) &&& (3 : Int32)) (((((p4.toUInt32 >>> ((4 : Int32) &&& 31).toUInt32).toInt32).toUInt32 >>> ((2 : Int32) &&& 31).toUInt32).toInt32) &&& (3 : Int32)) (((((p4.toUInt32 >>> ((4 : Int32) &&& 31).toUInt32).toInt32).toUInt32 >>> ((4 : Int32) &&& 31).toUInt32).toInt32) &&& (3 : Int32)) p1 p0 p3 p2 (((p4.toUInt32 >>> ((10 : Int32) &&& 31).toUInt32).toInt32) &&& (3 : Int32)) (((((p4.toUInt32 >>> ((10 : Int32) &&& 31).toUInt32).toInt32).toUInt32 >>> ((2 : Int32) &&& 31).toUInt32).toInt32) &&& (3 : Int32)) (((((p4.toUInt32 >>> ((10 : Int32) &&& 31).toUInt32).toInt32).toUInt32 >>> ((4 : Int32) &&& 31).toUInt32).toInt32) &&& (3 : Int32))))])) _
                    refine XS.icmpNo X540.here hx rfl (hb hby at_362) rfl (teq (((own_eqE _ _ _ _ _ _ _ _ _ _ _ _ _ _ _ _).trans (own_E4 hc206_285 hc224_295 (own_veq hc249_352) hc267_362 (own_vne hc296_418))) : (own_eq_f (p4 &&& (3 : Int32)) (((p4.toUInt32 >>> ((2 : Int32) &&& 31).toUInt32).toInt32) &&& (3 : Int32)) p0 p1 p2 p3 (((p4.toUInt32 >>> ((4 : Int32) &&& 31).toUInt32).toInt32) &&& (3 : Int32)) (((((p4.toUInt32 >>> ((4 : Int32) &&& 31).toUInt32).toInt32).toUInt32 >>> ((2 : Int32) &&& 31).toUInt32).toInt32) &&& (3 : Int32)) (((((p4.toUInt32 >>> ((4 : Int32) &&& 31).toUInt32).toInt32).toUInt32 >>> ((4 : Int32) &&& 31).toUInt32).toInt32) &&& (3 : Int32)) p1 p0 p3 p2 (((p4.toUInt32 >>> ((10 : Int32) &&& 31).toUInt32).toInt32) &&& (3 : Int32)) (((((p4.toUInt32 >>> ((10 : Int32) &&& 31).toUInt32).toInt32).toUInt32 >>> ((2 : Int32) &&& 31).toUInt32).toInt32) &&& (3 : Int32)) (((((p4.toUInt32 >>> ((10 : Int32) &&& 31).toUInt32).toInt32).toUInt32 >>> ((4 : Int32) &&& 31).toUInt32).toInt32) &&& (3 : Int32))) = (0 : Int32))).2 ?_
                    show Steps p.tables e below (T540.setTop (mkF m 365 #[.val (.int p0), .val (.int p1), .val (.int p2), .val (.int p3), .val (.int p4), .val (.int p5), .val (.ref b3), .val (.ref b52), .val (.int (p4 &&& (3 : Int32))), .val (.int (((p4.toUInt32 >>> ((2 : Int32) &&& 31).toUInt32).toInt32) &&& (3 : Int32))), .val (.int ((p4.toUInt32 >>> ((4 : Int32) &&& 31).toUInt32).toInt32)), .val (.int ((p4.toUInt32 >>> ((10 : Int32) &&& 31).toUInt32).toInt32)), .val (.ref r_o_123), .val (.ref r_o_139), .val (.ref b154), .val (.ref b183), .val (.int (p5 &&& (3 : Int32))), .val (.int (0 : Int32))] [])) _
                    refine XS.aload X540.here hx rfl (hb hby at_365) rfl rfl ?_
                    show Steps p.tables e below (T540.setTop (mkF m 367 #[.val (.int p0), .val (.int p1), .val (.int p2), .val (.int p3), .val (.int p4), .val (.int p5), .val (.ref b3), .val (.ref b52), .val (.int (p4 &&& (3 : Int32))), .val (.int (((p4.toUInt32 >>> ((2 : Int32) &&& 31).toUInt32).toInt32) &&& (3 : Int32))), .val (.int ((p4.toUInt32 >>> ((4 : Int32) &&& 31).toUInt32).toInt32)), .val (.int ((p4.toUInt32 >>> ((10 : Int32) &&& 31).toUInt32).toInt32)), .val (.ref r_o_123), .val (.ref r_o_139), .val (.ref b154), .val (.ref b183), .val (.int (p5 &&& (3 : Int32))), .val (.int (0 : Int32))] [(.ref b183)])) _
                    refine XS.aload X540.here hx rfl (hb hby at_367) rfl rfl ?_
                    show Steps p.tables e below (T540.setTop (mkF m 369 #[.val (.int p0), .val (.int p1), .val (.int p2), .val (.int p3), .val (.int p4), .val (.int p5), .val (.ref b3), .val (.ref b52), .val (.int (p4 &&& (3 : Int32))), .val (.int (((p4.toUInt32 >>> ((2 : Int32) &&& 31).toUInt32).toInt32) &&& (3 : Int32))), .val (.int ((p4.toUInt32 >>> ((4 : Int32) &&& 31).toUInt32).toInt32)), .val (.int ((p4.toUInt32 >>> ((10 : Int32) &&& 31).toUInt32).toInt32)), .val (.ref r_o_123), .val (.ref r_o_139), .val (.ref b154), .val (.ref b183), .val (.int (p5 &&& (3 : Int32))), .val (.int (0 : Int32))] [(.ref b154), (.ref b183)])) _
                    refine st554.trans ?_
                    show Steps p.tables e below (T554.setTop (mkF m 372 #[.val (.int p0), .val (.int p1), .val (.int p2), .val (.int p3), .val (.int p4), .val (.int p5), .val (.ref b3), .val (.ref b52), .val (.int (p4 &&& (3 : Int32))), .val (.int (((p4.toUInt32 >>> ((2 : Int32) &&& 31).toUInt32).toInt32) &&& (3 : Int32))), .val (.int ((p4.toUInt32 >>> ((4 : Int32) &&& 31).toUInt32).toInt32)), .val (.int ((p4.toUInt32 >>> ((10 : Int32) &&& 31).toUInt32).toInt32)), .val (.ref r_o_123), .val (.ref r_o_139), .val (.ref b154), .val (.ref b183), .val (.int (p5 &&& (3 : Int32))), .val (.int (0 : Int32))] [(.int (own_eq_f (((p4.toUInt32 >>> ((2 : Int32) &&& 31).toUInt32).toInt32) &&& (3 : Int32)) (p4 &&& (3 : Int32)) p1 p0 p3 p2 (((p4.toUInt32 >>> ((10 : Int32) &&& 31).toUInt32).toInt32) &&& (3 : Int32)) (((((p4.toUInt32 >>> ((10 : Int32) &&& 31).toUInt32).toInt32).toUInt32 >>> ((2 : Int32) &&& 31).toUInt32).toInt32) &&& (3 : Int32)) (((((p4.toUInt32 >>> ((10 : Int32) &&& 31).toUInt32).toInt32).toUInt32 >>> ((4 : Int32) &&& 31).toUInt32).toInt32) &&& (3 : Int32)) p0 p1 p2 p3 (((p4.toUInt32 >>> ((4 : Int32) &&& 31).toUInt32).toInt32) &&& (3 : Int32)) (((((p4.toUInt32 >>> ((4 : Int32) &&& 31).toUInt32).toInt32).toUInt32 >>> ((2 : Int32) &&& 31).toUInt32).toInt32) &&& (3 : Int32)) (((((p4.toUInt32 >>> ((4 : Int32) &&& 31).toUInt32).toInt32).toUInt32 >>> ((4 : Int32) &&& 31).toUInt32).toInt32) &&& (3 : Int32))))])) _
                    refine XS.iload X554.here hx rfl (hb hby at_372) rfl ?_
                    show Steps p.tables e below (T554.setTop (mkF m 374 #[.val (.int p0), .val (.int p1), .val (.int p2), .val (.int p3), .val (.int p4), .val (.int p5), .val (.ref b3), .val (.ref b52), .val (.int (p4 &&& (3 : Int32))), .val (.int (((p4.toUInt32 >>> ((2 : Int32) &&& 31).toUInt32).toInt32) &&& (3 : Int32))), .val (.int ((p4.toUInt32 >>> ((4 : Int32) &&& 31).toUInt32).toInt32)), .val (.int ((p4.toUInt32 >>> ((10 : Int32) &&& 31).toUInt32).toInt32)), .val (.ref r_o_123), .val (.ref r_o_139), .val (.ref b154), .val (.ref b183), .val (.int (p5 &&& (3 : Int32))), .val (.int (0 : Int32))] [(.int (0 : Int32)), (.int (own_eq_f (((p4.toUInt32 >>> ((2 : Int32) &&& 31).toUInt32).toInt32) &&& (3 : Int32)) (p4 &&& (3 : Int32)) p1 p0 p3 p2 (((p4.toUInt32 >>> ((10 : Int32) &&& 31).toUInt32).toInt32) &&& (3 : Int32)) (((((p4.toUInt32 >>> ((10 : Int32) &&& 31).toUInt32).toInt32).toUInt32 >>> ((2 : Int32) &&& 31).toUInt32).toInt32) &&& (3 : Int32)) (((((p4.toUInt32 >>> ((10 : Int32) &&& 31).toUInt32).toInt32).toUInt32 >>> ((4 : Int32) &&& 31).toUInt32).toInt32) &&& (3 : Int32)) p0 p1 p2 p3 (((p4.toUInt32 >>> ((4 : Int32) &&& 31).toUInt32).toInt32) &&& (3 : Int32)) (((((p4.toUInt32 >>> ((4 : Int32) &&& 31).toUInt32).toInt32).toUInt32 >>> ((2 : Int32) &&& 31).toUInt32).toInt32) &&& (3 : Int32)) (((((p4.toUInt32 >>> ((4 : Int32) &&& 31).toUInt32).toInt32).toUInt32 >>> ((4 : Int32) &&& 31).toUInt32).toInt32) &&& (3 : Int32))))])) _
                    refine XS.icmpNo X554.here hx rfl (hb hby at_374) rfl (teq (((own_eqE _ _ _ _ _ _ _ _ _ _ _ _ _ _ _ _).trans ((own_sym _ _ _ _ _ _ _ _).trans (own_E4 hc206_285 hc224_295 (own_veq hc249_352) hc267_362 (own_vne hc296_418)))) : (own_eq_f (((p4.toUInt32 >>> ((2 : Int32) &&& 31).toUInt32).toInt32) &&& (3 : Int32)) (p4 &&& (3 : Int32)) p1 p0 p3 p2 (((p4.toUInt32 >>> ((10 : Int32) &&& 31).toUInt32).toInt32) &&& (3 : Int32)) (((((p4.toUInt32 >>> ((10 : Int32) &&& 31).toUInt32).toInt32).toUInt32 >>> ((2 : Int32) &&& 31).toUInt32).toInt32) &&& (3 : Int32)) (((((p4.toUInt32 >>> ((10 : Int32) &&& 31).toUInt32).toInt32).toUInt32 >>> ((4 : Int32) &&& 31).toUInt32).toInt32) &&& (3 : Int32)) p0 p1 p2 p3 (((p4.toUInt32 >>> ((4 : Int32) &&& 31).toUInt32).toInt32) &&& (3 : Int32)) (((((p4.toUInt32 >>> ((4 : Int32) &&& 31).toUInt32).toInt32).toUInt32 >>> ((2 : Int32) &&& 31).toUInt32).toInt32) &&& (3 : Int32)) (((((p4.toUInt32 >>> ((4 : Int32) &&& 31).toUInt32).toInt32).toUInt32 >>> ((4 : Int32) &&& 31).toUInt32).toInt32) &&& (3 : Int32))) = (0 : Int32))).2 ?_
                    show Steps p.tables e below (T554.setTop (mkF m 377 #[.val (.int p0), .val (.int p1), .val (.int p2), .val (.int p3), .val (.int p4), .val (.int p5), .val (.ref b3), .val (.ref b52), .val (.int (p4 &&& (3 : Int32))), .val (.int (((p4.toUInt32 >>> ((2 : Int32) &&& 31).toUInt32).toInt32) &&& (3 : Int32))), .val (.int ((p4.toUInt32 >>> ((4 : Int32) &&& 31).toUInt32).toInt32)), .val (.int ((p4.toUInt32 >>> ((10 : Int32) &&& 31).toUInt32).toInt32)), .val (.ref r_o_123), .val (.ref r_o_139), .val (.ref b154), .val (.ref b183), .val (.int (p5 &&& (3 : Int32))), .val (.int (0 : Int32))] [])) _
                    refine XS.iconst X554.here hx rfl (hb hby at_377) ?_
                    show Steps p.tables e below (T554.setTop (mkF m 378 #[.val (.int p0), .val (.int p1), .val (.int p2), .val (.int p3), .val (.int p4), .val (.int p5), .val (.ref b3), .val (.ref b52), .val (.int (p4 &&& (3 : Int32))), .val (.int (((p4.toUInt32 >>> ((2 : Int32) &&& 31).toUInt32).toInt32) &&& (3 : Int32))), .val (.int ((p4.toUInt32 >>> ((4 : Int32) &&& 31).toUInt32).toInt32)), .val (.int ((p4.toUInt32 >>> ((10 : Int32) &&& 31).toUInt32).toInt32)), .val (.ref r_o_123), .val (.ref r_o_139), .val (.ref b154), .val (.ref b183), .val (.int (p5 &&& (3 : Int32))), .val (.int (0 : Int32))] [(.int (1 : Int32))])) _
                    refine XS.goto X554.here hx rfl (pc0 := 378) (pc' := 382) rfl (hb hby at_378) (by decide) (by decide) ?_
                    show Steps p.tables e below (T554.setTop (mkF m 382 #[.val (.int p0), .val (.int p1), .val (.int p2), .val (.int p3), .val (.int p4), .val (.int p5), .val (.ref b3), .val (.ref b52), .val (.int (p4 &&& (3 : Int32))), .val (.int (((p4.toUInt32 >>> ((2 : Int32) &&& 31).toUInt32).toInt32) &&& (3 : Int32))), .val (.int ((p4.toUInt32 >>> ((4 : Int32) &&& 31).toUInt32).toInt32)), .val (.int ((p4.toUInt32 >>> ((10 : Int32) &&& 31).toUInt32).toInt32)), .val (.ref r_o_123), .val (.ref r_o_139), .val (.ref b154), .val (.ref b183), .val (.int (p5 &&& (3 : Int32))), .val (.int (0 : Int32))] [(.int (1 : Int32))])) _
                    exact retN X554 hx (t := .boolean) Bd.returns (by simp) (hb hby at_382) hr
                  · show Qown_law Z p0 p1 p2 p3 p4 p5 w_c k_c vs_c h0 n0 _ T554.heap _
                    rw [eh554]
                    exact ⟨rfl, N555⟩
            · have Fq571 : Fld Z T206.heap b154 "com/example/fovea/fovea/Memory$Key" "entry" "[I" (.ref b3) := ((Pf175_1.ext E183).keep K206 (ninS Ne194 nin0))
              have Fq572 : Fld Z T206.heap b154 "com/example/fovea/fovea/Memory$Key" "slots" "[I" (.ref r_o_123) := ((Pf175_2.ext E183).keep K206 (ninS Ne194 nin0))
              have Fq573 : Arv Z T206.heap b3 k3 .int (4 : Int32) [(.int p0), (.int p1), (.int p2), (.int p3)] (.int (0 : Int32)) := (((Fq176.keep K175 (ninS Ne157 nin0)).ext E183).keep K206 (ninS Ne186 nin0))
              have Fq574 : Arv Z T206.heap r_o_123 k_r_123 .int (p4 &&& (3 : Int32)) [(.int (((p4.toUInt32 >>> ((4 : Int32) &&& 31).toUInt32).toInt32) &&& (3 : Int32))), (.int (((((p4.toUInt32 >>> ((4 : Int32) &&& 31).toUInt32).toInt32).toUInt32 >>> ((2 : Int32) &&& 31).toUInt32).toInt32) &&& (3 : Int32))), (.int (((((p4.toUInt32 >>> ((4 : Int32) &&& 31).toUInt32).toInt32).toUInt32 >>> ((4 : Int32) &&& 31).toUInt32).toInt32) &&& (3 : Int32)))] (.int (0 : Int32)) := ((Fq191.ext E183).keep K206 (ninS Ne190 nin0))
              have Fq575 : Arv Z T206.heap b52 k52 .int (4 : Int32) [(.int p1), (.int p0), (.int p3), (.int p2)] (.int (0 : Int32)) := (Fq207.keep K206 (ninS Ne188 nin0))
              have Fq576 : Arv Z T206.heap r_o_139 k_r_139 .int (((p4.toUInt32 >>> ((2 : Int32) &&& 31).toUInt32).toInt32) &&& (3 : Int32)) [(.int (((p4.toUInt32 >>> ((10 : Int32) &&& 31).toUInt32).toInt32) &&& (3 : Int32))), (.int (((((p4.toUInt32 >>> ((10 : Int32) &&& 31).toUInt32).toInt32).toUInt32 >>> ((2 : Int32) &&& 31).toUInt32).toInt32) &&& (3 : Int32))), (.int (((((p4.toUInt32 >>> ((10 : Int32) &&& 31).toUInt32).toInt32).toUInt32 >>> ((4 : Int32) &&& 31).toUInt32).toInt32) &&& (3 : Int32)))] (.int (0 : Int32)) := (Fq208.keep K206 (ninS Ne192 nin0))
              have Fq577 : Exa Z T206.heap b154 "com/example/fovea/fovea/Memory$Key" := ((Pf175_0.ext E183).keep K206)
              obtain ⟨cq570, kq570, q570a, q570b, q570c⟩ := isOf hZ eh348 Fq577
              obtain ⟨_, _, ⟨T570, L570, k570, n570⟩, -, X570, ⟨Lc570, hQ570, l570, y570, z570⟩, st570⟩ := X348.virtualBack hx (y := (⟨"com/example/fovea/fovea/Memory$Key", "equals", "(Ljava/lang/Object;)Z"⟩ : MethodName)) (z := (⟨"com/example/fovea/fovea/Memory$Key", "equals", "(Ljava/lang/Object;)Z"⟩ : MethodName)) hown (mvT hZ (hw _ (List.mem_of_getElem? (i := 25) rfl))) (mvT hZ (hw _ (List.mem_of_getElem? (i := 26) rfl))) (notFace_of_selects (args := #[]) (mvT hZ (hw _ (List.mem_of_getElem? (i := 28) rfl)))) (mvT hZ (hw _ (List.mem_of_getElem? (i := 28) rfl))) (mvT hZ (hw _ (List.mem_of_getElem? (i := 27) rfl))) (by decide) (backOf (W := 0) (own_eq l Z a0 hw [] b154 b183 b3 r_o_123 b52 r_o_139 k3 k_r_123 k52 k_r_139 (p4 &&& (3 : Int32)) (((p4.toUInt32 >>> ((2 : Int32) &&& 31).toUInt32).toInt32) &&& (3 : Int32)) p0 p1 p2 p3 (((p4.toUInt32 >>> ((4 : Int32) &&& 31).toUInt32).toInt32) &&& (3 : Int32)) (((((p4.toUInt32 >>> ((4 : Int32) &&& 31).toUInt32).toInt32).toUInt32 >>> ((2 : Int32) &&& 31).toUInt32).toInt32) &&& (3 : Int32)) (((((p4.toUInt32 >>> ((4 : Int32) &&& 31).toUInt32).toInt32).toUInt32 >>> ((4 : Int32) &&& 31).toUInt32).toInt32) &&& (3 : Int32)) p1 p0 p3 p2 (((p4.toUInt32 >>> ((10 : Int32) &&& 31).toUInt32).toInt32) &&& (3 : Int32)) (((((p4.toUInt32 >>> ((10 : Int32) &&& 31).toUInt32).toInt32).toUInt32 >>> ((2 : Int32) &&& 31).toUInt32).toInt32) &&& (3 : Int32)) (((((p4.toUInt32 >>> ((10 : Int32) &&& 31).toUInt32).toInt32).toUInt32 >>> ((4 : Int32) &&& 31).toUInt32).toInt32) &&& (3 : Int32)) T206.heap n0 Zs211 Pf206_0 Fq571 Fq572 Pf206_1 Pf206_2 Fq573 Fq574 Fq575 Fq576 (own_and4 _) (own_and4 _) (own_and4 _) (own_and4 _) (own_and4 _) (own_and4 _) (own_and3 _).2) hZ (hw _ (List.mem_of_getElem? (i := 29) rfl)) (hw _ (List.mem_of_getElem? (i := 7) rfl)) (by decide) (by decide)) q570a q570c (g := (mkF m 357 #[.val (.int p0), .val (.int p1), .val (.int p2), .val (.int p3), .val (.int p4), .val (.int p5), .val (.ref b3), .val (.ref b52), .val (.int (p4 &&& (3 : Int32))), .val (.int (((p4.toUInt32 >>> ((2 : Int32) &&& 31).toUInt32).toInt32) &&& (3 : Int32))), .val (.int ((p4.toUInt32 >>> ((4 : Int32) &&& 31).toUInt32).toInt32)), .val (.int ((p4.toUInt32 >>> ((10 : Int32) &&& 31).toUInt32).toInt32)), .val (.ref r_o_123), .val (.ref r_o_139), .val (.ref b154), .val (.ref b183), .val (.int (p5 &&& (3 : Int32))), .val (.int (0 : Int32))] [(.ref b183), (.ref b154)])) rfl (by rw [hml]; rfl) (Steps.refl _) (argsL := [(.ref b183)]) (rest := []) (lenOf own_pd5 rfl) rfl (by show 2 * 0 + _ ≤ _; exact Nat.le_of_eq rfl) (hb hby at_357) (fun _ _ => ⟨rfl, eh348, (by decide : 6 + 0 ≤ _), (by decide : 24 + 0 ≤ _)⟩)
              dsimp only [Pt.U, Pt.locs, Pt.cells, Pt.slots] at X570 l570 y570 z570 st570 hQ570
              rw [l570, y570, z570] at X570
              obtain ⟨rfl, Nq570, eh570⟩ := hQ570
              have N578 := Fr.app N349 Nq570
              obtain ⟨cq584, kq584, q584a, q584b, q584c⟩ := isOf hZ eh570 Pf206_0
              obtain ⟨_, _, ⟨T584, L584, k584, n584⟩, -, X584, ⟨Lc584, hQ584, l584, y584, z584⟩, st584⟩ := X570.virtualBack hx (y := (⟨"com/example/fovea/fovea/Memory$Key", "equals", "(Ljava/lang/Object;)Z"⟩ : MethodName)) (z := (⟨"com/example/fovea/fovea/Memory$Key", "equals", "(Ljava/lang/Object;)Z"⟩ : MethodName)) hown (mvT hZ (hw _ (List.mem_of_getElem? (i := 25) rfl))) (mvT hZ (hw _ (List.mem_of_getElem? (i := 26) rfl))) (notFace_of_selects (args := #[]) (mvT hZ (hw _ (List.mem_of_getElem? (i := 28) rfl)))) (mvT hZ (hw _ (List.mem_of_getElem? (i := 28) rfl))) (mvT hZ (hw _ (List.mem_of_getElem? (i := 27) rfl))) (by decide) (backOf (W := 0) (own_eq l Z a0 hw [] b183 b154 b52 r_o_139 b3 r_o_123 k52 k_r_139 k3 k_r_123 (((p4.toUInt32 >>> ((2 : Int32) &&& 31).toUInt32).toInt32) &&& (3 : Int32)) (p4 &&& (3 : Int32)) p1 p0 p3 p2 (((p4.toUInt32 >>> ((10 : Int32) &&& 31).toUInt32).toInt32) &&& (3 : Int32)) (((((p4.toUInt32 >>> ((10 : Int32) &&& 31).toUInt32).toInt32).toUInt32 >>> ((2 : Int32) &&& 31).toUInt32).toInt32) &&& (3 : Int32)) (((((p4.toUInt32 >>> ((10 : Int32) &&& 31).toUInt32).toInt32).toUInt32 >>> ((4 : Int32) &&& 31).toUInt32).toInt32) &&& (3 : Int32)) p0 p1 p2 p3 (((p4.toUInt32 >>> ((4 : Int32) &&& 31).toUInt32).toInt32) &&& (3 : Int32)) (((((p4.toUInt32 >>> ((4 : Int32) &&& 31).toUInt32).toInt32).toUInt32 >>> ((2 : Int32) &&& 31).toUInt32).toInt32) &&& (3 : Int32)) (((((p4.toUInt32 >>> ((4 : Int32) &&& 31).toUInt32).toInt32).toUInt32 >>> ((4 : Int32) &&& 31).toUInt32).toInt32) &&& (3 : Int32)) T206.heap n0 Zs211 Fq577 Pf206_1 Pf206_2 Fq571 Fq572 Fq575 Fq576 Fq573 Fq574 (own_and4 _) (own_and4 _) (own_and4 _) (own_and4 _) (own_and4 _) (own_and4 _) (own_and3 _).2) hZ (hw _ (List.mem_of_getElem? (i := 29) rfl)) (hw _ (List.mem_of_getElem? (i := 7) rfl)) (by decide) (by decide)) q584a q584c (g := (mkF m 369 #[.val (.int p0), .val (.int p1), .val (.int p2), .val (.int p3), .val (.int p4), .val (.int p5), .val (.ref b3), .val (.ref b52), .val (.int (p4 &&& (3 : Int32))), .val (.int (((p4.toUInt32 >>> ((2 : Int32) &&& 31).toUInt32).toInt32) &&& (3 : Int32))), .val (.int ((p4.toUInt32 >>> ((4 : Int32) &&& 31).toUInt32).toInt32)), .val (.int ((p4.toUInt32 >>> ((10 : Int32) &&& 31).toUInt32).toInt32)), .val (.ref r_o_123), .val (.ref r_o_139), .val (.ref b154), .val (.ref b183), .val (.int (p5 &&& (3 : Int32))), .val (.int (0 : Int32))] [(.ref b154), (.ref b183)])) rfl (by rw [hml]; rfl) (Steps.refl _) (argsL := [(.ref b154)]) (rest := []) (lenOf own_pd5 rfl) rfl (by show 2 * 0 + _ ≤ _; exact Nat.le_of_eq rfl) (hb hby at_369) (fun _ _ => ⟨rfl, eh570, (by decide : 6 + 0 ≤ _), (by decide : 24 + 0 ≤ _)⟩)
              dsimp only [Pt.U, Pt.locs, Pt.cells, Pt.slots] at X584 l584 y584 z584 st584 hQ584
              rw [l584, y584, z584] at X584
              obtain ⟨rfl, Nq584, eh584⟩ := hQ584
              have N585 := Fr.app N578 Nq584
              obtain ⟨fs, hr, hrun, hended, hW, hsame⟩ := X584.leave (v := some (.int (1 : Int32))) (fun h => by rw [Bd.returns] at h; cases h) (hlocks := BodyLoose.notSynchronized Bd)
              refine ⟨_, _, pre351 _ ?_, hrun, hended, _, _, rfl, ?_, ⟨_, rfl⟩, hW, hsame.mono (by decide) (by decide)⟩
              · show Steps p.tables e below (T348.setTop (mkF m 249 #[.val (.int p0), .val (.int p1), .val (.int p2), .val (.int p3), .val (.int p4), .val (.int p5), .val (.ref b3), .val (.ref b52), .val (.int (p4 &&& (3 : Int32))), .val (.int (((p4.toUInt32 >>> ((2 : Int32) &&& 31).toUInt32).toInt32) &&& (3 : Int32))), .val (.int ((p4.toUInt32 >>> ((4 : Int32) &&& 31).toUInt32).toInt32)), .val (.int ((p4.toUInt32 >>> ((10 : Int32) &&& 31).toUInt32).toInt32)), .val (.ref r_o_123), .val (.ref r_o_139), .val (.ref b154), .val (.ref b183), .val (.int (p5 &&& (3 : Int32))), .val (.int (1 : Int32))] [(.int (own_v2_f p0 p1 p2 p3 (((p4.toUInt32 >>> ((10 : Int32) &&& 31).toUInt32).toInt32) &&& (3 : Int32)))), (.int (own_v1_f p0 p1 p2 p3 (((p4.toUInt32 >>> ((4 : Int32) &&& 31).toUInt32).toInt32) &&& (3 : Int32))))])) _
                refine XS.icmpYes X348.here hx rfl (pc0 := 249) (pc' := 256) rfl (hb hby at_249) rfl (feq hc249_352).2 (by decide) (by decide) ?_
                show Steps p.tables e below (T348.setTop (mkF m 256 #[.val (.int p0), .val (.int p1), .val (.int p2), .val (.int p3), .val (.int p4), .val (.int p5), .val (.ref b3), .val (.ref b52), .val (.int (p4 &&& (3 : Int32))), .val (.int (((p4.toUInt32 >>> ((2 : Int32) &&& 31).toUInt32).toInt32) &&& (3 : Int32))), .val (.int ((p4.toUInt32 >>> ((4 : Int32) &&& 31).toUInt32).toInt32)), .val (.int ((p4.toUInt32 >>> ((10 : Int32) &&& 31).toUInt32).toInt32)), .val (.ref r_o_123), .val (.ref r_o_139), .val (.ref b154), .val (.ref b183), .val (.int (p5 &&& (3 : Int32))), .val (.int (1 : Int32))] [])) _
                refine XS.iconst X348.here hx rfl (hb hby at_256) ?_
                show Steps p.tables e below (T348.setTop (mkF m 257 #[.val (.int p0), .val (.int p1), .val (.int p2), .val (.int p3), .val (.int p4), .val (.int p5), .val (.ref b3), .val (.ref b52), .val (.int (p4 &&& (3 : Int32))), .val (.int (((p4.toUInt32 >>> ((2 : Int32) &&& 31).toUInt32).toInt32) &&& (3 : Int32))), .val (.int ((p4.toUInt32 >>> ((4 : Int32) &&& 31).toUInt32).toInt32)), .val (.int ((p4.toUInt32 >>> ((10 : Int32) &&& 31).toUInt32).toInt32)), .val (.ref r_o_123), .val (.ref r_o_139), .val (.ref b154), .val (.ref b183), .val (.int (p5 &&& (3 : Int32))), .val (.int (1 : Int32))] [(.int (0 : Int32))])) _
                refine XS.istore X348.here hx rfl (hb hby at_257) rfl (l' := #[.val (.int p0), .val (.int p1), .val (.int p2), .val (.int p3), .val (.int p4), .val (.int p5), .val (.ref b3), .val (.ref b52), .val (.int (p4 &&& (3 : Int32))), .val (.int (((p4.toUInt32 >>> ((2 : Int32) &&& 31).toUInt32).toInt32) &&& (3 : Int32))), .val (.int ((p4.toUInt32 >>> ((4 : Int32) &&& 31).toUInt32).toInt32)), .val (.int ((p4.toUInt32 >>> ((10 : Int32) &&& 31).toUInt32).toInt32)), .val (.ref r_o_123), .val (.ref r_o_139), .val (.ref b154), .val (.ref b183), .val (.int (p5 &&& (3 : Int32))), .val (.int (0 : Int32))]) rfl ?_
                show Steps p.tables e below (T348.setTop (mkF m 259 #[.val (.int p0), .val (.int p1), .val (.int p2), .val (.int p3), .val (.int p4), .val (.int p5), .val (.ref b3), .val (.ref b52), .val (.int (p4 &&& (3 : Int32))), .val (.int (((p4.toUInt32 >>> ((2 : Int32) &&& 31).toUInt32).toInt32) &&& (3 : Int32))), .val (.int ((p4.toUInt32 >>> ((4 : Int32) &&& 31).toUInt32).toInt32)), .val (.int ((p4.toUInt32 >>> ((10 : Int32) &&& 31).toUInt32).toInt32)), .val (.ref r_o_123), .val (.ref r_o_139), .val (.ref b154), .val (.ref b183), .val (.int (p5 &&& (3 : Int32))), .val (.int (0 : Int32))] [])) _
                refine XS.iload X348.here hx rfl (hb hby at_259) rfl ?_
                show Steps p.tables e below (T348.setTop (mkF m 261 #[.val (.int p0), .val (.int p1), .val (.int p2), .val (.int p3), .val (.int p4), .val (.int p5), .val (.ref b3), .val (.ref b52), .val (.int (p4 &&& (3 : Int32))), .val (.int (((p4.toUInt32 >>> ((2 : Int32) &&& 31).toUInt32).toInt32) &&& (3 : Int32))), .val (.int ((p4.toUInt32 >>> ((4 : Int32) &&& 31).toUInt32).toInt32)), .val (.int ((p4.toUInt32 >>> ((10 : Int32) &&& 31).toUInt32).toInt32)), .val (.ref r_o_123), .val (.ref r_o_139), .val (.ref b154), .val (.ref b183), .val (.int (p5 &&& (3 : Int32))), .val (.int (0 : Int32))] [(.int (0 : Int32))])) _
                refine XS.ifYes X348.here hx rfl (pc0 := 261) (pc' := 306) rfl (hb hby at_261) rfl ((if0 _ _).trans (teq ((by decide) : (0 : Int32) = (0 : Int32))).1) (by decide) (by decide) ?_
                show Steps p.tables e below (T348.setTop (mkF m 306 #[.val (.int p0), .val (.int p1), .val (.int p2), .val (.int p3), .val (.int p4), .val (.int p5), .val (.ref b3), .val (.ref b52), .val (.int (p4 &&& (3 : Int32))), .val (.int (((p4.toUInt32 >>> ((2 : Int32) &&& 31).toUInt32).toInt32) &&& (3 : Int32))), .val (.int ((p4.toUInt32 >>> ((4 : Int32) &&& 31).toUInt32).toInt32)), .val (.int ((p4.toUInt32 >>> ((10 : Int32) &&& 31).toUInt32).toInt32)), .val (.ref r_o_123), .val (.ref r_o_139), .val (.ref b154), .val (.ref b183), .val (.int (p5 &&& (3 : Int32))), .val (.int (0 : Int32))] [])) _
                refine XS.iload X348.here hx rfl (hb hby at_306) rfl ?_
                show Steps p.tables e below (T348.setTop (mkF m 308 #[.val (.int p0), .val (.int p1), .val (.int p2), .val (.int p3), .val (.int p4), .val (.int p5), .val (.ref b3), .val (.ref b52), .val (.int (p4 &&& (3 : Int32))), .val (.int (((p4.toUInt32 >>> ((2 : Int32) &&& 31).toUInt32).toInt32) &&& (3 : Int32))), .val (.int ((p4.toUInt32 >>> ((4 : Int32) &&& 31).toUInt32).toInt32)), .val (.int ((p4.toUInt32 >>> ((10 : Int32) &&& 31).toUInt32).toInt32)), .val (.ref r_o_123), .val (.ref r_o_139), .val (.ref b154), .val (.ref b183), .val (.int (p5 &&& (3 : Int32))), .val (.int (0 : Int32))] [(.int (0 : Int32))])) _
                refine XS.ifYes X348.here hx rfl (pc0 := 308) (pc' := 353) rfl (hb hby at_308) rfl ((if0 _ _).trans (teq ((by decide) : (0 : Int32) = (0 : Int32))).1) (by decide) (by decide) ?_
                show Steps p.tables e below (T348.setTop (mkF m 353 #[.val (.int p0), .val (.int p1), .val (.int p2), .val (.int p3), .val (.int p4), .val (.int p5), .val (.ref b3), .val (.ref b52), .val (.int (p4 &&& (3 : Int32))), .val (.int (((p4.toUInt32 >>> ((2 : Int32) &&& 31).toUInt32).toInt32) &&& (3 : Int32))), .val (.int ((p4.toUInt32 >>> ((4 : Int32) &&& 31).toUInt32).toInt32)), .val (.int ((p4.toUInt32 >>> ((10 : Int32) &&& 31).toUInt32).toInt32)), .val (.ref r_o_123), .val (.ref r_o_139), .val (.ref b154), .val (.ref b183), .val (.int (p5 &&& (3 : Int32))), .val (.int (0 : Int32))] [])) _
                refine XS.aload X348.here hx rfl (hb hby at_353) rfl rfl ?_
                show Steps p.tables e below (T348.setTop (mkF m 355 #[.val (.int p0), .val (.int p1), .val (.int p2), .val (.int p3), .val (.int p4), .val (.int p5), .val (.ref b3), .val (.ref b52), .val (.int (p4 &&& (3 : Int32))), .val (.int (((p4.toUInt32 >>> ((2 : Int32) &&& 31).toUInt32).toInt32) &&& (3 : Int32))), .val (.int ((p4.toUInt32 >>> ((4 : Int32) &&& 31).toUInt32).toInt32)), .val (.int ((p4.toUInt32 >>> ((10 : Int32) &&& 31).toUInt32).toInt32)), .val (.ref r_o_123), .val (.ref r_o_139), .val (.ref b154), .val (.ref b183), .val (.int (p5 &&& (3 : Int32))), .val (.int (0 : Int32))] [(.ref b154)])) _
                refine XS.aload X348.here hx rfl (hb hby at_355) rfl rfl ?_
                show Steps p.tables e below (T348.setTop (mkF m 357 #[.val (.int p0), .val (.int p1), .val (.int p2), .val (.int p3), .val (.int p4), .val (.int p5), .val (.ref b3), .val (.ref b52), .val (.int (p4 &&& (3 : Int32))), .val (.int (((p4.toUInt32 >>> ((2 : Int32) &&& 31).toUInt32).toInt32) &&& (3 : Int32))), .val (.int ((p4.toUInt32 >>> ((4 : Int32) &&& 31).toUInt32).toInt32)), .val (.int ((p4.toUInt32 >>> ((10 : Int32) &&& 31).toUInt32).toInt32)), .val (.ref r_o_123), .val (.ref r_o_139), .val (.ref b154), .val (.ref b183), .val (.int (p5 &&& (3 : Int32))), .val (.int (0 : Int32))] [(.ref b183), (.ref b154)])) _
                refine st570.trans ?_
                show Steps p.tables e below (T570.setTop (mkF m 360 #[.val (.int p0), .val (.int p1), .val (.int p2), .val (.int p3), .val (.int p4), .val (.int p5), .val (.ref b3), .val (.ref b52), .val (.int (p4 &&& (3 : Int32))), .val (.int (((p4.toUInt32 >>> ((2 : Int32) &&& 31).toUInt32).toInt32) &&& (3 : Int32))), .val (.int ((p4.toUInt32 >>> ((4 : Int32) &&& 31).toUInt32).toInt32)), .val (.int ((p4.toUInt32 >>> ((10 : Int32) &&& 31).toUInt32).toInt32)), .val (.ref r_o_123), .val (.ref r_o_139), .val (.ref b154), .val (.ref b183), .val (.int (p5 &&& (3 : Int32))), .val (.int (0 : Int32))] [(.int (own_eq_f (p4 &&& (3 : Int32)) (((p4.toUInt32 >>> ((2 : Int32) &&& 31).toUInt32).toInt32) &&& (3 : Int32)) p0 p1 p2 p3 (((p4.toUInt32 >>> ((4 : Int32) &&& 31).toUInt32).toInt32) &&& (3 : Int32)) (((((p4.toUInt32 >>> ((4 : Int32) &&& 31).toUInt32).toInt32).toUInt32 >>> ((2 : Int32) &&& 31).toUInt32).toInt32) &&& (3 : Int32)) (((((p4.toUInt32 >>> ((4 : Int32) &&& 31).toUInt32).toInt32).toUInt32 >>> ((4 : Int32) &&& 31).toUInt32).toInt32) &&& (3 : Int32)) p1 p0 p3 p2 (((p4.toUInt32 >>> ((10 : Int32) &&& 31).toUInt32).toInt32) &&& (3 : Int32)) (((((p4.toUInt32 >>> ((10 : Int32) &&& 31).toUInt32).toInt32).toUInt32 >>> ((2 : Int32) &&& 31).toUInt32).toInt32) &&& (3 : Int32)) (((((p4.toUInt32 >>> ((10 : Int32) &&& 31).toUInt32).toInt32).toUInt32 >>> ((4 : Int32) &&& 31).toUInt32).toInt32) &&& (3 : Int32))))])) _
                refine XS.iload X570.here hx rfl (hb hby at_360) rfl ?_
                show Steps p.tables e below (T570.setTop (mkF m 362 #[.val (.int p0), .val (.int p1), .val (.int p2), .val (.int p3), .val (.int p4), .val (.int p5), .val (.ref b3), .val (.ref b52), .val (.int (p4 &&& (3 : Int32))), .val (.int (((p4.toUInt32 >>> ((2 : Int32) &&& 31).toUInt32).toInt32) &&& (3 : Int32))), .val (.int ((p4.toUInt32 >>> ((4 : Int32) &&& 31).toUInt32).toInt32)), .val (.int ((p4.toUInt32 >>> ((10 : Int32) &&& 31).toUInt32).toInt32)), .val (.ref r_o_123), .val (.ref r_o_139), .val (.ref b154), .val (.ref b183), .val (.int (p5 &&& (3 : Int32))), .val (.int (0 : Int32))] [(.int (0 : Int32)), (.int (own_eq_f (p4 &&& (3 : Int32)) (((p4.toUInt32 >>> ((2 : Int32) &&& 31).toUInt32).toInt32) &&& (3 : Int32)) p0 p1 p2 p3 (((p4.toUInt32 >>> ((4 : Int32) &&& 31).toUInt32).toInt32) &&& (3 : Int32)) (((((p4.toUInt32 >>> ((4 : Int32) &&& 31).toUInt32).toInt32).toUInt32 >>> ((2 : Int32) &&& 31).toUInt32).toInt32) &&& (3 : Int32)) (((((p4.toUInt32 >>> ((4 : Int32) &&& 31).toUInt32).toInt32).toUInt32 >>> ((4 : Int32) &&& 31).toUInt32).toInt32) &&& (3 : Int32)) p1 p0 p3 p2 (((p4.toUInt32 >>> ((10 : Int32) &&& 31).toUInt32).toInt32) &&& (3 : Int32)) (((((p4.toUInt32 >>> ((10 : Int32) &&& 31).toUInt32).toInt32).toUInt32 >>> ((2 : Int32) &&& 31).toUInt32).toInt32) &&& (3 : Int32)) (((((p4.toUInt32 >>> ((10 : Int32) &&& 31).toUInt32).toInt32).toUInt32 >>> ((4 : Int32) &&& 31).toUInt32).toInt32) &&& (3 : Int32))))])) _
                refine XS.icmpNo X570.here hx rfl (hb hby at_362) rfl (teq (((own_eqE _ _ _ _ _ _ _ _ _ _ _ _ _ _ _ _).trans (own_E2 hc206_285 hc224_295 (own_vne hc249_352))) : (own_eq_f (p4 &&& (3 : Int32)) (((p4.toUInt32 >>> ((2 : Int32) &&& 31).toUInt32).toInt32) &&& (3 : Int32)) p0 p1 p2 p3 (((p4.toUInt32 >>> ((4 : Int32) &&& 31).toUInt32).toInt32) &&& (3 : Int32)) (((((p4.toUInt32 >>> ((4 : Int32) &&& 31).toUInt32).toInt32).toUInt32 >>> ((2 : Int32) &&& 31).toUInt32).toInt32) &&& (3 : Int32)) (((((p4.toUInt32 >>> ((4 : Int32) &&& 31).toUInt32).toInt32).toUInt32 >>> ((4 : Int32) &&& 31).toUInt32).toInt32) &&& (3 : Int32)) p1 p0 p3 p2 (((p4.toUInt32 >>> ((10 : Int32) &&& 31).toUInt32).toInt32) &&& (3 : Int32)) (((((p4.toUInt32 >>> ((10 : Int32) &&& 31).toUInt32).toInt32).toUInt32 >>> ((2 : Int32) &&& 31).toUInt32).toInt32) &&& (3 : Int32)) (((((p4.toUInt32 >>> ((10 : Int32) &&& 31).toUInt32).toInt32).toUInt32 >>> ((4 : Int32) &&& 31).toUInt32).toInt32) &&& (3 : Int32))) = (0 : Int32))).2 ?_
                show Steps p.tables e below (T570.setTop (mkF m 365 #[.val (.int p0), .val (.int p1), .val (.int p2), .val (.int p3), .val (.int p4), .val (.int p5), .val (.ref b3), .val (.ref b52), .val (.int (p4 &&& (3 : Int32))), .val (.int (((p4.toUInt32 >>> ((2 : Int32) &&& 31).toUInt32).toInt32) &&& (3 : Int32))), .val (.int ((p4.toUInt32 >>> ((4 : Int32) &&& 31).toUInt32).toInt32)), .val (.int ((p4.toUInt32 >>> ((10 : Int32) &&& 31).toUInt32).toInt32)), .val (.ref r_o_123), .val (.ref r_o_139), .val (.ref b154), .val (.ref b183), .val (.int (p5 &&& (3 : Int32))), .val (.int (0 : Int32))] [])) _
                refine XS.aload X570.here hx rfl (hb hby at_365) rfl rfl ?_
                show Steps p.tables e below (T570.setTop (mkF m 367 #[.val (.int p0), .val (.int p1), .val (.int p2), .val (.int p3), .val (.int p4), .val (.int p5), .val (.ref b3), .val (.ref b52), .val (.int (p4 &&& (3 : Int32))), .val (.int (((p4.toUInt32 >>> ((2 : Int32) &&& 31).toUInt32).toInt32) &&& (3 : Int32))), .val (.int ((p4.toUInt32 >>> ((4 : Int32) &&& 31).toUInt32).toInt32)), .val (.int ((p4.toUInt32 >>> ((10 : Int32) &&& 31).toUInt32).toInt32)), .val (.ref r_o_123), .val (.ref r_o_139), .val (.ref b154), .val (.ref b183), .val (.int (p5 &&& (3 : Int32))), .val (.int (0 : Int32))] [(.ref b183)])) _
                refine XS.aload X570.here hx rfl (hb hby at_367) rfl rfl ?_
                show Steps p.tables e below (T570.setTop (mkF m 369 #[.val (.int p0), .val (.int p1), .val (.int p2), .val (.int p3), .val (.int p4), .val (.int p5), .val (.ref b3), .val (.ref b52), .val (.int (p4 &&& (3 : Int32))), .val (.int (((p4.toUInt32 >>> ((2 : Int32) &&& 31).toUInt32).toInt32) &&& (3 : Int32))), .val (.int ((p4.toUInt32 >>> ((4 : Int32) &&& 31).toUInt32).toInt32)), .val (.int ((p4.toUInt32 >>> ((10 : Int32) &&& 31).toUInt32).toInt32)), .val (.ref r_o_123), .val (.ref r_o_139), .val (.ref b154), .val (.ref b183), .val (.int (p5 &&& (3 : Int32))), .val (.int (0 : Int32))] [(.ref b154), (.ref b183)])) _
                refine st584.trans ?_
                show Steps p.tables e below (T584.setTop (mkF m 372 #[.val (.int p0), .val (.int p1), .val (.int p2), .val (.int p3), .val (.int p4), .val (.int p5), .val (.ref b3), .val (.ref b52), .val (.int (p4 &&& (3 : Int32))), .val (.int (((p4.toUInt32 >>> ((2 : Int32) &&& 31).toUInt32).toInt32) &&& (3 : Int32))), .val (.int ((p4.toUInt32 >>> ((4 : Int32) &&& 31).toUInt32).toInt32)), .val (.int ((p4.toUInt32 >>> ((10 : Int32) &&& 31).toUInt32).toInt32)), .val (.ref r_o_123), .val (.ref r_o_139), .val (.ref b154), .val (.ref b183), .val (.int (p5 &&& (3 : Int32))), .val (.int (0 : Int32))] [(.int (own_eq_f (((p4.toUInt32 >>> ((2 : Int32) &&& 31).toUInt32).toInt32) &&& (3 : Int32)) (p4 &&& (3 : Int32)) p1 p0 p3 p2 (((p4.toUInt32 >>> ((10 : Int32) &&& 31).toUInt32).toInt32) &&& (3 : Int32)) (((((p4.toUInt32 >>> ((10 : Int32) &&& 31).toUInt32).toInt32).toUInt32 >>> ((2 : Int32) &&& 31).toUInt32).toInt32) &&& (3 : Int32)) (((((p4.toUInt32 >>> ((10 : Int32) &&& 31).toUInt32).toInt32).toUInt32 >>> ((4 : Int32) &&& 31).toUInt32).toInt32) &&& (3 : Int32)) p0 p1 p2 p3 (((p4.toUInt32 >>> ((4 : Int32) &&& 31).toUInt32).toInt32) &&& (3 : Int32)) (((((p4.toUInt32 >>> ((4 : Int32) &&& 31).toUInt32).toInt32).toUInt32 >>> ((2 : Int32) &&& 31).toUInt32).toInt32) &&& (3 : Int32)) (((((p4.toUInt32 >>> ((4 : Int32) &&& 31).toUInt32).toInt32).toUInt32 >>> ((4 : Int32) &&& 31).toUInt32).toInt32) &&& (3 : Int32))))])) _
                refine XS.iload X584.here hx rfl (hb hby at_372) rfl ?_
                show Steps p.tables e below (T584.setTop (mkF m 374 #[.val (.int p0), .val (.int p1), .val (.int p2), .val (.int p3), .val (.int p4), .val (.int p5), .val (.ref b3), .val (.ref b52), .val (.int (p4 &&& (3 : Int32))), .val (.int (((p4.toUInt32 >>> ((2 : Int32) &&& 31).toUInt32).toInt32) &&& (3 : Int32))), .val (.int ((p4.toUInt32 >>> ((4 : Int32) &&& 31).toUInt32).toInt32)), .val (.int ((p4.toUInt32 >>> ((10 : Int32) &&& 31).toUInt32).toInt32)), .val (.ref r_o_123), .val (.ref r_o_139), .val (.ref b154), .val (.ref b183), .val (.int (p5 &&& (3 : Int32))), .val (.int (0 : Int32))] [(.int (0 : Int32)), (.int (own_eq_f (((p4.toUInt32 >>> ((2 : Int32) &&& 31).toUInt32).toInt32) &&& (3 : Int32)) (p4 &&& (3 : Int32)) p1 p0 p3 p2 (((p4.toUInt32 >>> ((10 : Int32) &&& 31).toUInt32).toInt32) &&& (3 : Int32)) (((((p4.toUInt32 >>> ((10 : Int32) &&& 31).toUInt32).toInt32).toUInt32 >>> ((2 : Int32) &&& 31).toUInt32).toInt32) &&& (3 : Int32)) (((((p4.toUInt32 >>> ((10 : Int32) &&& 31).toUInt32).toInt32).toUInt32 >>> ((4 : Int32) &&& 31).toUInt32).toInt32) &&& (3 : Int32)) p0 p1 p2 p3 (((p4.toUInt32 >>> ((4 : Int32) &&& 31).toUInt32).toInt32) &&& (3 : Int32)) (((((p4.toUInt32 >>> ((4 : Int32) &&& 31).toUInt32).toInt32).toUInt32 >>> ((2 : Int32) &&& 31).toUInt32).toInt32) &&& (3 : Int32)) (((((p4.toUInt32 >>> ((4 : Int32) &&& 31).toUInt32).toInt32).toUInt32 >>> ((4 : Int32) &&& 31).toUInt32).toInt32) &&& (3 : Int32))))])) _
                refine XS.icmpNo X584.here hx rfl (hb hby at_374) rfl (teq (((own_eqE _ _ _ _ _ _ _ _ _ _ _ _ _ _ _ _).trans ((own_sym _ _ _ _ _ _ _ _).trans (own_E2 hc206_285 hc224_295 (own_vne hc249_352)))) : (own_eq_f (((p4.toUInt32 >>> ((2 : Int32) &&& 31).toUInt32).toInt32) &&& (3 : Int32)) (p4 &&& (3 : Int32)) p1 p0 p3 p2 (((p4.toUInt32 >>> ((10 : Int32) &&& 31).toUInt32).toInt32) &&& (3 : Int32)) (((((p4.toUInt32 >>> ((10 : Int32) &&& 31).toUInt32).toInt32).toUInt32 >>> ((2 : Int32) &&& 31).toUInt32).toInt32) &&& (3 : Int32)) (((((p4.toUInt32 >>> ((10 : Int32) &&& 31).toUInt32).toInt32).toUInt32 >>> ((4 : Int32) &&& 31).toUInt32).toInt32) &&& (3 : Int32)) p0 p1 p2 p3 (((p4.toUInt32 >>> ((4 : Int32) &&& 31).toUInt32).toInt32) &&& (3 : Int32)) (((((p4.toUInt32 >>> ((4 : Int32) &&& 31).toUInt32).toInt32).toUInt32 >>> ((2 : Int32) &&& 31).toUInt32).toInt32) &&& (3 : Int32)) (((((p4.toUInt32 >>> ((4 : Int32) &&& 31).toUInt32).toInt32).toUInt32 >>> ((4 : Int32) &&& 31).toUInt32).toInt32) &&& (3 : Int32))) = (0 : Int32))).2 ?_
                show Steps p.tables e below (T584.setTop (mkF m 377 #[.val (.int p0), .val (.int p1), .val (.int p2), .val (.int p3), .val (.int p4), .val (.int p5), .val (.ref b3), .val (.ref b52), .val (.int (p4 &&& (3 : Int32))), .val (.int (((p4.toUInt32 >>> ((2 : Int32) &&& 31).toUInt32).toInt32) &&& (3 : Int32))), .val (.int ((p4.toUInt32 >>> ((4 : Int32) &&& 31).toUInt32).toInt32)), .val (.int ((p4.toUInt32 >>> ((10 : Int32) &&& 31).toUInt32).toInt32)), .val (.ref r_o_123), .val (.ref r_o_139), .val (.ref b154), .val (.ref b183), .val (.int (p5 &&& (3 : Int32))), .val (.int (0 : Int32))] [])) _
                refine XS.iconst X584.here hx rfl (hb hby at_377) ?_
                show Steps p.tables e below (T584.setTop (mkF m 378 #[.val (.int p0), .val (.int p1), .val (.int p2), .val (.int p3), .val (.int p4), .val (.int p5), .val (.ref b3), .val (.ref b52), .val (.int (p4 &&& (3 : Int32))), .val (.int (((p4.toUInt32 >>> ((2 : Int32) &&& 31).toUInt32).toInt32) &&& (3 : Int32))), .val (.int ((p4.toUInt32 >>> ((4 : Int32) &&& 31).toUInt32).toInt32)), .val (.int ((p4.toUInt32 >>> ((10 : Int32) &&& 31).toUInt32).toInt32)), .val (.ref r_o_123), .val (.ref r_o_139), .val (.ref b154), .val (.ref b183), .val (.int (p5 &&& (3 : Int32))), .val (.int (0 : Int32))] [(.int (1 : Int32))])) _
                refine XS.goto X584.here hx rfl (pc0 := 378) (pc' := 382) rfl (hb hby at_378) (by decide) (by decide) ?_
                show Steps p.tables e below (T584.setTop (mkF m 382 #[.val (.int p0), .val (.int p1), .val (.int p2), .val (.int p3), .val (.int p4), .val (.int p5), .val (.ref b3), .val (.ref b52), .val (.int (p4 &&& (3 : Int32))), .val (.int (((p4.toUInt32 >>> ((2 : Int32) &&& 31).toUInt32).toInt32) &&& (3 : Int32))), .val (.int ((p4.toUInt32 >>> ((4 : Int32) &&& 31).toUInt32).toInt32)), .val (.int ((p4.toUInt32 >>> ((10 : Int32) &&& 31).toUInt32).toInt32)), .val (.ref r_o_123), .val (.ref r_o_139), .val (.ref b154), .val (.ref b183), .val (.int (p5 &&& (3 : Int32))), .val (.int (0 : Int32))] [(.int (1 : Int32))])) _
                exact retN X584 hx (t := .boolean) Bd.returns (by simp) (hb hby at_382) hr
              · show Qown_law Z p0 p1 p2 p3 p4 p5 w_c k_c vs_c h0 n0 _ T584.heap _
                rw [eh584]
                exact ⟨rfl, N585⟩
        · have Fq603 : Fld Z T206.heap b154 "com/example/fovea/fovea/Memory$Key" "entry" "[I" (.ref b3) := ((Pf175_1.ext E183).keep K206 (ninS Ne194 nin0))
          have Fq604 : Fld Z T206.heap b154 "com/example/fovea/fovea/Memory$Key" "slots" "[I" (.ref r_o_123) := ((Pf175_2.ext E183).keep K206 (ninS Ne194 nin0))
          have Fq605 : Arv Z T206.heap b3 k3 .int (4 : Int32) [(.int p0), (.int p1), (.int p2), (.int p3)] (.int (0 : Int32)) := (((Fq176.keep K175 (ninS Ne157 nin0)).ext E183).keep K206 (ninS Ne186 nin0))
          have Fq606 : Arv Z T206.heap r_o_123 k_r_123 .int (p4 &&& (3 : Int32)) [(.int (((p4.toUInt32 >>> ((4 : Int32) &&& 31).toUInt32).toInt32) &&& (3 : Int32))), (.int (((((p4.toUInt32 >>> ((4 : Int32) &&& 31).toUInt32).toInt32).toUInt32 >>> ((2 : Int32) &&& 31).toUInt32).toInt32) &&& (3 : Int32))), (.int (((((p4.toUInt32 >>> ((4 : Int32) &&& 31).toUInt32).toInt32).toUInt32 >>> ((4 : Int32) &&& 31).toUInt32).toInt32) &&& (3 : Int32)))] (.int (0 : Int32)) := ((Fq191.ext E183).keep K206 (ninS Ne190 nin0))
          have Fq607 : Arv Z T206.heap b52 k52 .int (4 : Int32) [(.int p1), (.int p0), (.int p3), (.int p2)] (.int (0 : Int32)) := (Fq207.keep K206 (ninS Ne188 nin0))
          have Fq608 : Arv Z T206.heap r_o_139 k_r_139 .int (((p4.toUInt32 >>> ((2 : Int32) &&& 31).toUInt32).toInt32) &&& (3 : Int32)) [(.int (((p4.toUInt32 >>> ((10 : Int32) &&& 31).toUInt32).toInt32) &&& (3 : Int32))), (.int (((((p4.toUInt32 >>> ((10 : Int32) &&& 31).toUInt32).toInt32).toUInt32 >>> ((2 : Int32) &&& 31).toUInt32).toInt32) &&& (3 : Int32))), (.int (((((p4.toUInt32 >>> ((10 : Int32) &&& 31).toUInt32).toInt32).toUInt32 >>> ((4 : Int32) &&& 31).toUInt32).toInt32) &&& (3 : Int32)))] (.int (0 : Int32)) := (Fq208.keep K206 (ninS Ne192 nin0))
          have Fq609 : Exa Z T206.heap b154 "com/example/fovea/fovea/Memory$Key" := ((Pf175_0.ext E183).keep K206)
          obtain ⟨cq602, kq602, q602a, q602b, q602c⟩ := isOf hZ rfl Fq609
          obtain ⟨_, _, ⟨T602, L602, k602, n602⟩, -, X602, ⟨Lc602, hQ602, l602, y602, z602⟩, st602⟩ := X206.virtualBack hx (y := (⟨"com/example/fovea/fovea/Memory$Key", "equals", "(Ljava/lang/Object;)Z"⟩ : MethodName)) (z := (⟨"com/example/fovea/fovea/Memory$Key", "equals", "(Ljava/lang/Object;)Z"⟩ : MethodName)) hown (mvT hZ (hw _ (List.mem_of_getElem? (i := 25) rfl))) (mvT hZ (hw _ (List.mem_of_getElem? (i := 26) rfl))) (notFace_of_selects (args := #[]) (mvT hZ (hw _ (List.mem_of_getElem? (i := 28) rfl)))) (mvT hZ (hw _ (List.mem_of_getElem? (i := 28) rfl))) (mvT hZ (hw _ (List.mem_of_getElem? (i := 27) rfl))) (by decide) (backOf (W := 0) (own_eq l Z a0 hw [] b154 b183 b3 r_o_123 b52 r_o_139 k3 k_r_123 k52 k_r_139 (p4 &&& (3 : Int32)) (((p4.toUInt32 >>> ((2 : Int32) &&& 31).toUInt32).toInt32) &&& (3 : Int32)) p0 p1 p2 p3 (((p4.toUInt32 >>> ((4 : Int32) &&& 31).toUInt32).toInt32) &&& (3 : Int32)) (((((p4.toUInt32 >>> ((4 : Int32) &&& 31).toUInt32).toInt32).toUInt32 >>> ((2 : Int32) &&& 31).toUInt32).toInt32) &&& (3 : Int32)) (((((p4.toUInt32 >>> ((4 : Int32) &&& 31).toUInt32).toInt32).toUInt32 >>> ((4 : Int32) &&& 31).toUInt32).toInt32) &&& (3 : Int32)) p1 p0 p3 p2 (((p4.toUInt32 >>> ((10 : Int32) &&& 31).toUInt32).toInt32) &&& (3 : Int32)) (((((p4.toUInt32 >>> ((10 : Int32) &&& 31).toUInt32).toInt32).toUInt32 >>> ((2 : Int32) &&& 31).toUInt32).toInt32) &&& (3 : Int32)) (((((p4.toUInt32 >>> ((10 : Int32) &&& 31).toUInt32).toInt32).toUInt32 >>> ((4 : Int32) &&& 31).toUInt32).toInt32) &&& (3 : Int32)) T206.heap n0 Zs211 Pf206_0 Fq603 Fq604 Pf206_1 Pf206_2 Fq605 Fq606 Fq607 Fq608 (own_and4 _) (own_and4 _) (own_and4 _) (own_and4 _) (own_and4 _) (own_and4 _) (own_and3 _).2) hZ (hw _ (List.mem_of_getElem? (i := 29) rfl)) (hw _ (List.mem_of_getElem? (i := 7) rfl)) (by decide) (by decide)) q602a q602c (g := (mkF m 357 #[.val (.int p0), .val (.int p1), .val (.int p2), .val (.int p3), .val (.int p4), .val (.int p5), .val (.ref b3), .val (.ref b52), .val (.int (p4 &&& (3 : Int32))), .val (.int (((p4.toUInt32 >>> ((2 : Int32) &&& 31).toUInt32).toInt32) &&& (3 : Int32))), .val (.int ((p4.toUInt32 >>> ((4 : Int32) &&& 31).toUInt32).toInt32)), .val (.int ((p4.toUInt32 >>> ((10 : Int32) &&& 31).toUInt32).toInt32)), .val (.ref r_o_123), .val (.ref r_o_139), .val (.ref b154), .val (.ref b183), .val (.int (p5 &&& (3 : Int32))), .val (.int (0 : Int32))] [(.ref b183), (.ref b154)])) rfl (by rw [hml]; rfl) (Steps.refl _) (argsL := [(.ref b183)]) (rest := []) (lenOf own_pd5 rfl) rfl (by show 2 * 0 + _ ≤ _; exact Nat.le_of_eq rfl) (hb hby at_357) (fun _ _ => ⟨rfl, rfl, (by decide : 6 + 0 ≤ _), (by decide : 24 + 0 ≤ _)⟩)
          dsimp only [Pt.U, Pt.locs, Pt.cells, Pt.slots] at X602 l602 y602 z602 st602 hQ602
          rw [l602, y602, z602] at X602
          obtain ⟨rfl, Nq602, eh602⟩ := hQ602
          have N610 := Fr.app N209 Nq602
          obtain ⟨cq616, kq616, q616a, q616b, q616c⟩ := isOf hZ eh602 Pf206_0
          obtain ⟨_, _, ⟨T616, L616, k616, n616⟩, -, X616, ⟨Lc616, hQ616, l616, y616, z616⟩, st616⟩ := X602.virtualBack hx (y := (⟨"com/example/fovea/fovea/Memory$Key", "equals", "(Ljava/lang/Object;)Z"⟩ : MethodName)) (z := (⟨"com/example/fovea/fovea/Memory$Key", "equals", "(Ljava/lang/Object;)Z"⟩ : MethodName)) hown (mvT hZ (hw _ (List.mem_of_getElem? (i := 25) rfl))) (mvT hZ (hw _ (List.mem_of_getElem? (i := 26) rfl))) (notFace_of_selects (args := #[]) (mvT hZ (hw _ (List.mem_of_getElem? (i := 28) rfl)))) (mvT hZ (hw _ (List.mem_of_getElem? (i := 28) rfl))) (mvT hZ (hw _ (List.mem_of_getElem? (i := 27) rfl))) (by decide) (backOf (W := 0) (own_eq l Z a0 hw [] b183 b154 b52 r_o_139 b3 r_o_123 k52 k_r_139 k3 k_r_123 (((p4.toUInt32 >>> ((2 : Int32) &&& 31).toUInt32).toInt32) &&& (3 : Int32)) (p4 &&& (3 : Int32)) p1 p0 p3 p2 (((p4.toUInt32 >>> ((10 : Int32) &&& 31).toUInt32).toInt32) &&& (3 : Int32)) (((((p4.toUInt32 >>> ((10 : Int32) &&& 31).toUInt32).toInt32).toUInt32 >>> ((2 : Int32) &&& 31).toUInt32).toInt32) &&& (3 : Int32)) (((((p4.toUInt32 >>> ((10 : Int32) &&& 31).toUInt32).toInt32).toUInt32 >>> ((4 : Int32) &&& 31).toUInt32).toInt32) &&& (3 : Int32)) p0 p1 p2 p3 (((p4.toUInt32 >>> ((4 : Int32) &&& 31).toUInt32).toInt32) &&& (3 : Int32)) (((((p4.toUInt32 >>> ((4 : Int32) &&& 31).toUInt32).toInt32).toUInt32 >>> ((2 : Int32) &&& 31).toUInt32).toInt32) &&& (3 : Int32)) (((((p4.toUInt32 >>> ((4 : Int32) &&& 31).toUInt32).toInt32).toUInt32 >>> ((4 : Int32) &&& 31).toUInt32).toInt32) &&& (3 : Int32)) T206.heap n0 Zs211 Fq609 Pf206_1 Pf206_2 Fq603 Fq604 Fq607 Fq608 Fq605 Fq606 (own_and4 _) (own_and4 _) (own_and4 _) (own_and4 _) (own_and4 _) (own_and4 _) (own_and3 _).2) hZ (hw _ (List.mem_of_getElem? (i := 29) rfl)) (hw _ (List.mem_of_getElem? (i := 7) rfl)) (by decide) (by decide)) q616a q616c (g := (mkF m 369 #[.val (.int p0), .val (.int p1), .val (.int p2), .val (.int p3), .val (.int p4), .val (.int p5), .val (.ref b3), .val (.ref b52), .val (.int (p4 &&& (3 : Int32))), .val (.int (((p4.toUInt32 >>> ((2 : Int32) &&& 31).toUInt32).toInt32) &&& (3 : Int32))), .val (.int ((p4.toUInt32 >>> ((4 : Int32) &&& 31).toUInt32).toInt32)), .val (.int ((p4.toUInt32 >>> ((10 : Int32) &&& 31).toUInt32).toInt32)), .val (.ref r_o_123), .val (.ref r_o_139), .val (.ref b154), .val (.ref b183), .val (.int (p5 &&& (3 : Int32))), .val (.int (0 : Int32))] [(.ref b154), (.ref b183)])) rfl (by rw [hml]; rfl) (Steps.refl _) (argsL := [(.ref b154)]) (rest := []) (lenOf own_pd5 rfl) rfl (by show 2 * 0 + _ ≤ _; exact Nat.le_of_eq rfl) (hb hby at_369) (fun _ _ => ⟨rfl, eh602, (by decide : 6 + 0 ≤ _), (by decide : 24 + 0 ≤ _)⟩)
          dsimp only [Pt.U, Pt.locs, Pt.cells, Pt.slots] at X616 l616 y616 z616 st616 hQ616
          rw [l616, y616, z616] at X616
          obtain ⟨rfl, Nq616, eh616⟩ := hQ616
          have N617 := Fr.app N610 Nq616
          obtain ⟨fs, hr, hrun, hended, hW, hsame⟩ := X616.leave (v := some (.int (1 : Int32))) (fun h => by rw [Bd.returns] at h; cases h) (hlocks := BodyLoose.notSynchronized Bd)
          refine ⟨_, _, pre284 _ ?_, hrun, hended, _, _, rfl, ?_, ⟨_, rfl⟩, hW, hsame.mono (by decide) (by decide)⟩
          · show Steps p.tables e below (T206.setTop (mkF m 206 #[.val (.int p0), .val (.int p1), .val (.int p2), .val (.int p3), .val (.int p4), .val (.int p5), .val (.ref b3), .val (.ref b52), .val (.int (p4 &&& (3 : Int32))), .val (.int (((p4.toUInt32 >>> ((2 : Int32) &&& 31).toUInt32).toInt32) &&& (3 : Int32))), .val (.int ((p4.toUInt32 >>> ((4 : Int32) &&& 31).toUInt32).toInt32)), .val (.int ((p4.toUInt32 >>> ((10 : Int32) &&& 31).toUInt32).toInt32)), .val (.ref r_o_123), .val (.ref r_o_139), .val (.ref b154), .val (.ref b183), .val (.int (p5 &&& (3 : Int32))), .unset] [(.int (((p4.toUInt32 >>> ((2 : Int32) &&& 31).toUInt32).toInt32) &&& (3 : Int32))), (.int (p4 &&& (3 : Int32)))])) _
            refine XS.icmpYes X206.here hx rfl (pc0 := 206) (pc' := 213) rfl (hb hby at_206) rfl (feq hc206_285).2 (by decide) (by decide) ?_
            show Steps p.tables e below (T206.setTop (mkF m 213 #[.val (.int p0), .val (.int p1), .val (.int p2), .val (.int p3), .val (.int p4), .val (.int p5), .val (.ref b3), .val (.ref b52), .val (.int (p4 &&& (3 : Int32))), .val (.int (((p4.toUInt32 >>> ((2 : Int32) &&& 31).toUInt32).toInt32) &&& (3 : Int32))), .val (.int ((p4.toUInt32 >>> ((4 : Int32) &&& 31).toUInt32).toInt32)), .val (.int ((p4.toUInt32 >>> ((10 : Int32) &&& 31).toUInt32).toInt32)), .val (.ref r_o_123), .val (.ref r_o_139), .val (.ref b154), .val (.ref b183), .val (.int (p5 &&& (3 : Int32))), .unset] [])) _
            refine XS.iconst X206.here hx rfl (hb hby at_213) ?_
            show Steps p.tables e below (T206.setTop (mkF m 214 #[.val (.int p0), .val (.int p1), .val (.int p2), .val (.int p3), .val (.int p4), .val (.int p5), .val (.ref b3), .val (.ref b52), .val (.int (p4 &&& (3 : Int32))), .val (.int (((p4.toUInt32 >>> ((2 : Int32) &&& 31).toUInt32).toInt32) &&& (3 : Int32))), .val (.int ((p4.toUInt32 >>> ((4 : Int32) &&& 31).toUInt32).toInt32)), .val (.int ((p4.toUInt32 >>> ((10 : Int32) &&& 31).toUInt32).toInt32)), .val (.ref r_o_123), .val (.ref r_o_139), .val (.ref b154), .val (.ref b183), .val (.int (p5 &&& (3 : Int32))), .unset] [(.int (0 : Int32))])) _
            refine XS.istore X206.here hx rfl (hb hby at_214) rfl (l' := #[.val (.int p0), .val (.int p1), .val (.int p2), .val (.int p3), .val (.int p4), .val (.int p5), .val (.ref b3), .val (.ref b52), .val (.int (p4 &&& (3 : Int32))), .val (.int (((p4.toUInt32 >>> ((2 : Int32) &&& 31).toUInt32).toInt32) &&& (3 : Int32))), .val (.int ((p4.toUInt32 >>> ((4 : Int32) &&& 31).toUInt32).toInt32)), .val (.int ((p4.toUInt32 >>> ((10 : Int32) &&& 31).toUInt32).toInt32)), .val (.ref r_o_123), .val (.ref r_o_139), .val (.ref b154), .val (.ref b183), .val (.int (p5 &&& (3 : Int32))), .val (.int (0 : Int32))]) rfl ?_
            show Steps p.tables e below (T206.setTop (mkF m 216 #[.val (.int p0), .val (.int p1), .val (.int p2), .val (.int p3), .val (.int p4), .val (.int p5), .val (.ref b3), .val (.ref b52), .val (.int (p4 &&& (3 : Int32))), .val (.int (((p4.toUInt32 >>> ((2 : Int32) &&& 31).toUInt32).toInt32) &&& (3 : Int32))), .val (.int ((p4.toUInt32 >>> ((4 : Int32) &&& 31).toUInt32).toInt32)), .val (.int ((p4.toUInt32 >>> ((10 : Int32) &&& 31).toUInt32).toInt32)), .val (.ref r_o_123), .val (.ref r_o_139), .val (.ref b154), .val (.ref b183), .val (.int (p5 &&& (3 : Int32))), .val (.int (0 : Int32))] [])) _
            refine XS.iload X206.here hx rfl (hb hby at_216) rfl ?_
            show Steps p.tables e below (T206.setTop (mkF m 218 #[.val (.int p0), .val (.int p1), .val (.int p2), .val (.int p3), .val (.int p4), .val (.int p5), .val (.ref b3), .val (.ref b52), .val (.int (p4 &&& (3 : Int32))), .val (.int (((p4.toUInt32 >>> ((2 : Int32) &&& 31).toUInt32).toInt32) &&& (3 : Int32))), .val (.int ((p4.toUInt32 >>> ((4 : Int32) &&& 31).toUInt32).toInt32)), .val (.int ((p4.toUInt32 >>> ((10 : Int32) &&& 31).toUInt32).toInt32)), .val (.ref r_o_123), .val (.ref r_o_139), .val (.ref b154), .val (.ref b183), .val (.int (p5 &&& (3 : Int32))), .val (.int (0 : Int32))] [(.int (0 : Int32))])) _
            refine XS.ifYes X206.here hx rfl (pc0 := 218) (pc' := 259) rfl (hb hby at_218) rfl ((if0 _ _).trans (teq ((by decide) : (0 : Int32) = (0 : Int32))).1) (by decide) (by decide) ?_
            show Steps p.tables e below (T206.setTop (mkF m 259 #[.val (.int p0), .val (.int p1), .val (.int p2), .val (.int p3), .val (.int p4), .val (.int p5), .val (.ref b3), .val (.ref b52), .val (.int (p4 &&& (3 : Int32))), .val (.int (((p4.toUInt32 >>> ((2 : Int32) &&& 31).toUInt32).toInt32) &&& (3 : Int32))), .val (.int ((p4.toUInt32 >>> ((4 : Int32) &&& 31).toUInt32).toInt32)), .val (.int ((p4.toUInt32 >>> ((10 : Int32) &&& 31).toUInt32).toInt32)), .val (.ref r_o_123), .val (.ref r_o_139), .val (.ref b154), .val (.ref b183), .val (.int (p5 &&& (3 : Int32))), .val (.int (0 : Int32))] [])) _
            refine XS.iload X206.here hx rfl (hb hby at_259) rfl ?_
            show Steps p.tables e below (T206.setTop (mkF m 261 #[.val (.int p0), .val (.int p1), .val (.int p2), .val (.int p3), .val (.int p4), .val (.int p5), .val (.ref b3), .val (.ref b52), .val (.int (p4 &&& (3 : Int32))), .val (.int (((p4.toUInt32 >>> ((2 : Int32) &&& 31).toUInt32).toInt32) &&& (3 : Int32))), .val (.int ((p4.toUInt32 >>> ((4 : Int32) &&& 31).toUInt32).toInt32)), .val (.int ((p4.toUInt32 >>> ((10 : Int32) &&& 31).toUInt32).toInt32)), .val (.ref r_o_123), .val (.ref r_o_139), .val (.ref b154), .val (.ref b183), .val (.int (p5 &&& (3 : Int32))), .val (.int (0 : Int32))] [(.int (0 : Int32))])) _
            refine XS.ifYes X206.here hx rfl (pc0 := 261) (pc' := 306) rfl (hb hby at_261) rfl ((if0 _ _).trans (teq ((by decide) : (0 : Int32) = (0 : Int32))).1) (by decide) (by decide) ?_
            show Steps p.tables e below (T206.setTop (mkF m 306 #[.val (.int p0), .val (.int p1), .val (.int p2), .val (.int p3), .val (.int p4), .val (.int p5), .val (.ref b3), .val (.ref b52), .val (.int (p4 &&& (3 : Int32))), .val (.int (((p4.toUInt32 >>> ((2 : Int32) &&& 31).toUInt32).toInt32) &&& (3 : Int32))), .val (.int ((p4.toUInt32 >>> ((4 : Int32) &&& 31).toUInt32).toInt32)), .val (.int ((p4.toUInt32 >>> ((10 : Int32) &&& 31).toUInt32).toInt32)), .val (.ref r_o_123), .val (.ref r_o_139), .val (.ref b154), .val (.ref b183), .val (.int (p5 &&& (3 : Int32))), .val (.int (0 : Int32))] [])) _
            refine XS.iload X206.here hx rfl (hb hby at_306) rfl ?_
            show Steps p.tables e below (T206.setTop (mkF m 308 #[.val (.int p0), .val (.int p1), .val (.int p2), .val (.int p3), .val (.int p4), .val (.int p5), .val (.ref b3), .val (.ref b52), .val (.int (p4 &&& (3 : Int32))), .val (.int (((p4.toUInt32 >>> ((2 : Int32) &&& 31).toUInt32).toInt32) &&& (3 : Int32))), .val (.int ((p4.toUInt32 >>> ((4 : Int32) &&& 31).toUInt32).toInt32)), .val (.int ((p4.toUInt32 >>> ((10 : Int32) &&& 31).toUInt32).toInt32)), .val (.ref r_o_123), .val (.ref r_o_139), .val (.ref b154), .val (.ref b183), .val (.int (p5 &&& (3 : Int32))), .val (.int (0 : Int32))] [(.int (0 : Int32))])) _
            refine XS.ifYes X206.here hx rfl (pc0 := 308) (pc' := 353) rfl (hb hby at_308) rfl ((if0 _ _).trans (teq ((by decide) : (0 : Int32) = (0 : Int32))).1) (by decide) (by decide) ?_
            show Steps p.tables e below (T206.setTop (mkF m 353 #[.val (.int p0), .val (.int p1), .val (.int p2), .val (.int p3), .val (.int p4), .val (.int p5), .val (.ref b3), .val (.ref b52), .val (.int (p4 &&& (3 : Int32))), .val (.int (((p4.toUInt32 >>> ((2 : Int32) &&& 31).toUInt32).toInt32) &&& (3 : Int32))), .val (.int ((p4.toUInt32 >>> ((4 : Int32) &&& 31).toUInt32).toInt32)), .val (.int ((p4.toUInt32 >>> ((10 : Int32) &&& 31).toUInt32).toInt32)), .val (.ref r_o_123), .val (.ref r_o_139), .val (.ref b154), .val (.ref b183), .val (.int (p5 &&& (3 : Int32))), .val (.int (0 : Int32))] [])) _
            refine XS.aload X206.here hx rfl (hb hby at_353) rfl rfl ?_
            show Steps p.tables e below (T206.setTop (mkF m 355 #[.val (.int p0), .val (.int p1), .val (.int p2), .val (.int p3), .val (.int p4), .val (.int p5), .val (.ref b3), .val (.ref b52), .val (.int (p4 &&& (3 : Int32))), .val (.int (((p4.toUInt32 >>> ((2 : Int32) &&& 31).toUInt32).toInt32) &&& (3 : Int32))), .val (.int ((p4.toUInt32 >>> ((4 : Int32) &&& 31).toUInt32).toInt32)), .val (.int ((p4.toUInt32 >>> ((10 : Int32) &&& 31).toUInt32).toInt32)), .val (.ref r_o_123), .val (.ref r_o_139), .val (.ref b154), .val (.ref b183), .val (.int (p5 &&& (3 : Int32))), .val (.int (0 : Int32))] [(.ref b154)])) _
            refine XS.aload X206.here hx rfl (hb hby at_355) rfl rfl ?_
            show Steps p.tables e below (T206.setTop (mkF m 357 #[.val (.int p0), .val (.int p1), .val (.int p2), .val (.int p3), .val (.int p4), .val (.int p5), .val (.ref b3), .val (.ref b52), .val (.int (p4 &&& (3 : Int32))), .val (.int (((p4.toUInt32 >>> ((2 : Int32) &&& 31).toUInt32).toInt32) &&& (3 : Int32))), .val (.int ((p4.toUInt32 >>> ((4 : Int32) &&& 31).toUInt32).toInt32)), .val (.int ((p4.toUInt32 >>> ((10 : Int32) &&& 31).toUInt32).toInt32)), .val (.ref r_o_123), .val (.ref r_o_139), .val (.ref b154), .val (.ref b183), .val (.int (p5 &&& (3 : Int32))), .val (.int (0 : Int32))] [(.ref b183), (.ref b154)])) _
            refine st602.trans ?_
            show Steps p.tables e below (T602.setTop (mkF m 360 #[.val (.int p0), .val (.int p1), .val (.int p2), .val (.int p3), .val (.int p4), .val (.int p5), .val (.ref b3), .val (.ref b52), .val (.int (p4 &&& (3 : Int32))), .val (.int (((p4.toUInt32 >>> ((2 : Int32) &&& 31).toUInt32).toInt32) &&& (3 : Int32))), .val (.int ((p4.toUInt32 >>> ((4 : Int32) &&& 31).toUInt32).toInt32)), .val (.int ((p4.toUInt32 >>> ((10 : Int32) &&& 31).toUInt32).toInt32)), .val (.ref r_o_123), .val (.ref r_o_139), .val (.ref b154), .val (.ref b183), .val (.int (p5 &&& (3 : Int32))), .val (.int (0 : Int32))] [(.int (own_eq_f (p4 &&& (3 : Int32)) (((p4.toUInt32 >>> ((2 : Int32) &&& 31).toUInt32).toInt32) &&& (3 : Int32)) p0 p1 p2 p3 (((p4.toUInt32 >>> ((4 : Int32) &&& 31).toUInt32).toInt32) &&& (3 : Int32)) (((((p4.toUInt32 >>> ((4 : Int32) &&& 31).toUInt32).toInt32).toUInt32 >>> ((2 : Int32) &&& 31).toUInt32).toInt32) &&& (3 : Int32)) (((((p4.toUInt32 >>> ((4 : Int32) &&& 31).toUInt32).toInt32).toUInt32 >>> ((4 : Int32) &&& 31).toUInt32).toInt32) &&& (3 : Int32)) p1 p0 p3 p2 (((p4.toUInt32 >>> ((10 : Int32) &&& 31).toUInt32).toInt32) &&& (3 : Int32)) (((((p4.toUInt32 >>> ((10 : Int32) &&& 31).toUInt32).toInt32).toUInt32 >>> ((2 : Int32) &&& 31).toUInt32).toInt32) &&& (3 : Int32)) (((((p4.toUInt32 >>> ((10 : Int32) &&& 31).toUInt32).toInt32).toUInt32 >>> ((4 : Int32) &&& 31).toUInt32).toInt32) &&& (3 : Int32))))])) _
            refine XS.iload X602.here hx rfl (hb hby at_360) rfl ?_
            show Steps p.tables e below (T602.setTop (mkF m 362 #[.val (.int p0), .val (.int p1), .val (.int p2), .val (.int p3), .val (.int p4), .val (.int p5), .val (.ref b3), .val (.ref b52), .val (.int (p4 &&& (3 : Int32))), .val (.int (((p4.toUInt32 >>> ((2 : Int32) &&& 31).toUInt32).toInt32) &&& (3 : Int32))), .val (.int ((p4.toUInt32 >>> ((4 : Int32) &&& 31).toUInt32).toInt32)), .val (.int ((p4.toUInt32 >>> ((10 : Int32) &&& 31).toUInt32).toInt32)), .val (.ref r_o_123), .val (.ref r_o_139), .val (.ref b154), .val (.ref b183), .val (.int (p5 &&& (3 : Int32))), .val (.int (0 : Int32))] [(.int (0 : Int32)), (.int (own_eq_f (p4 &&& (3 : Int32)) (((p4.toUInt32 >>> ((2 : Int32) &&& 31).toUInt32).toInt32) &&& (3 : Int32)) p0 p1 p2 p3 (((p4.toUInt32 >>> ((4 : Int32) &&& 31).toUInt32).toInt32) &&& (3 : Int32)) (((((p4.toUInt32 >>> ((4 : Int32) &&& 31).toUInt32).toInt32).toUInt32 >>> ((2 : Int32) &&& 31).toUInt32).toInt32) &&& (3 : Int32)) (((((p4.toUInt32 >>> ((4 : Int32) &&& 31).toUInt32).toInt32).toUInt32 >>> ((4 : Int32) &&& 31).toUInt32).toInt32) &&& (3 : Int32)) p1 p0 p3 p2 (((p4.toUInt32 >>> ((10 : Int32) &&& 31).toUInt32).toInt32) &&& (3 : Int32)) (((((p4.toUInt32 >>> ((10 : Int32) &&& 31).toUInt32).toInt32).toUInt32 >>> ((2 : Int32) &&& 31).toUInt32).toInt32) &&& (3 : Int32)) (((((p4.toUInt32 >>> ((10 : Int32) &&& 31).toUInt32).toInt32).toUInt32 >>> ((4 : Int32) &&& 31).toUInt32).toInt32) &&& (3 : Int32))))])) _
            refine XS.icmpNo X602.here hx rfl (hb hby at_362) rfl (teq (((own_eqE _ _ _ _ _ _ _ _ _ _ _ _ _ _ _ _).trans (own_E0 hc206_285)) : (own_eq_f (p4 &&& (3 : Int32)) (((p4.toUInt32 >>> ((2 : Int32) &&& 31).toUInt32).toInt32) &&& (3 : Int32)) p0 p1 p2 p3 (((p4.toUInt32 >>> ((4 : Int32) &&& 31).toUInt32).toInt32) &&& (3 : Int32)) (((((p4.toUInt32 >>> ((4 : Int32) &&& 31).toUInt32).toInt32).toUInt32 >>> ((2 : Int32) &&& 31).toUInt32).toInt32) &&& (3 : Int32)) (((((p4.toUInt32 >>> ((4 : Int32) &&& 31).toUInt32).toInt32).toUInt32 >>> ((4 : Int32) &&& 31).toUInt32).toInt32) &&& (3 : Int32)) p1 p0 p3 p2 (((p4.toUInt32 >>> ((10 : Int32) &&& 31).toUInt32).toInt32) &&& (3 : Int32)) (((((p4.toUInt32 >>> ((10 : Int32) &&& 31).toUInt32).toInt32).toUInt32 >>> ((2 : Int32) &&& 31).toUInt32).toInt32) &&& (3 : Int32)) (((((p4.toUInt32 >>> ((10 : Int32) &&& 31).toUInt32).toInt32).toUInt32 >>> ((4 : Int32) &&& 31).toUInt32).toInt32) &&& (3 : Int32))) = (0 : Int32))).2 ?_
            show Steps p.tables e below (T602.setTop (mkF m 365 #[.val (.int p0), .val (.int p1), .val (.int p2), .val (.int p3), .val (.int p4), .val (.int p5), .val (.ref b3), .val (.ref b52), .val (.int (p4 &&& (3 : Int32))), .val (.int (((p4.toUInt32 >>> ((2 : Int32) &&& 31).toUInt32).toInt32) &&& (3 : Int32))), .val (.int ((p4.toUInt32 >>> ((4 : Int32) &&& 31).toUInt32).toInt32)), .val (.int ((p4.toUInt32 >>> ((10 : Int32) &&& 31).toUInt32).toInt32)), .val (.ref r_o_123), .val (.ref r_o_139), .val (.ref b154), .val (.ref b183), .val (.int (p5 &&& (3 : Int32))), .val (.int (0 : Int32))] [])) _
            refine XS.aload X602.here hx rfl (hb hby at_365) rfl rfl ?_
            show Steps p.tables e below (T602.setTop (mkF m 367 #[.val (.int p0), .val (.int p1), .val (.int p2), .val (.int p3), .val (.int p4), .val (.int p5), .val (.ref b3), .val (.ref b52), .val (.int (p4 &&& (3 : Int32))), .val (.int (((p4.toUInt32 >>> ((2 : Int32) &&& 31).toUInt32).toInt32) &&& (3 : Int32))), .val (.int ((p4.toUInt32 >>> ((4 : Int32) &&& 31).toUInt32).toInt32)), .val (.int ((p4.toUInt32 >>> ((10 : Int32) &&& 31).toUInt32).toInt32)), .val (.ref r_o_123), .val (.ref r_o_139), .val (.ref b154), .val (.ref b183), .val (.int (p5 &&& (3 : Int32))), .val (.int (0 : Int32))] [(.ref b183)])) _
            refine XS.aload X602.here hx rfl (hb hby at_367) rfl rfl ?_
            show Steps p.tables e below (T602.setTop (mkF m 369 #[.val (.int p0), .val (.int p1), .val (.int p2), .val (.int p3), .val (.int p4), .val (.int p5), .val (.ref b3), .val (.ref b52), .val (.int (p4 &&& (3 : Int32))), .val (.int (((p4.toUInt32 >>> ((2 : Int32) &&& 31).toUInt32).toInt32) &&& (3 : Int32))), .val (.int ((p4.toUInt32 >>> ((4 : Int32) &&& 31).toUInt32).toInt32)), .val (.int ((p4.toUInt32 >>> ((10 : Int32) &&& 31).toUInt32).toInt32)), .val (.ref r_o_123), .val (.ref r_o_139), .val (.ref b154), .val (.ref b183), .val (.int (p5 &&& (3 : Int32))), .val (.int (0 : Int32))] [(.ref b154), (.ref b183)])) _
            refine st616.trans ?_
            show Steps p.tables e below (T616.setTop (mkF m 372 #[.val (.int p0), .val (.int p1), .val (.int p2), .val (.int p3), .val (.int p4), .val (.int p5), .val (.ref b3), .val (.ref b52), .val (.int (p4 &&& (3 : Int32))), .val (.int (((p4.toUInt32 >>> ((2 : Int32) &&& 31).toUInt32).toInt32) &&& (3 : Int32))), .val (.int ((p4.toUInt32 >>> ((4 : Int32) &&& 31).toUInt32).toInt32)), .val (.int ((p4.toUInt32 >>> ((10 : Int32) &&& 31).toUInt32).toInt32)), .val (.ref r_o_123), .val (.ref r_o_139), .val (.ref b154), .val (.ref b183), .val (.int (p5 &&& (3 : Int32))), .val (.int (0 : Int32))] [(.int (own_eq_f (((p4.toUInt32 >>> ((2 : Int32) &&& 31).toUInt32).toInt32) &&& (3 : Int32)) (p4 &&& (3 : Int32)) p1 p0 p3 p2 (((p4.toUInt32 >>> ((10 : Int32) &&& 31).toUInt32).toInt32) &&& (3 : Int32)) (((((p4.toUInt32 >>> ((10 : Int32) &&& 31).toUInt32).toInt32).toUInt32 >>> ((2 : Int32) &&& 31).toUInt32).toInt32) &&& (3 : Int32)) (((((p4.toUInt32 >>> ((10 : Int32) &&& 31).toUInt32).toInt32).toUInt32 >>> ((4 : Int32) &&& 31).toUInt32).toInt32) &&& (3 : Int32)) p0 p1 p2 p3 (((p4.toUInt32 >>> ((4 : Int32) &&& 31).toUInt32).toInt32) &&& (3 : Int32)) (((((p4.toUInt32 >>> ((4 : Int32) &&& 31).toUInt32).toInt32).toUInt32 >>> ((2 : Int32) &&& 31).toUInt32).toInt32) &&& (3 : Int32)) (((((p4.toUInt32 >>> ((4 : Int32) &&& 31).toUInt32).toInt32).toUInt32 >>> ((4 : Int32) &&& 31).toUInt32).toInt32) &&& (3 : Int32))))])) _
            refine XS.iload X616.here hx rfl (hb hby at_372) rfl ?_
            show Steps p.tables e below (T616.setTop (mkF m 374 #[.val (.int p0), .val (.int p1), .val (.int p2), .val (.int p3), .val (.int p4), .val (.int p5), .val (.ref b3), .val (.ref b52), .val (.int (p4 &&& (3 : Int32))), .val (.int (((p4.toUInt32 >>> ((2 : Int32) &&& 31).toUInt32).toInt32) &&& (3 : Int32))), .val (.int ((p4.toUInt32 >>> ((4 : Int32) &&& 31).toUInt32).toInt32)), .val (.int ((p4.toUInt32 >>> ((10 : Int32) &&& 31).toUInt32).toInt32)), .val (.ref r_o_123), .val (.ref r_o_139), .val (.ref b154), .val (.ref b183), .val (.int (p5 &&& (3 : Int32))), .val (.int (0 : Int32))] [(.int (0 : Int32)), (.int (own_eq_f (((p4.toUInt32 >>> ((2 : Int32) &&& 31).toUInt32).toInt32) &&& (3 : Int32)) (p4 &&& (3 : Int32)) p1 p0 p3 p2 (((p4.toUInt32 >>> ((10 : Int32) &&& 31).toUInt32).toInt32) &&& (3 : Int32)) (((((p4.toUInt32 >>> ((10 : Int32) &&& 31).toUInt32).toInt32).toUInt32 >>> ((2 : Int32) &&& 31).toUInt32).toInt32) &&& (3 : Int32)) (((((p4.toUInt32 >>> ((10 : Int32) &&& 31).toUInt32).toInt32).toUInt32 >>> ((4 : Int32) &&& 31).toUInt32).toInt32) &&& (3 : Int32)) p0 p1 p2 p3 (((p4.toUInt32 >>> ((4 : Int32) &&& 31).toUInt32).toInt32) &&& (3 : Int32)) (((((p4.toUInt32 >>> ((4 : Int32) &&& 31).toUInt32).toInt32).toUInt32 >>> ((2 : Int32) &&& 31).toUInt32).toInt32) &&& (3 : Int32)) (((((p4.toUInt32 >>> ((4 : Int32) &&& 31).toUInt32).toInt32).toUInt32 >>> ((4 : Int32) &&& 31).toUInt32).toInt32) &&& (3 : Int32))))])) _
            refine XS.icmpNo X616.here hx rfl (hb hby at_374) rfl (teq (((own_eqE _ _ _ _ _ _ _ _ _ _ _ _ _ _ _ _).trans ((own_sym _ _ _ _ _ _ _ _).trans (own_E0 hc206_285))) : (own_eq_f (((p4.toUInt32 >>> ((2 : Int32) &&& 31).toUInt32).toInt32) &&& (3 : Int32)) (p4 &&& (3 : Int32)) p1 p0 p3 p2 (((p4.toUInt32 >>> ((10 : Int32) &&& 31).toUInt32).toInt32) &&& (3 : Int32)) (((((p4.toUInt32 >>> ((10 : Int32) &&& 31).toUInt32).toInt32).toUInt32 >>> ((2 : Int32) &&& 31).toUInt32).toInt32) &&& (3 : Int32)) (((((p4.toUInt32 >>> ((10 : Int32) &&& 31).toUInt32).toInt32).toUInt32 >>> ((4 : Int32) &&& 31).toUInt32).toInt32) &&& (3 : Int32)) p0 p1 p2 p3 (((p4.toUInt32 >>> ((4 : Int32) &&& 31).toUInt32).toInt32) &&& (3 : Int32)) (((((p4.toUInt32 >>> ((4 : Int32) &&& 31).toUInt32).toInt32).toUInt32 >>> ((2 : Int32) &&& 31).toUInt32).toInt32) &&& (3 : Int32)) (((((p4.toUInt32 >>> ((4 : Int32) &&& 31).toUInt32).toInt32).toUInt32 >>> ((4 : Int32) &&& 31).toUInt32).toInt32) &&& (3 : Int32))) = (0 : Int32))).2 ?_
            show Steps p.tables e below (T616.setTop (mkF m 377 #[.val (.int p0), .val (.int p1), .val (.int p2), .val (.int p3), .val (.int p4), .val (.int p5), .val (.ref b3), .val (.ref b52), .val (.int (p4 &&& (3 : Int32))), .val (.int (((p4.toUInt32 >>> ((2 : Int32) &&& 31).toUInt32).toInt32) &&& (3 : Int32))), .val (.int ((p4.toUInt32 >>> ((4 : Int32) &&& 31).toUInt32).toInt32)), .val (.int ((p4.toUInt32 >>> ((10 : Int32) &&& 31).toUInt32).toInt32)), .val (.ref r_o_123), .val (.ref r_o_139), .val (.ref b154), .val (.ref b183), .val (.int (p5 &&& (3 : Int32))), .val (.int (0 : Int32))] [])) _
            refine XS.iconst X616.here hx rfl (hb hby at_377) ?_
            show Steps p.tables e below (T616.setTop (mkF m 378 #[.val (.int p0), .val (.int p1), .val (.int p2), .val (.int p3), .val (.int p4), .val (.int p5), .val (.ref b3), .val (.ref b52), .val (.int (p4 &&& (3 : Int32))), .val (.int (((p4.toUInt32 >>> ((2 : Int32) &&& 31).toUInt32).toInt32) &&& (3 : Int32))), .val (.int ((p4.toUInt32 >>> ((4 : Int32) &&& 31).toUInt32).toInt32)), .val (.int ((p4.toUInt32 >>> ((10 : Int32) &&& 31).toUInt32).toInt32)), .val (.ref r_o_123), .val (.ref r_o_139), .val (.ref b154), .val (.ref b183), .val (.int (p5 &&& (3 : Int32))), .val (.int (0 : Int32))] [(.int (1 : Int32))])) _
            refine XS.goto X616.here hx rfl (pc0 := 378) (pc' := 382) rfl (hb hby at_378) (by decide) (by decide) ?_
            show Steps p.tables e below (T616.setTop (mkF m 382 #[.val (.int p0), .val (.int p1), .val (.int p2), .val (.int p3), .val (.int p4), .val (.int p5), .val (.ref b3), .val (.ref b52), .val (.int (p4 &&& (3 : Int32))), .val (.int (((p4.toUInt32 >>> ((2 : Int32) &&& 31).toUInt32).toInt32) &&& (3 : Int32))), .val (.int ((p4.toUInt32 >>> ((4 : Int32) &&& 31).toUInt32).toInt32)), .val (.int ((p4.toUInt32 >>> ((10 : Int32) &&& 31).toUInt32).toInt32)), .val (.ref r_o_123), .val (.ref r_o_139), .val (.ref b154), .val (.ref b183), .val (.int (p5 &&& (3 : Int32))), .val (.int (0 : Int32))] [(.int (1 : Int32))])) _
            exact retN X616 hx (t := .boolean) Bd.returns (by simp) (hb hby at_382) hr
          · show Qown_law Z p0 p1 p2 p3 p4 p5 w_c k_c vs_c h0 n0 _ T616.heap _
            rw [eh616]
            exact ⟨rfl, N617⟩
set_option maxRecDepth 65536 in
set_option maxHeartbeats 40000000 in
theorem comes_1 {Post : Tables → Env → Array Value → State → Outcome → State → Prop} (hpost : ∀ tb e args s v u, (limb_1_1.after args s (.returned v) u = true ∧ limb_1_2.after args s (.returned v) u = true ∧ True) → FrameEnd s (.returned v) u (Jvm.fieldLocs frame_1_writes args s ++ Jvm.arrayLocs frame_1_arrays args s ++ Jvm.staticLocs frame_1_statics s) 24 128 → Post tb e args s (.returned v) u) :
    ArmFor flags0 classFile x code maxLocals ret World_1 tables_1 room_1 Calls_1 rest_1 Pre_1 Post := by
  intro l hfl _ _ p e ha hc hk s m args below hf hA hF happ hP
  obtain ⟨hcalls, hrest, hpre⟩ := hP
  obtain ⟨-, -, -, hnamed, -, -, -, hat⟩ := (Spec.applies_iff hf).mp happ
  obtain ⟨hg, hn⟩ := and_e (Cond.before_iff.mp (show (Jvm.Cond.and given_1 narrow_1).before args s = true from hpre))
  obtain ⟨gg1, gg2⟩ := and_e hg
  obtain ⟨gg3, gg4⟩ := and_e gg2
  obtain ⟨gg5, gg6⟩ := and_e gg4
  obtain ⟨gg7, gg8⟩ := and_e gg6
  obtain ⟨gg9, gg10⟩ := and_e gg8
  obtain ⟨gg11, gg12⟩ := and_e gg10
  obtain ⟨w0, w1, w2, w3, w4, w5, rfl⟩ : ∃ w0 w1 w2 w3 w4 w5 : Value, args = #[w0, w1, w2, w3, w4, w5] := by
    have hs : args.size = 6 := by simpa [Cond.value, given_1] using gg1
    obtain ⟨L⟩ := args
    match L, hs with
    | [w0, w1, w2, w3, w4, w5], _ => exact ⟨w0, w1, w2, w3, w4, w5, rfl⟩
  have hw := fun d (hd : d ∈ tables_1) => atoms_spec (ws := Jvm.Cond.code x code maxLocals ret :: tables_1) hat d (List.mem_cons_of_mem _ hd)
  have hfit : Fit s := fun {y c} hc i hi => by
    obtain ⟨ha, rfl⟩ := Array.getElem?_eq_some_iff.mp hc
    have q := List.all_eq_true.mp ((Array.all_eq_true_iff_forall_mem.mp hF) _ (Array.getElem_mem ha)) i (List.mem_range.mpr hi)
    simpa [Array.getElem?_eq_getElem hi] using q
  obtain ⟨hsets, hown0⟩ := atoms_of _ (rest_1_c_eq ▸ (show rest_1_c.before _ s = true from hrest))
  obtain ⟨i0, ei0⟩ := is_v gg3
  obtain rfl : w0 = (.int i0) := Option.some.inj ei0
  obtain ⟨i1, ei1⟩ := is_v gg5
  obtain rfl : w1 = (.int i1) := Option.some.inj ei1
  obtain ⟨i2, ei2⟩ := is_v gg7
  obtain rfl : w2 = (.int i2) := Option.some.inj ei2
  obtain ⟨i3, ei3⟩ := is_v gg9
  obtain rfl : w3 = (.int i3) := Option.some.inj ei3
  obtain ⟨i4, ei4⟩ := is_v gg11
  obtain rfl : w4 = (.int i4) := Option.some.inj ei4
  obtain ⟨i5, ei5⟩ := is_v gg12
  obtain rfl : w5 = (.int i5) := Option.some.inj ei5
  obtain ⟨w, k, vs, hS, hV, hA⟩ := own_cache_at hfit (hsets _ (List.mem_of_getElem? (i := 4) rfl)) (hsets _ (List.mem_of_getElem? (i := 6) rfl)) (hsets _ (List.mem_of_getElem? (i := 7) rfl)) ⟨hw _ (List.mem_of_getElem? (i := 37) rfl), hsets _ (List.mem_of_getElem? (i := 2) rfl)⟩
  have hH := own_high (hsets _ (List.mem_of_getElem? (i := 3) rfl)) (hsets _ (List.mem_of_getElem? (i := 1) rfl))
  obtain ⟨n, o, h1, h2, h3, _, L, rfl, ⟨rfl, N⟩, hq⟩ := own_law l s _ hw tables_1 i0 i1 i2 i3 i4 i5 w k vs s.heap s.heap.size (Nat.le_refl _) (Old.start s) hH hS hV hA p e ha hc hk s m _ below hf ((Spec.applies_iff_loose hf).mp happ).1 ⟨rfl, State.Warmed39.refl s, rfl⟩ trivial
  refine ⟨n, _, h1, h2, h3, hpost _ _ _ _ _ _ ⟨Cond.after_iff.mpr rfl, Cond.after_iff.mpr (eq_i res_at (Term.int_eval (1)) rfl), trivial⟩ ⟨hq.1, hq.2.1, (hq.2.2.sift fun y hy => Or.inr (N y hy)).mono (by decide) (by decide)⟩⟩
theorem main_1_1 : Claimed_1_1 := comes_1 fun _ _ _ _ _ _ h hF => ⟨h.1, hF⟩
theorem main_1_2 : Claimed_1_2 := comes_1 fun _ _ _ _ _ _ h hF => ⟨h.2.1, hF⟩
end Jvm.Pilot.@@N@@
namespace Jvm.Pilot.@@N@@
open Jvm Jvm.ClassFile Sem Op Lib Jvm.Free Jvm.Stand Jvm.Pilot.@@N@@.Jvm.D
/-! MADE BY PROGRAM (witnessworld.py) out of the Statement's table words and the real class files: 16 classes; the members and pool entries that the words name. The judged class is class 1, her method 1. -/
namespace start1
open Jvm.ClassFile
def u (s : String) : CpInfo := .utf8 (stringToUtf16 s)
/-- a pool by its gaps: so many unusable entries, then the entry; so many at the end -/
def gap : Nat → List CpInfo → List CpInfo
  | 0, r => r
  | n + 1, r => .unusable :: gap n r
def poolList (es : List (Nat × CpInfo)) (last : Nat) : List CpInfo := es.foldr (fun e r => gap e.1 (e.2 :: r)) (gap last [])
def pool (es : List (Nat × CpInfo)) (last : Nat) : Array CpInfo := ⟨poolList es last⟩
def fileOf (pool : Array CpInfo) (this : Nat) (attrs : Array Attribute := #[]) (ms : Array MethodInfo := #[]) (fl : Nat := 33) (sup : Nat := 0) (ifs : Array Nat := #[]) (fds : Array FieldInfo := #[]) : ClassFile where
  minorVersion := 0
  majorVersion := 65
  constantPool := pool
  accessFlags := fl
  thisClass := this
  superClass := sup
  interfaces := ifs
  fields := fds
  methods := ms
  attributes := attrs
def plain (name : String) (sup : Option ClassId) : Class where
  name := name
  kind := .ordinary
  loader := none
  accessFlags := 33
  super := sup
  interfaces := #[]
  cf := none
  fields := #[]
  methods := #[]
  instanceTypes := #[]
  staticTypes := #[]
  resolved := #[]
  callSites := []
  init := .initialized
  statics := none
  mirror := none

def pool0 : Array CpInfo := pool [(5, u "<init>"), (0, u "()V"), (1, .class_ 10), (1, u "java/lang/Object")] 113

def k0c0 : Code := { maxStack := 0, maxLocals := 1, code := object_method_1_code, exceptionTable := #[], attributes := #[] }
def k0m0 : Method := { name := "<init>", desc := "()V", sig := { parameters := [], returnType := none }, accessFlags := 1, code := some k0c0 }
/-- java/lang/Object -/
def k0 : Class := { plain "java/lang/Object" none with
  accessFlags := 33
  interfaces := #[]
  cf := some (fileOf pool0 8 #[] #[{ accessFlags := 1, nameIndex := 5, descriptorIndex := 6, attributes := #[] }] 33 0 #[] #[])
  fields := #[]
  methods := #[k0m0]
  instanceTypes := #[]
  staticTypes := #[]
  resolved := Array.replicate 124 none
  statics := none }

def pool1 : Array CpInfo := pool [(2, .class_ 4), (0, .nameAndType 5 6), (0, u "java/lang/Object"), (0, u "<init>"), (0, u "()V"), (0, .methodref 8 9), (0, .class_ 10), (0, .nameAndType 11 12), (0, u "com/example/fovea/fovea/KeyEqualsPinLaw"), (0, u "slots"), (0, u "(II)[I"), (0, .class_ 14), (0, u "com/example/fovea/fovea/Memory$Key"), (0, .methodref 13 3), (0, .methodref 13 17), (0, .nameAndType 18 19), (0, u "of"), (0, u "([I[I)Lcom/example/fovea/fovea/Memory$Key;"), (0, .methodref 21 22), (0, .class_ 23), (0, .nameAndType 24 25), (0, u "java/lang/Integer"), (0, u "valueOf"), (0, u "(I)Ljava/lang/Integer;"), (0, .methodref 13 27), (0, .nameAndType 28 29), (0, u "equals"), (0, u "(Ljava/lang/Object;)Z"), (0, .methodref 8 31), (0, .nameAndType 32 33), (0, u "v1"), (0, u "(IIIII)I"), (0, .methodref 8 35), (0, .nameAndType 36 33), (0, u "v2"), (2, u "law"), (0, u "(IIIIII)Z")] 9

def k1m0 : Method := { name := "<init>", desc := "()V", sig := { parameters := [], returnType := none }, accessFlags := 1, code := none }
def k1c1 : Code := { maxStack := 7, maxLocals := 18, code := code, exceptionTable := #[], attributes := #[] }
def k1m1 : Method := { name := "law", desc := "(IIIIII)Z", sig := { parameters := [.int, .int, .int, .int, .int, .int], returnType := some .boolean }, accessFlags := 9, code := some k1c1 }
def k1c2 : Code := { maxStack := 4, maxLocals := 3, code := method_3_code, exceptionTable := #[], attributes := #[] }
def k1m2 : Method := { name := "slots", desc := "(II)[I", sig := { parameters := [.int, .int], returnType := some (.array .int) }, accessFlags := 10, code := some k1c2 }
def k1c3 : Code := { maxStack := 2, maxLocals := 5, code := method_4_code, exceptionTable := #[], attributes := #[] }
def k1m3 : Method := { name := "v1", desc := "(IIIII)I", sig := { parameters := [.int, .int, .int, .int, .int], returnType := some .int }, accessFlags := 10, code := some k1c3 }
def k1c4 : Code := { maxStack := 2, maxLocals := 5, code := method_5_code, exceptionTable := #[], attributes := #[] }
def k1m4 : Method := { name := "v2", desc := "(IIIII)I", sig := { parameters := [.int, .int, .int, .int, .int], returnType := some .int }, accessFlags := 10, code := some k1c4 }
/-- com/example/fovea/fovea/KeyEqualsPinLaw -/
def k1 : Class := { plain "com/example/fovea/fovea/KeyEqualsPinLaw" (some 0) with
  accessFlags := 49
  interfaces := #[]
  cf := some (fileOf pool1 8 #[] #[{ accessFlags := 1, nameIndex := 5, descriptorIndex := 6, attributes := #[] }, { accessFlags := 9, nameIndex := 39, descriptorIndex := 40, attributes := #[] }, { accessFlags := 10, nameIndex := 11, descriptorIndex := 12, attributes := #[] }, { accessFlags := 10, nameIndex := 32, descriptorIndex := 33, attributes := #[] }, { accessFlags := 10, nameIndex := 36, descriptorIndex := 33, attributes := #[] }] 49 2 #[] #[])
  fields := #[]
  methods := #[k1m0, k1m1, k1m2, k1m3, k1m4]
  instanceTypes := #[]
  staticTypes := #[]
  resolved := Array.replicate 50 none
  statics := none }

def pool2 : Array CpInfo := pool [(1, .methodref 2 3), (0, .class_ 4), (0, .nameAndType 5 6), (0, u "java/lang/Object"), (0, u "<init>"), (0, u "()V"), (0, .fieldref 8 9), (0, .class_ 10), (0, .nameAndType 11 12), (0, u "com/example/fovea/fovea/Memory$Key"), (0, u "entry"), (0, u "[I"), (0, .fieldref 8 14), (0, .nameAndType 15 12), (0, u "slots"), (0, .fieldref 8 17), (0, .nameAndType 18 19), (0, u "hash"), (0, u "I"), (2, u "members"), (0, u "[Lcom/example/fovea/fovea/Memory$Held;"), (4, u "size"), (17, u "of"), (0, u "([I[I)Lcom/example/fovea/fovea/Memory$Key;"), (9, u "equals"), (0, u "(Ljava/lang/Object;)Z"), (5, .class_ 65), (0, u "com/example/fovea/fovea/Memory")] 3

def k2c0 : Code := { maxStack := 1, maxLocals := 1, code := prog_37_method_1_code, exceptionTable := #[], attributes := #[] }
def k2m0 : Method := { name := "<init>", desc := "()V", sig := { parameters := [], returnType := none }, accessFlags := 0, code := some k2c0 }
def k2c1 : Code := { maxStack := 3, maxLocals := 8, code := prog_37_method_2_code, exceptionTable := #[], attributes := #[] }
def k2m1 : Method := { name := "of", desc := "([I[I)Lcom/example/fovea/fovea/Memory$Key;", sig := { parameters := [(.array .int), (.array .int)], returnType := some (.object "com/example/fovea/fovea/Memory$Key") }, accessFlags := 0, code := some k2c1 }
def k2c2 : Code := { maxStack := 4, maxLocals := 5, code := prog_37_method_6_code, exceptionTable := #[], attributes := #[] }
def k2m2 : Method := { name := "equals", desc := "(Ljava/lang/Object;)Z", sig := { parameters := [(.object "java/lang/Object")], returnType := some .boolean }, accessFlags := 1, code := some k2c2 }
/-- com/example/fovea/fovea/Memory$Key -/
def k2 : Class := { plain "com/example/fovea/fovea/Memory$Key" (some 0) with
  accessFlags := 48
  interfaces := #[]
  cf := some (fileOf pool2 8 #[.nestHost 64] #[{ accessFlags := 0, nameIndex := 5, descriptorIndex := 6, attributes := #[] }, { accessFlags := 0, nameIndex := 46, descriptorIndex := 47, attributes := #[] }, { accessFlags := 1, nameIndex := 57, descriptorIndex := 58, attributes := #[] }] 48 2 #[] #[{ accessFlags := 2, nameIndex := 11, descriptorIndex := 12, attributes := #[] }, { accessFlags := 2, nameIndex := 15, descriptorIndex := 12, attributes := #[] }, { accessFlags := 2, nameIndex := 18, descriptorIndex := 19, attributes := #[] }, { accessFlags := 2, nameIndex := 22, descriptorIndex := 23, attributes := #[] }, { accessFlags := 2, nameIndex := 28, descriptorIndex := 19, attributes := #[] }])
  fields := #[{ name := "entry", type := (.array .int), accessFlags := 2, slot := 0, constantValue := 0 }, { name := "slots", type := (.array .int), accessFlags := 2, slot := 1, constantValue := 0 }, { name := "hash", type := .int, accessFlags := 2, slot := 2, constantValue := 0 }, { name := "members", type := (.array (.object "com/example/fovea/fovea/Memory$Held")), accessFlags := 2, slot := 3, constantValue := 0 }, { name := "size", type := .int, accessFlags := 2, slot := 4, constantValue := 0 }]
  methods := #[k2m0, k2m1, k2m2]
  instanceTypes := #[(.array .int), (.array .int), .int, (.array (.object "com/example/fovea/fovea/Memory$Held")), .int]
  staticTypes := #[]
  resolved := Array.replicate 69 none
  statics := none }

def pool3 : Array CpInfo := pool [(1, .class_ 2), (0, u "java/io/Serializable"), (0, .class_ 4), (0, u "java/lang/Object")] 2

/-- java/io/Serializable -/
def k3 : Class := { plain "java/io/Serializable" (some 0) with
  accessFlags := 1537
  interfaces := #[]
  cf := some (fileOf pool3 1 #[] #[] 1537 3 #[] #[])
  fields := #[]
  methods := #[]
  instanceTypes := #[]
  staticTypes := #[]
  resolved := Array.replicate 7 none
  statics := none }

def pool4 : Array CpInfo := pool [(1, .methodref 2 3), (0, .class_ 4), (0, .nameAndType 5 6), (0, u "java/lang/Object"), (0, u "<init>"), (0, u "()V"), (1, .class_ 10), (1, u "java/lang/Number"), (2, .class_ 14), (0, u "java/io/Serializable"), (0, u "serialVersionUID"), (0, u "J")] 20

def k4c0 : Code := { maxStack := 1, maxLocals := 1, code := jdk_18_method_1_code, exceptionTable := #[], attributes := #[] }
def k4m0 : Method := { name := "<init>", desc := "()V", sig := { parameters := [], returnType := none }, accessFlags := 1, code := some k4c0 }
/-- java/lang/Number -/
def k4 : Class := { plain "java/lang/Number" (some 0) with
  accessFlags := 1057
  interfaces := #[3]
  cf := some (fileOf pool4 8 #[] #[{ accessFlags := 1, nameIndex := 5, descriptorIndex := 6, attributes := #[] }] 1057 2 #[13] #[{ accessFlags := 26, nameIndex := 15, descriptorIndex := 16, attributes := #[] }])
  fields := #[{ name := "serialVersionUID", type := .long, accessFlags := 26, slot := 0, constantValue := 0 }]
  methods := #[k4m0]
  instanceTypes := #[]
  staticTypes := #[.long]
  resolved := Array.replicate 37 none
  statics := none }

def pool5 : Array CpInfo := pool [(1, .class_ 2), (0, u "java/lang/Comparable"), (0, .class_ 4), (0, u "java/lang/Object")] 7

/-- java/lang/Comparable -/
def k5 : Class := { plain "java/lang/Comparable" (some 0) with
  accessFlags := 1537
  interfaces := #[]
  cf := some (fileOf pool5 1 #[] #[] 1537 3 #[] #[])
  fields := #[]
  methods := #[]
  instanceTypes := #[]
  staticTypes := #[]
  resolved := Array.replicate 12 none
  statics := none }

def pool6 : Array CpInfo := pool [(1, .class_ 2), (0, u "java/lang/constant/Constable"), (0, .class_ 4), (0, u "java/lang/Object")] 6

/-- java/lang/constant/Constable -/
def k6 : Class := { plain "java/lang/constant/Constable" (some 0) with
  accessFlags := 1537
  interfaces := #[]
  cf := some (fileOf pool6 1 #[] #[] 1537 3 #[] #[])
  fields := #[]
  methods := #[]
  instanceTypes := #[]
  staticTypes := #[]
  resolved := Array.replicate 11 none
  statics := none }

def pool7 : Array CpInfo := pool [(1, .class_ 2), (0, u "java/lang/constant/ConstantDesc"), (0, .class_ 4), (0, u "java/lang/Object")] 32

/-- java/lang/constant/ConstantDesc -/
def k7 : Class := { plain "java/lang/constant/ConstantDesc" (some 0) with
  accessFlags := 1537
  interfaces := #[]
  cf := some (fileOf pool7 1 #[] #[] 1537 3 #[] #[])
  fields := #[]
  methods := #[]
  instanceTypes := #[]
  staticTypes := #[]
  resolved := Array.replicate 37 none
  statics := none }

def pool8 : Array CpInfo := pool [(1, .class_ 2), (0, u "java/lang/Integer"), (16, u "digits"), (0, u "[C"), (46, u "<init>"), (17, u "DigitOnes"), (0, u "[B"), (2, u "DigitTens"), (10, .nameAndType 67 101), (0, u "()V"), (85, u "valueOf"), (0, u "(I)Ljava/lang/Integer;"), (0, .class_ 190), (0, u "java/lang/Integer$IntegerCache"), (0, .fieldref 189 192), (0, .nameAndType 193 194), (0, u "high"), (0, u "I"), (0, .fieldref 189 196), (0, .nameAndType 197 198), (0, u "cache"), (0, u "[Ljava/lang/Integer;"), (0, .methodref 1 200), (0, .nameAndType 67 201), (0, u "(I)V"), (0, .methodref 203 100), (0, .class_ 204), (0, u "java/lang/Number"), (0, .fieldref 1 206), (0, .nameAndType 207 194), (0, u "value"), (94, u "TYPE"), (0, u "Ljava/lang/Class;"), (0, .class_ 305), (0, u "java/lang/Comparable"), (0, .class_ 307), (0, u "java/lang/constant/Constable"), (0, .class_ 309), (0, u "java/lang/constant/ConstantDesc"), (0, u "MIN_VALUE"), (1, u "MAX_VALUE"), (3, u "SIZE"), (1, u "BYTES"), (1, u "serialVersionUID"), (0, u "J")] 131

def k8c0 : Code := { maxStack := 3, maxLocals := 1, code := jdk_33_method_22_code, exceptionTable := #[], attributes := #[] }
def k8m0 : Method := { name := "valueOf", desc := "(I)Ljava/lang/Integer;", sig := { parameters := [.int], returnType := some (.object "java/lang/Integer") }, accessFlags := 9, code := some k8c0 }
def k8c1 : Code := { maxStack := 2, maxLocals := 2, code := jdk_33_method_23_code, exceptionTable := #[], attributes := #[] }
def k8m1 : Method := { name := "<init>", desc := "(I)V", sig := { parameters := [.int], returnType := none }, accessFlags := 1, code := some k8c1 }
/-- java/lang/Integer -/
def k8 : Class := { plain "java/lang/Integer" (some 4) with
  accessFlags := 49
  interfaces := #[5, 6, 7]
  cf := some (fileOf pool8 1 #[.nestMembers #[189]] #[{ accessFlags := 9, nameIndex := 187, descriptorIndex := 188, attributes := #[] }, { accessFlags := 1, nameIndex := 67, descriptorIndex := 201, attributes := #[] }] 49 203 #[304, 306, 308] #[{ accessFlags := 25, nameIndex := 310, descriptorIndex := 194, attributes := #[] }, { accessFlags := 25, nameIndex := 312, descriptorIndex := 194, attributes := #[] }, { accessFlags := 25, nameIndex := 302, descriptorIndex := 303, attributes := #[] }, { accessFlags := 24, nameIndex := 19, descriptorIndex := 20, attributes := #[] }, { accessFlags := 24, nameIndex := 89, descriptorIndex := 86, attributes := #[] }, { accessFlags := 24, nameIndex := 85, descriptorIndex := 86, attributes := #[] }, { accessFlags := 18, nameIndex := 207, descriptorIndex := 194, attributes := #[] }, { accessFlags := 25, nameIndex := 316, descriptorIndex := 194, attributes := #[] }, { accessFlags := 25, nameIndex := 318, descriptorIndex := 194, attributes := #[] }, { accessFlags := 26, nameIndex := 320, descriptorIndex := 321, attributes := #[] }])
  fields := #[{ name := "MIN_VALUE", type := .int, accessFlags := 25, slot := 0, constantValue := 0 }, { name := "MAX_VALUE", type := .int, accessFlags := 25, slot := 1, constantValue := 0 }, { name := "TYPE", type := (.object "java/lang/Class"), accessFlags := 25, slot := 2, constantValue := 0 }, { name := "digits", type := (.array .char), accessFlags := 24, slot := 3, constantValue := 0 }, { name := "DigitTens", type := (.array .byte), accessFlags := 24, slot := 4, constantValue := 0 }, { name := "DigitOnes", type := (.array .byte), accessFlags := 24, slot := 5, constantValue := 0 }, { name := "value", type := .int, accessFlags := 18, slot := 0, constantValue := 0 }, { name := "SIZE", type := .int, accessFlags := 25, slot := 6, constantValue := 0 }, { name := "BYTES", type := .int, accessFlags := 25, slot := 7, constantValue := 0 }, { name := "serialVersionUID", type := .long, accessFlags := 26, slot := 8, constantValue := 0 }]
  methods := #[k8m0, k8m1]
  instanceTypes := #[.int]
  staticTypes := #[.int, .int, (.object "java/lang/Class"), (.array .char), (.array .byte), (.array .byte), .int, .int, .long]
  resolved := Array.replicate 453 none
  statics := none }

def pool9 : Array CpInfo := pool [(2, .class_ 4), (1, u "java/lang/Object"), (0, u "<init>"), (0, u "()V"), (0, .class_ 8), (0, u "java/lang/Integer"), (7, .class_ 18), (1, u "java/lang/Integer$IntegerCache"), (0, u "$assertionsDisabled"), (0, u "Z"), (26, u "high"), (0, u "I"), (8, u "archivedCache"), (0, u "[Ljava/lang/Integer;"), (12, u "cache"), (0, u "low")] 27

def k9m0 : Method := { name := "<init>", desc := "()V", sig := { parameters := [], returnType := none }, accessFlags := 2, code := none }
/-- java/lang/Integer$IntegerCache -/
def k9 : Class := { plain "java/lang/Integer$IntegerCache" (some 0) with
  accessFlags := 48
  interfaces := #[]
  cf := some (fileOf pool9 16 #[.nestHost 7] #[{ accessFlags := 2, nameIndex := 5, descriptorIndex := 6, attributes := #[] }] 48 2 #[] #[{ accessFlags := 24, nameIndex := 72, descriptorIndex := 48, attributes := #[] }, { accessFlags := 24, nameIndex := 47, descriptorIndex := 48, attributes := #[] }, { accessFlags := 24, nameIndex := 71, descriptorIndex := 58, attributes := #[] }, { accessFlags := 8, nameIndex := 57, descriptorIndex := 58, attributes := #[] }, { accessFlags := 4120, nameIndex := 19, descriptorIndex := 20, attributes := #[] }])
  fields := #[{ name := "low", type := .int, accessFlags := 24, slot := 0, constantValue := 0 }, { name := "high", type := .int, accessFlags := 24, slot := 1, constantValue := 0 }, { name := "cache", type := (.array (.object "java/lang/Integer")), accessFlags := 24, slot := 2, constantValue := 0 }, { name := "archivedCache", type := (.array (.object "java/lang/Integer")), accessFlags := 8, slot := 3, constantValue := 0 }, { name := "$assertionsDisabled", type := .boolean, accessFlags := 4120, slot := 4, constantValue := 0 }]
  methods := #[k9m0]
  instanceTypes := #[]
  staticTypes := #[.int, .int, (.array (.object "java/lang/Integer")), (.array (.object "java/lang/Integer")), .boolean]
  resolved := Array.replicate 100 none
  statics := some 0 }

def pool10 : Array CpInfo := pool [(1, u "java/lang/Cloneable"), (0, .class_ 1), (0, u "java/lang/Object"), (0, .class_ 3)] 3

/-- java/lang/Cloneable -/
def k10 : Class := { plain "java/lang/Cloneable" (some 0) with
  accessFlags := 1537
  interfaces := #[]
  cf := some (fileOf pool10 2 #[] #[] 1537 4 #[] #[])
  fields := #[]
  methods := #[]
  instanceTypes := #[]
  staticTypes := #[]
  resolved := Array.replicate 8 none
  statics := none }

/-- the primitive byte -/
def k11 : Class := { plain "byte" none with kind := .primitive 'B', accessFlags := 0x411 }
/-- [B -/
def k12 : Class := { plain "[B" (some 0) with kind := .array 11 .byte, interfaces := #[10, 3], accessFlags := 1041 }

/-- the primitive int -/
def k13 : Class := { plain "int" none with kind := .primitive 'I', accessFlags := 0x411 }
/-- [I -/
def k14 : Class := { plain "[I" (some 0) with kind := .array 13 .int, interfaces := #[10, 3], accessFlags := 1041 }

/-- [Ljava/lang/Integer; -/
def k15 : Class := { plain "[Ljava/lang/Integer;" (some 0) with kind := .array 8 (.object "java/lang/Integer"), interfaces := #[10, 3], accessFlags := 1041 }

def heap : Heap := #[{ cls := 9, slots := #[.int 0, .int 127, .ref 1, .null, .int 0], vm := .statics 9 },
  { cls := 15, slots := #[.ref 2, .ref 3, .ref 4, .ref 5, .ref 6, .ref 7, .ref 8, .ref 9, .ref 10, .ref 11, .ref 12, .ref 13, .ref 14, .ref 15, .ref 16, .ref 17, .ref 18, .ref 19, .ref 20, .ref 21, .ref 22, .ref 23, .ref 24, .ref 25, .ref 26, .ref 27, .ref 28, .ref 29, .ref 30, .ref 31, .ref 32, .ref 33, .ref 34, .ref 35, .ref 36, .ref 37, .ref 38, .ref 39, .ref 40, .ref 41, .ref 42, .ref 43, .ref 44, .ref 45, .ref 46, .ref 47, .ref 48, .ref 49, .ref 50, .ref 51, .ref 52, .ref 53, .ref 54, .ref 55, .ref 56, .ref 57, .ref 58, .ref 59, .ref 60, .ref 61, .ref 62, .ref 63, .ref 64, .ref 65, .ref 66, .ref 67, .ref 68, .ref 69, .ref 70, .ref 71, .ref 72, .ref 73, .ref 74, .ref 75, .ref 76, .ref 77, .ref 78, .ref 79, .ref 80, .ref 81, .ref 82, .ref 83, .ref 84, .ref 85, .ref 86, .ref 87, .ref 88, .ref 89, .ref 90, .ref 91, .ref 92, .ref 93, .ref 94, .ref 95, .ref 96, .ref 97, .ref 98, .ref 99, .ref 100, .ref 101, .ref 102, .ref 103, .ref 104, .ref 105, .ref 106, .ref 107, .ref 108, .ref 109, .ref 110, .ref 111, .ref 112, .ref 113, .ref 114, .ref 115, .ref 116, .ref 117, .ref 118, .ref 119, .ref 120, .ref 121, .ref 122, .ref 123, .ref 124, .ref 125, .ref 126, .ref 127, .ref 128, .ref 129, .ref 130, .ref 131, .ref 132, .ref 133, .ref 134, .ref 135, .ref 136, .ref 137, .ref 138, .ref 139, .ref 140, .ref 141, .ref 142, .ref 143, .ref 144, .ref 145, .ref 146, .ref 147, .ref 148, .ref 149, .ref 150, .ref 151, .ref 152, .ref 153, .ref 154, .ref 155, .ref 156, .ref 157, .ref 158, .ref 159, .ref 160, .ref 161, .ref 162, .ref 163, .ref 164, .ref 165, .ref 166, .ref 167, .ref 168, .ref 169, .ref 170, .ref 171, .ref 172, .ref 173, .ref 174, .ref 175, .ref 176, .ref 177, .ref 178, .ref 179, .ref 180, .ref 181, .ref 182, .ref 183, .ref 184, .ref 185, .ref 186, .ref 187, .ref 188, .ref 189, .ref 190, .ref 191, .ref 192, .ref 193, .ref 194, .ref 195, .ref 196, .ref 197, .ref 198, .ref 199, .ref 200, .ref 201, .ref 202, .ref 203, .ref 204, .ref 205, .ref 206, .ref 207, .ref 208, .ref 209, .ref 210, .ref 211, .ref 212, .ref 213, .ref 214, .ref 215, .ref 216, .ref 217, .ref 218, .ref 219, .ref 220, .ref 221, .ref 222, .ref 223, .ref 224, .ref 225, .ref 226, .ref 227, .ref 228, .ref 229, .ref 230, .ref 231, .ref 232, .ref 233, .ref 234, .ref 235, .ref 236, .ref 237, .ref 238, .ref 239, .ref 240, .ref 241, .ref 242, .ref 243, .ref 244, .ref 245, .ref 246, .ref 247, .ref 248, .ref 249, .ref 250, .ref 251, .ref 252, .ref 253, .ref 254, .ref 255, .ref 256, .ref 257], vm := .none },
  { cls := 8, slots := #[.int (-128)], vm := .none },
  { cls := 8, slots := #[.int (-127)], vm := .none },
  { cls := 8, slots := #[.int (-126)], vm := .none },
  { cls := 8, slots := #[.int (-125)], vm := .none },
  { cls := 8, slots := #[.int (-124)], vm := .none },
  { cls := 8, slots := #[.int (-123)], vm := .none },
  { cls := 8, slots := #[.int (-122)], vm := .none },
  { cls := 8, slots := #[.int (-121)], vm := .none },
  { cls := 8, slots := #[.int (-120)], vm := .none },
  { cls := 8, slots := #[.int (-119)], vm := .none },
  { cls := 8, slots := #[.int (-118)], vm := .none },
  { cls := 8, slots := #[.int (-117)], vm := .none },
  { cls := 8, slots := #[.int (-116)], vm := .none },
  { cls := 8, slots := #[.int (-115)], vm := .none },
  { cls := 8, slots := #[.int (-114)], vm := .none },
  { cls := 8, slots := #[.int (-113)], vm := .none },
  { cls := 8, slots := #[.int (-112)], vm := .none },
  { cls := 8, slots := #[.int (-111)], vm := .none },
  { cls := 8, slots := #[.int (-110)], vm := .none },
  { cls := 8, slots := #[.int (-109)], vm := .none },
  { cls := 8, slots := #[.int (-108)], vm := .none },
  { cls := 8, slots := #[.int (-107)], vm := .none },
  { cls := 8, slots := #[.int (-106)], vm := .none },
  { cls := 8, slots := #[.int (-105)], vm := .none },
  { cls := 8, slots := #[.int (-104)], vm := .none },
  { cls := 8, slots := #[.int (-103)], vm := .none },
  { cls := 8, slots := #[.int (-102)], vm := .none },
  { cls := 8, slots := #[.int (-101)], vm := .none },
  { cls := 8, slots := #[.int (-100)], vm := .none },
  { cls := 8, slots := #[.int (-99)], vm := .none },
  { cls := 8, slots := #[.int (-98)], vm := .none },
  { cls := 8, slots := #[.int (-97)], vm := .none },
  { cls := 8, slots := #[.int (-96)], vm := .none },
  { cls := 8, slots := #[.int (-95)], vm := .none },
  { cls := 8, slots := #[.int (-94)], vm := .none },
  { cls := 8, slots := #[.int (-93)], vm := .none },
  { cls := 8, slots := #[.int (-92)], vm := .none },
  { cls := 8, slots := #[.int (-91)], vm := .none },
  { cls := 8, slots := #[.int (-90)], vm := .none },
  { cls := 8, slots := #[.int (-89)], vm := .none },
  { cls := 8, slots := #[.int (-88)], vm := .none },
  { cls := 8, slots := #[.int (-87)], vm := .none },
  { cls := 8, slots := #[.int (-86)], vm := .none },
  { cls := 8, slots := #[.int (-85)], vm := .none },
  { cls := 8, slots := #[.int (-84)], vm := .none },
  { cls := 8, slots := #[.int (-83)], vm := .none },
  { cls := 8, slots := #[.int (-82)], vm := .none },
  { cls := 8, slots := #[.int (-81)], vm := .none },
  { cls := 8, slots := #[.int (-80)], vm := .none },
  { cls := 8, slots := #[.int (-79)], vm := .none },
  { cls := 8, slots := #[.int (-78)], vm := .none },
  { cls := 8, slots := #[.int (-77)], vm := .none },
  { cls := 8, slots := #[.int (-76)], vm := .none },
  { cls := 8, slots := #[.int (-75)], vm := .none },
  { cls := 8, slots := #[.int (-74)], vm := .none },
  { cls := 8, slots := #[.int (-73)], vm := .none },
  { cls := 8, slots := #[.int (-72)], vm := .none },
  { cls := 8, slots := #[.int (-71)], vm := .none },
  { cls := 8, slots := #[.int (-70)], vm := .none },
  { cls := 8, slots := #[.int (-69)], vm := .none },
  { cls := 8, slots := #[.int (-68)], vm := .none },
  { cls := 8, slots := #[.int (-67)], vm := .none },
  { cls := 8, slots := #[.int (-66)], vm := .none },
  { cls := 8, slots := #[.int (-65)], vm := .none },
  { cls := 8, slots := #[.int (-64)], vm := .none },
  { cls := 8, slots := #[.int (-63)], vm := .none },
  { cls := 8, slots := #[.int (-62)], vm := .none },
  { cls := 8, slots := #[.int (-61)], vm := .none },
  { cls := 8, slots := #[.int (-60)], vm := .none },
  { cls := 8, slots := #[.int (-59)], vm := .none },
  { cls := 8, slots := #[.int (-58)], vm := .none },
  { cls := 8, slots := #[.int (-57)], vm := .none },
  { cls := 8, slots := #[.int (-56)], vm := .none },
  { cls := 8, slots := #[.int (-55)], vm := .none },
  { cls := 8, slots := #[.int (-54)], vm := .none },
  { cls := 8, slots := #[.int (-53)], vm := .none },
  { cls := 8, slots := #[.int (-52)], vm := .none },
  { cls := 8, slots := #[.int (-51)], vm := .none },
  { cls := 8, slots := #[.int (-50)], vm := .none },
  { cls := 8, slots := #[.int (-49)], vm := .none },
  { cls := 8, slots := #[.int (-48)], vm := .none },
  { cls := 8, slots := #[.int (-47)], vm := .none },
  { cls := 8, slots := #[.int (-46)], vm := .none },
  { cls := 8, slots := #[.int (-45)], vm := .none },
  { cls := 8, slots := #[.int (-44)], vm := .none },
  { cls := 8, slots := #[.int (-43)], vm := .none },
  { cls := 8, slots := #[.int (-42)], vm := .none },
  { cls := 8, slots := #[.int (-41)], vm := .none },
  { cls := 8, slots := #[.int (-40)], vm := .none },
  { cls := 8, slots := #[.int (-39)], vm := .none },
  { cls := 8, slots := #[.int (-38)], vm := .none },
  { cls := 8, slots := #[.int (-37)], vm := .none },
  { cls := 8, slots := #[.int (-36)], vm := .none },
  { cls := 8, slots := #[.int (-35)], vm := .none },
  { cls := 8, slots := #[.int (-34)], vm := .none },
  { cls := 8, slots := #[.int (-33)], vm := .none },
  { cls := 8, slots := #[.int (-32)], vm := .none },
  { cls := 8, slots := #[.int (-31)], vm := .none },
  { cls := 8, slots := #[.int (-30)], vm := .none },
  { cls := 8, slots := #[.int (-29)], vm := .none },
  { cls := 8, slots := #[.int (-28)], vm := .none },
  { cls := 8, slots := #[.int (-27)], vm := .none },
  { cls := 8, slots := #[.int (-26)], vm := .none },
  { cls := 8, slots := #[.int (-25)], vm := .none },
  { cls := 8, slots := #[.int (-24)], vm := .none },
  { cls := 8, slots := #[.int (-23)], vm := .none },
  { cls := 8, slots := #[.int (-22)], vm := .none },
  { cls := 8, slots := #[.int (-21)], vm := .none },
  { cls := 8, slots := #[.int (-20)], vm := .none },
  { cls := 8, slots := #[.int (-19)], vm := .none },
  { cls := 8, slots := #[.int (-18)], vm := .none },
  { cls := 8, slots := #[.int (-17)], vm := .none },
  { cls := 8, slots := #[.int (-16)], vm := .none },
  { cls := 8, slots := #[.int (-15)], vm := .none },
  { cls := 8, slots := #[.int (-14)], vm := .none },
  { cls := 8, slots := #[.int (-13)], vm := .none },
  { cls := 8, slots := #[.int (-12)], vm := .none },
  { cls := 8, slots := #[.int (-11)], vm := .none },
  { cls := 8, slots := #[.int (-10)], vm := .none },
  { cls := 8, slots := #[.int (-9)], vm := .none },
  { cls := 8, slots := #[.int (-8)], vm := .none },
  { cls := 8, slots := #[.int (-7)], vm := .none },
  { cls := 8, slots := #[.int (-6)], vm := .none },
  { cls := 8, slots := #[.int (-5)], vm := .none },
  { cls := 8, slots := #[.int (-4)], vm := .none },
  { cls := 8, slots := #[.int (-3)], vm := .none },
  { cls := 8, slots := #[.int (-2)], vm := .none },
  { cls := 8, slots := #[.int (-1)], vm := .none },
  { cls := 8, slots := #[.int (0)], vm := .none },
  { cls := 8, slots := #[.int (1)], vm := .none },
  { cls := 8, slots := #[.int (2)], vm := .none },
  { cls := 8, slots := #[.int (3)], vm := .none },
  { cls := 8, slots := #[.int (4)], vm := .none },
  { cls := 8, slots := #[.int (5)], vm := .none },
  { cls := 8, slots := #[.int (6)], vm := .none },
  { cls := 8, slots := #[.int (7)], vm := .none },
  { cls := 8, slots := #[.int (8)], vm := .none },
  { cls := 8, slots := #[.int (9)], vm := .none },
  { cls := 8, slots := #[.int (10)], vm := .none },
  { cls := 8, slots := #[.int (11)], vm := .none },
  { cls := 8, slots := #[.int (12)], vm := .none },
  { cls := 8, slots := #[.int (13)], vm := .none },
  { cls := 8, slots := #[.int (14)], vm := .none },
  { cls := 8, slots := #[.int (15)], vm := .none },
  { cls := 8, slots := #[.int (16)], vm := .none },
  { cls := 8, slots := #[.int (17)], vm := .none },
  { cls := 8, slots := #[.int (18)], vm := .none },
  { cls := 8, slots := #[.int (19)], vm := .none },
  { cls := 8, slots := #[.int (20)], vm := .none },
  { cls := 8, slots := #[.int (21)], vm := .none },
  { cls := 8, slots := #[.int (22)], vm := .none },
  { cls := 8, slots := #[.int (23)], vm := .none },
  { cls := 8, slots := #[.int (24)], vm := .none },
  { cls := 8, slots := #[.int (25)], vm := .none },
  { cls := 8, slots := #[.int (26)], vm := .none },
  { cls := 8, slots := #[.int (27)], vm := .none },
  { cls := 8, slots := #[.int (28)], vm := .none },
  { cls := 8, slots := #[.int (29)], vm := .none },
  { cls := 8, slots := #[.int (30)], vm := .none },
  { cls := 8, slots := #[.int (31)], vm := .none },
  { cls := 8, slots := #[.int (32)], vm := .none },
  { cls := 8, slots := #[.int (33)], vm := .none },
  { cls := 8, slots := #[.int (34)], vm := .none },
  { cls := 8, slots := #[.int (35)], vm := .none },
  { cls := 8, slots := #[.int (36)], vm := .none },
  { cls := 8, slots := #[.int (37)], vm := .none },
  { cls := 8, slots := #[.int (38)], vm := .none },
  { cls := 8, slots := #[.int (39)], vm := .none },
  { cls := 8, slots := #[.int (40)], vm := .none },
  { cls := 8, slots := #[.int (41)], vm := .none },
  { cls := 8, slots := #[.int (42)], vm := .none },
  { cls := 8, slots := #[.int (43)], vm := .none },
  { cls := 8, slots := #[.int (44)], vm := .none },
  { cls := 8, slots := #[.int (45)], vm := .none },
  { cls := 8, slots := #[.int (46)], vm := .none },
  { cls := 8, slots := #[.int (47)], vm := .none },
  { cls := 8, slots := #[.int (48)], vm := .none },
  { cls := 8, slots := #[.int (49)], vm := .none },
  { cls := 8, slots := #[.int (50)], vm := .none },
  { cls := 8, slots := #[.int (51)], vm := .none },
  { cls := 8, slots := #[.int (52)], vm := .none },
  { cls := 8, slots := #[.int (53)], vm := .none },
  { cls := 8, slots := #[.int (54)], vm := .none },
  { cls := 8, slots := #[.int (55)], vm := .none },
  { cls := 8, slots := #[.int (56)], vm := .none },
  { cls := 8, slots := #[.int (57)], vm := .none },
  { cls := 8, slots := #[.int (58)], vm := .none },
  { cls := 8, slots := #[.int (59)], vm := .none },
  { cls := 8, slots := #[.int (60)], vm := .none },
  { cls := 8, slots := #[.int (61)], vm := .none },
  { cls := 8, slots := #[.int (62)], vm := .none },
  { cls := 8, slots := #[.int (63)], vm := .none },
  { cls := 8, slots := #[.int (64)], vm := .none },
  { cls := 8, slots := #[.int (65)], vm := .none },
  { cls := 8, slots := #[.int (66)], vm := .none },
  { cls := 8, slots := #[.int (67)], vm := .none },
  { cls := 8, slots := #[.int (68)], vm := .none },
  { cls := 8, slots := #[.int (69)], vm := .none },
  { cls := 8, slots := #[.int (70)], vm := .none },
  { cls := 8, slots := #[.int (71)], vm := .none },
  { cls := 8, slots := #[.int (72)], vm := .none },
  { cls := 8, slots := #[.int (73)], vm := .none },
  { cls := 8, slots := #[.int (74)], vm := .none },
  { cls := 8, slots := #[.int (75)], vm := .none },
  { cls := 8, slots := #[.int (76)], vm := .none },
  { cls := 8, slots := #[.int (77)], vm := .none },
  { cls := 8, slots := #[.int (78)], vm := .none },
  { cls := 8, slots := #[.int (79)], vm := .none },
  { cls := 8, slots := #[.int (80)], vm := .none },
  { cls := 8, slots := #[.int (81)], vm := .none },
  { cls := 8, slots := #[.int (82)], vm := .none },
  { cls := 8, slots := #[.int (83)], vm := .none },
  { cls := 8, slots := #[.int (84)], vm := .none },
  { cls := 8, slots := #[.int (85)], vm := .none },
  { cls := 8, slots := #[.int (86)], vm := .none },
  { cls := 8, slots := #[.int (87)], vm := .none },
  { cls := 8, slots := #[.int (88)], vm := .none },
  { cls := 8, slots := #[.int (89)], vm := .none },
  { cls := 8, slots := #[.int (90)], vm := .none },
  { cls := 8, slots := #[.int (91)], vm := .none },
  { cls := 8, slots := #[.int (92)], vm := .none },
  { cls := 8, slots := #[.int (93)], vm := .none },
  { cls := 8, slots := #[.int (94)], vm := .none },
  { cls := 8, slots := #[.int (95)], vm := .none },
  { cls := 8, slots := #[.int (96)], vm := .none },
  { cls := 8, slots := #[.int (97)], vm := .none },
  { cls := 8, slots := #[.int (98)], vm := .none },
  { cls := 8, slots := #[.int (99)], vm := .none },
  { cls := 8, slots := #[.int (100)], vm := .none },
  { cls := 8, slots := #[.int (101)], vm := .none },
  { cls := 8, slots := #[.int (102)], vm := .none },
  { cls := 8, slots := #[.int (103)], vm := .none },
  { cls := 8, slots := #[.int (104)], vm := .none },
  { cls := 8, slots := #[.int (105)], vm := .none },
  { cls := 8, slots := #[.int (106)], vm := .none },
  { cls := 8, slots := #[.int (107)], vm := .none },
  { cls := 8, slots := #[.int (108)], vm := .none },
  { cls := 8, slots := #[.int (109)], vm := .none },
  { cls := 8, slots := #[.int (110)], vm := .none },
  { cls := 8, slots := #[.int (111)], vm := .none },
  { cls := 8, slots := #[.int (112)], vm := .none },
  { cls := 8, slots := #[.int (113)], vm := .none },
  { cls := 8, slots := #[.int (114)], vm := .none },
  { cls := 8, slots := #[.int (115)], vm := .none },
  { cls := 8, slots := #[.int (116)], vm := .none },
  { cls := 8, slots := #[.int (117)], vm := .none },
  { cls := 8, slots := #[.int (118)], vm := .none },
  { cls := 8, slots := #[.int (119)], vm := .none },
  { cls := 8, slots := #[.int (120)], vm := .none },
  { cls := 8, slots := #[.int (121)], vm := .none },
  { cls := 8, slots := #[.int (122)], vm := .none },
  { cls := 8, slots := #[.int (123)], vm := .none },
  { cls := 8, slots := #[.int (124)], vm := .none },
  { cls := 8, slots := #[.int (125)], vm := .none },
  { cls := 8, slots := #[.int (126)], vm := .none },
  { cls := 8, slots := #[.int (127)], vm := .none }]
def classes : Array Class := #[k0, k1, k2, k3, k4, k5, k6, k7, k8, k9, k10, k11, k12, k13, k14, k15]
def interned : List (Array UInt16 × Addr) := []
def slotsUsed : Nat := 517
def theMethod : MethodId := ⟨1, 1⟩
def args0 : Array Value := #[.int 5, .int 7, .int 3, .int 1, .int 1, .int 2]
def aboutOver (below : List Frame) : State where
  vm := { classes := classes, interned := interned.toArray }
  heap := heap
  slotsUsed := slotsUsed
  threads := #[{ frames := .invoking theMethod args0 :: below }]
def below0 : List Frame := [.native { method := ⟨0, 0⟩, args := #[] }]
def about1 : State := aboutOver below0
def p0 : Program := .bare "" "" ""
def e0 : Env := launch0.env 0 0 0
theorem w_frames : about1.frames = Frame.invoking theMethod args0 :: below0 := rfl
set_option maxRecDepth 65536 in
theorem w_args : argsFit about1.vm theMethod args0 = true := by decide +kernel
set_option maxRecDepth 65536 in
theorem w_heap : heapFits about1 = true := by decide +kernel
set_option maxRecDepth 65536 in
theorem w_runnable : about1.curStatus? = some .runnable := by decide +kernel
set_option maxRecDepth 65536 in
theorem w_alone : about1.alone = true := by decide +kernel
set_option maxRecDepth 65536 in
theorem w_named : about1.methodNamed? x = some theMethod := by decide +kernel
set_option maxRecDepth 65536 in
theorem w_hears : about1.hears theMethod below0 = true := by decide +kernel
set_option maxRecDepth 65536 in
theorem w_ripe : about1.ripe theMethod args0 below0 = true := by decide +kernel
theorem w_running : about1.status = .running := rfl
set_option maxRecDepth 65536 in
theorem w_room : about1.hasRoom e0.platform room_1 = true :=
  launch0.hasRoom_least _ room_1 (by decide +kernel) (by decide +kernel) (by decide +kernel) (by decide +kernel) (by decide +kernel) (by decide +kernel)
theorem allAtoms_all (ts : List Jvm.Cond) (a : Array Jvm.Value) (st : Jvm.State) : (allAtoms ts).before a st = ts.all (fun c => c.before a st) := by
  induction ts with
  | nil => rfl
  | cons c t ih =>
    show (Jvm.Cond.and c (allAtoms t)).before a st = _
    rw [Jvm.Cond.before_and, ih, List.all_cons]
def words1 : List Jvm.Cond := Jvm.Cond.code x code maxLocals ret :: tables_1
/-- a 'code' word, met by the world's own term for the bytes: nothing is compared byte by byte -/
theorem code_word {y : MethodName} {bytes : ByteArray} {mx : Nat} {rt : Option FieldType} {a : Array Value} {s : State} {m : MethodId} {meth : Method} {c : Code} (h1 : s.methodNamed? y = some m) (h2 : s.vm.method? m = some meth) (h3 : meth.code = some c) (h4 : c.code = bytes)
    (h5 : (c.maxLocals == mx && c.exceptionTable.isEmpty && decide (c.maxStack ≤ mostOperands) && decide (meth.sig.returnType = rt) && !meth.locks && decide (parseMethodDescriptor y.desc = some meth.sig)) = true) : (Jvm.Cond.code y bytes mx rt).before a s = true := by
  simp only [Bool.and_eq_true, beq_iff_eq, Bool.not_eq_true', decide_eq_true_eq] at h5
  obtain ⟨⟨⟨⟨⟨g1, g2⟩, g3⟩, g4⟩, g5⟩, g6⟩ := h5
  simp [Cond.before, Cond.holds, Cond.value, h1, h2, h3, h4, g1, g2, g3, g4, g5, g6]
def isCode : Jvm.Cond → Bool
  | .code _ _ _ _ => true
  | _ => false
theorem all_split {L : List Jvm.Cond} {P : Jvm.Cond → Bool} (h1 : L.all (fun c => isCode c || P c) = true) (h2 : ∀ c ∈ L.filter isCode, P c = true) : L.all P = true := by
  refine List.all_eq_true.mpr fun c hc => ?_
  have h := List.all_eq_true.mp h1 c hc
  rcases Bool.eq_false_or_eq_true (isCode c) with hi | hi
  · exact h2 c (List.mem_filter.mpr ⟨hc, hi⟩)
  · simpa [hi] using h
set_option maxRecDepth 65536 in
theorem w_c0 : (Jvm.Cond.code x code maxLocals ret).before args0 about1 = true := code_word (m := ⟨1, 1⟩) (meth := k1m1) (c := k1c1) (by decide +kernel) rfl rfl rfl (by decide +kernel)
set_option maxRecDepth 65536 in
theorem w_c1 : (Jvm.Cond.code ({ cls := "com/example/fovea/fovea/KeyEqualsPinLaw", name := "slots", desc := "(II)[I" } : Jvm.MethodName) method_3_code (3 : Nat) (Option.some (Jvm.ClassFile.FieldType.array Jvm.ClassFile.FieldType.int))).before args0 about1 = true := code_word (m := ⟨1, 2⟩) (meth := k1m2) (c := k1c2) (by decide +kernel) rfl rfl rfl (by decide +kernel)
set_option maxRecDepth 65536 in
theorem w_c2 : (Jvm.Cond.code ({ cls := "com/example/fovea/fovea/Memory$Key", name := "<init>", desc := "()V" } : Jvm.MethodName) prog_37_method_1_code (1 : Nat) (Option.none : Option Jvm.ClassFile.FieldType)).before args0 about1 = true := code_word (m := ⟨2, 0⟩) (meth := k2m0) (c := k2c0) (by decide +kernel) rfl rfl rfl (by decide +kernel)
set_option maxRecDepth 65536 in
theorem w_c3 : (Jvm.Cond.code ({ cls := "java/lang/Object", name := "<init>", desc := "()V" } : Jvm.MethodName) object_method_1_code (1 : Nat) (Option.none : Option Jvm.ClassFile.FieldType)).before args0 about1 = true := code_word (m := ⟨0, 0⟩) (meth := k0m0) (c := k0c0) (by decide +kernel) rfl rfl rfl (by decide +kernel)
set_option maxRecDepth 65536 in
theorem w_c4 : (Jvm.Cond.code ({ cls := "com/example/fovea/fovea/Memory$Key", name := "of", desc := "([I[I)Lcom/example/fovea/fovea/Memory$Key;" } : Jvm.MethodName) prog_37_method_2_code (8 : Nat) (Option.some (Jvm.ClassFile.FieldType.object "com/example/fovea/fovea/Memory$Key"))).before args0 about1 = true := code_word (m := ⟨2, 1⟩) (meth := k2m1) (c := k2c1) (by decide +kernel) rfl rfl rfl (by decide +kernel)
set_option maxRecDepth 65536 in
theorem w_c5 : (Jvm.Cond.code ({ cls := "com/example/fovea/fovea/Memory$Key", name := "equals", desc := "(Ljava/lang/Object;)Z" } : Jvm.MethodName) prog_37_method_6_code (5 : Nat) (Option.some Jvm.ClassFile.FieldType.boolean)).before args0 about1 = true := code_word (m := ⟨2, 2⟩) (meth := k2m2) (c := k2c2) (by decide +kernel) rfl rfl rfl (by decide +kernel)
set_option maxRecDepth 65536 in
theorem w_c6 : (Jvm.Cond.code ({ cls := "java/lang/Integer", name := "valueOf", desc := "(I)Ljava/lang/Integer;" } : Jvm.MethodName) jdk_33_method_22_code (1 : Nat) (Option.some (Jvm.ClassFile.FieldType.object "java/lang/Integer"))).before args0 about1 = true := code_word (m := ⟨8, 0⟩) (meth := k8m0) (c := k8c0) (by decide +kernel) rfl rfl rfl (by decide +kernel)
set_option maxRecDepth 65536 in
theorem w_c7 : (Jvm.Cond.code ({ cls := "com/example/fovea/fovea/KeyEqualsPinLaw", name := "v1", desc := "(IIIII)I" } : Jvm.MethodName) method_4_code (5 : Nat) (Option.some Jvm.ClassFile.FieldType.int)).before args0 about1 = true := code_word (m := ⟨1, 3⟩) (meth := k1m3) (c := k1c3) (by decide +kernel) rfl rfl rfl (by decide +kernel)
set_option maxRecDepth 65536 in
theorem w_c8 : (Jvm.Cond.code ({ cls := "com/example/fovea/fovea/KeyEqualsPinLaw", name := "v2", desc := "(IIIII)I" } : Jvm.MethodName) method_5_code (5 : Nat) (Option.some Jvm.ClassFile.FieldType.int)).before args0 about1 = true := code_word (m := ⟨1, 4⟩) (meth := k1m4) (c := k1c4) (by decide +kernel) rfl rfl rfl (by decide +kernel)
set_option maxRecDepth 65536 in
theorem w_c9 : (Jvm.Cond.code ({ cls := "java/lang/Integer", name := "<init>", desc := "(I)V" } : Jvm.MethodName) jdk_33_method_23_code (2 : Nat) (Option.none : Option Jvm.ClassFile.FieldType)).before args0 about1 = true := code_word (m := ⟨8, 1⟩) (meth := k8m1) (c := k8c1) (by decide +kernel) rfl rfl rfl (by decide +kernel)
set_option maxRecDepth 65536 in
theorem w_c10 : (Jvm.Cond.code ({ cls := "java/lang/Number", name := "<init>", desc := "()V" } : Jvm.MethodName) jdk_18_method_1_code (1 : Nat) (Option.none : Option Jvm.ClassFile.FieldType)).before args0 about1 = true := code_word (m := ⟨4, 0⟩) (meth := k4m0) (c := k4c0) (by decide +kernel) rfl rfl rfl (by decide +kernel)
def codes1 : List Jvm.Cond := [Jvm.Cond.code x code maxLocals ret, Jvm.Cond.code ({ cls := "com/example/fovea/fovea/KeyEqualsPinLaw", name := "slots", desc := "(II)[I" } : Jvm.MethodName) method_3_code (3 : Nat) (Option.some (Jvm.ClassFile.FieldType.array Jvm.ClassFile.FieldType.int)), Jvm.Cond.code ({ cls := "com/example/fovea/fovea/Memory$Key", name := "<init>", desc := "()V" } : Jvm.MethodName) prog_37_method_1_code (1 : Nat) (Option.none : Option Jvm.ClassFile.FieldType), Jvm.Cond.code ({ cls := "java/lang/Object", name := "<init>", desc := "()V" } : Jvm.MethodName) object_method_1_code (1 : Nat) (Option.none : Option Jvm.ClassFile.FieldType), Jvm.Cond.code ({ cls := "com/example/fovea/fovea/Memory$Key", name := "of", desc := "([I[I)Lcom/example/fovea/fovea/Memory$Key;" } : Jvm.MethodName) prog_37_method_2_code (8 : Nat) (Option.some (Jvm.ClassFile.FieldType.object "com/example/fovea/fovea/Memory$Key")), Jvm.Cond.code ({ cls := "com/example/fovea/fovea/Memory$Key", name := "equals", desc := "(Ljava/lang/Object;)Z" } : Jvm.MethodName) prog_37_method_6_code (5 : Nat) (Option.some Jvm.ClassFile.FieldType.boolean), Jvm.Cond.code ({ cls := "java/lang/Integer", name := "valueOf", desc := "(I)Ljava/lang/Integer;" } : Jvm.MethodName) jdk_33_method_22_code (1 : Nat) (Option.some (Jvm.ClassFile.FieldType.object "java/lang/Integer")), Jvm.Cond.code ({ cls := "com/example/fovea/fovea/KeyEqualsPinLaw", name := "v1", desc := "(IIIII)I" } : Jvm.MethodName) method_4_code (5 : Nat) (Option.some Jvm.ClassFile.FieldType.int), Jvm.Cond.code ({ cls := "com/example/fovea/fovea/KeyEqualsPinLaw", name := "v2", desc := "(IIIII)I" } : Jvm.MethodName) method_5_code (5 : Nat) (Option.some Jvm.ClassFile.FieldType.int), Jvm.Cond.code ({ cls := "java/lang/Integer", name := "<init>", desc := "(I)V" } : Jvm.MethodName) jdk_33_method_23_code (2 : Nat) (Option.none : Option Jvm.ClassFile.FieldType), Jvm.Cond.code ({ cls := "java/lang/Number", name := "<init>", desc := "()V" } : Jvm.MethodName) jdk_18_method_1_code (1 : Nat) (Option.none : Option Jvm.ClassFile.FieldType)]
set_option maxRecDepth 65536 in
theorem codes_eq : words1.filter isCode = codes1 := rfl
theorem w_codes : ∀ c ∈ words1.filter isCode, c.before args0 about1 = true := by
  rw [codes_eq]
  intro c hc
  simp only [codes1, List.mem_cons, List.not_mem_nil, or_false] at hc
  rcases hc with rfl | rfl | rfl | rfl | rfl | rfl | rfl | rfl | rfl | rfl | rfl
  · exact w_c0
  · exact w_c1
  · exact w_c2
  · exact w_c3
  · exact w_c4
  · exact w_c5
  · exact w_c6
  · exact w_c7
  · exact w_c8
  · exact w_c9
  · exact w_c10
set_option maxRecDepth 65536 in
theorem w_t1 : (words1.take 24).all (fun c => isCode c || c.before args0 about1) = true := by decide +kernel
set_option maxRecDepth 65536 in
theorem w_t2 : ((words1.drop 24).take 24).all (fun c => isCode c || c.before args0 about1) = true := by decide +kernel
set_option maxRecDepth 65536 in
theorem w_t3 : ((words1.drop 24).drop 24).all (fun c => isCode c || c.before args0 about1) = true := by decide +kernel
theorem w_tables : (allAtoms (Jvm.Cond.code x code maxLocals ret :: tables_1)).before args0 about1 = true := by
  rw [allAtoms_all]
  show words1.all (fun c => c.before args0 about1) = true
  refine all_split ?_ w_codes
  rw [← List.take_append_drop 24 words1, List.all_append, w_t1, ← List.take_append_drop 24 (words1.drop 24), List.all_append, w_t2, w_t3]
  rfl
set_option maxRecDepth 65536 in
theorem w_rest : rest_1_c.before args0 about1 = true := by decide +kernel
set_option maxRecDepth 65536 in
theorem w_case : (Jvm.Cond.and given_1 narrow_1).before args0 about1 = true := by decide +kernel
theorem w_applies : (headSpec (Jvm.Cond.code x code maxLocals ret :: tables_1) room_1).applies x e0.platform about1 = true :=
  (Spec.applies_iff w_frames).mpr ⟨w_running, w_runnable, w_alone, w_named, w_hears, w_ripe, w_room, w_tables⟩
theorem atStart : AtStart classFile x code maxLocals ret World_1 tables_1 room_1 Calls_1 rest_1 Pre_1 launch0 p0 e0 about1 theMethod args0 below0 :=
  ⟨lists_1, trivial, launch0.admits_env _ _ _, launch0.least_env, fairChoices_fair.cas, fairChoices_fair.clock, w_frames, w_args, w_heap, w_applies, trivial, w_rest, w_case⟩
end start1
theorem witness_1 : WitnessClaimed_1 := ⟨start1.p0, start1.e0, start1.about1, start1.theMethod, start1.args0, start1.below0, start1.atStart⟩
end Jvm.Pilot.@@N@@
