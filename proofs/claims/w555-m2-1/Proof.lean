import JvmDerived
import JvmDerived.Pilot.@@N@@Statement
import JvmDerived.Pilot.@@N@@Code
set_option linter.unusedVariables false
set_option linter.unusedSimpArgs false
@@BLOCK:NumsL.lean.txt@@
namespace Jvm.RoadKit
open Sem ClassFile Op Lib Jvm.Stand Jvm.Free Jvm.LawKit
section New
variable {p : Program} {l : Launch} {e : Env} {R : Room} {s : State} {m : MethodId} {args : Array Value} {below : List Frame} {meth : Method} {c : Code} {T : State} {locs : List Loc} {cells slots : Nat}
theorem retI (X : Stand p l e R s m args below meth c T locs cells slots) (hx : p.tables.exec = Jvm.exec) {pc : Nat} {Ls : Array Slot} {z : Int32} {rest : List Value} (hret : meth.sig.returnType = some .int) (hd : decode c.code pc = .ok (.ireturn, 1)) {fs : List Frame}
    (hl : ∀ (f : JFrame) (acts : List Action), f.method = m → f.locked = none → f.entered = [] → (doReturn e (T.setTop f) acts (some (.int z))).1 = T.setFrames fs) : Steps p.tables e below (T.setTop (mkF m pc Ls (.int z :: rest))) (T.setFrames fs) := by
  have hm' : T.vm.method? m = some meth := X.method'
  have hn : narrow .int (.int z) = .int z := rfl
  show Steps p.tables e below (T.setTop { method := m, pc := pc, locals := Ls, stack := _ :: rest, locked := none }) _
  jvm_step X.here [X.here.top, hx, hd, hm', hret, hn]
  first | (intro acts; rw [hl _ acts rfl rfl rfl]) | rw [hl _ _ rfl rfl rfl]
  exact Steps.refl _
end New
end Jvm.RoadKit
namespace Jvm.Pilot.@@N@@
open Jvm Jvm.ClassFile Sem Op Lib Jvm.Free Jvm.Stand Jvm.LawKit Jvm.RoadKit Bundle Jvm.Pilot.@@N@@.Jvm.D
theorem own_lcLt {x y : Int64} : lcmpW x y < 0 ↔ x < y := by rw [lcW]; exact lc_lt x y
theorem own_lcGt {x y : Int64} : 0 < lcmpW x y ↔ y < x := by rw [lcW]; exact lc_gt x y
theorem own_lcEq {x y : Int64} : lcmpW x y = 0 ↔ x = y := by rw [lcW]; exact lc_eq x y
theorem own_cut3 {Z : State} {h : Heap} {a : Addr} {k : ClassId} {ty : FieldType} {z : Int32} {d v0 v1 v2 w0 w1 w2 : Value} (F : Arv Z h a k ty z [w0, w1, w2] d) (hz : ¬ (3 : Int32) < z)
    (h0 : (0 : Int32) < z → v0 = w0) (h1 : (1 : Int32) < z → v1 = w1) (h2 : (2 : Int32) < z → v2 = w2) : Arv Z h a k ty z [v0, v1, v2] d := by
  obtain ⟨c, A, r1, r2, r3, H, G⟩ := F
  have key : ∀ i, i < c.slots.size → [v0, v1, v2].getD i d = [w0, w1, w2].getD i d := fun i hi => by
    rw [r2] at hi
    have q := nat_of r3
    rw [Int32.lt_iff_toInt_lt] at hz h0 h1 h2
    have e0 : (0 : Int32).toInt = 0 := rfl
    have e1 : (1 : Int32).toInt = 1 := rfl
    have e2 : (2 : Int32).toInt = 2 := rfl
    have e3 : (3 : Int32).toInt = 3 := rfl
    match i, hi with
    | 0, hi => show v0 = w0; exact h0 (by omega)
    | 1, hi => show v1 = w1; exact h1 (by omega)
    | 2, hi => show v2 = w2; exact h2 (by omega)
    | i + 3, hi => omega
  exact ⟨c, A, r1, r2, r3, fun i hi => by rw [key i hi]; exact H i hi, fun i hi => by rw [key i hi]; exact G i hi⟩
def own_sel (x y z j : Int32) : Int32 := if j = 0 then x else if j = 1 then y else z
theorem own_sel_get (x y z j : Int32) (d : Value) (h : ¬ j < 0 ∧ j < 3) : [(.int x), (.int y), (.int z)].getD j.toNatClampNeg d = .int (own_sel x y z j) := by
  have q := nat_of h.1
  have h2 := h.2
  rw [Int32.lt_iff_toInt_lt] at h2
  have e3 : (3 : Int32).toInt = 3 := rfl
  have e0 : (0 : Int32).toInt = 0 := rfl
  have e1 : (1 : Int32).toInt = 1 := rfl
  have hj : j.toNatClampNeg = 0 ∨ j.toNatClampNeg = 1 ∨ j.toNatClampNeg = 2 := by omega
  unfold own_sel
  rcases hj with hj | hj | hj
  · rw [hj, if_pos (Int32.toInt_inj.mp (by omega))]; rfl
  · rw [hj, if_neg (fun e => by have e' := congrArg Int32.toInt e; omega), if_pos (Int32.toInt_inj.mp (by omega))]; rfl
  · rw [hj, if_neg (fun e => by have e' := congrArg Int32.toInt e; omega), if_neg (fun e => by have e' := congrArg Int32.toInt e; omega)]; rfl
theorem own_and3 (p : Int32) : ¬ (p &&& (3 : Int32)) < 0 ∧ ¬ (3 : Int32) < (p &&& (3 : Int32)) := by
  have e := Jvm.Kit.i32_mask p 3 (k := 2) (by decide) (by decide)
  have e3 : (3 : Int32).toInt = 3 := rfl
  have e0 : (0 : Int32).toInt = 0 := rfl
  rw [Int32.lt_iff_toInt_lt, Int32.lt_iff_toInt_lt]
  omega
theorem own_mod3 (p : Int32) : ¬ ((p &&& (3 : Int32)) % (3 : Int32)) < 0 ∧ ((p &&& (3 : Int32)) % (3 : Int32)) < 3 := by
  have e := Jvm.Kit.i32_mask p 3 (k := 2) (by decide) (by decide)
  have e3 : (3 : Int32).toInt = 3 := rfl
  have e0 : (0 : Int32).toInt = 0 := rfl
  have r := Jvm.Kit.i32_rem_nonneg (x := p &&& 3) (y := 3) (by omega)
  rw [e3] at r
  rw [Int32.lt_iff_toInt_lt, Int32.lt_iff_toInt_lt]
  omega
theorem own_neg3 {p : Int32} (h : ¬ p < 0) (g : ¬ (3 : Int32) < p) : p.toNatClampNeg ≤ 3 := by
  have q := nat_of h
  rw [Int32.lt_iff_toInt_lt] at g
  have e3 : (3 : Int32).toInt = 3 := rfl
  omega
theorem own_pn0 : plainName "com/example/fovea/fovea/KeyOfPinLaw" = true := by first | (simp [plainName, overriddenIn]; done) | decide +kernel
theorem own_ef_own_slots (m : MethodId) (p_0 : Int32) : entryFrame m #[(.int p_0)] 3 = mkF m 0 #[.val (.int p_0), .unset, .unset] [] := by first | (simp [entryFrame, mkF, argsToLocals, Value.category]; done) | rfl
theorem own_d1_0 : decode method_2_code 0 = .ok (.iload_n 0, 1) := by decide +kernel
theorem own_d1_1 : decode method_2_code 1 = .ok (.iconst 3, 1) := by decide +kernel
theorem own_d1_2 : decode method_2_code 2 = .ok (.iand, 1) := by decide +kernel
theorem own_d1_3 : decode method_2_code 3 = .ok (.istore_n 1, 1) := by decide +kernel
theorem own_d1_4 : decode method_2_code 4 = .ok (.iload_n 1, 1) := by decide +kernel
theorem own_d1_5 : decode method_2_code 5 = .ok (.newarray .int, 2) := by decide +kernel
theorem own_d1_7 : decode method_2_code 7 = .ok (.astore_n 2, 1) := by decide +kernel
theorem own_d1_8 : decode method_2_code 8 = .ok (.iload_n 1, 1) := by decide +kernel
theorem own_d1_9 : decode method_2_code 9 = .ok (.ifCond .le 13, 3) := by decide +kernel
theorem own_d1_12 : decode method_2_code 12 = .ok (.aload_n 2, 1) := by decide +kernel
theorem own_d1_13 : decode method_2_code 13 = .ok (.iconst 0, 1) := by decide +kernel
theorem own_d1_14 : decode method_2_code 14 = .ok (.iload_n 0, 1) := by decide +kernel
theorem own_d1_15 : decode method_2_code 15 = .ok (.iconst 2, 1) := by decide +kernel
theorem own_d1_16 : decode method_2_code 16 = .ok (.iushr, 1) := by decide +kernel
theorem own_d1_17 : decode method_2_code 17 = .ok (.iconst 3, 1) := by decide +kernel
theorem own_d1_18 : decode method_2_code 18 = .ok (.iand, 1) := by decide +kernel
theorem own_d1_19 : decode method_2_code 19 = .ok (.iconst 3, 1) := by decide +kernel
theorem own_d1_20 : decode method_2_code 20 = .ok (.irem, 1) := by decide +kernel
theorem own_d1_21 : decode method_2_code 21 = .ok (.iastore, 1) := by decide +kernel
theorem own_d1_22 : decode method_2_code 22 = .ok (.iload_n 1, 1) := by decide +kernel
theorem own_d1_23 : decode method_2_code 23 = .ok (.iconst 1, 1) := by decide +kernel
theorem own_d1_24 : decode method_2_code 24 = .ok (.if_icmp .le 13, 3) := by decide +kernel
theorem own_d1_27 : decode method_2_code 27 = .ok (.aload_n 2, 1) := by decide +kernel
theorem own_d1_28 : decode method_2_code 28 = .ok (.iconst 1, 1) := by decide +kernel
theorem own_d1_29 : decode method_2_code 29 = .ok (.iload_n 0, 1) := by decide +kernel
theorem own_d1_30 : decode method_2_code 30 = .ok (.iconst 4, 1) := by decide +kernel
theorem own_d1_31 : decode method_2_code 31 = .ok (.iushr, 1) := by decide +kernel
theorem own_d1_32 : decode method_2_code 32 = .ok (.iconst 3, 1) := by decide +kernel
theorem own_d1_33 : decode method_2_code 33 = .ok (.iand, 1) := by decide +kernel
theorem own_d1_34 : decode method_2_code 34 = .ok (.iconst 3, 1) := by decide +kernel
theorem own_d1_35 : decode method_2_code 35 = .ok (.irem, 1) := by decide +kernel
theorem own_d1_36 : decode method_2_code 36 = .ok (.iastore, 1) := by decide +kernel
theorem own_d1_37 : decode method_2_code 37 = .ok (.iload_n 1, 1) := by decide +kernel
theorem own_d1_38 : decode method_2_code 38 = .ok (.iconst 2, 1) := by decide +kernel
theorem own_d1_39 : decode method_2_code 39 = .ok (.if_icmp .le 14, 3) := by decide +kernel
theorem own_d1_42 : decode method_2_code 42 = .ok (.aload_n 2, 1) := by decide +kernel
theorem own_d1_43 : decode method_2_code 43 = .ok (.iconst 2, 1) := by decide +kernel
theorem own_d1_44 : decode method_2_code 44 = .ok (.iload_n 0, 1) := by decide +kernel
theorem own_d1_45 : decode method_2_code 45 = .ok (.bipush 6, 2) := by decide +kernel
theorem own_d1_47 : decode method_2_code 47 = .ok (.iushr, 1) := by decide +kernel
theorem own_d1_48 : decode method_2_code 48 = .ok (.iconst 3, 1) := by decide +kernel
theorem own_d1_49 : decode method_2_code 49 = .ok (.iand, 1) := by decide +kernel
theorem own_d1_50 : decode method_2_code 50 = .ok (.iconst 3, 1) := by decide +kernel
theorem own_d1_51 : decode method_2_code 51 = .ok (.irem, 1) := by decide +kernel
theorem own_d1_52 : decode method_2_code 52 = .ok (.iastore, 1) := by decide +kernel
theorem own_d1_53 : decode method_2_code 53 = .ok (.aload_n 2, 1) := by decide +kernel
theorem own_d1_54 : decode method_2_code 54 = .ok (.areturn, 1) := by decide +kernel
def Qown_slots (Z : State) (p_0 : Int32) (h0 : Heap) (n0 : Nat) (v : Option Value) (h : Heap) (L : List Loc) : Prop := ∃ r_o : Addr, ∃ k_r : ClassId, v = some (.ref r_o) ∧ Fr n0 L ∧ h0.size ≤ r_o ∧ Keep h0 h [] ∧ Arv Z h r_o k_r .int (p_0 &&& (3 : Int32)) [(.int ((((p_0.toUInt32 >>> ((2 : Int32) &&& 31).toUInt32).toInt32) &&& (3 : Int32)) % (3 : Int32))), (.int ((((p_0.toUInt32 >>> ((4 : Int32) &&& 31).toUInt32).toInt32) &&& (3 : Int32)) % (3 : Int32))), (.int ((((p_0.toUInt32 >>> ((6 : Int32) &&& 31).toUInt32).toInt32) &&& (3 : Int32)) % (3 : Int32)))] (.int (0 : Int32))
set_option maxRecDepth 65536 in
set_option maxHeartbeats 40000000 in
theorem own_slots (l : Launch) (Z : State) (a0 : Array Value) (hw : ∀ d ∈ tables_1, d.before a0 Z = true) (ws : List Jvm.Cond) (p_0 : Int32) (h0 : Heap) (n0 : Nat) (Z0 : n0 ≤ h0.size) :
    MetFree l (⟨"com/example/fovea/fovea/KeyOfPinLaw", "slots", "(I)[I"⟩ : MethodName) (head1 (Jvm.Cond.code (⟨"com/example/fovea/fovea/KeyOfPinLaw", "slots", "(I)[I"⟩ : MethodName) method_2_code 3 (some (.array .int)) :: ws) ({ frames := 0, cells := 1, slots := 3, locals := 0 } : Room)) (fun a U => a = #[(.int p_0)] ∧ Z.Warmed39 U.vm ∧ U.heap = h0) (fun _ _ _ _ _ => True) (fun _ U o U' => ∃ v L, o = .returned v ∧ Qown_slots Z p_0 h0 n0 v U'.heap L ∧ FrameEnd U o U' L ({ frames := 0, cells := 1, slots := 3, locals := 0 } : Room).cells ({ frames := 0, cells := 1, slots := 3, locals := 0 } : Room).slots) := by
  refine MetFree.of_bodySF (plainFor_of_name own_pn0) hisR ?_
  intro p e s m args below meth c s₁ Bd hml0 hP hK
  obtain ⟨rfl, hZ, hh⟩ := hP
  have hx := Bd.exec
  have hby := Bd.bytes
  have hml : c.maxLocals = 3 := hml0
  have hown : s.vm.findClass "com/example/fovea/fovea/KeyOfPinLaw" = some m.cls := findClass_of_methodNamed Bd.named
  have hnm := (name_of_methodNamed Bd.named Bd.method).1
  have X0 : Stand p l e ({ frames := 0, cells := 1, slots := 3, locals := 0 } : Room) s m #[(.int p_0)] below meth c s₁ [] 0 0 := Stand.of_body Bd
  have e0 : s₁.heap = h0 := by rw [← hh, Bd.state]; rfl
  have N0 := Fr.nil n0
  have pre0 : ∀ t, Steps p.tables e below (s₁.setTop (mkF m 0 #[.val (.int p_0), .unset, .unset] [])) t → Steps p.tables e below (s₁.setTop (entryFrame m #[(.int p_0)] 3)) t := fun t k => castTop (own_ef_own_slots m p_0) k
  obtain ⟨T7, h7, k7, X7, e7, E7, A7, Y7, st7⟩ := newPE X0 hx hZ (hw _ (List.mem_of_getElem? (i := 0) rfl)) e0 (g := (mkF m 5 #[.val (.int p_0), .val (.int (p_0 &&& (3 : Int32))), .unset] [(.int (p_0 &&& (3 : Int32)))])) rfl (hb hby own_d1_5) rfl (own_and3 p_0).1 (cap := 3) (own_neg3 (own_and3 p_0).1 (own_and3 p_0).2) (by decide) (by decide) (by decide) (ad := "[I") (by first | rfl | decide)
  obtain ⟨b7, g7⟩ : ∃ z, z = h0.size := ⟨_, rfl⟩
  rw [← g7] at A7 Y7 st7
  have Ge8 : n0 ≤ b7 := Nat.le_trans Z0 (Nat.le_of_eq g7.symm)
  have Sz9 : h0.size ≤ b7 := Nat.le_trans (Keep.refl h0 []).1 (Nat.le_of_eq g7.symm)
  have Kc10 : Keep h0 h7 [] := (Keep.refl h0 []).ext E7
  have Zs11 : n0 ≤ h7.size := (Nat.le_trans Z0 E7.1)
  have V7 : Arv Z h7 b7 k7 .int (p_0 &&& (3 : Int32)) [(.int (0 : Int32)), (.int (0 : Int32)), (.int (0 : Int32))] (.int (0 : Int32)) := (Arv.new A7 (own_and3 p_0).1).pad (pad_rep [] (.int (0 : Int32)) 3)
  have pre15 : ∀ t, Steps p.tables e below (T7.setTop (mkF m 9 #[.val (.int p_0), .val (.int (p_0 &&& (3 : Int32))), .val (.ref b7)] [(.int (p_0 &&& (3 : Int32)))])) t → Steps p.tables e below (s₁.setTop (entryFrame m #[(.int p_0)] 3)) t := by
    intro t kt
    refine pre0 _ ?_
    show Steps p.tables e below (s₁.setTop (mkF m 0 #[.val (.int p_0), .unset, .unset] [])) _
    refine XS.iloadN X0.here hx rfl (hb hby own_d1_0) rfl ?_
    show Steps p.tables e below (s₁.setTop (mkF m 1 #[.val (.int p_0), .unset, .unset] [(.int p_0)])) _
    refine XS.iconst X0.here hx rfl (hb hby own_d1_1) ?_
    show Steps p.tables e below (s₁.setTop (mkF m 2 #[.val (.int p_0), .unset, .unset] [(.int (3 : Int32)), (.int p_0)])) _
    refine XS.iand X0.here hx rfl (hb hby own_d1_2) rfl ?_
    show Steps p.tables e below (s₁.setTop (mkF m 3 #[.val (.int p_0), .unset, .unset] [(.int (p_0 &&& (3 : Int32)))])) _
    refine XS.istoreN X0.here hx rfl (hb hby own_d1_3) rfl (l' := #[.val (.int p_0), .val (.int (p_0 &&& (3 : Int32))), .unset]) rfl ?_
    show Steps p.tables e below (s₁.setTop (mkF m 4 #[.val (.int p_0), .val (.int (p_0 &&& (3 : Int32))), .unset] [])) _
    refine XS.iloadN X0.here hx rfl (hb hby own_d1_4) rfl ?_
    show Steps p.tables e below (s₁.setTop (mkF m 5 #[.val (.int p_0), .val (.int (p_0 &&& (3 : Int32))), .unset] [(.int (p_0 &&& (3 : Int32)))])) _
    refine st7 _ ?_
    show Steps p.tables e below (T7.setTop (mkF m 7 #[.val (.int p_0), .val (.int (p_0 &&& (3 : Int32))), .unset] [(.ref b7)])) _
    refine XS.astoreN X7.here hx rfl (hb hby own_d1_7) rfl rfl (l' := #[.val (.int p_0), .val (.int (p_0 &&& (3 : Int32))), .val (.ref b7)]) rfl ?_
    show Steps p.tables e below (T7.setTop (mkF m 8 #[.val (.int p_0), .val (.int (p_0 &&& (3 : Int32))), .val (.ref b7)] [])) _
    refine XS.iloadN X7.here hx rfl (hb hby own_d1_8) rfl ?_
    exact kt
  by_cases hc9_16 : (0 : Int32) < (p_0 &&& (3 : Int32))
  · obtain ⟨cl27, Ar27, q27, S27, M27, H27, G27⟩ := id V7
    have hin27 : ¬ ((0 : Int32) < 0 ∨ cl27.slots.size ≤ ((0 : Int32)).toNatClampNeg) := inb_of S27 ⟨by decide, hc9_16⟩
    obtain ⟨T28, h28, X28, e28, W28, st28⟩ := stI X7 hx hZ e7 Ar27 (j := (0 : Int32)) hin27 (g := (mkF m 21 #[.val (.int p_0), .val (.int (p_0 &&& (3 : Int32))), .val (.ref b7)] [(.int ((((p_0.toUInt32 >>> ((2 : Int32) &&& 31).toUInt32).toInt32) &&& (3 : Int32)) % (3 : Int32))), (.int (0 : Int32)), (.ref b7)])) rfl rfl (hb hby own_d1_21)
    have Kc30 : Keep h0 h28 [] := Kc10.wr W28 (Or.inr Sz9)
    have Zs31 : n0 ≤ h28.size := Nat.le_trans Zs11 (Keep.of_wr W28).1
    have N32 := Fr.snoc X28 N0 Ge8
    have Vm29 : Arv Z h28 b7 k7 .int (p_0 &&& (3 : Int32)) [(.int ((((p_0.toUInt32 >>> ((2 : Int32) &&& 31).toUInt32).toInt32) &&& (3 : Int32)) % (3 : Int32))), (.int (0 : Int32)), (.int (0 : Int32))] (.int (0 : Int32)) := Arv.set Ar27 q27 S27 M27 H27 G27 rfl W28 0 rfl (Nat.le_of_ble_eq_true rfl)
    have pre36 : ∀ t, Steps p.tables e below (T28.setTop (mkF m 24 #[.val (.int p_0), .val (.int (p_0 &&& (3 : Int32))), .val (.ref b7)] [(.int (1 : Int32)), (.int (p_0 &&& (3 : Int32)))])) t → Steps p.tables e below (s₁.setTop (entryFrame m #[(.int p_0)] 3)) t := by
      intro t kt
      refine pre15 _ ?_
      show Steps p.tables e below (T7.setTop (mkF m 9 #[.val (.int p_0), .val (.int (p_0 &&& (3 : Int32))), .val (.ref b7)] [(.int (p_0 &&& (3 : Int32)))])) _
      refine XS.ifNo X7.here hx rfl (hb hby own_d1_9) rfl ((if0 _ _).trans (tlt hc9_16).2.2.2) ?_
      show Steps p.tables e below (T7.setTop (mkF m 12 #[.val (.int p_0), .val (.int (p_0 &&& (3 : Int32))), .val (.ref b7)] [])) _
      refine XS.aloadN X7.here hx rfl (hb hby own_d1_12) rfl rfl ?_
      show Steps p.tables e below (T7.setTop (mkF m 13 #[.val (.int p_0), .val (.int (p_0 &&& (3 : Int32))), .val (.ref b7)] [(.ref b7)])) _
      refine XS.iconst X7.here hx rfl (hb hby own_d1_13) ?_
      show Steps p.tables e below (T7.setTop (mkF m 14 #[.val (.int p_0), .val (.int (p_0 &&& (3 : Int32))), .val (.ref b7)] [(.int (0 : Int32)), (.ref b7)])) _
      refine XS.iloadN X7.here hx rfl (hb hby own_d1_14) rfl ?_
      show Steps p.tables e below (T7.setTop (mkF m 15 #[.val (.int p_0), .val (.int (p_0 &&& (3 : Int32))), .val (.ref b7)] [(.int p_0), (.int (0 : Int32)), (.ref b7)])) _
      refine XS.iconst X7.here hx rfl (hb hby own_d1_15) ?_
      show Steps p.tables e below (T7.setTop (mkF m 16 #[.val (.int p_0), .val (.int (p_0 &&& (3 : Int32))), .val (.ref b7)] [(.int (2 : Int32)), (.int p_0), (.int (0 : Int32)), (.ref b7)])) _
      refine XS.iushr X7.here hx rfl (hb hby own_d1_16) rfl ?_
      show Steps p.tables e below (T7.setTop (mkF m 17 #[.val (.int p_0), .val (.int (p_0 &&& (3 : Int32))), .val (.ref b7)] [(.int ((p_0.toUInt32 >>> ((2 : Int32) &&& 31).toUInt32).toInt32)), (.int (0 : Int32)), (.ref b7)])) _
      refine XS.iconst X7.here hx rfl (hb hby own_d1_17) ?_
      show Steps p.tables e below (T7.setTop (mkF m 18 #[.val (.int p_0), .val (.int (p_0 &&& (3 : Int32))), .val (.ref b7)] [(.int (3 : Int32)), (.int ((p_0.toUInt32 >>> ((2 : Int32) &&& 31).toUInt32).toInt32)), (.int (0 : Int32)), (.ref b7)])) _
      refine XS.iand X7.here hx rfl (hb hby own_d1_18) rfl ?_
      show Steps p.tables e below (T7.setTop (mkF m 19 #[.val (.int p_0), .val (.int (p_0 &&& (3 : Int32))), .val (.ref b7)] [(.int (((p_0.toUInt32 >>> ((2 : Int32) &&& 31).toUInt32).toInt32) &&& (3 : Int32))), (.int (0 : Int32)), (.ref b7)])) _
      refine XS.iconst X7.here hx rfl (hb hby own_d1_19) ?_
      show Steps p.tables e below (T7.setTop (mkF m 20 #[.val (.int p_0), .val (.int (p_0 &&& (3 : Int32))), .val (.ref b7)] [(.int (3 : Int32)), (.int (((p_0.toUInt32 >>> ((2 : Int32) &&& 31).toUInt32).toInt32) &&& (3 : Int32))), (.int (0 : Int32)), (.ref b7)])) _
      refine iremM X7 hx rfl (hb hby own_d1_20) rfl (by decide) ?_
      show Steps p.tables e below (T7.setTop (mkF m 21 #[.val (.int p_0), .val (.int (p_0 &&& (3 : Int32))), .val (.ref b7)] [(.int ((((p_0.toUInt32 >>> ((2 : Int32) &&& 31).toUInt32).toInt32) &&& (3 : Int32)) % (3 : Int32))), (.int (0 : Int32)), (.ref b7)])) _
      refine st28 _ ?_
      show Steps p.tables e below (T28.setTop (mkF m 22 #[.val (.int p_0), .val (.int (p_0 &&& (3 : Int32))), .val (.ref b7)] [])) _
      refine XS.iloadN X28.here hx rfl (hb hby own_d1_22) rfl ?_
      show Steps p.tables e below (T28.setTop (mkF m 23 #[.val (.int p_0), .val (.int (p_0 &&& (3 : Int32))), .val (.ref b7)] [(.int (p_0 &&& (3 : Int32)))])) _
      refine XS.iconst X28.here hx rfl (hb hby own_d1_23) ?_
      exact kt
    by_cases hc24_37 : (1 : Int32) < (p_0 &&& (3 : Int32))
    · obtain ⟨cl48, Ar48, q48, S48, M48, H48, G48⟩ := id Vm29
      have hin48 : ¬ ((1 : Int32) < 0 ∨ cl48.slots.size ≤ ((1 : Int32)).toNatClampNeg) := inb_of S48 ⟨by decide, hc24_37⟩
      obtain ⟨T49, h49, X49, e49, W49, st49⟩ := stI X28 hx hZ e28 Ar48 (j := (1 : Int32)) hin48 (g := (mkF m 36 #[.val (.int p_0), .val (.int (p_0 &&& (3 : Int32))), .val (.ref b7)] [(.int ((((p_0.toUInt32 >>> ((4 : Int32) &&& 31).toUInt32).toInt32) &&& (3 : Int32)) % (3 : Int32))), (.int (1 : Int32)), (.ref b7)])) rfl rfl (hb hby own_d1_36)
      have Kc51 : Keep h0 h49 [] := Kc30.wr W49 (Or.inr Sz9)
      have Zs52 : n0 ≤ h49.size := Nat.le_trans Zs31 (Keep.of_wr W49).1
      have N53 := Fr.snoc X49 N32 Ge8
      have Vm50 : Arv Z h49 b7 k7 .int (p_0 &&& (3 : Int32)) [(.int ((((p_0.toUInt32 >>> ((2 : Int32) &&& 31).toUInt32).toInt32) &&& (3 : Int32)) % (3 : Int32))), (.int ((((p_0.toUInt32 >>> ((4 : Int32) &&& 31).toUInt32).toInt32) &&& (3 : Int32)) % (3 : Int32))), (.int (0 : Int32))] (.int (0 : Int32)) := Arv.set Ar48 q48 S48 M48 H48 G48 rfl W49 1 rfl (Nat.le_of_ble_eq_true rfl)
      have pre57 : ∀ t, Steps p.tables e below (T49.setTop (mkF m 39 #[.val (.int p_0), .val (.int (p_0 &&& (3 : Int32))), .val (.ref b7)] [(.int (2 : Int32)), (.int (p_0 &&& (3 : Int32)))])) t → Steps p.tables e below (s₁.setTop (entryFrame m #[(.int p_0)] 3)) t := by
        intro t kt
        refine pre36 _ ?_
        show Steps p.tables e below (T28.setTop (mkF m 24 #[.val (.int p_0), .val (.int (p_0 &&& (3 : Int32))), .val (.ref b7)] [(.int (1 : Int32)), (.int (p_0 &&& (3 : Int32)))])) _
        refine XS.icmpNo X28.here hx rfl (hb hby own_d1_24) rfl (tlt hc24_37).2.2.2 ?_
        show Steps p.tables e below (T28.setTop (mkF m 27 #[.val (.int p_0), .val (.int (p_0 &&& (3 : Int32))), .val (.ref b7)] [])) _
        refine XS.aloadN X28.here hx rfl (hb hby own_d1_27) rfl rfl ?_
        show Steps p.tables e below (T28.setTop (mkF m 28 #[.val (.int p_0), .val (.int (p_0 &&& (3 : Int32))), .val (.ref b7)] [(.ref b7)])) _
        refine XS.iconst X28.here hx rfl (hb hby own_d1_28) ?_
        show Steps p.tables e below (T28.setTop (mkF m 29 #[.val (.int p_0), .val (.int (p_0 &&& (3 : Int32))), .val (.ref b7)] [(.int (1 : Int32)), (.ref b7)])) _
        refine XS.iloadN X28.here hx rfl (hb hby own_d1_29) rfl ?_
        show Steps p.tables e below (T28.setTop (mkF m 30 #[.val (.int p_0), .val (.int (p_0 &&& (3 : Int32))), .val (.ref b7)] [(.int p_0), (.int (1 : Int32)), (.ref b7)])) _
        refine XS.iconst X28.here hx rfl (hb hby own_d1_30) ?_
        show Steps p.tables e below (T28.setTop (mkF m 31 #[.val (.int p_0), .val (.int (p_0 &&& (3 : Int32))), .val (.ref b7)] [(.int (4 : Int32)), (.int p_0), (.int (1 : Int32)), (.ref b7)])) _
        refine XS.iushr X28.here hx rfl (hb hby own_d1_31) rfl ?_
        show Steps p.tables e below (T28.setTop (mkF m 32 #[.val (.int p_0), .val (.int (p_0 &&& (3 : Int32))), .val (.ref b7)] [(.int ((p_0.toUInt32 >>> ((4 : Int32) &&& 31).toUInt32).toInt32)), (.int (1 : Int32)), (.ref b7)])) _
        refine XS.iconst X28.here hx rfl (hb hby own_d1_32) ?_
        show Steps p.tables e below (T28.setTop (mkF m 33 #[.val (.int p_0), .val (.int (p_0 &&& (3 : Int32))), .val (.ref b7)] [(.int (3 : Int32)), (.int ((p_0.toUInt32 >>> ((4 : Int32) &&& 31).toUInt32).toInt32)), (.int (1 : Int32)), (.ref b7)])) _
        refine XS.iand X28.here hx rfl (hb hby own_d1_33) rfl ?_
        show Steps p.tables e below (T28.setTop (mkF m 34 #[.val (.int p_0), .val (.int (p_0 &&& (3 : Int32))), .val (.ref b7)] [(.int (((p_0.toUInt32 >>> ((4 : Int32) &&& 31).toUInt32).toInt32) &&& (3 : Int32))), (.int (1 : Int32)), (.ref b7)])) _
        refine XS.iconst X28.here hx rfl (hb hby own_d1_34) ?_
        show Steps p.tables e below (T28.setTop (mkF m 35 #[.val (.int p_0), .val (.int (p_0 &&& (3 : Int32))), .val (.ref b7)] [(.int (3 : Int32)), (.int (((p_0.toUInt32 >>> ((4 : Int32) &&& 31).toUInt32).toInt32) &&& (3 : Int32))), (.int (1 : Int32)), (.ref b7)])) _
        refine iremM X28 hx rfl (hb hby own_d1_35) rfl (by decide) ?_
        show Steps p.tables e below (T28.setTop (mkF m 36 #[.val (.int p_0), .val (.int (p_0 &&& (3 : Int32))), .val (.ref b7)] [(.int ((((p_0.toUInt32 >>> ((4 : Int32) &&& 31).toUInt32).toInt32) &&& (3 : Int32)) % (3 : Int32))), (.int (1 : Int32)), (.ref b7)])) _
        refine st49 _ ?_
        show Steps p.tables e below (T49.setTop (mkF m 37 #[.val (.int p_0), .val (.int (p_0 &&& (3 : Int32))), .val (.ref b7)] [])) _
        refine XS.iloadN X49.here hx rfl (hb hby own_d1_37) rfl ?_
        show Steps p.tables e below (T49.setTop (mkF m 38 #[.val (.int p_0), .val (.int (p_0 &&& (3 : Int32))), .val (.ref b7)] [(.int (p_0 &&& (3 : Int32)))])) _
        refine XS.iconst X49.here hx rfl (hb hby own_d1_38) ?_
        exact kt
      by_cases hc39_58 : (2 : Int32) < (p_0 &&& (3 : Int32))
      · obtain ⟨cl69, Ar69, q69, S69, M69, H69, G69⟩ := id Vm50
        have hin69 : ¬ ((2 : Int32) < 0 ∨ cl69.slots.size ≤ ((2 : Int32)).toNatClampNeg) := inb_of S69 ⟨by decide, hc39_58⟩
        obtain ⟨T70, h70, X70, e70, W70, st70⟩ := stI X49 hx hZ e49 Ar69 (j := (2 : Int32)) hin69 (g := (mkF m 52 #[.val (.int p_0), .val (.int (p_0 &&& (3 : Int32))), .val (.ref b7)] [(.int ((((p_0.toUInt32 >>> ((6 : Int32) &&& 31).toUInt32).toInt32) &&& (3 : Int32)) % (3 : Int32))), (.int (2 : Int32)), (.ref b7)])) rfl rfl (hb hby own_d1_52)
        have Kc72 : Keep h0 h70 [] := Kc51.wr W70 (Or.inr Sz9)
        have Zs73 : n0 ≤ h70.size := Nat.le_trans Zs52 (Keep.of_wr W70).1
        have N74 := Fr.snoc X70 N53 Ge8
        have Vm71 : Arv Z h70 b7 k7 .int (p_0 &&& (3 : Int32)) [(.int ((((p_0.toUInt32 >>> ((2 : Int32) &&& 31).toUInt32).toInt32) &&& (3 : Int32)) % (3 : Int32))), (.int ((((p_0.toUInt32 >>> ((4 : Int32) &&& 31).toUInt32).toInt32) &&& (3 : Int32)) % (3 : Int32))), (.int ((((p_0.toUInt32 >>> ((6 : Int32) &&& 31).toUInt32).toInt32) &&& (3 : Int32)) % (3 : Int32)))] (.int (0 : Int32)) := Arv.set Ar69 q69 S69 M69 H69 G69 rfl W70 2 rfl (Nat.le_of_ble_eq_true rfl)
        obtain ⟨fs, hr, hrun, hended, hW, hsame⟩ := X70.leave (v := some (.ref b7)) (fun h => by rw [Bd.returns] at h; cases h) (hlocks := BodyLoose.notSynchronized Bd)
        refine ⟨_, _, pre57 _ ?_, hrun, hended, _, _, rfl, ?_, ⟨_, rfl⟩, hW, hsame.mono (by decide) (by decide)⟩
        · show Steps p.tables e below (T49.setTop (mkF m 39 #[.val (.int p_0), .val (.int (p_0 &&& (3 : Int32))), .val (.ref b7)] [(.int (2 : Int32)), (.int (p_0 &&& (3 : Int32)))])) _
          refine XS.icmpNo X49.here hx rfl (hb hby own_d1_39) rfl (tlt hc39_58).2.2.2 ?_
          show Steps p.tables e below (T49.setTop (mkF m 42 #[.val (.int p_0), .val (.int (p_0 &&& (3 : Int32))), .val (.ref b7)] [])) _
          refine XS.aloadN X49.here hx rfl (hb hby own_d1_42) rfl rfl ?_
          show Steps p.tables e below (T49.setTop (mkF m 43 #[.val (.int p_0), .val (.int (p_0 &&& (3 : Int32))), .val (.ref b7)] [(.ref b7)])) _
          refine XS.iconst X49.here hx rfl (hb hby own_d1_43) ?_
          show Steps p.tables e below (T49.setTop (mkF m 44 #[.val (.int p_0), .val (.int (p_0 &&& (3 : Int32))), .val (.ref b7)] [(.int (2 : Int32)), (.ref b7)])) _
          refine XS.iloadN X49.here hx rfl (hb hby own_d1_44) rfl ?_
          show Steps p.tables e below (T49.setTop (mkF m 45 #[.val (.int p_0), .val (.int (p_0 &&& (3 : Int32))), .val (.ref b7)] [(.int p_0), (.int (2 : Int32)), (.ref b7)])) _
          refine XS.bipush X49.here hx rfl (hb hby own_d1_45) ?_
          show Steps p.tables e below (T49.setTop (mkF m 47 #[.val (.int p_0), .val (.int (p_0 &&& (3 : Int32))), .val (.ref b7)] [(.int (6 : Int32)), (.int p_0), (.int (2 : Int32)), (.ref b7)])) _
          refine XS.iushr X49.here hx rfl (hb hby own_d1_47) rfl ?_
          show Steps p.tables e below (T49.setTop (mkF m 48 #[.val (.int p_0), .val (.int (p_0 &&& (3 : Int32))), .val (.ref b7)] [(.int ((p_0.toUInt32 >>> ((6 : Int32) &&& 31).toUInt32).toInt32)), (.int (2 : Int32)), (.ref b7)])) _
          refine XS.iconst X49.here hx rfl (hb hby own_d1_48) ?_
          show Steps p.tables e below (T49.setTop (mkF m 49 #[.val (.int p_0), .val (.int (p_0 &&& (3 : Int32))), .val (.ref b7)] [(.int (3 : Int32)), (.int ((p_0.toUInt32 >>> ((6 : Int32) &&& 31).toUInt32).toInt32)), (.int (2 : Int32)), (.ref b7)])) _
          refine XS.iand X49.here hx rfl (hb hby own_d1_49) rfl ?_
          show Steps p.tables e below (T49.setTop (mkF m 50 #[.val (.int p_0), .val (.int (p_0 &&& (3 : Int32))), .val (.ref b7)] [(.int (((p_0.toUInt32 >>> ((6 : Int32) &&& 31).toUInt32).toInt32) &&& (3 : Int32))), (.int (2 : Int32)), (.ref b7)])) _
          refine XS.iconst X49.here hx rfl (hb hby own_d1_50) ?_
          show Steps p.tables e below (T49.setTop (mkF m 51 #[.val (.int p_0), .val (.int (p_0 &&& (3 : Int32))), .val (.ref b7)] [(.int (3 : Int32)), (.int (((p_0.toUInt32 >>> ((6 : Int32) &&& 31).toUInt32).toInt32) &&& (3 : Int32))), (.int (2 : Int32)), (.ref b7)])) _
          refine iremM X49 hx rfl (hb hby own_d1_51) rfl (by decide) ?_
          show Steps p.tables e below (T49.setTop (mkF m 52 #[.val (.int p_0), .val (.int (p_0 &&& (3 : Int32))), .val (.ref b7)] [(.int ((((p_0.toUInt32 >>> ((6 : Int32) &&& 31).toUInt32).toInt32) &&& (3 : Int32)) % (3 : Int32))), (.int (2 : Int32)), (.ref b7)])) _
          refine st70 _ ?_
          show Steps p.tables e below (T70.setTop (mkF m 53 #[.val (.int p_0), .val (.int (p_0 &&& (3 : Int32))), .val (.ref b7)] [])) _
          refine XS.aloadN X70.here hx rfl (hb hby own_d1_53) rfl rfl ?_
          show Steps p.tables e below (T70.setTop (mkF m 54 #[.val (.int p_0), .val (.int (p_0 &&& (3 : Int32))), .val (.ref b7)] [(.ref b7)])) _
          jvm_step X70.here [X70.here.top, hx, (hb hby own_d1_54), X70.method', Bd.returns, Value.isRef, FieldType.isReference]
          first | (intro acts; rw [hr _ acts rfl rfl rfl]) | rw [hr _ _ rfl rfl rfl]
          exact Steps.refl _
        · show Qown_slots Z p_0 h0 n0 _ T70.heap _
          rw [e70]
          exact ⟨b7, k7, rfl, N74, Sz9, Kc72, (own_cut3 Vm71 (own_and3 p_0).2 (fun q => rfl) (fun q => rfl) (fun q => rfl))⟩
      · obtain ⟨fs, hr, hrun, hended, hW, hsame⟩ := X49.leave (v := some (.ref b7)) (fun h => by rw [Bd.returns] at h; cases h) (hlocks := BodyLoose.notSynchronized Bd)
        refine ⟨_, _, pre57 _ ?_, hrun, hended, _, _, rfl, ?_, ⟨_, rfl⟩, hW, hsame.mono (by decide) (by decide)⟩
        · show Steps p.tables e below (T49.setTop (mkF m 39 #[.val (.int p_0), .val (.int (p_0 &&& (3 : Int32))), .val (.ref b7)] [(.int (2 : Int32)), (.int (p_0 &&& (3 : Int32)))])) _
          refine XS.icmpYes X49.here hx rfl (pc0 := 39) (pc' := 53) rfl (hb hby own_d1_39) rfl (flt hc39_58).2.2.2 (by decide) (by decide) ?_
          show Steps p.tables e below (T49.setTop (mkF m 53 #[.val (.int p_0), .val (.int (p_0 &&& (3 : Int32))), .val (.ref b7)] [])) _
          refine XS.aloadN X49.here hx rfl (hb hby own_d1_53) rfl rfl ?_
          show Steps p.tables e below (T49.setTop (mkF m 54 #[.val (.int p_0), .val (.int (p_0 &&& (3 : Int32))), .val (.ref b7)] [(.ref b7)])) _
          jvm_step X49.here [X49.here.top, hx, (hb hby own_d1_54), X49.method', Bd.returns, Value.isRef, FieldType.isReference]
          first | (intro acts; rw [hr _ acts rfl rfl rfl]) | rw [hr _ _ rfl rfl rfl]
          exact Steps.refl _
        · show Qown_slots Z p_0 h0 n0 _ T49.heap _
          rw [e49]
          exact ⟨b7, k7, rfl, N53, Sz9, Kc51, (own_cut3 Vm50 (own_and3 p_0).2 (fun q => rfl) (fun q => rfl) (fun q => absurd q hc39_58))⟩
    · have pre82 : ∀ t, Steps p.tables e below (T28.setTop (mkF m 39 #[.val (.int p_0), .val (.int (p_0 &&& (3 : Int32))), .val (.ref b7)] [(.int (2 : Int32)), (.int (p_0 &&& (3 : Int32)))])) t → Steps p.tables e below (s₁.setTop (entryFrame m #[(.int p_0)] 3)) t := by
        intro t kt
        refine pre36 _ ?_
        show Steps p.tables e below (T28.setTop (mkF m 24 #[.val (.int p_0), .val (.int (p_0 &&& (3 : Int32))), .val (.ref b7)] [(.int (1 : Int32)), (.int (p_0 &&& (3 : Int32)))])) _
        refine XS.icmpYes X28.here hx rfl (pc0 := 24) (pc' := 37) rfl (hb hby own_d1_24) rfl (flt hc24_37).2.2.2 (by decide) (by decide) ?_
        show Steps p.tables e below (T28.setTop (mkF m 37 #[.val (.int p_0), .val (.int (p_0 &&& (3 : Int32))), .val (.ref b7)] [])) _
        refine XS.iloadN X28.here hx rfl (hb hby own_d1_37) rfl ?_
        show Steps p.tables e below (T28.setTop (mkF m 38 #[.val (.int p_0), .val (.int (p_0 &&& (3 : Int32))), .val (.ref b7)] [(.int (p_0 &&& (3 : Int32)))])) _
        refine XS.iconst X28.here hx rfl (hb hby own_d1_38) ?_
        exact kt
      by_cases hc39_83 : (2 : Int32) < (p_0 &&& (3 : Int32))
      · obtain ⟨cl94, Ar94, q94, S94, M94, H94, G94⟩ := id Vm29
        have hin94 : ¬ ((2 : Int32) < 0 ∨ cl94.slots.size ≤ ((2 : Int32)).toNatClampNeg) := inb_of S94 ⟨by decide, hc39_83⟩
        obtain ⟨T95, h95, X95, e95, W95, st95⟩ := stI X28 hx hZ e28 Ar94 (j := (2 : Int32)) hin94 (g := (mkF m 52 #[.val (.int p_0), .val (.int (p_0 &&& (3 : Int32))), .val (.ref b7)] [(.int ((((p_0.toUInt32 >>> ((6 : Int32) &&& 31).toUInt32).toInt32) &&& (3 : Int32)) % (3 : Int32))), (.int (2 : Int32)), (.ref b7)])) rfl rfl (hb hby own_d1_52)
        have Kc97 : Keep h0 h95 [] := Kc30.wr W95 (Or.inr Sz9)
        have Zs98 : n0 ≤ h95.size := Nat.le_trans Zs31 (Keep.of_wr W95).1
        have N99 := Fr.snoc X95 N32 Ge8
        have Vm96 : Arv Z h95 b7 k7 .int (p_0 &&& (3 : Int32)) [(.int ((((p_0.toUInt32 >>> ((2 : Int32) &&& 31).toUInt32).toInt32) &&& (3 : Int32)) % (3 : Int32))), (.int (0 : Int32)), (.int ((((p_0.toUInt32 >>> ((6 : Int32) &&& 31).toUInt32).toInt32) &&& (3 : Int32)) % (3 : Int32)))] (.int (0 : Int32)) := Arv.set Ar94 q94 S94 M94 H94 G94 rfl W95 2 rfl (Nat.le_of_ble_eq_true rfl)
        obtain ⟨fs, hr, hrun, hended, hW, hsame⟩ := X95.leave (v := some (.ref b7)) (fun h => by rw [Bd.returns] at h; cases h) (hlocks := BodyLoose.notSynchronized Bd)
        refine ⟨_, _, pre82 _ ?_, hrun, hended, _, _, rfl, ?_, ⟨_, rfl⟩, hW, hsame.mono (by decide) (by decide)⟩
        · show Steps p.tables e below (T28.setTop (mkF m 39 #[.val (.int p_0), .val (.int (p_0 &&& (3 : Int32))), .val (.ref b7)] [(.int (2 : Int32)), (.int (p_0 &&& (3 : Int32)))])) _
          refine XS.icmpNo X28.here hx rfl (hb hby own_d1_39) rfl (tlt hc39_83).2.2.2 ?_
          show Steps p.tables e below (T28.setTop (mkF m 42 #[.val (.int p_0), .val (.int (p_0 &&& (3 : Int32))), .val (.ref b7)] [])) _
          refine XS.aloadN X28.here hx rfl (hb hby own_d1_42) rfl rfl ?_
          show Steps p.tables e below (T28.setTop (mkF m 43 #[.val (.int p_0), .val (.int (p_0 &&& (3 : Int32))), .val (.ref b7)] [(.ref b7)])) _
          refine XS.iconst X28.here hx rfl (hb hby own_d1_43) ?_
          show Steps p.tables e below (T28.setTop (mkF m 44 #[.val (.int p_0), .val (.int (p_0 &&& (3 : Int32))), .val (.ref b7)] [(.int (2 : Int32)), (.ref b7)])) _
          refine XS.iloadN X28.here hx rfl (hb hby own_d1_44) rfl ?_
          show Steps p.tables e below (T28.setTop (mkF m 45 #[.val (.int p_0), .val (.int (p_0 &&& (3 : Int32))), .val (.ref b7)] [(.int p_0), (.int (2 : Int32)), (.ref b7)])) _
          refine XS.bipush X28.here hx rfl (hb hby own_d1_45) ?_
          show Steps p.tables e below (T28.setTop (mkF m 47 #[.val (.int p_0), .val (.int (p_0 &&& (3 : Int32))), .val (.ref b7)] [(.int (6 : Int32)), (.int p_0), (.int (2 : Int32)), (.ref b7)])) _
          refine XS.iushr X28.here hx rfl (hb hby own_d1_47) rfl ?_
          show Steps p.tables e below (T28.setTop (mkF m 48 #[.val (.int p_0), .val (.int (p_0 &&& (3 : Int32))), .val (.ref b7)] [(.int ((p_0.toUInt32 >>> ((6 : Int32) &&& 31).toUInt32).toInt32)), (.int (2 : Int32)), (.ref b7)])) _
          refine XS.iconst X28.here hx rfl (hb hby own_d1_48) ?_
          show Steps p.tables e below (T28.setTop (mkF m 49 #[.val (.int p_0), .val (.int (p_0 &&& (3 : Int32))), .val (.ref b7)] [(.int (3 : Int32)), (.int ((p_0.toUInt32 >>> ((6 : Int32) &&& 31).toUInt32).toInt32)), (.int (2 : Int32)), (.ref b7)])) _
          refine XS.iand X28.here hx rfl (hb hby own_d1_49) rfl ?_
          show Steps p.tables e below (T28.setTop (mkF m 50 #[.val (.int p_0), .val (.int (p_0 &&& (3 : Int32))), .val (.ref b7)] [(.int (((p_0.toUInt32 >>> ((6 : Int32) &&& 31).toUInt32).toInt32) &&& (3 : Int32))), (.int (2 : Int32)), (.ref b7)])) _
          refine XS.iconst X28.here hx rfl (hb hby own_d1_50) ?_
          show Steps p.tables e below (T28.setTop (mkF m 51 #[.val (.int p_0), .val (.int (p_0 &&& (3 : Int32))), .val (.ref b7)] [(.int (3 : Int32)), (.int (((p_0.toUInt32 >>> ((6 : Int32) &&& 31).toUInt32).toInt32) &&& (3 : Int32))), (.int (2 : Int32)), (.ref b7)])) _
          refine iremM X28 hx rfl (hb hby own_d1_51) rfl (by decide) ?_
          show Steps p.tables e below (T28.setTop (mkF m 52 #[.val (.int p_0), .val (.int (p_0 &&& (3 : Int32))), .val (.ref b7)] [(.int ((((p_0.toUInt32 >>> ((6 : Int32) &&& 31).toUInt32).toInt32) &&& (3 : Int32)) % (3 : Int32))), (.int (2 : Int32)), (.ref b7)])) _
          refine st95 _ ?_
          show Steps p.tables e below (T95.setTop (mkF m 53 #[.val (.int p_0), .val (.int (p_0 &&& (3 : Int32))), .val (.ref b7)] [])) _
          refine XS.aloadN X95.here hx rfl (hb hby own_d1_53) rfl rfl ?_
          show Steps p.tables e below (T95.setTop (mkF m 54 #[.val (.int p_0), .val (.int (p_0 &&& (3 : Int32))), .val (.ref b7)] [(.ref b7)])) _
          jvm_step X95.here [X95.here.top, hx, (hb hby own_d1_54), X95.method', Bd.returns, Value.isRef, FieldType.isReference]
          first | (intro acts; rw [hr _ acts rfl rfl rfl]) | rw [hr _ _ rfl rfl rfl]
          exact Steps.refl _
        · show Qown_slots Z p_0 h0 n0 _ T95.heap _
          rw [e95]
          exact ⟨b7, k7, rfl, N99, Sz9, Kc97, (own_cut3 Vm96 (own_and3 p_0).2 (fun q => rfl) (fun q => absurd q hc24_37) (fun q => rfl))⟩
      · obtain ⟨fs, hr, hrun, hended, hW, hsame⟩ := X28.leave (v := some (.ref b7)) (fun h => by rw [Bd.returns] at h; cases h) (hlocks := BodyLoose.notSynchronized Bd)
        refine ⟨_, _, pre82 _ ?_, hrun, hended, _, _, rfl, ?_, ⟨_, rfl⟩, hW, hsame.mono (by decide) (by decide)⟩
        · show Steps p.tables e below (T28.setTop (mkF m 39 #[.val (.int p_0), .val (.int (p_0 &&& (3 : Int32))), .val (.ref b7)] [(.int (2 : Int32)), (.int (p_0 &&& (3 : Int32)))])) _
          refine XS.icmpYes X28.here hx rfl (pc0 := 39) (pc' := 53) rfl (hb hby own_d1_39) rfl (flt hc39_83).2.2.2 (by decide) (by decide) ?_
          show Steps p.tables e below (T28.setTop (mkF m 53 #[.val (.int p_0), .val (.int (p_0 &&& (3 : Int32))), .val (.ref b7)] [])) _
          refine XS.aloadN X28.here hx rfl (hb hby own_d1_53) rfl rfl ?_
          show Steps p.tables e below (T28.setTop (mkF m 54 #[.val (.int p_0), .val (.int (p_0 &&& (3 : Int32))), .val (.ref b7)] [(.ref b7)])) _
          jvm_step X28.here [X28.here.top, hx, (hb hby own_d1_54), X28.method', Bd.returns, Value.isRef, FieldType.isReference]
          first | (intro acts; rw [hr _ acts rfl rfl rfl]) | rw [hr _ _ rfl rfl rfl]
          exact Steps.refl _
        · show Qown_slots Z p_0 h0 n0 _ T28.heap _
          rw [e28]
          exact ⟨b7, k7, rfl, N32, Sz9, Kc30, (own_cut3 Vm29 (own_and3 p_0).2 (fun q => rfl) (fun q => absurd q hc24_37) (fun q => absurd q hc39_83))⟩
  · have pre107 : ∀ t, Steps p.tables e below (T7.setTop (mkF m 24 #[.val (.int p_0), .val (.int (p_0 &&& (3 : Int32))), .val (.ref b7)] [(.int (1 : Int32)), (.int (p_0 &&& (3 : Int32)))])) t → Steps p.tables e below (s₁.setTop (entryFrame m #[(.int p_0)] 3)) t := by
      intro t kt
      refine pre15 _ ?_
      show Steps p.tables e below (T7.setTop (mkF m 9 #[.val (.int p_0), .val (.int (p_0 &&& (3 : Int32))), .val (.ref b7)] [(.int (p_0 &&& (3 : Int32)))])) _
      refine XS.ifYes X7.here hx rfl (pc0 := 9) (pc' := 22) rfl (hb hby own_d1_9) rfl ((if0 _ _).trans (flt hc9_16).2.2.2) (by decide) (by decide) ?_
      show Steps p.tables e below (T7.setTop (mkF m 22 #[.val (.int p_0), .val (.int (p_0 &&& (3 : Int32))), .val (.ref b7)] [])) _
      refine XS.iloadN X7.here hx rfl (hb hby own_d1_22) rfl ?_
      show Steps p.tables e below (T7.setTop (mkF m 23 #[.val (.int p_0), .val (.int (p_0 &&& (3 : Int32))), .val (.ref b7)] [(.int (p_0 &&& (3 : Int32)))])) _
      refine XS.iconst X7.here hx rfl (hb hby own_d1_23) ?_
      exact kt
    by_cases hc24_108 : (1 : Int32) < (p_0 &&& (3 : Int32))
    · obtain ⟨cl119, Ar119, q119, S119, M119, H119, G119⟩ := id V7
      have hin119 : ¬ ((1 : Int32) < 0 ∨ cl119.slots.size ≤ ((1 : Int32)).toNatClampNeg) := inb_of S119 ⟨by decide, hc24_108⟩
      obtain ⟨T120, h120, X120, e120, W120, st120⟩ := stI X7 hx hZ e7 Ar119 (j := (1 : Int32)) hin119 (g := (mkF m 36 #[.val (.int p_0), .val (.int (p_0 &&& (3 : Int32))), .val (.ref b7)] [(.int ((((p_0.toUInt32 >>> ((4 : Int32) &&& 31).toUInt32).toInt32) &&& (3 : Int32)) % (3 : Int32))), (.int (1 : Int32)), (.ref b7)])) rfl rfl (hb hby own_d1_36)
      have Kc122 : Keep h0 h120 [] := Kc10.wr W120 (Or.inr Sz9)
      have Zs123 : n0 ≤ h120.size := Nat.le_trans Zs11 (Keep.of_wr W120).1
      have N124 := Fr.snoc X120 N0 Ge8
      have Vm121 : Arv Z h120 b7 k7 .int (p_0 &&& (3 : Int32)) [(.int (0 : Int32)), (.int ((((p_0.toUInt32 >>> ((4 : Int32) &&& 31).toUInt32).toInt32) &&& (3 : Int32)) % (3 : Int32))), (.int (0 : Int32))] (.int (0 : Int32)) := Arv.set Ar119 q119 S119 M119 H119 G119 rfl W120 1 rfl (Nat.le_of_ble_eq_true rfl)
      have pre128 : ∀ t, Steps p.tables e below (T120.setTop (mkF m 39 #[.val (.int p_0), .val (.int (p_0 &&& (3 : Int32))), .val (.ref b7)] [(.int (2 : Int32)), (.int (p_0 &&& (3 : Int32)))])) t → Steps p.tables e below (s₁.setTop (entryFrame m #[(.int p_0)] 3)) t := by
        intro t kt
        refine pre107 _ ?_
        show Steps p.tables e below (T7.setTop (mkF m 24 #[.val (.int p_0), .val (.int (p_0 &&& (3 : Int32))), .val (.ref b7)] [(.int (1 : Int32)), (.int (p_0 &&& (3 : Int32)))])) _
        refine XS.icmpNo X7.here hx rfl (hb hby own_d1_24) rfl (tlt hc24_108).2.2.2 ?_
        show Steps p.tables e below (T7.setTop (mkF m 27 #[.val (.int p_0), .val (.int (p_0 &&& (3 : Int32))), .val (.ref b7)] [])) _
        refine XS.aloadN X7.here hx rfl (hb hby own_d1_27) rfl rfl ?_
        show Steps p.tables e below (T7.setTop (mkF m 28 #[.val (.int p_0), .val (.int (p_0 &&& (3 : Int32))), .val (.ref b7)] [(.ref b7)])) _
        refine XS.iconst X7.here hx rfl (hb hby own_d1_28) ?_
        show Steps p.tables e below (T7.setTop (mkF m 29 #[.val (.int p_0), .val (.int (p_0 &&& (3 : Int32))), .val (.ref b7)] [(.int (1 : Int32)), (.ref b7)])) _
        refine XS.iloadN X7.here hx rfl (hb hby own_d1_29) rfl ?_
        show Steps p.tables e below (T7.setTop (mkF m 30 #[.val (.int p_0), .val (.int (p_0 &&& (3 : Int32))), .val (.ref b7)] [(.int p_0), (.int (1 : Int32)), (.ref b7)])) _
        refine XS.iconst X7.here hx rfl (hb hby own_d1_30) ?_
        show Steps p.tables e below (T7.setTop (mkF m 31 #[.val (.int p_0), .val (.int (p_0 &&& (3 : Int32))), .val (.ref b7)] [(.int (4 : Int32)), (.int p_0), (.int (1 : Int32)), (.ref b7)])) _
        refine XS.iushr X7.here hx rfl (hb hby own_d1_31) rfl ?_
        show Steps p.tables e below (T7.setTop (mkF m 32 #[.val (.int p_0), .val (.int (p_0 &&& (3 : Int32))), .val (.ref b7)] [(.int ((p_0.toUInt32 >>> ((4 : Int32) &&& 31).toUInt32).toInt32)), (.int (1 : Int32)), (.ref b7)])) _
        refine XS.iconst X7.here hx rfl (hb hby own_d1_32) ?_
        show Steps p.tables e below (T7.setTop (mkF m 33 #[.val (.int p_0), .val (.int (p_0 &&& (3 : Int32))), .val (.ref b7)] [(.int (3 : Int32)), (.int ((p_0.toUInt32 >>> ((4 : Int32) &&& 31).toUInt32).toInt32)), (.int (1 : Int32)), (.ref b7)])) _
        refine XS.iand X7.here hx rfl (hb hby own_d1_33) rfl ?_
        show Steps p.tables e below (T7.setTop (mkF m 34 #[.val (.int p_0), .val (.int (p_0 &&& (3 : Int32))), .val (.ref b7)] [(.int (((p_0.toUInt32 >>> ((4 : Int32) &&& 31).toUInt32).toInt32) &&& (3 : Int32))), (.int (1 : Int32)), (.ref b7)])) _
        refine XS.iconst X7.here hx rfl (hb hby own_d1_34) ?_
        show Steps p.tables e below (T7.setTop (mkF m 35 #[.val (.int p_0), .val (.int (p_0 &&& (3 : Int32))), .val (.ref b7)] [(.int (3 : Int32)), (.int (((p_0.toUInt32 >>> ((4 : Int32) &&& 31).toUInt32).toInt32) &&& (3 : Int32))), (.int (1 : Int32)), (.ref b7)])) _
        refine iremM X7 hx rfl (hb hby own_d1_35) rfl (by decide) ?_
        show Steps p.tables e below (T7.setTop (mkF m 36 #[.val (.int p_0), .val (.int (p_0 &&& (3 : Int32))), .val (.ref b7)] [(.int ((((p_0.toUInt32 >>> ((4 : Int32) &&& 31).toUInt32).toInt32) &&& (3 : Int32)) % (3 : Int32))), (.int (1 : Int32)), (.ref b7)])) _
        refine st120 _ ?_
        show Steps p.tables e below (T120.setTop (mkF m 37 #[.val (.int p_0), .val (.int (p_0 &&& (3 : Int32))), .val (.ref b7)] [])) _
        refine XS.iloadN X120.here hx rfl (hb hby own_d1_37) rfl ?_
        show Steps p.tables e below (T120.setTop (mkF m 38 #[.val (.int p_0), .val (.int (p_0 &&& (3 : Int32))), .val (.ref b7)] [(.int (p_0 &&& (3 : Int32)))])) _
        refine XS.iconst X120.here hx rfl (hb hby own_d1_38) ?_
        exact kt
      by_cases hc39_129 : (2 : Int32) < (p_0 &&& (3 : Int32))
      · obtain ⟨cl140, Ar140, q140, S140, M140, H140, G140⟩ := id Vm121
        have hin140 : ¬ ((2 : Int32) < 0 ∨ cl140.slots.size ≤ ((2 : Int32)).toNatClampNeg) := inb_of S140 ⟨by decide, hc39_129⟩
        obtain ⟨T141, h141, X141, e141, W141, st141⟩ := stI X120 hx hZ e120 Ar140 (j := (2 : Int32)) hin140 (g := (mkF m 52 #[.val (.int p_0), .val (.int (p_0 &&& (3 : Int32))), .val (.ref b7)] [(.int ((((p_0.toUInt32 >>> ((6 : Int32) &&& 31).toUInt32).toInt32) &&& (3 : Int32)) % (3 : Int32))), (.int (2 : Int32)), (.ref b7)])) rfl rfl (hb hby own_d1_52)
        have Kc143 : Keep h0 h141 [] := Kc122.wr W141 (Or.inr Sz9)
        have Zs144 : n0 ≤ h141.size := Nat.le_trans Zs123 (Keep.of_wr W141).1
        have N145 := Fr.snoc X141 N124 Ge8
        have Vm142 : Arv Z h141 b7 k7 .int (p_0 &&& (3 : Int32)) [(.int (0 : Int32)), (.int ((((p_0.toUInt32 >>> ((4 : Int32) &&& 31).toUInt32).toInt32) &&& (3 : Int32)) % (3 : Int32))), (.int ((((p_0.toUInt32 >>> ((6 : Int32) &&& 31).toUInt32).toInt32) &&& (3 : Int32)) % (3 : Int32)))] (.int (0 : Int32)) := Arv.set Ar140 q140 S140 M140 H140 G140 rfl W141 2 rfl (Nat.le_of_ble_eq_true rfl)
        obtain ⟨fs, hr, hrun, hended, hW, hsame⟩ := X141.leave (v := some (.ref b7)) (fun h => by rw [Bd.returns] at h; cases h) (hlocks := BodyLoose.notSynchronized Bd)
        refine ⟨_, _, pre128 _ ?_, hrun, hended, _, _, rfl, ?_, ⟨_, rfl⟩, hW, hsame.mono (by decide) (by decide)⟩
        · show Steps p.tables e below (T120.setTop (mkF m 39 #[.val (.int p_0), .val (.int (p_0 &&& (3 : Int32))), .val (.ref b7)] [(.int (2 : Int32)), (.int (p_0 &&& (3 : Int32)))])) _
          refine XS.icmpNo X120.here hx rfl (hb hby own_d1_39) rfl (tlt hc39_129).2.2.2 ?_
          show Steps p.tables e below (T120.setTop (mkF m 42 #[.val (.int p_0), .val (.int (p_0 &&& (3 : Int32))), .val (.ref b7)] [])) _
          refine XS.aloadN X120.here hx rfl (hb hby own_d1_42) rfl rfl ?_
          show Steps p.tables e below (T120.setTop (mkF m 43 #[.val (.int p_0), .val (.int (p_0 &&& (3 : Int32))), .val (.ref b7)] [(.ref b7)])) _
          refine XS.iconst X120.here hx rfl (hb hby own_d1_43) ?_
          show Steps p.tables e below (T120.setTop (mkF m 44 #[.val (.int p_0), .val (.int (p_0 &&& (3 : Int32))), .val (.ref b7)] [(.int (2 : Int32)), (.ref b7)])) _
          refine XS.iloadN X120.here hx rfl (hb hby own_d1_44) rfl ?_
          show Steps p.tables e below (T120.setTop (mkF m 45 #[.val (.int p_0), .val (.int (p_0 &&& (3 : Int32))), .val (.ref b7)] [(.int p_0), (.int (2 : Int32)), (.ref b7)])) _
          refine XS.bipush X120.here hx rfl (hb hby own_d1_45) ?_
          show Steps p.tables e below (T120.setTop (mkF m 47 #[.val (.int p_0), .val (.int (p_0 &&& (3 : Int32))), .val (.ref b7)] [(.int (6 : Int32)), (.int p_0), (.int (2 : Int32)), (.ref b7)])) _
          refine XS.iushr X120.here hx rfl (hb hby own_d1_47) rfl ?_
          show Steps p.tables e below (T120.setTop (mkF m 48 #[.val (.int p_0), .val (.int (p_0 &&& (3 : Int32))), .val (.ref b7)] [(.int ((p_0.toUInt32 >>> ((6 : Int32) &&& 31).toUInt32).toInt32)), (.int (2 : Int32)), (.ref b7)])) _
          refine XS.iconst X120.here hx rfl (hb hby own_d1_48) ?_
          show Steps p.tables e below (T120.setTop (mkF m 49 #[.val (.int p_0), .val (.int (p_0 &&& (3 : Int32))), .val (.ref b7)] [(.int (3 : Int32)), (.int ((p_0.toUInt32 >>> ((6 : Int32) &&& 31).toUInt32).toInt32)), (.int (2 : Int32)), (.ref b7)])) _
          refine XS.iand X120.here hx rfl (hb hby own_d1_49) rfl ?_
          show Steps p.tables e below (T120.setTop (mkF m 50 #[.val (.int p_0), .val (.int (p_0 &&& (3 : Int32))), .val (.ref b7)] [(.int (((p_0.toUInt32 >>> ((6 : Int32) &&& 31).toUInt32).toInt32) &&& (3 : Int32))), (.int (2 : Int32)), (.ref b7)])) _
          refine XS.iconst X120.here hx rfl (hb hby own_d1_50) ?_
          show Steps p.tables e below (T120.setTop (mkF m 51 #[.val (.int p_0), .val (.int (p_0 &&& (3 : Int32))), .val (.ref b7)] [(.int (3 : Int32)), (.int (((p_0.toUInt32 >>> ((6 : Int32) &&& 31).toUInt32).toInt32) &&& (3 : Int32))), (.int (2 : Int32)), (.ref b7)])) _
          refine iremM X120 hx rfl (hb hby own_d1_51) rfl (by decide) ?_
          show Steps p.tables e below (T120.setTop (mkF m 52 #[.val (.int p_0), .val (.int (p_0 &&& (3 : Int32))), .val (.ref b7)] [(.int ((((p_0.toUInt32 >>> ((6 : Int32) &&& 31).toUInt32).toInt32) &&& (3 : Int32)) % (3 : Int32))), (.int (2 : Int32)), (.ref b7)])) _
          refine st141 _ ?_
          show Steps p.tables e below (T141.setTop (mkF m 53 #[.val (.int p_0), .val (.int (p_0 &&& (3 : Int32))), .val (.ref b7)] [])) _
          refine XS.aloadN X141.here hx rfl (hb hby own_d1_53) rfl rfl ?_
          show Steps p.tables e below (T141.setTop (mkF m 54 #[.val (.int p_0), .val (.int (p_0 &&& (3 : Int32))), .val (.ref b7)] [(.ref b7)])) _
          jvm_step X141.here [X141.here.top, hx, (hb hby own_d1_54), X141.method', Bd.returns, Value.isRef, FieldType.isReference]
          first | (intro acts; rw [hr _ acts rfl rfl rfl]) | rw [hr _ _ rfl rfl rfl]
          exact Steps.refl _
        · show Qown_slots Z p_0 h0 n0 _ T141.heap _
          rw [e141]
          exact ⟨b7, k7, rfl, N145, Sz9, Kc143, (own_cut3 Vm142 (own_and3 p_0).2 (fun q => absurd q hc9_16) (fun q => rfl) (fun q => rfl))⟩
      · obtain ⟨fs, hr, hrun, hended, hW, hsame⟩ := X120.leave (v := some (.ref b7)) (fun h => by rw [Bd.returns] at h; cases h) (hlocks := BodyLoose.notSynchronized Bd)
        refine ⟨_, _, pre128 _ ?_, hrun, hended, _, _, rfl, ?_, ⟨_, rfl⟩, hW, hsame.mono (by decide) (by decide)⟩
        · show Steps p.tables e below (T120.setTop (mkF m 39 #[.val (.int p_0), .val (.int (p_0 &&& (3 : Int32))), .val (.ref b7)] [(.int (2 : Int32)), (.int (p_0 &&& (3 : Int32)))])) _
          refine XS.icmpYes X120.here hx rfl (pc0 := 39) (pc' := 53) rfl (hb hby own_d1_39) rfl (flt hc39_129).2.2.2 (by decide) (by decide) ?_
          show Steps p.tables e below (T120.setTop (mkF m 53 #[.val (.int p_0), .val (.int (p_0 &&& (3 : Int32))), .val (.ref b7)] [])) _
          refine XS.aloadN X120.here hx rfl (hb hby own_d1_53) rfl rfl ?_
          show Steps p.tables e below (T120.setTop (mkF m 54 #[.val (.int p_0), .val (.int (p_0 &&& (3 : Int32))), .val (.ref b7)] [(.ref b7)])) _
          jvm_step X120.here [X120.here.top, hx, (hb hby own_d1_54), X120.method', Bd.returns, Value.isRef, FieldType.isReference]
          first | (intro acts; rw [hr _ acts rfl rfl rfl]) | rw [hr _ _ rfl rfl rfl]
          exact Steps.refl _
        · show Qown_slots Z p_0 h0 n0 _ T120.heap _
          rw [e120]
          exact ⟨b7, k7, rfl, N124, Sz9, Kc122, (own_cut3 Vm121 (own_and3 p_0).2 (fun q => absurd q hc9_16) (fun q => rfl) (fun q => absurd q hc39_129))⟩
    · have pre153 : ∀ t, Steps p.tables e below (T7.setTop (mkF m 39 #[.val (.int p_0), .val (.int (p_0 &&& (3 : Int32))), .val (.ref b7)] [(.int (2 : Int32)), (.int (p_0 &&& (3 : Int32)))])) t → Steps p.tables e below (s₁.setTop (entryFrame m #[(.int p_0)] 3)) t := by
        intro t kt
        refine pre107 _ ?_
        show Steps p.tables e below (T7.setTop (mkF m 24 #[.val (.int p_0), .val (.int (p_0 &&& (3 : Int32))), .val (.ref b7)] [(.int (1 : Int32)), (.int (p_0 &&& (3 : Int32)))])) _
        refine XS.icmpYes X7.here hx rfl (pc0 := 24) (pc' := 37) rfl (hb hby own_d1_24) rfl (flt hc24_108).2.2.2 (by decide) (by decide) ?_
        show Steps p.tables e below (T7.setTop (mkF m 37 #[.val (.int p_0), .val (.int (p_0 &&& (3 : Int32))), .val (.ref b7)] [])) _
        refine XS.iloadN X7.here hx rfl (hb hby own_d1_37) rfl ?_
        show Steps p.tables e below (T7.setTop (mkF m 38 #[.val (.int p_0), .val (.int (p_0 &&& (3 : Int32))), .val (.ref b7)] [(.int (p_0 &&& (3 : Int32)))])) _
        refine XS.iconst X7.here hx rfl (hb hby own_d1_38) ?_
        exact kt
      by_cases hc39_154 : (2 : Int32) < (p_0 &&& (3 : Int32))
      · obtain ⟨cl165, Ar165, q165, S165, M165, H165, G165⟩ := id V7
        have hin165 : ¬ ((2 : Int32) < 0 ∨ cl165.slots.size ≤ ((2 : Int32)).toNatClampNeg) := inb_of S165 ⟨by decide, hc39_154⟩
        obtain ⟨T166, h166, X166, e166, W166, st166⟩ := stI X7 hx hZ e7 Ar165 (j := (2 : Int32)) hin165 (g := (mkF m 52 #[.val (.int p_0), .val (.int (p_0 &&& (3 : Int32))), .val (.ref b7)] [(.int ((((p_0.toUInt32 >>> ((6 : Int32) &&& 31).toUInt32).toInt32) &&& (3 : Int32)) % (3 : Int32))), (.int (2 : Int32)), (.ref b7)])) rfl rfl (hb hby own_d1_52)
        have Kc168 : Keep h0 h166 [] := Kc10.wr W166 (Or.inr Sz9)
        have Zs169 : n0 ≤ h166.size := Nat.le_trans Zs11 (Keep.of_wr W166).1
        have N170 := Fr.snoc X166 N0 Ge8
        have Vm167 : Arv Z h166 b7 k7 .int (p_0 &&& (3 : Int32)) [(.int (0 : Int32)), (.int (0 : Int32)), (.int ((((p_0.toUInt32 >>> ((6 : Int32) &&& 31).toUInt32).toInt32) &&& (3 : Int32)) % (3 : Int32)))] (.int (0 : Int32)) := Arv.set Ar165 q165 S165 M165 H165 G165 rfl W166 2 rfl (Nat.le_of_ble_eq_true rfl)
        obtain ⟨fs, hr, hrun, hended, hW, hsame⟩ := X166.leave (v := some (.ref b7)) (fun h => by rw [Bd.returns] at h; cases h) (hlocks := BodyLoose.notSynchronized Bd)
        refine ⟨_, _, pre153 _ ?_, hrun, hended, _, _, rfl, ?_, ⟨_, rfl⟩, hW, hsame.mono (by decide) (by decide)⟩
        · show Steps p.tables e below (T7.setTop (mkF m 39 #[.val (.int p_0), .val (.int (p_0 &&& (3 : Int32))), .val (.ref b7)] [(.int (2 : Int32)), (.int (p_0 &&& (3 : Int32)))])) _
          refine XS.icmpNo X7.here hx rfl (hb hby own_d1_39) rfl (tlt hc39_154).2.2.2 ?_
          show Steps p.tables e below (T7.setTop (mkF m 42 #[.val (.int p_0), .val (.int (p_0 &&& (3 : Int32))), .val (.ref b7)] [])) _
          refine XS.aloadN X7.here hx rfl (hb hby own_d1_42) rfl rfl ?_
          show Steps p.tables e below (T7.setTop (mkF m 43 #[.val (.int p_0), .val (.int (p_0 &&& (3 : Int32))), .val (.ref b7)] [(.ref b7)])) _
          refine XS.iconst X7.here hx rfl (hb hby own_d1_43) ?_
          show Steps p.tables e below (T7.setTop (mkF m 44 #[.val (.int p_0), .val (.int (p_0 &&& (3 : Int32))), .val (.ref b7)] [(.int (2 : Int32)), (.ref b7)])) _
          refine XS.iloadN X7.here hx rfl (hb hby own_d1_44) rfl ?_
          show Steps p.tables e below (T7.setTop (mkF m 45 #[.val (.int p_0), .val (.int (p_0 &&& (3 : Int32))), .val (.ref b7)] [(.int p_0), (.int (2 : Int32)), (.ref b7)])) _
          refine XS.bipush X7.here hx rfl (hb hby own_d1_45) ?_
          show Steps p.tables e below (T7.setTop (mkF m 47 #[.val (.int p_0), .val (.int (p_0 &&& (3 : Int32))), .val (.ref b7)] [(.int (6 : Int32)), (.int p_0), (.int (2 : Int32)), (.ref b7)])) _
          refine XS.iushr X7.here hx rfl (hb hby own_d1_47) rfl ?_
          show Steps p.tables e below (T7.setTop (mkF m 48 #[.val (.int p_0), .val (.int (p_0 &&& (3 : Int32))), .val (.ref b7)] [(.int ((p_0.toUInt32 >>> ((6 : Int32) &&& 31).toUInt32).toInt32)), (.int (2 : Int32)), (.ref b7)])) _
          refine XS.iconst X7.here hx rfl (hb hby own_d1_48) ?_
          show Steps p.tables e below (T7.setTop (mkF m 49 #[.val (.int p_0), .val (.int (p_0 &&& (3 : Int32))), .val (.ref b7)] [(.int (3 : Int32)), (.int ((p_0.toUInt32 >>> ((6 : Int32) &&& 31).toUInt32).toInt32)), (.int (2 : Int32)), (.ref b7)])) _
          refine XS.iand X7.here hx rfl (hb hby own_d1_49) rfl ?_
          show Steps p.tables e below (T7.setTop (mkF m 50 #[.val (.int p_0), .val (.int (p_0 &&& (3 : Int32))), .val (.ref b7)] [(.int (((p_0.toUInt32 >>> ((6 : Int32) &&& 31).toUInt32).toInt32) &&& (3 : Int32))), (.int (2 : Int32)), (.ref b7)])) _
          refine XS.iconst X7.here hx rfl (hb hby own_d1_50) ?_
          show Steps p.tables e below (T7.setTop (mkF m 51 #[.val (.int p_0), .val (.int (p_0 &&& (3 : Int32))), .val (.ref b7)] [(.int (3 : Int32)), (.int (((p_0.toUInt32 >>> ((6 : Int32) &&& 31).toUInt32).toInt32) &&& (3 : Int32))), (.int (2 : Int32)), (.ref b7)])) _
          refine iremM X7 hx rfl (hb hby own_d1_51) rfl (by decide) ?_
          show Steps p.tables e below (T7.setTop (mkF m 52 #[.val (.int p_0), .val (.int (p_0 &&& (3 : Int32))), .val (.ref b7)] [(.int ((((p_0.toUInt32 >>> ((6 : Int32) &&& 31).toUInt32).toInt32) &&& (3 : Int32)) % (3 : Int32))), (.int (2 : Int32)), (.ref b7)])) _
          refine st166 _ ?_
          show Steps p.tables e below (T166.setTop (mkF m 53 #[.val (.int p_0), .val (.int (p_0 &&& (3 : Int32))), .val (.ref b7)] [])) _
          refine XS.aloadN X166.here hx rfl (hb hby own_d1_53) rfl rfl ?_
          show Steps p.tables e below (T166.setTop (mkF m 54 #[.val (.int p_0), .val (.int (p_0 &&& (3 : Int32))), .val (.ref b7)] [(.ref b7)])) _
          jvm_step X166.here [X166.here.top, hx, (hb hby own_d1_54), X166.method', Bd.returns, Value.isRef, FieldType.isReference]
          first | (intro acts; rw [hr _ acts rfl rfl rfl]) | rw [hr _ _ rfl rfl rfl]
          exact Steps.refl _
        · show Qown_slots Z p_0 h0 n0 _ T166.heap _
          rw [e166]
          exact ⟨b7, k7, rfl, N170, Sz9, Kc168, (own_cut3 Vm167 (own_and3 p_0).2 (fun q => absurd q hc9_16) (fun q => absurd q hc24_108) (fun q => rfl))⟩
      · obtain ⟨fs, hr, hrun, hended, hW, hsame⟩ := X7.leave (v := some (.ref b7)) (fun h => by rw [Bd.returns] at h; cases h) (hlocks := BodyLoose.notSynchronized Bd)
        refine ⟨_, _, pre153 _ ?_, hrun, hended, _, _, rfl, ?_, ⟨_, rfl⟩, hW, hsame.mono (by decide) (by decide)⟩
        · show Steps p.tables e below (T7.setTop (mkF m 39 #[.val (.int p_0), .val (.int (p_0 &&& (3 : Int32))), .val (.ref b7)] [(.int (2 : Int32)), (.int (p_0 &&& (3 : Int32)))])) _
          refine XS.icmpYes X7.here hx rfl (pc0 := 39) (pc' := 53) rfl (hb hby own_d1_39) rfl (flt hc39_154).2.2.2 (by decide) (by decide) ?_
          show Steps p.tables e below (T7.setTop (mkF m 53 #[.val (.int p_0), .val (.int (p_0 &&& (3 : Int32))), .val (.ref b7)] [])) _
          refine XS.aloadN X7.here hx rfl (hb hby own_d1_53) rfl rfl ?_
          show Steps p.tables e below (T7.setTop (mkF m 54 #[.val (.int p_0), .val (.int (p_0 &&& (3 : Int32))), .val (.ref b7)] [(.ref b7)])) _
          jvm_step X7.here [X7.here.top, hx, (hb hby own_d1_54), X7.method', Bd.returns, Value.isRef, FieldType.isReference]
          first | (intro acts; rw [hr _ acts rfl rfl rfl]) | rw [hr _ _ rfl rfl rfl]
          exact Steps.refl _
        · show Qown_slots Z p_0 h0 n0 _ T7.heap _
          rw [e7]
          exact ⟨b7, k7, rfl, N0, Sz9, Kc10, (own_cut3 V7 (own_and3 p_0).2 (fun q => absurd q hc9_16) (fun q => absurd q hc24_108) (fun q => absurd q hc39_154))⟩
theorem own_pn1 : plainName "com/example/fovea/fovea/Memory$Key" = true := by first | (simp [plainName, overriddenIn]; done) | decide +kernel
theorem own_ef_own_init (m : MethodId) (a_o : Addr) : entryFrame m #[(.ref a_o)] 1 = mkF m 0 #[.val (.ref a_o)] [] := by first | (simp [entryFrame, mkF, argsToLocals, Value.category]; done) | rfl
theorem own_d2_0 : decode prog_37_method_1_code 0 = .ok (.aload_n 0, 1) := by decide +kernel
theorem own_d2_1 : decode prog_37_method_1_code 1 = .ok (.invokespecial 1, 3) := by decide +kernel
theorem own_d2_4 : decode prog_37_method_1_code 4 = .ok (.return_, 1) := by decide +kernel
def Qown_init (Z : State) (a_o : Addr) (h0 : Heap) (n0 : Nat) (v : Option Value) (h : Heap) (L : List Loc) : Prop := v = none ∧ Fr n0 L ∧ h = h0
set_option maxRecDepth 65536 in
set_option maxHeartbeats 40000000 in
theorem own_init (l : Launch) (Z : State) (a0 : Array Value) (hw : ∀ d ∈ tables_1, d.before a0 Z = true) (ws : List Jvm.Cond) (a_o : Addr) (h0 : Heap) (n0 : Nat) (Z0 : n0 ≤ h0.size) :
    MetFree l (⟨"com/example/fovea/fovea/Memory$Key", "<init>", "()V"⟩ : MethodName) (head1 (Jvm.Cond.code (⟨"com/example/fovea/fovea/Memory$Key", "<init>", "()V"⟩ : MethodName) prog_37_method_1_code 1 none :: ws) ({ frames := 1, cells := 0, slots := 0, locals := 12 } : Room)) (fun a U => a = #[(.ref a_o)] ∧ Z.Warmed39 U.vm ∧ U.heap = h0) (fun _ _ _ _ _ => True) (fun _ U o U' => ∃ v L, o = .returned v ∧ Qown_init Z a_o h0 n0 v U'.heap L ∧ FrameEnd U o U' L ({ frames := 1, cells := 0, slots := 0, locals := 12 } : Room).cells ({ frames := 1, cells := 0, slots := 0, locals := 12 } : Room).slots) := by
  refine MetFree.of_bodySF (plainFor_of_name own_pn1) hisR ?_
  intro p e s m args below meth c s₁ Bd hml0 hP hK
  obtain ⟨rfl, hZ, hh⟩ := hP
  have hx := Bd.exec
  have hby := Bd.bytes
  have hml : c.maxLocals = 1 := hml0
  have hown : s.vm.findClass "com/example/fovea/fovea/Memory$Key" = some m.cls := findClass_of_methodNamed Bd.named
  have hnm := (name_of_methodNamed Bd.named Bd.method).1
  have X0 : Stand p l e ({ frames := 1, cells := 0, slots := 0, locals := 12 } : Room) s m #[(.ref a_o)] below meth c s₁ [] 0 0 := Stand.of_body Bd
  have e0 : s₁.heap = h0 := by rw [← hh, Bd.state]; rfl
  have N0 := Fr.nil n0
  have pre0 : ∀ t, Steps p.tables e below (s₁.setTop (mkF m 0 #[.val (.ref a_o)] [])) t → Steps p.tables e below (s₁.setTop (entryFrame m #[(.ref a_o)] 1)) t := fun t k => castTop (own_ef_own_init m a_o) k
  obtain ⟨T3, X3, e3, st3⟩ := initO X0 hx hZ hown (hw _ (List.mem_of_getElem? (i := 11) rfl)) (hw _ (List.mem_of_getElem? (i := 12) rfl)) (hw _ (List.mem_of_getElem? (i := 13) rfl)) e0 (g := (mkF m 1 #[.val (.ref a_o)] [(.ref a_o)])) rfl (by rw [hml]; rfl) rfl (hb hby own_d2_1) (by decide) (W := 0) (by show 2 * 0 + _ ≤ _; exact Nat.le_of_eq rfl) (by decide)
  obtain ⟨fs, hr, hrun, hended, hW, hsame⟩ := X3.leave (v := none) (fun _ => rfl) (hlocks := BodyLoose.notSynchronized Bd)
  refine ⟨_, _, pre0 _ ?_, hrun, hended, _, _, rfl, ?_, ⟨_, rfl⟩, hW, hsame.mono (by decide) (by decide)⟩
  · show Steps p.tables e below (s₁.setTop (mkF m 0 #[.val (.ref a_o)] [])) _
    refine XS.aloadN X0.here hx rfl (hb hby own_d2_0) rfl rfl ?_
    show Steps p.tables e below (s₁.setTop (mkF m 1 #[.val (.ref a_o)] [(.ref a_o)])) _
    refine st3 _ ?_
    show Steps p.tables e below (T3.setTop (mkF m 4 #[.val (.ref a_o)] [])) _
    exact X3.returnOut hx Bd.returns (hb hby own_d2_4) hr
  · show Qown_init Z a_o h0 n0 _ T3.heap _
    rw [e3]
    exact ⟨rfl, N0, rfl⟩
theorem own_ef_own_of (m : MethodId) (a_o : Addr) (e_o : Addr) (s_o : Addr) : entryFrame m #[(.ref a_o), (.ref e_o), (.ref s_o)] 8 = mkF m 0 #[.val (.ref a_o), .val (.ref e_o), .val (.ref s_o), .unset, .unset, .unset, .unset, .unset] [] := by first | (simp [entryFrame, mkF, argsToLocals, Value.category]; done) | rfl
theorem own_d4_0 : decode prog_37_method_2_code 0 = .ok (.aload_n 0, 1) := by decide +kernel
theorem own_d4_1 : decode prog_37_method_2_code 1 = .ok (.aload_n 1, 1) := by decide +kernel
theorem own_d4_2 : decode prog_37_method_2_code 2 = .ok (.putfield 7, 3) := by decide +kernel
theorem own_d4_5 : decode prog_37_method_2_code 5 = .ok (.aload_n 0, 1) := by decide +kernel
theorem own_d4_6 : decode prog_37_method_2_code 6 = .ok (.aload_n 2, 1) := by decide +kernel
theorem own_d4_7 : decode prog_37_method_2_code 7 = .ok (.putfield 13, 3) := by decide +kernel
theorem own_d4_10 : decode prog_37_method_2_code 10 = .ok (.iconst 1, 1) := by decide +kernel
theorem own_d4_11 : decode prog_37_method_2_code 11 = .ok (.istore_n 3, 1) := by decide +kernel
theorem own_d4_12 : decode prog_37_method_2_code 12 = .ok (.aload_n 2, 1) := by decide +kernel
theorem own_d4_13 : decode prog_37_method_2_code 13 = .ok (.astore 4, 2) := by decide +kernel
theorem own_d4_15 : decode prog_37_method_2_code 15 = .ok (.aload 4, 2) := by decide +kernel
theorem own_d4_17 : decode prog_37_method_2_code 17 = .ok (.arraylength, 1) := by decide +kernel
theorem own_d4_18 : decode prog_37_method_2_code 18 = .ok (.istore 5, 2) := by decide +kernel
theorem own_d4_20 : decode prog_37_method_2_code 20 = .ok (.iconst 0, 1) := by decide +kernel
theorem own_d4_21 : decode prog_37_method_2_code 21 = .ok (.istore 6, 2) := by decide +kernel
theorem own_d4_23 : decode prog_37_method_2_code 23 = .ok (.iload 6, 2) := by decide +kernel
theorem own_d4_25 : decode prog_37_method_2_code 25 = .ok (.iload 5, 2) := by decide +kernel
theorem own_d4_27 : decode prog_37_method_2_code 27 = .ok (.if_icmp .ge 26, 3) := by decide +kernel
theorem own_d4_30 : decode prog_37_method_2_code 30 = .ok (.aload 4, 2) := by decide +kernel
theorem own_d4_32 : decode prog_37_method_2_code 32 = .ok (.iload 6, 2) := by decide +kernel
theorem own_d4_34 : decode prog_37_method_2_code 34 = .ok (.iaload, 1) := by decide +kernel
theorem own_d4_35 : decode prog_37_method_2_code 35 = .ok (.istore 7, 2) := by decide +kernel
theorem own_d4_37 : decode prog_37_method_2_code 37 = .ok (.bipush 31, 2) := by decide +kernel
theorem own_d4_39 : decode prog_37_method_2_code 39 = .ok (.iload_n 3, 1) := by decide +kernel
theorem own_d4_40 : decode prog_37_method_2_code 40 = .ok (.imul, 1) := by decide +kernel
theorem own_d4_41 : decode prog_37_method_2_code 41 = .ok (.aload_n 1, 1) := by decide +kernel
theorem own_d4_42 : decode prog_37_method_2_code 42 = .ok (.iload 7, 2) := by decide +kernel
theorem own_d4_44 : decode prog_37_method_2_code 44 = .ok (.iaload, 1) := by decide +kernel
theorem own_d4_45 : decode prog_37_method_2_code 45 = .ok (.iadd, 1) := by decide +kernel
theorem own_d4_46 : decode prog_37_method_2_code 46 = .ok (.istore_n 3, 1) := by decide +kernel
theorem own_d4_47 : decode prog_37_method_2_code 47 = .ok (.iinc 6 1, 3) := by decide +kernel
theorem own_d4_50 : decode prog_37_method_2_code 50 = .ok (.goto (-27), 3) := by decide +kernel
theorem own_d4_53 : decode prog_37_method_2_code 53 = .ok (.aload_n 0, 1) := by decide +kernel
theorem own_d4_54 : decode prog_37_method_2_code 54 = .ok (.iload_n 3, 1) := by decide +kernel
theorem own_d4_55 : decode prog_37_method_2_code 55 = .ok (.putfield 16, 3) := by decide +kernel
theorem own_d4_58 : decode prog_37_method_2_code 58 = .ok (.aload_n 0, 1) := by decide +kernel
theorem own_d4_59 : decode prog_37_method_2_code 59 = .ok (.areturn, 1) := by decide +kernel
def own_of_f (n_1 : Int32) (x_0 : Int32) (x_1 : Int32) (x_2 : Int32) (s_0 : Int32) (s_1 : Int32) (s_2 : Int32) : Int32 := (if (0 : Int32) < n_1 then (if (1 : Int32) < n_1 then (if (2 : Int32) < n_1 then (((31 : Int32) * (((31 : Int32) * ((31 : Int32) + (own_sel x_0 x_1 x_2 s_0))) + (own_sel x_0 x_1 x_2 s_1))) + (own_sel x_0 x_1 x_2 s_2)) else (((31 : Int32) * ((31 : Int32) + (own_sel x_0 x_1 x_2 s_0))) + (own_sel x_0 x_1 x_2 s_1))) else ((31 : Int32) + (own_sel x_0 x_1 x_2 s_0))) else (1 : Int32))
def Qown_of (Z : State) (a_o : Addr) (e_o : Addr) (s_o : Addr) (k_e : ClassId) (k_s : ClassId) (u_e : Value) (u_s : Value) (u_h : Value) (n_1 : Int32) (x_0 : Int32) (x_1 : Int32) (x_2 : Int32) (s_0 : Int32) (s_1 : Int32) (s_2 : Int32) (h0 : Heap) (n0 : Nat) (v : Option Value) (h : Heap) (L : List Loc) : Prop := v = some (.ref a_o) ∧ Fr n0 L ∧ Keep h0 h [a_o] ∧ Exa Z h a_o "com/example/fovea/fovea/Memory$Key" ∧ Fld Z h a_o "com/example/fovea/fovea/Memory$Key" "entry" "[I" (.ref e_o) ∧ Fld Z h a_o "com/example/fovea/fovea/Memory$Key" "slots" "[I" (.ref s_o) ∧ Fld Z h a_o "com/example/fovea/fovea/Memory$Key" "hash" "I" (.int (own_of_f n_1 x_0 x_1 x_2 s_0 s_1 s_2))
set_option maxRecDepth 65536 in
set_option maxHeartbeats 40000000 in
theorem own_of (l : Launch) (Z : State) (a0 : Array Value) (hw : ∀ d ∈ tables_1, d.before a0 Z = true) (ws : List Jvm.Cond) (a_o : Addr) (e_o : Addr) (s_o : Addr) (k_e : ClassId) (k_s : ClassId) (u_e : Value) (u_s : Value) (u_h : Value) (n_1 : Int32) (x_0 : Int32) (x_1 : Int32) (x_2 : Int32) (s_0 : Int32) (s_1 : Int32) (s_2 : Int32) (h0 : Heap) (n0 : Nat) (Z0 : n0 ≤ h0.size) (Eo : Exa Z h0 a_o "com/example/fovea/fovea/Memory$Key") (F_e : Fld Z h0 a_o "com/example/fovea/fovea/Memory$Key" "entry" "[I" u_e) (F_s : Fld Z h0 a_o "com/example/fovea/fovea/Memory$Key" "slots" "[I" u_s) (F_h : Fld Z h0 a_o "com/example/fovea/fovea/Memory$Key" "hash" "I" u_h) (V_e : Arv Z h0 e_o k_e .int (3 : Int32) [(.int x_0), (.int x_1), (.int x_2)] (.int (0 : Int32))) (V_s : Arv Z h0 s_o k_s .int n_1 [(.int s_0), (.int s_1), (.int s_2)] (.int (0 : Int32))) (ga : n0 ≤ a_o) (n1 : e_o ≠ a_o) (n2 : s_o ≠ a_o) (hn : ¬ (3 : Int32) < n_1) (hb0 : ¬ s_0 < 0 ∧ s_0 < 3) (hb1 : ¬ s_1 < 0 ∧ s_1 < 3) (hb2 : ¬ s_2 < 0 ∧ s_2 < 3) :
    MetFree l (⟨"com/example/fovea/fovea/Memory$Key", "of", "([I[I)Lcom/example/fovea/fovea/Memory$Key;"⟩ : MethodName) (head1 (Jvm.Cond.code (⟨"com/example/fovea/fovea/Memory$Key", "of", "([I[I)Lcom/example/fovea/fovea/Memory$Key;"⟩ : MethodName) prog_37_method_2_code 8 (some (.object "com/example/fovea/fovea/Memory$Key")) :: ws) ({ frames := 0, cells := 0, slots := 0, locals := 0 } : Room)) (fun a U => a = #[(.ref a_o), (.ref e_o), (.ref s_o)] ∧ Z.Warmed39 U.vm ∧ U.heap = h0) (fun _ _ _ _ _ => True) (fun _ U o U' => ∃ v L, o = .returned v ∧ Qown_of Z a_o e_o s_o k_e k_s u_e u_s u_h n_1 x_0 x_1 x_2 s_0 s_1 s_2 h0 n0 v U'.heap L ∧ FrameEnd U o U' L ({ frames := 0, cells := 0, slots := 0, locals := 0 } : Room).cells ({ frames := 0, cells := 0, slots := 0, locals := 0 } : Room).slots) := by
  refine MetFree.of_bodySF (plainFor_of_name own_pn1) hisR ?_
  intro p e s m args below meth c s₁ Bd hml0 hP hK
  obtain ⟨rfl, hZ, hh⟩ := hP
  have hx := Bd.exec
  have hby := Bd.bytes
  have hml : c.maxLocals = 8 := hml0
  have hown : s.vm.findClass "com/example/fovea/fovea/Memory$Key" = some m.cls := findClass_of_methodNamed Bd.named
  have hnm := (name_of_methodNamed Bd.named Bd.method).1
  have X0 : Stand p l e ({ frames := 0, cells := 0, slots := 0, locals := 0 } : Room) s m #[(.ref a_o), (.ref e_o), (.ref s_o)] below meth c s₁ [] 0 0 := Stand.of_body Bd
  have e0 : s₁.heap = h0 := by rw [← hh, Bd.state]; rfl
  have N0 := Fr.nil n0
  have pre0 : ∀ t, Steps p.tables e below (s₁.setTop (mkF m 0 #[.val (.ref a_o), .val (.ref e_o), .val (.ref s_o), .unset, .unset, .unset, .unset, .unset] [])) t → Steps p.tables e below (s₁.setTop (entryFrame m #[(.ref a_o), (.ref e_o), (.ref s_o)] 8)) t := fun t k => castTop (own_ef_own_of m a_o e_o s_o) k
  obtain ⟨T4, h4, X4, e4, W4, st4⟩ := putF X0 hx hZ hown (host := "") (Or.inl (hw _ (List.mem_of_getElem? (i := 19) rfl))) Via.refl e0 F_e Eo (Or.inl (hw _ (List.mem_of_getElem? (i := 20) rfl))) (hw _ (List.mem_of_getElem? (i := 6) rfl)) (ty := (.array .int)) (by decide) rfl rfl (g := (mkF m 2 #[.val (.ref a_o), .val (.ref e_o), .val (.ref s_o), .unset, .unset, .unset, .unset, .unset] [(.ref e_o), (.ref a_o)])) rfl rfl (hb hby own_d4_2)
  have Kc5 : Keep h0 h4 [a_o] := (Keep.refl h0 [a_o]).wr W4 (Or.inl (List.mem_of_getElem? (i := 0) rfl))
  have Zs6 : n0 ≤ h4.size := Nat.le_trans Z0 (Keep.of_wr W4).1
  have N7 := Fr.snoc X4 N0 ga
  have Fw4 : Fld Z h4 a_o "com/example/fovea/fovea/Memory$Key" "entry" "[I" (.ref e_o) := F_e.same W4
  have Fq11 : Exa Z h4 a_o "com/example/fovea/fovea/Memory$Key" := (Eo.wr W4)
  have Fq12 : Fld Z h4 a_o "com/example/fovea/fovea/Memory$Key" "slots" "[I" u_s := (F_s.other W4 (Or.inr (slot_ne (Or.inl (hw _ (List.mem_of_getElem? (i := 22) rfl))) (Or.inl (hw _ (List.mem_of_getElem? (i := 20) rfl))) (by decide) (t := (.array .int)) (t' := (.array .int)) (by decide) (by decide))))
  obtain ⟨T13, h13, X13, e13, W13, st13⟩ := putF X4 hx hZ hown (host := "") (Or.inl (hw _ (List.mem_of_getElem? (i := 21) rfl))) Via.refl e4 Fq12 Fq11 (Or.inl (hw _ (List.mem_of_getElem? (i := 22) rfl))) (hw _ (List.mem_of_getElem? (i := 6) rfl)) (ty := (.array .int)) (by decide) rfl rfl (g := (mkF m 7 #[.val (.ref a_o), .val (.ref e_o), .val (.ref s_o), .unset, .unset, .unset, .unset, .unset] [(.ref s_o), (.ref a_o)])) rfl rfl (hb hby own_d4_7)
  have Kc14 : Keep h0 h13 [a_o] := Kc5.wr W13 (Or.inl (List.mem_of_getElem? (i := 0) rfl))
  have Zs15 : n0 ≤ h13.size := Nat.le_trans Zs6 (Keep.of_wr W13).1
  have N16 := Fr.snoc X13 N7 ga
  have Fw13 : Fld Z h13 a_o "com/example/fovea/fovea/Memory$Key" "slots" "[I" (.ref s_o) := Fq12.same W13
  have Fq23 : Arv Z h13 s_o k_s .int n_1 [(.int s_0), (.int s_1), (.int s_2)] (.int (0 : Int32)) := ((V_s.other W4 n2).other W13 n2)
  obtain ⟨cl24, Ar24, -, S24, M24, -, -⟩ := id Fq23
  have pre31 : ∀ t, Steps p.tables e below (T13.setTop (mkF m 27 #[.val (.ref a_o), .val (.ref e_o), .val (.ref s_o), .val (.int (1 : Int32)), .val (.ref s_o), .val (.int n_1), .val (.int (0 : Int32)), .unset] [(.int n_1), (.int (0 : Int32))])) t → Steps p.tables e below (s₁.setTop (entryFrame m #[(.ref a_o), (.ref e_o), (.ref s_o)] 8)) t := by
    intro t kt
    refine pre0 _ ?_
    show Steps p.tables e below (s₁.setTop (mkF m 0 #[.val (.ref a_o), .val (.ref e_o), .val (.ref s_o), .unset, .unset, .unset, .unset, .unset] [])) _
    refine XS.aloadN X0.here hx rfl (hb hby own_d4_0) rfl rfl ?_
    show Steps p.tables e below (s₁.setTop (mkF m 1 #[.val (.ref a_o), .val (.ref e_o), .val (.ref s_o), .unset, .unset, .unset, .unset, .unset] [(.ref a_o)])) _
    refine XS.aloadN X0.here hx rfl (hb hby own_d4_1) rfl rfl ?_
    show Steps p.tables e below (s₁.setTop (mkF m 2 #[.val (.ref a_o), .val (.ref e_o), .val (.ref s_o), .unset, .unset, .unset, .unset, .unset] [(.ref e_o), (.ref a_o)])) _
    refine st4 _ ?_
    show Steps p.tables e below (T4.setTop (mkF m 5 #[.val (.ref a_o), .val (.ref e_o), .val (.ref s_o), .unset, .unset, .unset, .unset, .unset] [])) _
    refine XS.aloadN X4.here hx rfl (hb hby own_d4_5) rfl rfl ?_
    show Steps p.tables e below (T4.setTop (mkF m 6 #[.val (.ref a_o), .val (.ref e_o), .val (.ref s_o), .unset, .unset, .unset, .unset, .unset] [(.ref a_o)])) _
    refine XS.aloadN X4.here hx rfl (hb hby own_d4_6) rfl rfl ?_
    show Steps p.tables e below (T4.setTop (mkF m 7 #[.val (.ref a_o), .val (.ref e_o), .val (.ref s_o), .unset, .unset, .unset, .unset, .unset] [(.ref s_o), (.ref a_o)])) _
    refine st13 _ ?_
    show Steps p.tables e below (T13.setTop (mkF m 10 #[.val (.ref a_o), .val (.ref e_o), .val (.ref s_o), .unset, .unset, .unset, .unset, .unset] [])) _
    refine XS.iconst X13.here hx rfl (hb hby own_d4_10) ?_
    show Steps p.tables e below (T13.setTop (mkF m 11 #[.val (.ref a_o), .val (.ref e_o), .val (.ref s_o), .unset, .unset, .unset, .unset, .unset] [(.int (1 : Int32))])) _
    refine XS.istoreN X13.here hx rfl (hb hby own_d4_11) rfl (l' := #[.val (.ref a_o), .val (.ref e_o), .val (.ref s_o), .val (.int (1 : Int32)), .unset, .unset, .unset, .unset]) rfl ?_
    show Steps p.tables e below (T13.setTop (mkF m 12 #[.val (.ref a_o), .val (.ref e_o), .val (.ref s_o), .val (.int (1 : Int32)), .unset, .unset, .unset, .unset] [])) _
    refine XS.aloadN X13.here hx rfl (hb hby own_d4_12) rfl rfl ?_
    show Steps p.tables e below (T13.setTop (mkF m 13 #[.val (.ref a_o), .val (.ref e_o), .val (.ref s_o), .val (.int (1 : Int32)), .unset, .unset, .unset, .unset] [(.ref s_o)])) _
    refine XS.astore X13.here hx rfl (hb hby own_d4_13) rfl rfl (l' := #[.val (.ref a_o), .val (.ref e_o), .val (.ref s_o), .val (.int (1 : Int32)), .val (.ref s_o), .unset, .unset, .unset]) rfl ?_
    show Steps p.tables e below (T13.setTop (mkF m 15 #[.val (.ref a_o), .val (.ref e_o), .val (.ref s_o), .val (.int (1 : Int32)), .val (.ref s_o), .unset, .unset, .unset] [])) _
    refine XS.aload X13.here hx rfl (hb hby own_d4_15) rfl rfl ?_
    show Steps p.tables e below (T13.setTop (mkF m 17 #[.val (.ref a_o), .val (.ref e_o), .val (.ref s_o), .val (.int (1 : Int32)), .val (.ref s_o), .unset, .unset, .unset] [(.ref s_o)])) _
    refine X13.arraylength hx (by rw [e13]; exact Ar24.1) (State.isArrayOf_alike hZ.alike Ar24.2.1) (g := (mkF m 17 #[.val (.ref a_o), .val (.ref e_o), .val (.ref s_o), .val (.int (1 : Int32)), .val (.ref s_o), .unset, .unset, .unset] [(.ref s_o)])) rfl rfl (hb hby own_d4_17) _ ?_
    rw [len_of S24 M24]
    show Steps p.tables e below (T13.setTop (mkF m 18 #[.val (.ref a_o), .val (.ref e_o), .val (.ref s_o), .val (.int (1 : Int32)), .val (.ref s_o), .unset, .unset, .unset] [(.int n_1)])) _
    refine XS.istore X13.here hx rfl (hb hby own_d4_18) rfl (l' := #[.val (.ref a_o), .val (.ref e_o), .val (.ref s_o), .val (.int (1 : Int32)), .val (.ref s_o), .val (.int n_1), .unset, .unset]) rfl ?_
    show Steps p.tables e below (T13.setTop (mkF m 20 #[.val (.ref a_o), .val (.ref e_o), .val (.ref s_o), .val (.int (1 : Int32)), .val (.ref s_o), .val (.int n_1), .unset, .unset] [])) _
    refine XS.iconst X13.here hx rfl (hb hby own_d4_20) ?_
    show Steps p.tables e below (T13.setTop (mkF m 21 #[.val (.ref a_o), .val (.ref e_o), .val (.ref s_o), .val (.int (1 : Int32)), .val (.ref s_o), .val (.int n_1), .unset, .unset] [(.int (0 : Int32))])) _
    refine XS.istore X13.here hx rfl (hb hby own_d4_21) rfl (l' := #[.val (.ref a_o), .val (.ref e_o), .val (.ref s_o), .val (.int (1 : Int32)), .val (.ref s_o), .val (.int n_1), .val (.int (0 : Int32)), .unset]) rfl ?_
    show Steps p.tables e below (T13.setTop (mkF m 23 #[.val (.ref a_o), .val (.ref e_o), .val (.ref s_o), .val (.int (1 : Int32)), .val (.ref s_o), .val (.int n_1), .val (.int (0 : Int32)), .unset] [])) _
    refine XS.iload X13.here hx rfl (hb hby own_d4_23) rfl ?_
    show Steps p.tables e below (T13.setTop (mkF m 25 #[.val (.ref a_o), .val (.ref e_o), .val (.ref s_o), .val (.int (1 : Int32)), .val (.ref s_o), .val (.int n_1), .val (.int (0 : Int32)), .unset] [(.int (0 : Int32))])) _
    refine XS.iload X13.here hx rfl (hb hby own_d4_25) rfl ?_
    exact kt
  by_cases hc27_32 : (0 : Int32) < n_1
  · obtain ⟨cl36, Ar36, q36, S36, M36, H36, G36⟩ := id Fq23
    have hin36 : ¬ ((0 : Int32) < 0 ∨ cl36.slots.size ≤ ((0 : Int32)).toNatClampNeg) := inb_of S36 ⟨by decide, hc27_32⟩
    have hat36 : cl36.slots[((0 : Int32)).toNatClampNeg]? = some (.int s_0) := H36.at hin36 rfl
    have Fq44 : Arv Z h13 e_o k_e .int (3 : Int32) [(.int x_0), (.int x_1), (.int x_2)] (.int (0 : Int32)) := ((V_e.other W4 n1).other W13 n1)
    obtain ⟨cl45, Ar45, q45, S45, M45, H45, G45⟩ := id Fq44
    have hin45 : ¬ (s_0 < 0 ∨ cl45.slots.size ≤ (s_0).toNatClampNeg) := inb_of S45 hb0
    have hat45 : cl45.slots[(s_0).toNatClampNeg]? = some (.int (own_sel x_0 x_1 x_2 s_0)) := H45.at hin45 (own_sel_get _ _ _ _ _ hb0)
    have pre53 : ∀ t, Steps p.tables e below (T13.setTop (mkF m 27 #[.val (.ref a_o), .val (.ref e_o), .val (.ref s_o), .val (.int ((31 : Int32) + (own_sel x_0 x_1 x_2 s_0))), .val (.ref s_o), .val (.int n_1), .val (.int (1 : Int32)), .val (.int s_0)] [(.int n_1), (.int (1 : Int32))])) t → Steps p.tables e below (s₁.setTop (entryFrame m #[(.ref a_o), (.ref e_o), (.ref s_o)] 8)) t := by
      intro t kt
      refine pre31 _ ?_
      show Steps p.tables e below (T13.setTop (mkF m 27 #[.val (.ref a_o), .val (.ref e_o), .val (.ref s_o), .val (.int (1 : Int32)), .val (.ref s_o), .val (.int n_1), .val (.int (0 : Int32)), .unset] [(.int n_1), (.int (0 : Int32))])) _
      refine XS.icmpNo X13.here hx rfl (hb hby own_d4_27) rfl (tlt hc27_32).2.1 ?_
      show Steps p.tables e below (T13.setTop (mkF m 30 #[.val (.ref a_o), .val (.ref e_o), .val (.ref s_o), .val (.int (1 : Int32)), .val (.ref s_o), .val (.int n_1), .val (.int (0 : Int32)), .unset] [])) _
      refine XS.aload X13.here hx rfl (hb hby own_d4_30) rfl rfl ?_
      show Steps p.tables e below (T13.setTop (mkF m 32 #[.val (.ref a_o), .val (.ref e_o), .val (.ref s_o), .val (.int (1 : Int32)), .val (.ref s_o), .val (.int n_1), .val (.int (0 : Int32)), .unset] [(.ref s_o)])) _
      refine XS.iload X13.here hx rfl (hb hby own_d4_32) rfl ?_
      show Steps p.tables e below (T13.setTop (mkF m 34 #[.val (.ref a_o), .val (.ref e_o), .val (.ref s_o), .val (.int (1 : Int32)), .val (.ref s_o), .val (.int n_1), .val (.int (0 : Int32)), .unset] [(.int (0 : Int32)), (.ref s_o)])) _
      refine X13.iaload hx (j := (0 : Int32)) (v := (.int s_0)) (by rw [e13]; exact Ar36.1) (State.isArrayOf_alike hZ.alike Ar36.2.1) Ar36.2.2 hin36 hat36 (g := (mkF m 34 #[.val (.ref a_o), .val (.ref e_o), .val (.ref s_o), .val (.int (1 : Int32)), .val (.ref s_o), .val (.int n_1), .val (.int (0 : Int32)), .unset] [(.int (0 : Int32)), (.ref s_o)])) rfl rfl (hb hby own_d4_34) _ ?_
      show Steps p.tables e below (T13.setTop (mkF m 35 #[.val (.ref a_o), .val (.ref e_o), .val (.ref s_o), .val (.int (1 : Int32)), .val (.ref s_o), .val (.int n_1), .val (.int (0 : Int32)), .unset] [(.int s_0)])) _
      refine XS.istore X13.here hx rfl (hb hby own_d4_35) rfl (l' := #[.val (.ref a_o), .val (.ref e_o), .val (.ref s_o), .val (.int (1 : Int32)), .val (.ref s_o), .val (.int n_1), .val (.int (0 : Int32)), .val (.int s_0)]) rfl ?_
      show Steps p.tables e below (T13.setTop (mkF m 37 #[.val (.ref a_o), .val (.ref e_o), .val (.ref s_o), .val (.int (1 : Int32)), .val (.ref s_o), .val (.int n_1), .val (.int (0 : Int32)), .val (.int s_0)] [])) _
      refine XS.bipush X13.here hx rfl (hb hby own_d4_37) ?_
      show Steps p.tables e below (T13.setTop (mkF m 39 #[.val (.ref a_o), .val (.ref e_o), .val (.ref s_o), .val (.int (1 : Int32)), .val (.ref s_o), .val (.int n_1), .val (.int (0 : Int32)), .val (.int s_0)] [(.int (31 : Int32))])) _
      refine XS.iloadN X13.here hx rfl (hb hby own_d4_39) rfl ?_
      show Steps p.tables e below (T13.setTop (mkF m 40 #[.val (.ref a_o), .val (.ref e_o), .val (.ref s_o), .val (.int (1 : Int32)), .val (.ref s_o), .val (.int n_1), .val (.int (0 : Int32)), .val (.int s_0)] [(.int (1 : Int32)), (.int (31 : Int32))])) _
      refine XS.imul X13.here hx rfl (hb hby own_d4_40) rfl ?_
      show Steps p.tables e below (T13.setTop (mkF m 41 #[.val (.ref a_o), .val (.ref e_o), .val (.ref s_o), .val (.int (1 : Int32)), .val (.ref s_o), .val (.int n_1), .val (.int (0 : Int32)), .val (.int s_0)] [(.int (31 : Int32))])) _
      refine XS.aloadN X13.here hx rfl (hb hby own_d4_41) rfl rfl ?_
      show Steps p.tables e below (T13.setTop (mkF m 42 #[.val (.ref a_o), .val (.ref e_o), .val (.ref s_o), .val (.int (1 : Int32)), .val (.ref s_o), .val (.int n_1), .val (.int (0 : Int32)), .val (.int s_0)] [(.ref e_o), (.int (31 : Int32))])) _
      refine XS.iload X13.here hx rfl (hb hby own_d4_42) rfl ?_
      show Steps p.tables e below (T13.setTop (mkF m 44 #[.val (.ref a_o), .val (.ref e_o), .val (.ref s_o), .val (.int (1 : Int32)), .val (.ref s_o), .val (.int n_1), .val (.int (0 : Int32)), .val (.int s_0)] [(.int s_0), (.ref e_o), (.int (31 : Int32))])) _
      refine X13.iaload hx (j := s_0) (v := (.int (own_sel x_0 x_1 x_2 s_0))) (by rw [e13]; exact Ar45.1) (State.isArrayOf_alike hZ.alike Ar45.2.1) Ar45.2.2 hin45 hat45 (g := (mkF m 44 #[.val (.ref a_o), .val (.ref e_o), .val (.ref s_o), .val (.int (1 : Int32)), .val (.ref s_o), .val (.int n_1), .val (.int (0 : Int32)), .val (.int s_0)] [(.int s_0), (.ref e_o), (.int (31 : Int32))])) rfl rfl (hb hby own_d4_44) _ ?_
      show Steps p.tables e below (T13.setTop (mkF m 45 #[.val (.ref a_o), .val (.ref e_o), .val (.ref s_o), .val (.int (1 : Int32)), .val (.ref s_o), .val (.int n_1), .val (.int (0 : Int32)), .val (.int s_0)] [(.int (own_sel x_0 x_1 x_2 s_0)), (.int (31 : Int32))])) _
      refine XS.iadd X13.here hx rfl (hb hby own_d4_45) rfl ?_
      show Steps p.tables e below (T13.setTop (mkF m 46 #[.val (.ref a_o), .val (.ref e_o), .val (.ref s_o), .val (.int (1 : Int32)), .val (.ref s_o), .val (.int n_1), .val (.int (0 : Int32)), .val (.int s_0)] [(.int ((31 : Int32) + (own_sel x_0 x_1 x_2 s_0)))])) _
      refine XS.istoreN X13.here hx rfl (hb hby own_d4_46) rfl (l' := #[.val (.ref a_o), .val (.ref e_o), .val (.ref s_o), .val (.int ((31 : Int32) + (own_sel x_0 x_1 x_2 s_0))), .val (.ref s_o), .val (.int n_1), .val (.int (0 : Int32)), .val (.int s_0)]) rfl ?_
      show Steps p.tables e below (T13.setTop (mkF m 47 #[.val (.ref a_o), .val (.ref e_o), .val (.ref s_o), .val (.int ((31 : Int32) + (own_sel x_0 x_1 x_2 s_0))), .val (.ref s_o), .val (.int n_1), .val (.int (0 : Int32)), .val (.int s_0)] [])) _
      refine XS.iinc X13.here hx rfl (hb hby own_d4_47) rfl (l' := #[.val (.ref a_o), .val (.ref e_o), .val (.ref s_o), .val (.int ((31 : Int32) + (own_sel x_0 x_1 x_2 s_0))), .val (.ref s_o), .val (.int n_1), .val (.int (1 : Int32)), .val (.int s_0)]) rfl ?_
      show Steps p.tables e below (T13.setTop (mkF m 50 #[.val (.ref a_o), .val (.ref e_o), .val (.ref s_o), .val (.int ((31 : Int32) + (own_sel x_0 x_1 x_2 s_0))), .val (.ref s_o), .val (.int n_1), .val (.int (1 : Int32)), .val (.int s_0)] [])) _
      refine XS.goto X13.here hx rfl (pc0 := 50) (pc' := 23) rfl (hb hby own_d4_50) (by decide) (by decide) ?_
      show Steps p.tables e below (T13.setTop (mkF m 23 #[.val (.ref a_o), .val (.ref e_o), .val (.ref s_o), .val (.int ((31 : Int32) + (own_sel x_0 x_1 x_2 s_0))), .val (.ref s_o), .val (.int n_1), .val (.int (1 : Int32)), .val (.int s_0)] [])) _
      refine XS.iload X13.here hx rfl (hb hby own_d4_23) rfl ?_
      show Steps p.tables e below (T13.setTop (mkF m 25 #[.val (.ref a_o), .val (.ref e_o), .val (.ref s_o), .val (.int ((31 : Int32) + (own_sel x_0 x_1 x_2 s_0))), .val (.ref s_o), .val (.int n_1), .val (.int (1 : Int32)), .val (.int s_0)] [(.int (1 : Int32))])) _
      refine XS.iload X13.here hx rfl (hb hby own_d4_25) rfl ?_
      exact kt
    by_cases hc27_54 : (1 : Int32) < n_1
    · obtain ⟨cl58, Ar58, q58, S58, M58, H58, G58⟩ := id Fq23
      have hin58 : ¬ ((1 : Int32) < 0 ∨ cl58.slots.size ≤ ((1 : Int32)).toNatClampNeg) := inb_of S58 ⟨by decide, hc27_54⟩
      have hat58 : cl58.slots[((1 : Int32)).toNatClampNeg]? = some (.int s_1) := H58.at hin58 rfl
      obtain ⟨cl66, Ar66, q66, S66, M66, H66, G66⟩ := id Fq44
      have hin66 : ¬ (s_1 < 0 ∨ cl66.slots.size ≤ (s_1).toNatClampNeg) := inb_of S66 hb1
      have hat66 : cl66.slots[(s_1).toNatClampNeg]? = some (.int (own_sel x_0 x_1 x_2 s_1)) := H66.at hin66 (own_sel_get _ _ _ _ _ hb1)
      have pre74 : ∀ t, Steps p.tables e below (T13.setTop (mkF m 27 #[.val (.ref a_o), .val (.ref e_o), .val (.ref s_o), .val (.int (((31 : Int32) * ((31 : Int32) + (own_sel x_0 x_1 x_2 s_0))) + (own_sel x_0 x_1 x_2 s_1))), .val (.ref s_o), .val (.int n_1), .val (.int (2 : Int32)), .val (.int s_1)] [(.int n_1), (.int (2 : Int32))])) t → Steps p.tables e below (s₁.setTop (entryFrame m #[(.ref a_o), (.ref e_o), (.ref s_o)] 8)) t := by
        intro t kt
        refine pre53 _ ?_
        show Steps p.tables e below (T13.setTop (mkF m 27 #[.val (.ref a_o), .val (.ref e_o), .val (.ref s_o), .val (.int ((31 : Int32) + (own_sel x_0 x_1 x_2 s_0))), .val (.ref s_o), .val (.int n_1), .val (.int (1 : Int32)), .val (.int s_0)] [(.int n_1), (.int (1 : Int32))])) _
        refine XS.icmpNo X13.here hx rfl (hb hby own_d4_27) rfl (tlt hc27_54).2.1 ?_
        show Steps p.tables e below (T13.setTop (mkF m 30 #[.val (.ref a_o), .val (.ref e_o), .val (.ref s_o), .val (.int ((31 : Int32) + (own_sel x_0 x_1 x_2 s_0))), .val (.ref s_o), .val (.int n_1), .val (.int (1 : Int32)), .val (.int s_0)] [])) _
        refine XS.aload X13.here hx rfl (hb hby own_d4_30) rfl rfl ?_
        show Steps p.tables e below (T13.setTop (mkF m 32 #[.val (.ref a_o), .val (.ref e_o), .val (.ref s_o), .val (.int ((31 : Int32) + (own_sel x_0 x_1 x_2 s_0))), .val (.ref s_o), .val (.int n_1), .val (.int (1 : Int32)), .val (.int s_0)] [(.ref s_o)])) _
        refine XS.iload X13.here hx rfl (hb hby own_d4_32) rfl ?_
        show Steps p.tables e below (T13.setTop (mkF m 34 #[.val (.ref a_o), .val (.ref e_o), .val (.ref s_o), .val (.int ((31 : Int32) + (own_sel x_0 x_1 x_2 s_0))), .val (.ref s_o), .val (.int n_1), .val (.int (1 : Int32)), .val (.int s_0)] [(.int (1 : Int32)), (.ref s_o)])) _
        refine X13.iaload hx (j := (1 : Int32)) (v := (.int s_1)) (by rw [e13]; exact Ar58.1) (State.isArrayOf_alike hZ.alike Ar58.2.1) Ar58.2.2 hin58 hat58 (g := (mkF m 34 #[.val (.ref a_o), .val (.ref e_o), .val (.ref s_o), .val (.int ((31 : Int32) + (own_sel x_0 x_1 x_2 s_0))), .val (.ref s_o), .val (.int n_1), .val (.int (1 : Int32)), .val (.int s_0)] [(.int (1 : Int32)), (.ref s_o)])) rfl rfl (hb hby own_d4_34) _ ?_
        show Steps p.tables e below (T13.setTop (mkF m 35 #[.val (.ref a_o), .val (.ref e_o), .val (.ref s_o), .val (.int ((31 : Int32) + (own_sel x_0 x_1 x_2 s_0))), .val (.ref s_o), .val (.int n_1), .val (.int (1 : Int32)), .val (.int s_0)] [(.int s_1)])) _
        refine XS.istore X13.here hx rfl (hb hby own_d4_35) rfl (l' := #[.val (.ref a_o), .val (.ref e_o), .val (.ref s_o), .val (.int ((31 : Int32) + (own_sel x_0 x_1 x_2 s_0))), .val (.ref s_o), .val (.int n_1), .val (.int (1 : Int32)), .val (.int s_1)]) rfl ?_
        show Steps p.tables e below (T13.setTop (mkF m 37 #[.val (.ref a_o), .val (.ref e_o), .val (.ref s_o), .val (.int ((31 : Int32) + (own_sel x_0 x_1 x_2 s_0))), .val (.ref s_o), .val (.int n_1), .val (.int (1 : Int32)), .val (.int s_1)] [])) _
        refine XS.bipush X13.here hx rfl (hb hby own_d4_37) ?_
        show Steps p.tables e below (T13.setTop (mkF m 39 #[.val (.ref a_o), .val (.ref e_o), .val (.ref s_o), .val (.int ((31 : Int32) + (own_sel x_0 x_1 x_2 s_0))), .val (.ref s_o), .val (.int n_1), .val (.int (1 : Int32)), .val (.int s_1)] [(.int (31 : Int32))])) _
        refine XS.iloadN X13.here hx rfl (hb hby own_d4_39) rfl ?_
        show Steps p.tables e below (T13.setTop (mkF m 40 #[.val (.ref a_o), .val (.ref e_o), .val (.ref s_o), .val (.int ((31 : Int32) + (own_sel x_0 x_1 x_2 s_0))), .val (.ref s_o), .val (.int n_1), .val (.int (1 : Int32)), .val (.int s_1)] [(.int ((31 : Int32) + (own_sel x_0 x_1 x_2 s_0))), (.int (31 : Int32))])) _
        refine XS.imul X13.here hx rfl (hb hby own_d4_40) rfl ?_
        show Steps p.tables e below (T13.setTop (mkF m 41 #[.val (.ref a_o), .val (.ref e_o), .val (.ref s_o), .val (.int ((31 : Int32) + (own_sel x_0 x_1 x_2 s_0))), .val (.ref s_o), .val (.int n_1), .val (.int (1 : Int32)), .val (.int s_1)] [(.int ((31 : Int32) * ((31 : Int32) + (own_sel x_0 x_1 x_2 s_0))))])) _
        refine XS.aloadN X13.here hx rfl (hb hby own_d4_41) rfl rfl ?_
        show Steps p.tables e below (T13.setTop (mkF m 42 #[.val (.ref a_o), .val (.ref e_o), .val (.ref s_o), .val (.int ((31 : Int32) + (own_sel x_0 x_1 x_2 s_0))), .val (.ref s_o), .val (.int n_1), .val (.int (1 : Int32)), .val (.int s_1)] [(.ref e_o), (.int ((31 : Int32) * ((31 : Int32) + (own_sel x_0 x_1 x_2 s_0))))])) _
        refine XS.iload X13.here hx rfl (hb hby own_d4_42) rfl ?_
        show Steps p.tables e below (T13.setTop (mkF m 44 #[.val (.ref a_o), .val (.ref e_o), .val (.ref s_o), .val (.int ((31 : Int32) + (own_sel x_0 x_1 x_2 s_0))), .val (.ref s_o), .val (.int n_1), .val (.int (1 : Int32)), .val (.int s_1)] [(.int s_1), (.ref e_o), (.int ((31 : Int32) * ((31 : Int32) + (own_sel x_0 x_1 x_2 s_0))))])) _
        refine X13.iaload hx (j := s_1) (v := (.int (own_sel x_0 x_1 x_2 s_1))) (by rw [e13]; exact Ar66.1) (State.isArrayOf_alike hZ.alike Ar66.2.1) Ar66.2.2 hin66 hat66 (g := (mkF m 44 #[.val (.ref a_o), .val (.ref e_o), .val (.ref s_o), .val (.int ((31 : Int32) + (own_sel x_0 x_1 x_2 s_0))), .val (.ref s_o), .val (.int n_1), .val (.int (1 : Int32)), .val (.int s_1)] [(.int s_1), (.ref e_o), (.int ((31 : Int32) * ((31 : Int32) + (own_sel x_0 x_1 x_2 s_0))))])) rfl rfl (hb hby own_d4_44) _ ?_
        show Steps p.tables e below (T13.setTop (mkF m 45 #[.val (.ref a_o), .val (.ref e_o), .val (.ref s_o), .val (.int ((31 : Int32) + (own_sel x_0 x_1 x_2 s_0))), .val (.ref s_o), .val (.int n_1), .val (.int (1 : Int32)), .val (.int s_1)] [(.int (own_sel x_0 x_1 x_2 s_1)), (.int ((31 : Int32) * ((31 : Int32) + (own_sel x_0 x_1 x_2 s_0))))])) _
        refine XS.iadd X13.here hx rfl (hb hby own_d4_45) rfl ?_
        show Steps p.tables e below (T13.setTop (mkF m 46 #[.val (.ref a_o), .val (.ref e_o), .val (.ref s_o), .val (.int ((31 : Int32) + (own_sel x_0 x_1 x_2 s_0))), .val (.ref s_o), .val (.int n_1), .val (.int (1 : Int32)), .val (.int s_1)] [(.int (((31 : Int32) * ((31 : Int32) + (own_sel x_0 x_1 x_2 s_0))) + (own_sel x_0 x_1 x_2 s_1)))])) _
        refine XS.istoreN X13.here hx rfl (hb hby own_d4_46) rfl (l' := #[.val (.ref a_o), .val (.ref e_o), .val (.ref s_o), .val (.int (((31 : Int32) * ((31 : Int32) + (own_sel x_0 x_1 x_2 s_0))) + (own_sel x_0 x_1 x_2 s_1))), .val (.ref s_o), .val (.int n_1), .val (.int (1 : Int32)), .val (.int s_1)]) rfl ?_
        show Steps p.tables e below (T13.setTop (mkF m 47 #[.val (.ref a_o), .val (.ref e_o), .val (.ref s_o), .val (.int (((31 : Int32) * ((31 : Int32) + (own_sel x_0 x_1 x_2 s_0))) + (own_sel x_0 x_1 x_2 s_1))), .val (.ref s_o), .val (.int n_1), .val (.int (1 : Int32)), .val (.int s_1)] [])) _
        refine XS.iinc X13.here hx rfl (hb hby own_d4_47) rfl (l' := #[.val (.ref a_o), .val (.ref e_o), .val (.ref s_o), .val (.int (((31 : Int32) * ((31 : Int32) + (own_sel x_0 x_1 x_2 s_0))) + (own_sel x_0 x_1 x_2 s_1))), .val (.ref s_o), .val (.int n_1), .val (.int (2 : Int32)), .val (.int s_1)]) rfl ?_
        show Steps p.tables e below (T13.setTop (mkF m 50 #[.val (.ref a_o), .val (.ref e_o), .val (.ref s_o), .val (.int (((31 : Int32) * ((31 : Int32) + (own_sel x_0 x_1 x_2 s_0))) + (own_sel x_0 x_1 x_2 s_1))), .val (.ref s_o), .val (.int n_1), .val (.int (2 : Int32)), .val (.int s_1)] [])) _
        refine XS.goto X13.here hx rfl (pc0 := 50) (pc' := 23) rfl (hb hby own_d4_50) (by decide) (by decide) ?_
        show Steps p.tables e below (T13.setTop (mkF m 23 #[.val (.ref a_o), .val (.ref e_o), .val (.ref s_o), .val (.int (((31 : Int32) * ((31 : Int32) + (own_sel x_0 x_1 x_2 s_0))) + (own_sel x_0 x_1 x_2 s_1))), .val (.ref s_o), .val (.int n_1), .val (.int (2 : Int32)), .val (.int s_1)] [])) _
        refine XS.iload X13.here hx rfl (hb hby own_d4_23) rfl ?_
        show Steps p.tables e below (T13.setTop (mkF m 25 #[.val (.ref a_o), .val (.ref e_o), .val (.ref s_o), .val (.int (((31 : Int32) * ((31 : Int32) + (own_sel x_0 x_1 x_2 s_0))) + (own_sel x_0 x_1 x_2 s_1))), .val (.ref s_o), .val (.int n_1), .val (.int (2 : Int32)), .val (.int s_1)] [(.int (2 : Int32))])) _
        refine XS.iload X13.here hx rfl (hb hby own_d4_25) rfl ?_
        exact kt
      by_cases hc27_75 : (2 : Int32) < n_1
      · obtain ⟨cl79, Ar79, q79, S79, M79, H79, G79⟩ := id Fq23
        have hin79 : ¬ ((2 : Int32) < 0 ∨ cl79.slots.size ≤ ((2 : Int32)).toNatClampNeg) := inb_of S79 ⟨by decide, hc27_75⟩
        have hat79 : cl79.slots[((2 : Int32)).toNatClampNeg]? = some (.int s_2) := H79.at hin79 rfl
        obtain ⟨cl87, Ar87, q87, S87, M87, H87, G87⟩ := id Fq44
        have hin87 : ¬ (s_2 < 0 ∨ cl87.slots.size ≤ (s_2).toNatClampNeg) := inb_of S87 hb2
        have hat87 : cl87.slots[(s_2).toNatClampNeg]? = some (.int (own_sel x_0 x_1 x_2 s_2)) := H87.at hin87 (own_sel_get _ _ _ _ _ hb2)
        have Fq98 : Exa Z h13 a_o "com/example/fovea/fovea/Memory$Key" := (Fq11.wr W13)
        have Fq99 : Fld Z h13 a_o "com/example/fovea/fovea/Memory$Key" "hash" "I" u_h := ((F_h.other W4 (Or.inr (slot_ne (Or.inl (hw _ (List.mem_of_getElem? (i := 24) rfl))) (Or.inl (hw _ (List.mem_of_getElem? (i := 20) rfl))) (by decide) (t := .int) (t' := (.array .int)) (by decide) (by decide)))).other W13 (Or.inr (slot_ne (Or.inl (hw _ (List.mem_of_getElem? (i := 24) rfl))) (Or.inl (hw _ (List.mem_of_getElem? (i := 22) rfl))) (by decide) (t := .int) (t' := (.array .int)) (by decide) (by decide))))
        obtain ⟨T100, h100, X100, e100, W100, st100⟩ := putF X13 hx hZ hown (host := "") (Or.inl (hw _ (List.mem_of_getElem? (i := 23) rfl))) Via.refl e13 Fq99 Fq98 (Or.inl (hw _ (List.mem_of_getElem? (i := 24) rfl))) (hw _ (List.mem_of_getElem? (i := 6) rfl)) (ty := .int) (by decide) rfl rfl (g := (mkF m 55 #[.val (.ref a_o), .val (.ref e_o), .val (.ref s_o), .val (.int (((31 : Int32) * (((31 : Int32) * ((31 : Int32) + (own_sel x_0 x_1 x_2 s_0))) + (own_sel x_0 x_1 x_2 s_1))) + (own_sel x_0 x_1 x_2 s_2))), .val (.ref s_o), .val (.int n_1), .val (.int (3 : Int32)), .val (.int s_2)] [(.int (((31 : Int32) * (((31 : Int32) * ((31 : Int32) + (own_sel x_0 x_1 x_2 s_0))) + (own_sel x_0 x_1 x_2 s_1))) + (own_sel x_0 x_1 x_2 s_2))), (.ref a_o)])) rfl rfl (hb hby own_d4_55)
        have Kc101 : Keep h0 h100 [a_o] := Kc14.wr W100 (Or.inl (List.mem_of_getElem? (i := 0) rfl))
        have Zs102 : n0 ≤ h100.size := Nat.le_trans Zs15 (Keep.of_wr W100).1
        have N103 := Fr.snoc X100 N16 ga
        have Fw100 : Fld Z h100 a_o "com/example/fovea/fovea/Memory$Key" "hash" "I" (.int (((31 : Int32) * (((31 : Int32) * ((31 : Int32) + (own_sel x_0 x_1 x_2 s_0))) + (own_sel x_0 x_1 x_2 s_1))) + (own_sel x_0 x_1 x_2 s_2))) := Fq99.same W100
        obtain ⟨fs, hr, hrun, hended, hW, hsame⟩ := X100.leave (v := some (.ref a_o)) (fun h => by rw [Bd.returns] at h; cases h) (hlocks := BodyLoose.notSynchronized Bd)
        refine ⟨_, _, pre74 _ ?_, hrun, hended, _, _, rfl, ?_, ⟨_, rfl⟩, hW, hsame.mono (by decide) (by decide)⟩
        · show Steps p.tables e below (T13.setTop (mkF m 27 #[.val (.ref a_o), .val (.ref e_o), .val (.ref s_o), .val (.int (((31 : Int32) * ((31 : Int32) + (own_sel x_0 x_1 x_2 s_0))) + (own_sel x_0 x_1 x_2 s_1))), .val (.ref s_o), .val (.int n_1), .val (.int (2 : Int32)), .val (.int s_1)] [(.int n_1), (.int (2 : Int32))])) _
          refine XS.icmpNo X13.here hx rfl (hb hby own_d4_27) rfl (tlt hc27_75).2.1 ?_
          show Steps p.tables e below (T13.setTop (mkF m 30 #[.val (.ref a_o), .val (.ref e_o), .val (.ref s_o), .val (.int (((31 : Int32) * ((31 : Int32) + (own_sel x_0 x_1 x_2 s_0))) + (own_sel x_0 x_1 x_2 s_1))), .val (.ref s_o), .val (.int n_1), .val (.int (2 : Int32)), .val (.int s_1)] [])) _
          refine XS.aload X13.here hx rfl (hb hby own_d4_30) rfl rfl ?_
          show Steps p.tables e below (T13.setTop (mkF m 32 #[.val (.ref a_o), .val (.ref e_o), .val (.ref s_o), .val (.int (((31 : Int32) * ((31 : Int32) + (own_sel x_0 x_1 x_2 s_0))) + (own_sel x_0 x_1 x_2 s_1))), .val (.ref s_o), .val (.int n_1), .val (.int (2 : Int32)), .val (.int s_1)] [(.ref s_o)])) _
          refine XS.iload X13.here hx rfl (hb hby own_d4_32) rfl ?_
          show Steps p.tables e below (T13.setTop (mkF m 34 #[.val (.ref a_o), .val (.ref e_o), .val (.ref s_o), .val (.int (((31 : Int32) * ((31 : Int32) + (own_sel x_0 x_1 x_2 s_0))) + (own_sel x_0 x_1 x_2 s_1))), .val (.ref s_o), .val (.int n_1), .val (.int (2 : Int32)), .val (.int s_1)] [(.int (2 : Int32)), (.ref s_o)])) _
          refine X13.iaload hx (j := (2 : Int32)) (v := (.int s_2)) (by rw [e13]; exact Ar79.1) (State.isArrayOf_alike hZ.alike Ar79.2.1) Ar79.2.2 hin79 hat79 (g := (mkF m 34 #[.val (.ref a_o), .val (.ref e_o), .val (.ref s_o), .val (.int (((31 : Int32) * ((31 : Int32) + (own_sel x_0 x_1 x_2 s_0))) + (own_sel x_0 x_1 x_2 s_1))), .val (.ref s_o), .val (.int n_1), .val (.int (2 : Int32)), .val (.int s_1)] [(.int (2 : Int32)), (.ref s_o)])) rfl rfl (hb hby own_d4_34) _ ?_
          show Steps p.tables e below (T13.setTop (mkF m 35 #[.val (.ref a_o), .val (.ref e_o), .val (.ref s_o), .val (.int (((31 : Int32) * ((31 : Int32) + (own_sel x_0 x_1 x_2 s_0))) + (own_sel x_0 x_1 x_2 s_1))), .val (.ref s_o), .val (.int n_1), .val (.int (2 : Int32)), .val (.int s_1)] [(.int s_2)])) _
          refine XS.istore X13.here hx rfl (hb hby own_d4_35) rfl (l' := #[.val (.ref a_o), .val (.ref e_o), .val (.ref s_o), .val (.int (((31 : Int32) * ((31 : Int32) + (own_sel x_0 x_1 x_2 s_0))) + (own_sel x_0 x_1 x_2 s_1))), .val (.ref s_o), .val (.int n_1), .val (.int (2 : Int32)), .val (.int s_2)]) rfl ?_
          show Steps p.tables e below (T13.setTop (mkF m 37 #[.val (.ref a_o), .val (.ref e_o), .val (.ref s_o), .val (.int (((31 : Int32) * ((31 : Int32) + (own_sel x_0 x_1 x_2 s_0))) + (own_sel x_0 x_1 x_2 s_1))), .val (.ref s_o), .val (.int n_1), .val (.int (2 : Int32)), .val (.int s_2)] [])) _
          refine XS.bipush X13.here hx rfl (hb hby own_d4_37) ?_
          show Steps p.tables e below (T13.setTop (mkF m 39 #[.val (.ref a_o), .val (.ref e_o), .val (.ref s_o), .val (.int (((31 : Int32) * ((31 : Int32) + (own_sel x_0 x_1 x_2 s_0))) + (own_sel x_0 x_1 x_2 s_1))), .val (.ref s_o), .val (.int n_1), .val (.int (2 : Int32)), .val (.int s_2)] [(.int (31 : Int32))])) _
          refine XS.iloadN X13.here hx rfl (hb hby own_d4_39) rfl ?_
          show Steps p.tables e below (T13.setTop (mkF m 40 #[.val (.ref a_o), .val (.ref e_o), .val (.ref s_o), .val (.int (((31 : Int32) * ((31 : Int32) + (own_sel x_0 x_1 x_2 s_0))) + (own_sel x_0 x_1 x_2 s_1))), .val (.ref s_o), .val (.int n_1), .val (.int (2 : Int32)), .val (.int s_2)] [(.int (((31 : Int32) * ((31 : Int32) + (own_sel x_0 x_1 x_2 s_0))) + (own_sel x_0 x_1 x_2 s_1))), (.int (31 : Int32))])) _
          refine XS.imul X13.here hx rfl (hb hby own_d4_40) rfl ?_
          show Steps p.tables e below (T13.setTop (mkF m 41 #[.val (.ref a_o), .val (.ref e_o), .val (.ref s_o), .val (.int (((31 : Int32) * ((31 : Int32) + (own_sel x_0 x_1 x_2 s_0))) + (own_sel x_0 x_1 x_2 s_1))), .val (.ref s_o), .val (.int n_1), .val (.int (2 : Int32)), .val (.int s_2)] [(.int ((31 : Int32) * (((31 : Int32) * ((31 : Int32) + (own_sel x_0 x_1 x_2 s_0))) + (own_sel x_0 x_1 x_2 s_1))))])) _
          refine XS.aloadN X13.here hx rfl (hb hby own_d4_41) rfl rfl ?_
          show Steps p.tables e below (T13.setTop (mkF m 42 #[.val (.ref a_o), .val (.ref e_o), .val (.ref s_o), .val (.int (((31 : Int32) * ((31 : Int32) + (own_sel x_0 x_1 x_2 s_0))) + (own_sel x_0 x_1 x_2 s_1))), .val (.ref s_o), .val (.int n_1), .val (.int (2 : Int32)), .val (.int s_2)] [(.ref e_o), (.int ((31 : Int32) * (((31 : Int32) * ((31 : Int32) + (own_sel x_0 x_1 x_2 s_0))) + (own_sel x_0 x_1 x_2 s_1))))])) _
          refine XS.iload X13.here hx rfl (hb hby own_d4_42) rfl ?_
          show Steps p.tables e below (T13.setTop (mkF m 44 #[.val (.ref a_o), .val (.ref e_o), .val (.ref s_o), .val (.int (((31 : Int32) * ((31 : Int32) + (own_sel x_0 x_1 x_2 s_0))) + (own_sel x_0 x_1 x_2 s_1))), .val (.ref s_o), .val (.int n_1), .val (.int (2 : Int32)), .val (.int s_2)] [(.int s_2), (.ref e_o), (.int ((31 : Int32) * (((31 : Int32) * ((31 : Int32) + (own_sel x_0 x_1 x_2 s_0))) + (own_sel x_0 x_1 x_2 s_1))))])) _
          refine X13.iaload hx (j := s_2) (v := (.int (own_sel x_0 x_1 x_2 s_2))) (by rw [e13]; exact Ar87.1) (State.isArrayOf_alike hZ.alike Ar87.2.1) Ar87.2.2 hin87 hat87 (g := (mkF m 44 #[.val (.ref a_o), .val (.ref e_o), .val (.ref s_o), .val (.int (((31 : Int32) * ((31 : Int32) + (own_sel x_0 x_1 x_2 s_0))) + (own_sel x_0 x_1 x_2 s_1))), .val (.ref s_o), .val (.int n_1), .val (.int (2 : Int32)), .val (.int s_2)] [(.int s_2), (.ref e_o), (.int ((31 : Int32) * (((31 : Int32) * ((31 : Int32) + (own_sel x_0 x_1 x_2 s_0))) + (own_sel x_0 x_1 x_2 s_1))))])) rfl rfl (hb hby own_d4_44) _ ?_
          show Steps p.tables e below (T13.setTop (mkF m 45 #[.val (.ref a_o), .val (.ref e_o), .val (.ref s_o), .val (.int (((31 : Int32) * ((31 : Int32) + (own_sel x_0 x_1 x_2 s_0))) + (own_sel x_0 x_1 x_2 s_1))), .val (.ref s_o), .val (.int n_1), .val (.int (2 : Int32)), .val (.int s_2)] [(.int (own_sel x_0 x_1 x_2 s_2)), (.int ((31 : Int32) * (((31 : Int32) * ((31 : Int32) + (own_sel x_0 x_1 x_2 s_0))) + (own_sel x_0 x_1 x_2 s_1))))])) _
          refine XS.iadd X13.here hx rfl (hb hby own_d4_45) rfl ?_
          show Steps p.tables e below (T13.setTop (mkF m 46 #[.val (.ref a_o), .val (.ref e_o), .val (.ref s_o), .val (.int (((31 : Int32) * ((31 : Int32) + (own_sel x_0 x_1 x_2 s_0))) + (own_sel x_0 x_1 x_2 s_1))), .val (.ref s_o), .val (.int n_1), .val (.int (2 : Int32)), .val (.int s_2)] [(.int (((31 : Int32) * (((31 : Int32) * ((31 : Int32) + (own_sel x_0 x_1 x_2 s_0))) + (own_sel x_0 x_1 x_2 s_1))) + (own_sel x_0 x_1 x_2 s_2)))])) _
          refine XS.istoreN X13.here hx rfl (hb hby own_d4_46) rfl (l' := #[.val (.ref a_o), .val (.ref e_o), .val (.ref s_o), .val (.int (((31 : Int32) * (((31 : Int32) * ((31 : Int32) + (own_sel x_0 x_1 x_2 s_0))) + (own_sel x_0 x_1 x_2 s_1))) + (own_sel x_0 x_1 x_2 s_2))), .val (.ref s_o), .val (.int n_1), .val (.int (2 : Int32)), .val (.int s_2)]) rfl ?_
          show Steps p.tables e below (T13.setTop (mkF m 47 #[.val (.ref a_o), .val (.ref e_o), .val (.ref s_o), .val (.int (((31 : Int32) * (((31 : Int32) * ((31 : Int32) + (own_sel x_0 x_1 x_2 s_0))) + (own_sel x_0 x_1 x_2 s_1))) + (own_sel x_0 x_1 x_2 s_2))), .val (.ref s_o), .val (.int n_1), .val (.int (2 : Int32)), .val (.int s_2)] [])) _
          refine XS.iinc X13.here hx rfl (hb hby own_d4_47) rfl (l' := #[.val (.ref a_o), .val (.ref e_o), .val (.ref s_o), .val (.int (((31 : Int32) * (((31 : Int32) * ((31 : Int32) + (own_sel x_0 x_1 x_2 s_0))) + (own_sel x_0 x_1 x_2 s_1))) + (own_sel x_0 x_1 x_2 s_2))), .val (.ref s_o), .val (.int n_1), .val (.int (3 : Int32)), .val (.int s_2)]) rfl ?_
          show Steps p.tables e below (T13.setTop (mkF m 50 #[.val (.ref a_o), .val (.ref e_o), .val (.ref s_o), .val (.int (((31 : Int32) * (((31 : Int32) * ((31 : Int32) + (own_sel x_0 x_1 x_2 s_0))) + (own_sel x_0 x_1 x_2 s_1))) + (own_sel x_0 x_1 x_2 s_2))), .val (.ref s_o), .val (.int n_1), .val (.int (3 : Int32)), .val (.int s_2)] [])) _
          refine XS.goto X13.here hx rfl (pc0 := 50) (pc' := 23) rfl (hb hby own_d4_50) (by decide) (by decide) ?_
          show Steps p.tables e below (T13.setTop (mkF m 23 #[.val (.ref a_o), .val (.ref e_o), .val (.ref s_o), .val (.int (((31 : Int32) * (((31 : Int32) * ((31 : Int32) + (own_sel x_0 x_1 x_2 s_0))) + (own_sel x_0 x_1 x_2 s_1))) + (own_sel x_0 x_1 x_2 s_2))), .val (.ref s_o), .val (.int n_1), .val (.int (3 : Int32)), .val (.int s_2)] [])) _
          refine XS.iload X13.here hx rfl (hb hby own_d4_23) rfl ?_
          show Steps p.tables e below (T13.setTop (mkF m 25 #[.val (.ref a_o), .val (.ref e_o), .val (.ref s_o), .val (.int (((31 : Int32) * (((31 : Int32) * ((31 : Int32) + (own_sel x_0 x_1 x_2 s_0))) + (own_sel x_0 x_1 x_2 s_1))) + (own_sel x_0 x_1 x_2 s_2))), .val (.ref s_o), .val (.int n_1), .val (.int (3 : Int32)), .val (.int s_2)] [(.int (3 : Int32))])) _
          refine XS.iload X13.here hx rfl (hb hby own_d4_25) rfl ?_
          show Steps p.tables e below (T13.setTop (mkF m 27 #[.val (.ref a_o), .val (.ref e_o), .val (.ref s_o), .val (.int (((31 : Int32) * (((31 : Int32) * ((31 : Int32) + (own_sel x_0 x_1 x_2 s_0))) + (own_sel x_0 x_1 x_2 s_1))) + (own_sel x_0 x_1 x_2 s_2))), .val (.ref s_o), .val (.int n_1), .val (.int (3 : Int32)), .val (.int s_2)] [(.int n_1), (.int (3 : Int32))])) _
          refine XS.icmpYes X13.here hx rfl (pc0 := 27) (pc' := 53) rfl (hb hby own_d4_27) rfl (flt (hn : ¬ ((3 : Int32) < n_1))).2.1 (by decide) (by decide) ?_
          show Steps p.tables e below (T13.setTop (mkF m 53 #[.val (.ref a_o), .val (.ref e_o), .val (.ref s_o), .val (.int (((31 : Int32) * (((31 : Int32) * ((31 : Int32) + (own_sel x_0 x_1 x_2 s_0))) + (own_sel x_0 x_1 x_2 s_1))) + (own_sel x_0 x_1 x_2 s_2))), .val (.ref s_o), .val (.int n_1), .val (.int (3 : Int32)), .val (.int s_2)] [])) _
          refine XS.aloadN X13.here hx rfl (hb hby own_d4_53) rfl rfl ?_
          show Steps p.tables e below (T13.setTop (mkF m 54 #[.val (.ref a_o), .val (.ref e_o), .val (.ref s_o), .val (.int (((31 : Int32) * (((31 : Int32) * ((31 : Int32) + (own_sel x_0 x_1 x_2 s_0))) + (own_sel x_0 x_1 x_2 s_1))) + (own_sel x_0 x_1 x_2 s_2))), .val (.ref s_o), .val (.int n_1), .val (.int (3 : Int32)), .val (.int s_2)] [(.ref a_o)])) _
          refine XS.iloadN X13.here hx rfl (hb hby own_d4_54) rfl ?_
          show Steps p.tables e below (T13.setTop (mkF m 55 #[.val (.ref a_o), .val (.ref e_o), .val (.ref s_o), .val (.int (((31 : Int32) * (((31 : Int32) * ((31 : Int32) + (own_sel x_0 x_1 x_2 s_0))) + (own_sel x_0 x_1 x_2 s_1))) + (own_sel x_0 x_1 x_2 s_2))), .val (.ref s_o), .val (.int n_1), .val (.int (3 : Int32)), .val (.int s_2)] [(.int (((31 : Int32) * (((31 : Int32) * ((31 : Int32) + (own_sel x_0 x_1 x_2 s_0))) + (own_sel x_0 x_1 x_2 s_1))) + (own_sel x_0 x_1 x_2 s_2))), (.ref a_o)])) _
          refine st100 _ ?_
          show Steps p.tables e below (T100.setTop (mkF m 58 #[.val (.ref a_o), .val (.ref e_o), .val (.ref s_o), .val (.int (((31 : Int32) * (((31 : Int32) * ((31 : Int32) + (own_sel x_0 x_1 x_2 s_0))) + (own_sel x_0 x_1 x_2 s_1))) + (own_sel x_0 x_1 x_2 s_2))), .val (.ref s_o), .val (.int n_1), .val (.int (3 : Int32)), .val (.int s_2)] [])) _
          refine XS.aloadN X100.here hx rfl (hb hby own_d4_58) rfl rfl ?_
          show Steps p.tables e below (T100.setTop (mkF m 59 #[.val (.ref a_o), .val (.ref e_o), .val (.ref s_o), .val (.int (((31 : Int32) * (((31 : Int32) * ((31 : Int32) + (own_sel x_0 x_1 x_2 s_0))) + (own_sel x_0 x_1 x_2 s_1))) + (own_sel x_0 x_1 x_2 s_2))), .val (.ref s_o), .val (.int n_1), .val (.int (3 : Int32)), .val (.int s_2)] [(.ref a_o)])) _
          jvm_step X100.here [X100.here.top, hx, (hb hby own_d4_59), X100.method', Bd.returns, Value.isRef, FieldType.isReference]
          first | (intro acts; rw [hr _ acts rfl rfl rfl]) | rw [hr _ _ rfl rfl rfl]
          exact Steps.refl _
        · show Qown_of Z a_o e_o s_o k_e k_s u_e u_s u_h n_1 x_0 x_1 x_2 s_0 s_1 s_2 h0 n0 _ T100.heap _
          rw [e100]
          have hv : (own_of_f n_1 x_0 x_1 x_2 s_0 s_1 s_2) = (((31 : Int32) * (((31 : Int32) * ((31 : Int32) + (own_sel x_0 x_1 x_2 s_0))) + (own_sel x_0 x_1 x_2 s_1))) + (own_sel x_0 x_1 x_2 s_2)) := by unfold own_of_f; rw [if_pos hc27_32, if_pos hc27_54, if_pos hc27_75]
          have Fq106 : Exa Z h100 a_o "com/example/fovea/fovea/Memory$Key" := (Fq98.wr W100)
          have Fq107 : Fld Z h100 a_o "com/example/fovea/fovea/Memory$Key" "entry" "[I" (.ref e_o) := ((Fw4.other W13 (Or.inr (slot_ne (Or.inl (hw _ (List.mem_of_getElem? (i := 20) rfl))) (Or.inl (hw _ (List.mem_of_getElem? (i := 22) rfl))) (by decide) (t := (.array .int)) (t' := (.array .int)) (by decide) (by decide)))).other W100 (Or.inr (slot_ne (Or.inl (hw _ (List.mem_of_getElem? (i := 20) rfl))) (Or.inl (hw _ (List.mem_of_getElem? (i := 24) rfl))) (by decide) (t := (.array .int)) (t' := .int) (by decide) (by decide))))
          have Fq108 : Fld Z h100 a_o "com/example/fovea/fovea/Memory$Key" "slots" "[I" (.ref s_o) := (Fw13.other W100 (Or.inr (slot_ne (Or.inl (hw _ (List.mem_of_getElem? (i := 22) rfl))) (Or.inl (hw _ (List.mem_of_getElem? (i := 24) rfl))) (by decide) (t := (.array .int)) (t' := .int) (by decide) (by decide))))
          exact ⟨rfl, N103, Kc101, Fq106, Fq107, Fq108, (by rw [hv]; exact Fw100)⟩
      · have Fq112 : Exa Z h13 a_o "com/example/fovea/fovea/Memory$Key" := (Fq11.wr W13)
        have Fq113 : Fld Z h13 a_o "com/example/fovea/fovea/Memory$Key" "hash" "I" u_h := ((F_h.other W4 (Or.inr (slot_ne (Or.inl (hw _ (List.mem_of_getElem? (i := 24) rfl))) (Or.inl (hw _ (List.mem_of_getElem? (i := 20) rfl))) (by decide) (t := .int) (t' := (.array .int)) (by decide) (by decide)))).other W13 (Or.inr (slot_ne (Or.inl (hw _ (List.mem_of_getElem? (i := 24) rfl))) (Or.inl (hw _ (List.mem_of_getElem? (i := 22) rfl))) (by decide) (t := .int) (t' := (.array .int)) (by decide) (by decide))))
        obtain ⟨T114, h114, X114, e114, W114, st114⟩ := putF X13 hx hZ hown (host := "") (Or.inl (hw _ (List.mem_of_getElem? (i := 23) rfl))) Via.refl e13 Fq113 Fq112 (Or.inl (hw _ (List.mem_of_getElem? (i := 24) rfl))) (hw _ (List.mem_of_getElem? (i := 6) rfl)) (ty := .int) (by decide) rfl rfl (g := (mkF m 55 #[.val (.ref a_o), .val (.ref e_o), .val (.ref s_o), .val (.int (((31 : Int32) * ((31 : Int32) + (own_sel x_0 x_1 x_2 s_0))) + (own_sel x_0 x_1 x_2 s_1))), .val (.ref s_o), .val (.int n_1), .val (.int (2 : Int32)), .val (.int s_1)] [(.int (((31 : Int32) * ((31 : Int32) + (own_sel x_0 x_1 x_2 s_0))) + (own_sel x_0 x_1 x_2 s_1))), (.ref a_o)])) rfl rfl (hb hby own_d4_55)
        have Kc115 : Keep h0 h114 [a_o] := Kc14.wr W114 (Or.inl (List.mem_of_getElem? (i := 0) rfl))
        have Zs116 : n0 ≤ h114.size := Nat.le_trans Zs15 (Keep.of_wr W114).1
        have N117 := Fr.snoc X114 N16 ga
        have Fw114 : Fld Z h114 a_o "com/example/fovea/fovea/Memory$Key" "hash" "I" (.int (((31 : Int32) * ((31 : Int32) + (own_sel x_0 x_1 x_2 s_0))) + (own_sel x_0 x_1 x_2 s_1))) := Fq113.same W114
        obtain ⟨fs, hr, hrun, hended, hW, hsame⟩ := X114.leave (v := some (.ref a_o)) (fun h => by rw [Bd.returns] at h; cases h) (hlocks := BodyLoose.notSynchronized Bd)
        refine ⟨_, _, pre74 _ ?_, hrun, hended, _, _, rfl, ?_, ⟨_, rfl⟩, hW, hsame.mono (by decide) (by decide)⟩
        · show Steps p.tables e below (T13.setTop (mkF m 27 #[.val (.ref a_o), .val (.ref e_o), .val (.ref s_o), .val (.int (((31 : Int32) * ((31 : Int32) + (own_sel x_0 x_1 x_2 s_0))) + (own_sel x_0 x_1 x_2 s_1))), .val (.ref s_o), .val (.int n_1), .val (.int (2 : Int32)), .val (.int s_1)] [(.int n_1), (.int (2 : Int32))])) _
          refine XS.icmpYes X13.here hx rfl (pc0 := 27) (pc' := 53) rfl (hb hby own_d4_27) rfl (flt hc27_75).2.1 (by decide) (by decide) ?_
          show Steps p.tables e below (T13.setTop (mkF m 53 #[.val (.ref a_o), .val (.ref e_o), .val (.ref s_o), .val (.int (((31 : Int32) * ((31 : Int32) + (own_sel x_0 x_1 x_2 s_0))) + (own_sel x_0 x_1 x_2 s_1))), .val (.ref s_o), .val (.int n_1), .val (.int (2 : Int32)), .val (.int s_1)] [])) _
          refine XS.aloadN X13.here hx rfl (hb hby own_d4_53) rfl rfl ?_
          show Steps p.tables e below (T13.setTop (mkF m 54 #[.val (.ref a_o), .val (.ref e_o), .val (.ref s_o), .val (.int (((31 : Int32) * ((31 : Int32) + (own_sel x_0 x_1 x_2 s_0))) + (own_sel x_0 x_1 x_2 s_1))), .val (.ref s_o), .val (.int n_1), .val (.int (2 : Int32)), .val (.int s_1)] [(.ref a_o)])) _
          refine XS.iloadN X13.here hx rfl (hb hby own_d4_54) rfl ?_
          show Steps p.tables e below (T13.setTop (mkF m 55 #[.val (.ref a_o), .val (.ref e_o), .val (.ref s_o), .val (.int (((31 : Int32) * ((31 : Int32) + (own_sel x_0 x_1 x_2 s_0))) + (own_sel x_0 x_1 x_2 s_1))), .val (.ref s_o), .val (.int n_1), .val (.int (2 : Int32)), .val (.int s_1)] [(.int (((31 : Int32) * ((31 : Int32) + (own_sel x_0 x_1 x_2 s_0))) + (own_sel x_0 x_1 x_2 s_1))), (.ref a_o)])) _
          refine st114 _ ?_
          show Steps p.tables e below (T114.setTop (mkF m 58 #[.val (.ref a_o), .val (.ref e_o), .val (.ref s_o), .val (.int (((31 : Int32) * ((31 : Int32) + (own_sel x_0 x_1 x_2 s_0))) + (own_sel x_0 x_1 x_2 s_1))), .val (.ref s_o), .val (.int n_1), .val (.int (2 : Int32)), .val (.int s_1)] [])) _
          refine XS.aloadN X114.here hx rfl (hb hby own_d4_58) rfl rfl ?_
          show Steps p.tables e below (T114.setTop (mkF m 59 #[.val (.ref a_o), .val (.ref e_o), .val (.ref s_o), .val (.int (((31 : Int32) * ((31 : Int32) + (own_sel x_0 x_1 x_2 s_0))) + (own_sel x_0 x_1 x_2 s_1))), .val (.ref s_o), .val (.int n_1), .val (.int (2 : Int32)), .val (.int s_1)] [(.ref a_o)])) _
          jvm_step X114.here [X114.here.top, hx, (hb hby own_d4_59), X114.method', Bd.returns, Value.isRef, FieldType.isReference]
          first | (intro acts; rw [hr _ acts rfl rfl rfl]) | rw [hr _ _ rfl rfl rfl]
          exact Steps.refl _
        · show Qown_of Z a_o e_o s_o k_e k_s u_e u_s u_h n_1 x_0 x_1 x_2 s_0 s_1 s_2 h0 n0 _ T114.heap _
          rw [e114]
          have hv : (own_of_f n_1 x_0 x_1 x_2 s_0 s_1 s_2) = (((31 : Int32) * ((31 : Int32) + (own_sel x_0 x_1 x_2 s_0))) + (own_sel x_0 x_1 x_2 s_1)) := by unfold own_of_f; rw [if_pos hc27_32, if_pos hc27_54, if_neg hc27_75]
          have Fq120 : Exa Z h114 a_o "com/example/fovea/fovea/Memory$Key" := (Fq112.wr W114)
          have Fq121 : Fld Z h114 a_o "com/example/fovea/fovea/Memory$Key" "entry" "[I" (.ref e_o) := ((Fw4.other W13 (Or.inr (slot_ne (Or.inl (hw _ (List.mem_of_getElem? (i := 20) rfl))) (Or.inl (hw _ (List.mem_of_getElem? (i := 22) rfl))) (by decide) (t := (.array .int)) (t' := (.array .int)) (by decide) (by decide)))).other W114 (Or.inr (slot_ne (Or.inl (hw _ (List.mem_of_getElem? (i := 20) rfl))) (Or.inl (hw _ (List.mem_of_getElem? (i := 24) rfl))) (by decide) (t := (.array .int)) (t' := .int) (by decide) (by decide))))
          have Fq122 : Fld Z h114 a_o "com/example/fovea/fovea/Memory$Key" "slots" "[I" (.ref s_o) := (Fw13.other W114 (Or.inr (slot_ne (Or.inl (hw _ (List.mem_of_getElem? (i := 22) rfl))) (Or.inl (hw _ (List.mem_of_getElem? (i := 24) rfl))) (by decide) (t := (.array .int)) (t' := .int) (by decide) (by decide))))
          exact ⟨rfl, N117, Kc115, Fq120, Fq121, Fq122, (by rw [hv]; exact Fw114)⟩
    · have Fq126 : Exa Z h13 a_o "com/example/fovea/fovea/Memory$Key" := (Fq11.wr W13)
      have Fq127 : Fld Z h13 a_o "com/example/fovea/fovea/Memory$Key" "hash" "I" u_h := ((F_h.other W4 (Or.inr (slot_ne (Or.inl (hw _ (List.mem_of_getElem? (i := 24) rfl))) (Or.inl (hw _ (List.mem_of_getElem? (i := 20) rfl))) (by decide) (t := .int) (t' := (.array .int)) (by decide) (by decide)))).other W13 (Or.inr (slot_ne (Or.inl (hw _ (List.mem_of_getElem? (i := 24) rfl))) (Or.inl (hw _ (List.mem_of_getElem? (i := 22) rfl))) (by decide) (t := .int) (t' := (.array .int)) (by decide) (by decide))))
      obtain ⟨T128, h128, X128, e128, W128, st128⟩ := putF X13 hx hZ hown (host := "") (Or.inl (hw _ (List.mem_of_getElem? (i := 23) rfl))) Via.refl e13 Fq127 Fq126 (Or.inl (hw _ (List.mem_of_getElem? (i := 24) rfl))) (hw _ (List.mem_of_getElem? (i := 6) rfl)) (ty := .int) (by decide) rfl rfl (g := (mkF m 55 #[.val (.ref a_o), .val (.ref e_o), .val (.ref s_o), .val (.int ((31 : Int32) + (own_sel x_0 x_1 x_2 s_0))), .val (.ref s_o), .val (.int n_1), .val (.int (1 : Int32)), .val (.int s_0)] [(.int ((31 : Int32) + (own_sel x_0 x_1 x_2 s_0))), (.ref a_o)])) rfl rfl (hb hby own_d4_55)
      have Kc129 : Keep h0 h128 [a_o] := Kc14.wr W128 (Or.inl (List.mem_of_getElem? (i := 0) rfl))
      have Zs130 : n0 ≤ h128.size := Nat.le_trans Zs15 (Keep.of_wr W128).1
      have N131 := Fr.snoc X128 N16 ga
      have Fw128 : Fld Z h128 a_o "com/example/fovea/fovea/Memory$Key" "hash" "I" (.int ((31 : Int32) + (own_sel x_0 x_1 x_2 s_0))) := Fq127.same W128
      obtain ⟨fs, hr, hrun, hended, hW, hsame⟩ := X128.leave (v := some (.ref a_o)) (fun h => by rw [Bd.returns] at h; cases h) (hlocks := BodyLoose.notSynchronized Bd)
      refine ⟨_, _, pre53 _ ?_, hrun, hended, _, _, rfl, ?_, ⟨_, rfl⟩, hW, hsame.mono (by decide) (by decide)⟩
      · show Steps p.tables e below (T13.setTop (mkF m 27 #[.val (.ref a_o), .val (.ref e_o), .val (.ref s_o), .val (.int ((31 : Int32) + (own_sel x_0 x_1 x_2 s_0))), .val (.ref s_o), .val (.int n_1), .val (.int (1 : Int32)), .val (.int s_0)] [(.int n_1), (.int (1 : Int32))])) _
        refine XS.icmpYes X13.here hx rfl (pc0 := 27) (pc' := 53) rfl (hb hby own_d4_27) rfl (flt hc27_54).2.1 (by decide) (by decide) ?_
        show Steps p.tables e below (T13.setTop (mkF m 53 #[.val (.ref a_o), .val (.ref e_o), .val (.ref s_o), .val (.int ((31 : Int32) + (own_sel x_0 x_1 x_2 s_0))), .val (.ref s_o), .val (.int n_1), .val (.int (1 : Int32)), .val (.int s_0)] [])) _
        refine XS.aloadN X13.here hx rfl (hb hby own_d4_53) rfl rfl ?_
        show Steps p.tables e below (T13.setTop (mkF m 54 #[.val (.ref a_o), .val (.ref e_o), .val (.ref s_o), .val (.int ((31 : Int32) + (own_sel x_0 x_1 x_2 s_0))), .val (.ref s_o), .val (.int n_1), .val (.int (1 : Int32)), .val (.int s_0)] [(.ref a_o)])) _
        refine XS.iloadN X13.here hx rfl (hb hby own_d4_54) rfl ?_
        show Steps p.tables e below (T13.setTop (mkF m 55 #[.val (.ref a_o), .val (.ref e_o), .val (.ref s_o), .val (.int ((31 : Int32) + (own_sel x_0 x_1 x_2 s_0))), .val (.ref s_o), .val (.int n_1), .val (.int (1 : Int32)), .val (.int s_0)] [(.int ((31 : Int32) + (own_sel x_0 x_1 x_2 s_0))), (.ref a_o)])) _
        refine st128 _ ?_
        show Steps p.tables e below (T128.setTop (mkF m 58 #[.val (.ref a_o), .val (.ref e_o), .val (.ref s_o), .val (.int ((31 : Int32) + (own_sel x_0 x_1 x_2 s_0))), .val (.ref s_o), .val (.int n_1), .val (.int (1 : Int32)), .val (.int s_0)] [])) _
        refine XS.aloadN X128.here hx rfl (hb hby own_d4_58) rfl rfl ?_
        show Steps p.tables e below (T128.setTop (mkF m 59 #[.val (.ref a_o), .val (.ref e_o), .val (.ref s_o), .val (.int ((31 : Int32) + (own_sel x_0 x_1 x_2 s_0))), .val (.ref s_o), .val (.int n_1), .val (.int (1 : Int32)), .val (.int s_0)] [(.ref a_o)])) _
        jvm_step X128.here [X128.here.top, hx, (hb hby own_d4_59), X128.method', Bd.returns, Value.isRef, FieldType.isReference]
        first | (intro acts; rw [hr _ acts rfl rfl rfl]) | rw [hr _ _ rfl rfl rfl]
        exact Steps.refl _
      · show Qown_of Z a_o e_o s_o k_e k_s u_e u_s u_h n_1 x_0 x_1 x_2 s_0 s_1 s_2 h0 n0 _ T128.heap _
        rw [e128]
        have hv : (own_of_f n_1 x_0 x_1 x_2 s_0 s_1 s_2) = ((31 : Int32) + (own_sel x_0 x_1 x_2 s_0)) := by unfold own_of_f; rw [if_pos hc27_32, if_neg hc27_54]
        have Fq134 : Exa Z h128 a_o "com/example/fovea/fovea/Memory$Key" := (Fq126.wr W128)
        have Fq135 : Fld Z h128 a_o "com/example/fovea/fovea/Memory$Key" "entry" "[I" (.ref e_o) := ((Fw4.other W13 (Or.inr (slot_ne (Or.inl (hw _ (List.mem_of_getElem? (i := 20) rfl))) (Or.inl (hw _ (List.mem_of_getElem? (i := 22) rfl))) (by decide) (t := (.array .int)) (t' := (.array .int)) (by decide) (by decide)))).other W128 (Or.inr (slot_ne (Or.inl (hw _ (List.mem_of_getElem? (i := 20) rfl))) (Or.inl (hw _ (List.mem_of_getElem? (i := 24) rfl))) (by decide) (t := (.array .int)) (t' := .int) (by decide) (by decide))))
        have Fq136 : Fld Z h128 a_o "com/example/fovea/fovea/Memory$Key" "slots" "[I" (.ref s_o) := (Fw13.other W128 (Or.inr (slot_ne (Or.inl (hw _ (List.mem_of_getElem? (i := 22) rfl))) (Or.inl (hw _ (List.mem_of_getElem? (i := 24) rfl))) (by decide) (t := (.array .int)) (t' := .int) (by decide) (by decide))))
        exact ⟨rfl, N131, Kc129, Fq134, Fq135, Fq136, (by rw [hv]; exact Fw128)⟩
  · have Fq140 : Exa Z h13 a_o "com/example/fovea/fovea/Memory$Key" := (Fq11.wr W13)
    have Fq141 : Fld Z h13 a_o "com/example/fovea/fovea/Memory$Key" "hash" "I" u_h := ((F_h.other W4 (Or.inr (slot_ne (Or.inl (hw _ (List.mem_of_getElem? (i := 24) rfl))) (Or.inl (hw _ (List.mem_of_getElem? (i := 20) rfl))) (by decide) (t := .int) (t' := (.array .int)) (by decide) (by decide)))).other W13 (Or.inr (slot_ne (Or.inl (hw _ (List.mem_of_getElem? (i := 24) rfl))) (Or.inl (hw _ (List.mem_of_getElem? (i := 22) rfl))) (by decide) (t := .int) (t' := (.array .int)) (by decide) (by decide))))
    obtain ⟨T142, h142, X142, e142, W142, st142⟩ := putF X13 hx hZ hown (host := "") (Or.inl (hw _ (List.mem_of_getElem? (i := 23) rfl))) Via.refl e13 Fq141 Fq140 (Or.inl (hw _ (List.mem_of_getElem? (i := 24) rfl))) (hw _ (List.mem_of_getElem? (i := 6) rfl)) (ty := .int) (by decide) rfl rfl (g := (mkF m 55 #[.val (.ref a_o), .val (.ref e_o), .val (.ref s_o), .val (.int (1 : Int32)), .val (.ref s_o), .val (.int n_1), .val (.int (0 : Int32)), .unset] [(.int (1 : Int32)), (.ref a_o)])) rfl rfl (hb hby own_d4_55)
    have Kc143 : Keep h0 h142 [a_o] := Kc14.wr W142 (Or.inl (List.mem_of_getElem? (i := 0) rfl))
    have Zs144 : n0 ≤ h142.size := Nat.le_trans Zs15 (Keep.of_wr W142).1
    have N145 := Fr.snoc X142 N16 ga
    have Fw142 : Fld Z h142 a_o "com/example/fovea/fovea/Memory$Key" "hash" "I" (.int (1 : Int32)) := Fq141.same W142
    obtain ⟨fs, hr, hrun, hended, hW, hsame⟩ := X142.leave (v := some (.ref a_o)) (fun h => by rw [Bd.returns] at h; cases h) (hlocks := BodyLoose.notSynchronized Bd)
    refine ⟨_, _, pre31 _ ?_, hrun, hended, _, _, rfl, ?_, ⟨_, rfl⟩, hW, hsame.mono (by decide) (by decide)⟩
    · show Steps p.tables e below (T13.setTop (mkF m 27 #[.val (.ref a_o), .val (.ref e_o), .val (.ref s_o), .val (.int (1 : Int32)), .val (.ref s_o), .val (.int n_1), .val (.int (0 : Int32)), .unset] [(.int n_1), (.int (0 : Int32))])) _
      refine XS.icmpYes X13.here hx rfl (pc0 := 27) (pc' := 53) rfl (hb hby own_d4_27) rfl (flt hc27_32).2.1 (by decide) (by decide) ?_
      show Steps p.tables e below (T13.setTop (mkF m 53 #[.val (.ref a_o), .val (.ref e_o), .val (.ref s_o), .val (.int (1 : Int32)), .val (.ref s_o), .val (.int n_1), .val (.int (0 : Int32)), .unset] [])) _
      refine XS.aloadN X13.here hx rfl (hb hby own_d4_53) rfl rfl ?_
      show Steps p.tables e below (T13.setTop (mkF m 54 #[.val (.ref a_o), .val (.ref e_o), .val (.ref s_o), .val (.int (1 : Int32)), .val (.ref s_o), .val (.int n_1), .val (.int (0 : Int32)), .unset] [(.ref a_o)])) _
      refine XS.iloadN X13.here hx rfl (hb hby own_d4_54) rfl ?_
      show Steps p.tables e below (T13.setTop (mkF m 55 #[.val (.ref a_o), .val (.ref e_o), .val (.ref s_o), .val (.int (1 : Int32)), .val (.ref s_o), .val (.int n_1), .val (.int (0 : Int32)), .unset] [(.int (1 : Int32)), (.ref a_o)])) _
      refine st142 _ ?_
      show Steps p.tables e below (T142.setTop (mkF m 58 #[.val (.ref a_o), .val (.ref e_o), .val (.ref s_o), .val (.int (1 : Int32)), .val (.ref s_o), .val (.int n_1), .val (.int (0 : Int32)), .unset] [])) _
      refine XS.aloadN X142.here hx rfl (hb hby own_d4_58) rfl rfl ?_
      show Steps p.tables e below (T142.setTop (mkF m 59 #[.val (.ref a_o), .val (.ref e_o), .val (.ref s_o), .val (.int (1 : Int32)), .val (.ref s_o), .val (.int n_1), .val (.int (0 : Int32)), .unset] [(.ref a_o)])) _
      jvm_step X142.here [X142.here.top, hx, (hb hby own_d4_59), X142.method', Bd.returns, Value.isRef, FieldType.isReference]
      first | (intro acts; rw [hr _ acts rfl rfl rfl]) | rw [hr _ _ rfl rfl rfl]
      exact Steps.refl _
    · show Qown_of Z a_o e_o s_o k_e k_s u_e u_s u_h n_1 x_0 x_1 x_2 s_0 s_1 s_2 h0 n0 _ T142.heap _
      rw [e142]
      have hv : (own_of_f n_1 x_0 x_1 x_2 s_0 s_1 s_2) = (1 : Int32) := by unfold own_of_f; rw [if_neg hc27_32]
      have Fq148 : Exa Z h142 a_o "com/example/fovea/fovea/Memory$Key" := (Fq140.wr W142)
      have Fq149 : Fld Z h142 a_o "com/example/fovea/fovea/Memory$Key" "entry" "[I" (.ref e_o) := ((Fw4.other W13 (Or.inr (slot_ne (Or.inl (hw _ (List.mem_of_getElem? (i := 20) rfl))) (Or.inl (hw _ (List.mem_of_getElem? (i := 22) rfl))) (by decide) (t := (.array .int)) (t' := (.array .int)) (by decide) (by decide)))).other W142 (Or.inr (slot_ne (Or.inl (hw _ (List.mem_of_getElem? (i := 20) rfl))) (Or.inl (hw _ (List.mem_of_getElem? (i := 24) rfl))) (by decide) (t := (.array .int)) (t' := .int) (by decide) (by decide))))
      have Fq150 : Fld Z h142 a_o "com/example/fovea/fovea/Memory$Key" "slots" "[I" (.ref s_o) := (Fw13.other W142 (Or.inr (slot_ne (Or.inl (hw _ (List.mem_of_getElem? (i := 22) rfl))) (Or.inl (hw _ (List.mem_of_getElem? (i := 24) rfl))) (by decide) (t := (.array .int)) (t' := .int) (by decide) (by decide))))
      exact ⟨rfl, N145, Kc143, Fq148, Fq149, Fq150, (by rw [hv]; exact Fw142)⟩
theorem own_ef_own_hc (m : MethodId) (a_o : Addr) : entryFrame m #[(.ref a_o)] 1 = mkF m 0 #[.val (.ref a_o)] [] := by first | (simp [entryFrame, mkF, argsToLocals, Value.category]; done) | rfl
theorem own_d5_0 : decode prog_37_method_7_code 0 = .ok (.aload_n 0, 1) := by decide +kernel
theorem own_d5_1 : decode prog_37_method_7_code 1 = .ok (.getfield 16, 3) := by decide +kernel
theorem own_d5_4 : decode prog_37_method_7_code 4 = .ok (.ireturn, 1) := by decide +kernel
def Qown_hc (Z : State) (a_o : Addr) (x_1 : Int32) (h0 : Heap) (n0 : Nat) (v : Option Value) (h : Heap) (L : List Loc) : Prop := v = some (.int x_1) ∧ Fr n0 L ∧ h = h0
set_option maxRecDepth 65536 in
set_option maxHeartbeats 40000000 in
theorem own_hc (l : Launch) (Z : State) (a0 : Array Value) (hw : ∀ d ∈ tables_1, d.before a0 Z = true) (ws : List Jvm.Cond) (a_o : Addr) (x_1 : Int32) (h0 : Heap) (n0 : Nat) (Z0 : n0 ≤ h0.size) (F_f : Fld Z h0 a_o "com/example/fovea/fovea/Memory$Key" "hash" "I" (.int x_1)) :
    MetFree l (⟨"com/example/fovea/fovea/Memory$Key", "hashCode", "()I"⟩ : MethodName) (head1 (Jvm.Cond.code (⟨"com/example/fovea/fovea/Memory$Key", "hashCode", "()I"⟩ : MethodName) prog_37_method_7_code 1 (some .int) :: ws) ({ frames := 0, cells := 0, slots := 0, locals := 0 } : Room)) (fun a U => a = #[(.ref a_o)] ∧ Z.Warmed39 U.vm ∧ U.heap = h0) (fun _ _ _ _ _ => True) (fun _ U o U' => ∃ v L, o = .returned v ∧ Qown_hc Z a_o x_1 h0 n0 v U'.heap L ∧ FrameEnd U o U' L ({ frames := 0, cells := 0, slots := 0, locals := 0 } : Room).cells ({ frames := 0, cells := 0, slots := 0, locals := 0 } : Room).slots) := by
  refine MetFree.of_bodySF (plainFor_of_name own_pn1) hisR ?_
  intro p e s m args below meth c s₁ Bd hml0 hP hK
  obtain ⟨rfl, hZ, hh⟩ := hP
  have hx := Bd.exec
  have hby := Bd.bytes
  have hml : c.maxLocals = 1 := hml0
  have hown : s.vm.findClass "com/example/fovea/fovea/Memory$Key" = some m.cls := findClass_of_methodNamed Bd.named
  have hnm := (name_of_methodNamed Bd.named Bd.method).1
  have X0 : Stand p l e ({ frames := 0, cells := 0, slots := 0, locals := 0 } : Room) s m #[(.ref a_o)] below meth c s₁ [] 0 0 := Stand.of_body Bd
  have e0 : s₁.heap = h0 := by rw [← hh, Bd.state]; rfl
  have N0 := Fr.nil n0
  have pre0 : ∀ t, Steps p.tables e below (s₁.setTop (mkF m 0 #[.val (.ref a_o)] [])) t → Steps p.tables e below (s₁.setTop (entryFrame m #[(.ref a_o)] 1)) t := fun t k => castTop (own_ef_own_hc m a_o) k
  obtain ⟨T3, X3, e3, st3⟩ := getF X0 hx hZ hown (host := "") (Or.inl (hw _ (List.mem_of_getElem? (i := 23) rfl))) Via.refl e0 F_f (g := (mkF m 1 #[.val (.ref a_o)] [(.ref a_o)])) rfl rfl (hb hby own_d5_1)
  obtain ⟨fs, hr, hrun, hended, hW, hsame⟩ := X3.leave (v := some (.int x_1)) (fun h => by rw [Bd.returns] at h; cases h) (hlocks := BodyLoose.notSynchronized Bd)
  refine ⟨_, _, pre0 _ ?_, hrun, hended, _, _, rfl, ?_, ⟨_, rfl⟩, hW, hsame.mono (by decide) (by decide)⟩
  · show Steps p.tables e below (s₁.setTop (mkF m 0 #[.val (.ref a_o)] [])) _
    refine XS.aloadN X0.here hx rfl (hb hby own_d5_0) rfl rfl ?_
    show Steps p.tables e below (s₁.setTop (mkF m 1 #[.val (.ref a_o)] [(.ref a_o)])) _
    refine st3 _ ?_
    show Steps p.tables e below (T3.setTop (mkF m 4 #[.val (.ref a_o)] [(.int x_1)])) _
    exact retI X3 hx Bd.returns (hb hby own_d5_4) hr
  · show Qown_hc Z a_o x_1 h0 n0 _ T3.heap _
    rw [e3]
    exact ⟨rfl, N0, rfl⟩
theorem own_ef_own_hash (m : MethodId) (e_o : Addr) (s_o : Addr) : entryFrame m #[(.ref e_o), (.ref s_o)] 3 = mkF m 0 #[.val (.ref e_o), .val (.ref s_o), .unset] [] := by first | (simp [entryFrame, mkF, argsToLocals, Value.category]; done) | rfl
theorem own_d6_0 : decode method_3_code 0 = .ok (.iconst 1, 1) := by decide +kernel
theorem own_d6_1 : decode method_3_code 1 = .ok (.istore_n 2, 1) := by decide +kernel
theorem own_d6_2 : decode method_3_code 2 = .ok (.aload_n 1, 1) := by decide +kernel
theorem own_d6_3 : decode method_3_code 3 = .ok (.arraylength, 1) := by decide +kernel
theorem own_d6_4 : decode method_3_code 4 = .ok (.ifCond .le 14, 3) := by decide +kernel
theorem own_d6_7 : decode method_3_code 7 = .ok (.bipush 31, 2) := by decide +kernel
theorem own_d6_9 : decode method_3_code 9 = .ok (.iload_n 2, 1) := by decide +kernel
theorem own_d6_10 : decode method_3_code 10 = .ok (.imul, 1) := by decide +kernel
theorem own_d6_11 : decode method_3_code 11 = .ok (.aload_n 0, 1) := by decide +kernel
theorem own_d6_12 : decode method_3_code 12 = .ok (.aload_n 1, 1) := by decide +kernel
theorem own_d6_13 : decode method_3_code 13 = .ok (.iconst 0, 1) := by decide +kernel
theorem own_d6_14 : decode method_3_code 14 = .ok (.iaload, 1) := by decide +kernel
theorem own_d6_15 : decode method_3_code 15 = .ok (.iaload, 1) := by decide +kernel
theorem own_d6_16 : decode method_3_code 16 = .ok (.iadd, 1) := by decide +kernel
theorem own_d6_17 : decode method_3_code 17 = .ok (.istore_n 2, 1) := by decide +kernel
theorem own_d6_18 : decode method_3_code 18 = .ok (.aload_n 1, 1) := by decide +kernel
theorem own_d6_19 : decode method_3_code 19 = .ok (.arraylength, 1) := by decide +kernel
theorem own_d6_20 : decode method_3_code 20 = .ok (.iconst 1, 1) := by decide +kernel
theorem own_d6_21 : decode method_3_code 21 = .ok (.if_icmp .le 14, 3) := by decide +kernel
theorem own_d6_24 : decode method_3_code 24 = .ok (.bipush 31, 2) := by decide +kernel
theorem own_d6_26 : decode method_3_code 26 = .ok (.iload_n 2, 1) := by decide +kernel
theorem own_d6_27 : decode method_3_code 27 = .ok (.imul, 1) := by decide +kernel
theorem own_d6_28 : decode method_3_code 28 = .ok (.aload_n 0, 1) := by decide +kernel
theorem own_d6_29 : decode method_3_code 29 = .ok (.aload_n 1, 1) := by decide +kernel
theorem own_d6_30 : decode method_3_code 30 = .ok (.iconst 1, 1) := by decide +kernel
theorem own_d6_31 : decode method_3_code 31 = .ok (.iaload, 1) := by decide +kernel
theorem own_d6_32 : decode method_3_code 32 = .ok (.iaload, 1) := by decide +kernel
theorem own_d6_33 : decode method_3_code 33 = .ok (.iadd, 1) := by decide +kernel
theorem own_d6_34 : decode method_3_code 34 = .ok (.istore_n 2, 1) := by decide +kernel
theorem own_d6_35 : decode method_3_code 35 = .ok (.aload_n 1, 1) := by decide +kernel
theorem own_d6_36 : decode method_3_code 36 = .ok (.arraylength, 1) := by decide +kernel
theorem own_d6_37 : decode method_3_code 37 = .ok (.iconst 2, 1) := by decide +kernel
theorem own_d6_38 : decode method_3_code 38 = .ok (.if_icmp .le 14, 3) := by decide +kernel
theorem own_d6_41 : decode method_3_code 41 = .ok (.bipush 31, 2) := by decide +kernel
theorem own_d6_43 : decode method_3_code 43 = .ok (.iload_n 2, 1) := by decide +kernel
theorem own_d6_44 : decode method_3_code 44 = .ok (.imul, 1) := by decide +kernel
theorem own_d6_45 : decode method_3_code 45 = .ok (.aload_n 0, 1) := by decide +kernel
theorem own_d6_46 : decode method_3_code 46 = .ok (.aload_n 1, 1) := by decide +kernel
theorem own_d6_47 : decode method_3_code 47 = .ok (.iconst 2, 1) := by decide +kernel
theorem own_d6_48 : decode method_3_code 48 = .ok (.iaload, 1) := by decide +kernel
theorem own_d6_49 : decode method_3_code 49 = .ok (.iaload, 1) := by decide +kernel
theorem own_d6_50 : decode method_3_code 50 = .ok (.iadd, 1) := by decide +kernel
theorem own_d6_51 : decode method_3_code 51 = .ok (.istore_n 2, 1) := by decide +kernel
theorem own_d6_52 : decode method_3_code 52 = .ok (.iload_n 2, 1) := by decide +kernel
theorem own_d6_53 : decode method_3_code 53 = .ok (.ireturn, 1) := by decide +kernel
def own_hash_f (n_1 : Int32) (x_0 : Int32) (x_1 : Int32) (x_2 : Int32) (s_0 : Int32) (s_1 : Int32) (s_2 : Int32) : Int32 := (if (0 : Int32) < n_1 then (if (1 : Int32) < n_1 then (if (2 : Int32) < n_1 then (((31 : Int32) * (((31 : Int32) * ((31 : Int32) + (own_sel x_0 x_1 x_2 s_0))) + (own_sel x_0 x_1 x_2 s_1))) + (own_sel x_0 x_1 x_2 s_2)) else (((31 : Int32) * ((31 : Int32) + (own_sel x_0 x_1 x_2 s_0))) + (own_sel x_0 x_1 x_2 s_1))) else (if (2 : Int32) < n_1 then (((31 : Int32) * ((31 : Int32) + (own_sel x_0 x_1 x_2 s_0))) + (own_sel x_0 x_1 x_2 s_2)) else ((31 : Int32) + (own_sel x_0 x_1 x_2 s_0)))) else (if (1 : Int32) < n_1 then (if (2 : Int32) < n_1 then (((31 : Int32) * ((31 : Int32) + (own_sel x_0 x_1 x_2 s_1))) + (own_sel x_0 x_1 x_2 s_2)) else ((31 : Int32) + (own_sel x_0 x_1 x_2 s_1))) else (if (2 : Int32) < n_1 then ((31 : Int32) + (own_sel x_0 x_1 x_2 s_2)) else (1 : Int32))))
def Qown_hash (Z : State) (e_o : Addr) (s_o : Addr) (k_e : ClassId) (k_s : ClassId) (n_1 : Int32) (x_0 : Int32) (x_1 : Int32) (x_2 : Int32) (s_0 : Int32) (s_1 : Int32) (s_2 : Int32) (h0 : Heap) (n0 : Nat) (v : Option Value) (h : Heap) (L : List Loc) : Prop := v = some (.int (own_hash_f n_1 x_0 x_1 x_2 s_0 s_1 s_2)) ∧ Fr n0 L ∧ h = h0
set_option maxRecDepth 65536 in
set_option maxHeartbeats 40000000 in
theorem own_hash (l : Launch) (Z : State) (a0 : Array Value) (hw : ∀ d ∈ tables_1, d.before a0 Z = true) (ws : List Jvm.Cond) (e_o : Addr) (s_o : Addr) (k_e : ClassId) (k_s : ClassId) (n_1 : Int32) (x_0 : Int32) (x_1 : Int32) (x_2 : Int32) (s_0 : Int32) (s_1 : Int32) (s_2 : Int32) (h0 : Heap) (n0 : Nat) (Z0 : n0 ≤ h0.size) (V_e : Arv Z h0 e_o k_e .int (3 : Int32) [(.int x_0), (.int x_1), (.int x_2)] (.int (0 : Int32))) (V_s : Arv Z h0 s_o k_s .int n_1 [(.int s_0), (.int s_1), (.int s_2)] (.int (0 : Int32))) (hb0 : ¬ s_0 < 0 ∧ s_0 < 3) (hb1 : ¬ s_1 < 0 ∧ s_1 < 3) (hb2 : ¬ s_2 < 0 ∧ s_2 < 3) :
    MetFree l (⟨"com/example/fovea/fovea/KeyOfPinLaw", "hash", "([I[I)I"⟩ : MethodName) (head1 (Jvm.Cond.code (⟨"com/example/fovea/fovea/KeyOfPinLaw", "hash", "([I[I)I"⟩ : MethodName) method_3_code 3 (some .int) :: ws) ({ frames := 0, cells := 0, slots := 0, locals := 0 } : Room)) (fun a U => a = #[(.ref e_o), (.ref s_o)] ∧ Z.Warmed39 U.vm ∧ U.heap = h0) (fun _ _ _ _ _ => True) (fun _ U o U' => ∃ v L, o = .returned v ∧ Qown_hash Z e_o s_o k_e k_s n_1 x_0 x_1 x_2 s_0 s_1 s_2 h0 n0 v U'.heap L ∧ FrameEnd U o U' L ({ frames := 0, cells := 0, slots := 0, locals := 0 } : Room).cells ({ frames := 0, cells := 0, slots := 0, locals := 0 } : Room).slots) := by
  refine MetFree.of_bodySF (plainFor_of_name own_pn0) hisR ?_
  intro p e s m args below meth c s₁ Bd hml0 hP hK
  obtain ⟨rfl, hZ, hh⟩ := hP
  have hx := Bd.exec
  have hby := Bd.bytes
  have hml : c.maxLocals = 3 := hml0
  have hown : s.vm.findClass "com/example/fovea/fovea/KeyOfPinLaw" = some m.cls := findClass_of_methodNamed Bd.named
  have hnm := (name_of_methodNamed Bd.named Bd.method).1
  have X0 : Stand p l e ({ frames := 0, cells := 0, slots := 0, locals := 0 } : Room) s m #[(.ref e_o), (.ref s_o)] below meth c s₁ [] 0 0 := Stand.of_body Bd
  have e0 : s₁.heap = h0 := by rw [← hh, Bd.state]; rfl
  have N0 := Fr.nil n0
  have pre0 : ∀ t, Steps p.tables e below (s₁.setTop (mkF m 0 #[.val (.ref e_o), .val (.ref s_o), .unset] [])) t → Steps p.tables e below (s₁.setTop (entryFrame m #[(.ref e_o), (.ref s_o)] 3)) t := fun t k => castTop (own_ef_own_hash m e_o s_o) k
  obtain ⟨cl5, Ar5, -, S5, M5, -, -⟩ := id V_s
  have pre7 : ∀ t, Steps p.tables e below (s₁.setTop (mkF m 4 #[.val (.ref e_o), .val (.ref s_o), .val (.int (1 : Int32))] [(.int n_1)])) t → Steps p.tables e below (s₁.setTop (entryFrame m #[(.ref e_o), (.ref s_o)] 3)) t := by
    intro t kt
    refine pre0 _ ?_
    show Steps p.tables e below (s₁.setTop (mkF m 0 #[.val (.ref e_o), .val (.ref s_o), .unset] [])) _
    refine XS.iconst X0.here hx rfl (hb hby own_d6_0) ?_
    show Steps p.tables e below (s₁.setTop (mkF m 1 #[.val (.ref e_o), .val (.ref s_o), .unset] [(.int (1 : Int32))])) _
    refine XS.istoreN X0.here hx rfl (hb hby own_d6_1) rfl (l' := #[.val (.ref e_o), .val (.ref s_o), .val (.int (1 : Int32))]) rfl ?_
    show Steps p.tables e below (s₁.setTop (mkF m 2 #[.val (.ref e_o), .val (.ref s_o), .val (.int (1 : Int32))] [])) _
    refine XS.aloadN X0.here hx rfl (hb hby own_d6_2) rfl rfl ?_
    show Steps p.tables e below (s₁.setTop (mkF m 3 #[.val (.ref e_o), .val (.ref s_o), .val (.int (1 : Int32))] [(.ref s_o)])) _
    refine X0.arraylength hx (by rw [e0]; exact Ar5.1) (State.isArrayOf_alike hZ.alike Ar5.2.1) (g := (mkF m 3 #[.val (.ref e_o), .val (.ref s_o), .val (.int (1 : Int32))] [(.ref s_o)])) rfl rfl (hb hby own_d6_3) _ ?_
    rw [len_of S5 M5]
    exact kt
  by_cases hc4_8 : (0 : Int32) < n_1
  · obtain ⟨cl16, Ar16, q16, S16, M16, H16, G16⟩ := id V_s
    have hin16 : ¬ ((0 : Int32) < 0 ∨ cl16.slots.size ≤ ((0 : Int32)).toNatClampNeg) := inb_of S16 ⟨by decide, hc4_8⟩
    have hat16 : cl16.slots[((0 : Int32)).toNatClampNeg]? = some (.int s_0) := H16.at hin16 rfl
    obtain ⟨cl18, Ar18, q18, S18, M18, H18, G18⟩ := id V_e
    have hin18 : ¬ (s_0 < 0 ∨ cl18.slots.size ≤ (s_0).toNatClampNeg) := inb_of S18 hb0
    have hat18 : cl18.slots[(s_0).toNatClampNeg]? = some (.int (own_sel x_0 x_1 x_2 s_0)) := H18.at hin18 (own_sel_get _ _ _ _ _ hb0)
    obtain ⟨cl23, Ar23, -, S23, M23, -, -⟩ := id V_s
    have pre26 : ∀ t, Steps p.tables e below (s₁.setTop (mkF m 21 #[.val (.ref e_o), .val (.ref s_o), .val (.int ((31 : Int32) + (own_sel x_0 x_1 x_2 s_0)))] [(.int (1 : Int32)), (.int n_1)])) t → Steps p.tables e below (s₁.setTop (entryFrame m #[(.ref e_o), (.ref s_o)] 3)) t := by
      intro t kt
      refine pre7 _ ?_
      show Steps p.tables e below (s₁.setTop (mkF m 4 #[.val (.ref e_o), .val (.ref s_o), .val (.int (1 : Int32))] [(.int n_1)])) _
      refine XS.ifNo X0.here hx rfl (hb hby own_d6_4) rfl ((if0 _ _).trans (tlt hc4_8).2.2.2) ?_
      show Steps p.tables e below (s₁.setTop (mkF m 7 #[.val (.ref e_o), .val (.ref s_o), .val (.int (1 : Int32))] [])) _
      refine XS.bipush X0.here hx rfl (hb hby own_d6_7) ?_
      show Steps p.tables e below (s₁.setTop (mkF m 9 #[.val (.ref e_o), .val (.ref s_o), .val (.int (1 : Int32))] [(.int (31 : Int32))])) _
      refine XS.iloadN X0.here hx rfl (hb hby own_d6_9) rfl ?_
      show Steps p.tables e below (s₁.setTop (mkF m 10 #[.val (.ref e_o), .val (.ref s_o), .val (.int (1 : Int32))] [(.int (1 : Int32)), (.int (31 : Int32))])) _
      refine XS.imul X0.here hx rfl (hb hby own_d6_10) rfl ?_
      show Steps p.tables e below (s₁.setTop (mkF m 11 #[.val (.ref e_o), .val (.ref s_o), .val (.int (1 : Int32))] [(.int (31 : Int32))])) _
      refine XS.aloadN X0.here hx rfl (hb hby own_d6_11) rfl rfl ?_
      show Steps p.tables e below (s₁.setTop (mkF m 12 #[.val (.ref e_o), .val (.ref s_o), .val (.int (1 : Int32))] [(.ref e_o), (.int (31 : Int32))])) _
      refine XS.aloadN X0.here hx rfl (hb hby own_d6_12) rfl rfl ?_
      show Steps p.tables e below (s₁.setTop (mkF m 13 #[.val (.ref e_o), .val (.ref s_o), .val (.int (1 : Int32))] [(.ref s_o), (.ref e_o), (.int (31 : Int32))])) _
      refine XS.iconst X0.here hx rfl (hb hby own_d6_13) ?_
      show Steps p.tables e below (s₁.setTop (mkF m 14 #[.val (.ref e_o), .val (.ref s_o), .val (.int (1 : Int32))] [(.int (0 : Int32)), (.ref s_o), (.ref e_o), (.int (31 : Int32))])) _
      refine X0.iaload hx (j := (0 : Int32)) (v := (.int s_0)) (by rw [e0]; exact Ar16.1) (State.isArrayOf_alike hZ.alike Ar16.2.1) Ar16.2.2 hin16 hat16 (g := (mkF m 14 #[.val (.ref e_o), .val (.ref s_o), .val (.int (1 : Int32))] [(.int (0 : Int32)), (.ref s_o), (.ref e_o), (.int (31 : Int32))])) rfl rfl (hb hby own_d6_14) _ ?_
      show Steps p.tables e below (s₁.setTop (mkF m 15 #[.val (.ref e_o), .val (.ref s_o), .val (.int (1 : Int32))] [(.int s_0), (.ref e_o), (.int (31 : Int32))])) _
      refine X0.iaload hx (j := s_0) (v := (.int (own_sel x_0 x_1 x_2 s_0))) (by rw [e0]; exact Ar18.1) (State.isArrayOf_alike hZ.alike Ar18.2.1) Ar18.2.2 hin18 hat18 (g := (mkF m 15 #[.val (.ref e_o), .val (.ref s_o), .val (.int (1 : Int32))] [(.int s_0), (.ref e_o), (.int (31 : Int32))])) rfl rfl (hb hby own_d6_15) _ ?_
      show Steps p.tables e below (s₁.setTop (mkF m 16 #[.val (.ref e_o), .val (.ref s_o), .val (.int (1 : Int32))] [(.int (own_sel x_0 x_1 x_2 s_0)), (.int (31 : Int32))])) _
      refine XS.iadd X0.here hx rfl (hb hby own_d6_16) rfl ?_
      show Steps p.tables e below (s₁.setTop (mkF m 17 #[.val (.ref e_o), .val (.ref s_o), .val (.int (1 : Int32))] [(.int ((31 : Int32) + (own_sel x_0 x_1 x_2 s_0)))])) _
      refine XS.istoreN X0.here hx rfl (hb hby own_d6_17) rfl (l' := #[.val (.ref e_o), .val (.ref s_o), .val (.int ((31 : Int32) + (own_sel x_0 x_1 x_2 s_0)))]) rfl ?_
      show Steps p.tables e below (s₁.setTop (mkF m 18 #[.val (.ref e_o), .val (.ref s_o), .val (.int ((31 : Int32) + (own_sel x_0 x_1 x_2 s_0)))] [])) _
      refine XS.aloadN X0.here hx rfl (hb hby own_d6_18) rfl rfl ?_
      show Steps p.tables e below (s₁.setTop (mkF m 19 #[.val (.ref e_o), .val (.ref s_o), .val (.int ((31 : Int32) + (own_sel x_0 x_1 x_2 s_0)))] [(.ref s_o)])) _
      refine X0.arraylength hx (by rw [e0]; exact Ar23.1) (State.isArrayOf_alike hZ.alike Ar23.2.1) (g := (mkF m 19 #[.val (.ref e_o), .val (.ref s_o), .val (.int ((31 : Int32) + (own_sel x_0 x_1 x_2 s_0)))] [(.ref s_o)])) rfl rfl (hb hby own_d6_19) _ ?_
      rw [len_of S23 M23]
      show Steps p.tables e below (s₁.setTop (mkF m 20 #[.val (.ref e_o), .val (.ref s_o), .val (.int ((31 : Int32) + (own_sel x_0 x_1 x_2 s_0)))] [(.int n_1)])) _
      refine XS.iconst X0.here hx rfl (hb hby own_d6_20) ?_
      exact kt
    by_cases hc21_27 : (1 : Int32) < n_1
    · obtain ⟨cl35, Ar35, q35, S35, M35, H35, G35⟩ := id V_s
      have hin35 : ¬ ((1 : Int32) < 0 ∨ cl35.slots.size ≤ ((1 : Int32)).toNatClampNeg) := inb_of S35 ⟨by decide, hc21_27⟩
      have hat35 : cl35.slots[((1 : Int32)).toNatClampNeg]? = some (.int s_1) := H35.at hin35 rfl
      obtain ⟨cl37, Ar37, q37, S37, M37, H37, G37⟩ := id V_e
      have hin37 : ¬ (s_1 < 0 ∨ cl37.slots.size ≤ (s_1).toNatClampNeg) := inb_of S37 hb1
      have hat37 : cl37.slots[(s_1).toNatClampNeg]? = some (.int (own_sel x_0 x_1 x_2 s_1)) := H37.at hin37 (own_sel_get _ _ _ _ _ hb1)
      obtain ⟨cl42, Ar42, -, S42, M42, -, -⟩ := id V_s
      have pre45 : ∀ t, Steps p.tables e below (s₁.setTop (mkF m 38 #[.val (.ref e_o), .val (.ref s_o), .val (.int (((31 : Int32) * ((31 : Int32) + (own_sel x_0 x_1 x_2 s_0))) + (own_sel x_0 x_1 x_2 s_1)))] [(.int (2 : Int32)), (.int n_1)])) t → Steps p.tables e below (s₁.setTop (entryFrame m #[(.ref e_o), (.ref s_o)] 3)) t := by
        intro t kt
        refine pre26 _ ?_
        show Steps p.tables e below (s₁.setTop (mkF m 21 #[.val (.ref e_o), .val (.ref s_o), .val (.int ((31 : Int32) + (own_sel x_0 x_1 x_2 s_0)))] [(.int (1 : Int32)), (.int n_1)])) _
        refine XS.icmpNo X0.here hx rfl (hb hby own_d6_21) rfl (tlt hc21_27).2.2.2 ?_
        show Steps p.tables e below (s₁.setTop (mkF m 24 #[.val (.ref e_o), .val (.ref s_o), .val (.int ((31 : Int32) + (own_sel x_0 x_1 x_2 s_0)))] [])) _
        refine XS.bipush X0.here hx rfl (hb hby own_d6_24) ?_
        show Steps p.tables e below (s₁.setTop (mkF m 26 #[.val (.ref e_o), .val (.ref s_o), .val (.int ((31 : Int32) + (own_sel x_0 x_1 x_2 s_0)))] [(.int (31 : Int32))])) _
        refine XS.iloadN X0.here hx rfl (hb hby own_d6_26) rfl ?_
        show Steps p.tables e below (s₁.setTop (mkF m 27 #[.val (.ref e_o), .val (.ref s_o), .val (.int ((31 : Int32) + (own_sel x_0 x_1 x_2 s_0)))] [(.int ((31 : Int32) + (own_sel x_0 x_1 x_2 s_0))), (.int (31 : Int32))])) _
        refine XS.imul X0.here hx rfl (hb hby own_d6_27) rfl ?_
        show Steps p.tables e below (s₁.setTop (mkF m 28 #[.val (.ref e_o), .val (.ref s_o), .val (.int ((31 : Int32) + (own_sel x_0 x_1 x_2 s_0)))] [(.int ((31 : Int32) * ((31 : Int32) + (own_sel x_0 x_1 x_2 s_0))))])) _
        refine XS.aloadN X0.here hx rfl (hb hby own_d6_28) rfl rfl ?_
        show Steps p.tables e below (s₁.setTop (mkF m 29 #[.val (.ref e_o), .val (.ref s_o), .val (.int ((31 : Int32) + (own_sel x_0 x_1 x_2 s_0)))] [(.ref e_o), (.int ((31 : Int32) * ((31 : Int32) + (own_sel x_0 x_1 x_2 s_0))))])) _
        refine XS.aloadN X0.here hx rfl (hb hby own_d6_29) rfl rfl ?_
        show Steps p.tables e below (s₁.setTop (mkF m 30 #[.val (.ref e_o), .val (.ref s_o), .val (.int ((31 : Int32) + (own_sel x_0 x_1 x_2 s_0)))] [(.ref s_o), (.ref e_o), (.int ((31 : Int32) * ((31 : Int32) + (own_sel x_0 x_1 x_2 s_0))))])) _
        refine XS.iconst X0.here hx rfl (hb hby own_d6_30) ?_
        show Steps p.tables e below (s₁.setTop (mkF m 31 #[.val (.ref e_o), .val (.ref s_o), .val (.int ((31 : Int32) + (own_sel x_0 x_1 x_2 s_0)))] [(.int (1 : Int32)), (.ref s_o), (.ref e_o), (.int ((31 : Int32) * ((31 : Int32) + (own_sel x_0 x_1 x_2 s_0))))])) _
        refine X0.iaload hx (j := (1 : Int32)) (v := (.int s_1)) (by rw [e0]; exact Ar35.1) (State.isArrayOf_alike hZ.alike Ar35.2.1) Ar35.2.2 hin35 hat35 (g := (mkF m 31 #[.val (.ref e_o), .val (.ref s_o), .val (.int ((31 : Int32) + (own_sel x_0 x_1 x_2 s_0)))] [(.int (1 : Int32)), (.ref s_o), (.ref e_o), (.int ((31 : Int32) * ((31 : Int32) + (own_sel x_0 x_1 x_2 s_0))))])) rfl rfl (hb hby own_d6_31) _ ?_
        show Steps p.tables e below (s₁.setTop (mkF m 32 #[.val (.ref e_o), .val (.ref s_o), .val (.int ((31 : Int32) + (own_sel x_0 x_1 x_2 s_0)))] [(.int s_1), (.ref e_o), (.int ((31 : Int32) * ((31 : Int32) + (own_sel x_0 x_1 x_2 s_0))))])) _
        refine X0.iaload hx (j := s_1) (v := (.int (own_sel x_0 x_1 x_2 s_1))) (by rw [e0]; exact Ar37.1) (State.isArrayOf_alike hZ.alike Ar37.2.1) Ar37.2.2 hin37 hat37 (g := (mkF m 32 #[.val (.ref e_o), .val (.ref s_o), .val (.int ((31 : Int32) + (own_sel x_0 x_1 x_2 s_0)))] [(.int s_1), (.ref e_o), (.int ((31 : Int32) * ((31 : Int32) + (own_sel x_0 x_1 x_2 s_0))))])) rfl rfl (hb hby own_d6_32) _ ?_
        show Steps p.tables e below (s₁.setTop (mkF m 33 #[.val (.ref e_o), .val (.ref s_o), .val (.int ((31 : Int32) + (own_sel x_0 x_1 x_2 s_0)))] [(.int (own_sel x_0 x_1 x_2 s_1)), (.int ((31 : Int32) * ((31 : Int32) + (own_sel x_0 x_1 x_2 s_0))))])) _
        refine XS.iadd X0.here hx rfl (hb hby own_d6_33) rfl ?_
        show Steps p.tables e below (s₁.setTop (mkF m 34 #[.val (.ref e_o), .val (.ref s_o), .val (.int ((31 : Int32) + (own_sel x_0 x_1 x_2 s_0)))] [(.int (((31 : Int32) * ((31 : Int32) + (own_sel x_0 x_1 x_2 s_0))) + (own_sel x_0 x_1 x_2 s_1)))])) _
        refine XS.istoreN X0.here hx rfl (hb hby own_d6_34) rfl (l' := #[.val (.ref e_o), .val (.ref s_o), .val (.int (((31 : Int32) * ((31 : Int32) + (own_sel x_0 x_1 x_2 s_0))) + (own_sel x_0 x_1 x_2 s_1)))]) rfl ?_
        show Steps p.tables e below (s₁.setTop (mkF m 35 #[.val (.ref e_o), .val (.ref s_o), .val (.int (((31 : Int32) * ((31 : Int32) + (own_sel x_0 x_1 x_2 s_0))) + (own_sel x_0 x_1 x_2 s_1)))] [])) _
        refine XS.aloadN X0.here hx rfl (hb hby own_d6_35) rfl rfl ?_
        show Steps p.tables e below (s₁.setTop (mkF m 36 #[.val (.ref e_o), .val (.ref s_o), .val (.int (((31 : Int32) * ((31 : Int32) + (own_sel x_0 x_1 x_2 s_0))) + (own_sel x_0 x_1 x_2 s_1)))] [(.ref s_o)])) _
        refine X0.arraylength hx (by rw [e0]; exact Ar42.1) (State.isArrayOf_alike hZ.alike Ar42.2.1) (g := (mkF m 36 #[.val (.ref e_o), .val (.ref s_o), .val (.int (((31 : Int32) * ((31 : Int32) + (own_sel x_0 x_1 x_2 s_0))) + (own_sel x_0 x_1 x_2 s_1)))] [(.ref s_o)])) rfl rfl (hb hby own_d6_36) _ ?_
        rw [len_of S42 M42]
        show Steps p.tables e below (s₁.setTop (mkF m 37 #[.val (.ref e_o), .val (.ref s_o), .val (.int (((31 : Int32) * ((31 : Int32) + (own_sel x_0 x_1 x_2 s_0))) + (own_sel x_0 x_1 x_2 s_1)))] [(.int n_1)])) _
        refine XS.iconst X0.here hx rfl (hb hby own_d6_37) ?_
        exact kt
      by_cases hc38_46 : (2 : Int32) < n_1
      · obtain ⟨cl54, Ar54, q54, S54, M54, H54, G54⟩ := id V_s
        have hin54 : ¬ ((2 : Int32) < 0 ∨ cl54.slots.size ≤ ((2 : Int32)).toNatClampNeg) := inb_of S54 ⟨by decide, hc38_46⟩
        have hat54 : cl54.slots[((2 : Int32)).toNatClampNeg]? = some (.int s_2) := H54.at hin54 rfl
        obtain ⟨cl56, Ar56, q56, S56, M56, H56, G56⟩ := id V_e
        have hin56 : ¬ (s_2 < 0 ∨ cl56.slots.size ≤ (s_2).toNatClampNeg) := inb_of S56 hb2
        have hat56 : cl56.slots[(s_2).toNatClampNeg]? = some (.int (own_sel x_0 x_1 x_2 s_2)) := H56.at hin56 (own_sel_get _ _ _ _ _ hb2)
        obtain ⟨fs, hr, hrun, hended, hW, hsame⟩ := X0.leave (v := some (.int (((31 : Int32) * (((31 : Int32) * ((31 : Int32) + (own_sel x_0 x_1 x_2 s_0))) + (own_sel x_0 x_1 x_2 s_1))) + (own_sel x_0 x_1 x_2 s_2)))) (fun h => by rw [Bd.returns] at h; cases h) (hlocks := BodyLoose.notSynchronized Bd)
        refine ⟨_, _, pre45 _ ?_, hrun, hended, _, _, rfl, ?_, ⟨_, rfl⟩, hW, hsame.mono (by decide) (by decide)⟩
        · show Steps p.tables e below (s₁.setTop (mkF m 38 #[.val (.ref e_o), .val (.ref s_o), .val (.int (((31 : Int32) * ((31 : Int32) + (own_sel x_0 x_1 x_2 s_0))) + (own_sel x_0 x_1 x_2 s_1)))] [(.int (2 : Int32)), (.int n_1)])) _
          refine XS.icmpNo X0.here hx rfl (hb hby own_d6_38) rfl (tlt hc38_46).2.2.2 ?_
          show Steps p.tables e below (s₁.setTop (mkF m 41 #[.val (.ref e_o), .val (.ref s_o), .val (.int (((31 : Int32) * ((31 : Int32) + (own_sel x_0 x_1 x_2 s_0))) + (own_sel x_0 x_1 x_2 s_1)))] [])) _
          refine XS.bipush X0.here hx rfl (hb hby own_d6_41) ?_
          show Steps p.tables e below (s₁.setTop (mkF m 43 #[.val (.ref e_o), .val (.ref s_o), .val (.int (((31 : Int32) * ((31 : Int32) + (own_sel x_0 x_1 x_2 s_0))) + (own_sel x_0 x_1 x_2 s_1)))] [(.int (31 : Int32))])) _
          refine XS.iloadN X0.here hx rfl (hb hby own_d6_43) rfl ?_
          show Steps p.tables e below (s₁.setTop (mkF m 44 #[.val (.ref e_o), .val (.ref s_o), .val (.int (((31 : Int32) * ((31 : Int32) + (own_sel x_0 x_1 x_2 s_0))) + (own_sel x_0 x_1 x_2 s_1)))] [(.int (((31 : Int32) * ((31 : Int32) + (own_sel x_0 x_1 x_2 s_0))) + (own_sel x_0 x_1 x_2 s_1))), (.int (31 : Int32))])) _
          refine XS.imul X0.here hx rfl (hb hby own_d6_44) rfl ?_
          show Steps p.tables e below (s₁.setTop (mkF m 45 #[.val (.ref e_o), .val (.ref s_o), .val (.int (((31 : Int32) * ((31 : Int32) + (own_sel x_0 x_1 x_2 s_0))) + (own_sel x_0 x_1 x_2 s_1)))] [(.int ((31 : Int32) * (((31 : Int32) * ((31 : Int32) + (own_sel x_0 x_1 x_2 s_0))) + (own_sel x_0 x_1 x_2 s_1))))])) _
          refine XS.aloadN X0.here hx rfl (hb hby own_d6_45) rfl rfl ?_
          show Steps p.tables e below (s₁.setTop (mkF m 46 #[.val (.ref e_o), .val (.ref s_o), .val (.int (((31 : Int32) * ((31 : Int32) + (own_sel x_0 x_1 x_2 s_0))) + (own_sel x_0 x_1 x_2 s_1)))] [(.ref e_o), (.int ((31 : Int32) * (((31 : Int32) * ((31 : Int32) + (own_sel x_0 x_1 x_2 s_0))) + (own_sel x_0 x_1 x_2 s_1))))])) _
          refine XS.aloadN X0.here hx rfl (hb hby own_d6_46) rfl rfl ?_
          show Steps p.tables e below (s₁.setTop (mkF m 47 #[.val (.ref e_o), .val (.ref s_o), .val (.int (((31 : Int32) * ((31 : Int32) + (own_sel x_0 x_1 x_2 s_0))) + (own_sel x_0 x_1 x_2 s_1)))] [(.ref s_o), (.ref e_o), (.int ((31 : Int32) * (((31 : Int32) * ((31 : Int32) + (own_sel x_0 x_1 x_2 s_0))) + (own_sel x_0 x_1 x_2 s_1))))])) _
          refine XS.iconst X0.here hx rfl (hb hby own_d6_47) ?_
          show Steps p.tables e below (s₁.setTop (mkF m 48 #[.val (.ref e_o), .val (.ref s_o), .val (.int (((31 : Int32) * ((31 : Int32) + (own_sel x_0 x_1 x_2 s_0))) + (own_sel x_0 x_1 x_2 s_1)))] [(.int (2 : Int32)), (.ref s_o), (.ref e_o), (.int ((31 : Int32) * (((31 : Int32) * ((31 : Int32) + (own_sel x_0 x_1 x_2 s_0))) + (own_sel x_0 x_1 x_2 s_1))))])) _
          refine X0.iaload hx (j := (2 : Int32)) (v := (.int s_2)) (by rw [e0]; exact Ar54.1) (State.isArrayOf_alike hZ.alike Ar54.2.1) Ar54.2.2 hin54 hat54 (g := (mkF m 48 #[.val (.ref e_o), .val (.ref s_o), .val (.int (((31 : Int32) * ((31 : Int32) + (own_sel x_0 x_1 x_2 s_0))) + (own_sel x_0 x_1 x_2 s_1)))] [(.int (2 : Int32)), (.ref s_o), (.ref e_o), (.int ((31 : Int32) * (((31 : Int32) * ((31 : Int32) + (own_sel x_0 x_1 x_2 s_0))) + (own_sel x_0 x_1 x_2 s_1))))])) rfl rfl (hb hby own_d6_48) _ ?_
          show Steps p.tables e below (s₁.setTop (mkF m 49 #[.val (.ref e_o), .val (.ref s_o), .val (.int (((31 : Int32) * ((31 : Int32) + (own_sel x_0 x_1 x_2 s_0))) + (own_sel x_0 x_1 x_2 s_1)))] [(.int s_2), (.ref e_o), (.int ((31 : Int32) * (((31 : Int32) * ((31 : Int32) + (own_sel x_0 x_1 x_2 s_0))) + (own_sel x_0 x_1 x_2 s_1))))])) _
          refine X0.iaload hx (j := s_2) (v := (.int (own_sel x_0 x_1 x_2 s_2))) (by rw [e0]; exact Ar56.1) (State.isArrayOf_alike hZ.alike Ar56.2.1) Ar56.2.2 hin56 hat56 (g := (mkF m 49 #[.val (.ref e_o), .val (.ref s_o), .val (.int (((31 : Int32) * ((31 : Int32) + (own_sel x_0 x_1 x_2 s_0))) + (own_sel x_0 x_1 x_2 s_1)))] [(.int s_2), (.ref e_o), (.int ((31 : Int32) * (((31 : Int32) * ((31 : Int32) + (own_sel x_0 x_1 x_2 s_0))) + (own_sel x_0 x_1 x_2 s_1))))])) rfl rfl (hb hby own_d6_49) _ ?_
          show Steps p.tables e below (s₁.setTop (mkF m 50 #[.val (.ref e_o), .val (.ref s_o), .val (.int (((31 : Int32) * ((31 : Int32) + (own_sel x_0 x_1 x_2 s_0))) + (own_sel x_0 x_1 x_2 s_1)))] [(.int (own_sel x_0 x_1 x_2 s_2)), (.int ((31 : Int32) * (((31 : Int32) * ((31 : Int32) + (own_sel x_0 x_1 x_2 s_0))) + (own_sel x_0 x_1 x_2 s_1))))])) _
          refine XS.iadd X0.here hx rfl (hb hby own_d6_50) rfl ?_
          show Steps p.tables e below (s₁.setTop (mkF m 51 #[.val (.ref e_o), .val (.ref s_o), .val (.int (((31 : Int32) * ((31 : Int32) + (own_sel x_0 x_1 x_2 s_0))) + (own_sel x_0 x_1 x_2 s_1)))] [(.int (((31 : Int32) * (((31 : Int32) * ((31 : Int32) + (own_sel x_0 x_1 x_2 s_0))) + (own_sel x_0 x_1 x_2 s_1))) + (own_sel x_0 x_1 x_2 s_2)))])) _
          refine XS.istoreN X0.here hx rfl (hb hby own_d6_51) rfl (l' := #[.val (.ref e_o), .val (.ref s_o), .val (.int (((31 : Int32) * (((31 : Int32) * ((31 : Int32) + (own_sel x_0 x_1 x_2 s_0))) + (own_sel x_0 x_1 x_2 s_1))) + (own_sel x_0 x_1 x_2 s_2)))]) rfl ?_
          show Steps p.tables e below (s₁.setTop (mkF m 52 #[.val (.ref e_o), .val (.ref s_o), .val (.int (((31 : Int32) * (((31 : Int32) * ((31 : Int32) + (own_sel x_0 x_1 x_2 s_0))) + (own_sel x_0 x_1 x_2 s_1))) + (own_sel x_0 x_1 x_2 s_2)))] [])) _
          refine XS.iloadN X0.here hx rfl (hb hby own_d6_52) rfl ?_
          show Steps p.tables e below (s₁.setTop (mkF m 53 #[.val (.ref e_o), .val (.ref s_o), .val (.int (((31 : Int32) * (((31 : Int32) * ((31 : Int32) + (own_sel x_0 x_1 x_2 s_0))) + (own_sel x_0 x_1 x_2 s_1))) + (own_sel x_0 x_1 x_2 s_2)))] [(.int (((31 : Int32) * (((31 : Int32) * ((31 : Int32) + (own_sel x_0 x_1 x_2 s_0))) + (own_sel x_0 x_1 x_2 s_1))) + (own_sel x_0 x_1 x_2 s_2)))])) _
          exact retI X0 hx Bd.returns (hb hby own_d6_53) hr
        · show Qown_hash Z e_o s_o k_e k_s n_1 x_0 x_1 x_2 s_0 s_1 s_2 h0 n0 _ s₁.heap _
          rw [e0]
          have hv : (own_hash_f n_1 x_0 x_1 x_2 s_0 s_1 s_2) = (((31 : Int32) * (((31 : Int32) * ((31 : Int32) + (own_sel x_0 x_1 x_2 s_0))) + (own_sel x_0 x_1 x_2 s_1))) + (own_sel x_0 x_1 x_2 s_2)) := by unfold own_hash_f; rw [if_pos hc4_8, if_pos hc21_27, if_pos hc38_46]
          exact ⟨(by rw [hv]), N0, rfl⟩
      · obtain ⟨fs, hr, hrun, hended, hW, hsame⟩ := X0.leave (v := some (.int (((31 : Int32) * ((31 : Int32) + (own_sel x_0 x_1 x_2 s_0))) + (own_sel x_0 x_1 x_2 s_1)))) (fun h => by rw [Bd.returns] at h; cases h) (hlocks := BodyLoose.notSynchronized Bd)
        refine ⟨_, _, pre45 _ ?_, hrun, hended, _, _, rfl, ?_, ⟨_, rfl⟩, hW, hsame.mono (by decide) (by decide)⟩
        · show Steps p.tables e below (s₁.setTop (mkF m 38 #[.val (.ref e_o), .val (.ref s_o), .val (.int (((31 : Int32) * ((31 : Int32) + (own_sel x_0 x_1 x_2 s_0))) + (own_sel x_0 x_1 x_2 s_1)))] [(.int (2 : Int32)), (.int n_1)])) _
          refine XS.icmpYes X0.here hx rfl (pc0 := 38) (pc' := 52) rfl (hb hby own_d6_38) rfl (flt hc38_46).2.2.2 (by decide) (by decide) ?_
          show Steps p.tables e below (s₁.setTop (mkF m 52 #[.val (.ref e_o), .val (.ref s_o), .val (.int (((31 : Int32) * ((31 : Int32) + (own_sel x_0 x_1 x_2 s_0))) + (own_sel x_0 x_1 x_2 s_1)))] [])) _
          refine XS.iloadN X0.here hx rfl (hb hby own_d6_52) rfl ?_
          show Steps p.tables e below (s₁.setTop (mkF m 53 #[.val (.ref e_o), .val (.ref s_o), .val (.int (((31 : Int32) * ((31 : Int32) + (own_sel x_0 x_1 x_2 s_0))) + (own_sel x_0 x_1 x_2 s_1)))] [(.int (((31 : Int32) * ((31 : Int32) + (own_sel x_0 x_1 x_2 s_0))) + (own_sel x_0 x_1 x_2 s_1)))])) _
          exact retI X0 hx Bd.returns (hb hby own_d6_53) hr
        · show Qown_hash Z e_o s_o k_e k_s n_1 x_0 x_1 x_2 s_0 s_1 s_2 h0 n0 _ s₁.heap _
          rw [e0]
          have hv : (own_hash_f n_1 x_0 x_1 x_2 s_0 s_1 s_2) = (((31 : Int32) * ((31 : Int32) + (own_sel x_0 x_1 x_2 s_0))) + (own_sel x_0 x_1 x_2 s_1)) := by unfold own_hash_f; rw [if_pos hc4_8, if_pos hc21_27, if_neg hc38_46]
          exact ⟨(by rw [hv]), N0, rfl⟩
    · obtain ⟨cl65, Ar65, -, S65, M65, -, -⟩ := id V_s
      have pre68 : ∀ t, Steps p.tables e below (s₁.setTop (mkF m 38 #[.val (.ref e_o), .val (.ref s_o), .val (.int ((31 : Int32) + (own_sel x_0 x_1 x_2 s_0)))] [(.int (2 : Int32)), (.int n_1)])) t → Steps p.tables e below (s₁.setTop (entryFrame m #[(.ref e_o), (.ref s_o)] 3)) t := by
        intro t kt
        refine pre26 _ ?_
        show Steps p.tables e below (s₁.setTop (mkF m 21 #[.val (.ref e_o), .val (.ref s_o), .val (.int ((31 : Int32) + (own_sel x_0 x_1 x_2 s_0)))] [(.int (1 : Int32)), (.int n_1)])) _
        refine XS.icmpYes X0.here hx rfl (pc0 := 21) (pc' := 35) rfl (hb hby own_d6_21) rfl (flt hc21_27).2.2.2 (by decide) (by decide) ?_
        show Steps p.tables e below (s₁.setTop (mkF m 35 #[.val (.ref e_o), .val (.ref s_o), .val (.int ((31 : Int32) + (own_sel x_0 x_1 x_2 s_0)))] [])) _
        refine XS.aloadN X0.here hx rfl (hb hby own_d6_35) rfl rfl ?_
        show Steps p.tables e below (s₁.setTop (mkF m 36 #[.val (.ref e_o), .val (.ref s_o), .val (.int ((31 : Int32) + (own_sel x_0 x_1 x_2 s_0)))] [(.ref s_o)])) _
        refine X0.arraylength hx (by rw [e0]; exact Ar65.1) (State.isArrayOf_alike hZ.alike Ar65.2.1) (g := (mkF m 36 #[.val (.ref e_o), .val (.ref s_o), .val (.int ((31 : Int32) + (own_sel x_0 x_1 x_2 s_0)))] [(.ref s_o)])) rfl rfl (hb hby own_d6_36) _ ?_
        rw [len_of S65 M65]
        show Steps p.tables e below (s₁.setTop (mkF m 37 #[.val (.ref e_o), .val (.ref s_o), .val (.int ((31 : Int32) + (own_sel x_0 x_1 x_2 s_0)))] [(.int n_1)])) _
        refine XS.iconst X0.here hx rfl (hb hby own_d6_37) ?_
        exact kt
      by_cases hc38_69 : (2 : Int32) < n_1
      · obtain ⟨cl77, Ar77, q77, S77, M77, H77, G77⟩ := id V_s
        have hin77 : ¬ ((2 : Int32) < 0 ∨ cl77.slots.size ≤ ((2 : Int32)).toNatClampNeg) := inb_of S77 ⟨by decide, hc38_69⟩
        have hat77 : cl77.slots[((2 : Int32)).toNatClampNeg]? = some (.int s_2) := H77.at hin77 rfl
        obtain ⟨cl79, Ar79, q79, S79, M79, H79, G79⟩ := id V_e
        have hin79 : ¬ (s_2 < 0 ∨ cl79.slots.size ≤ (s_2).toNatClampNeg) := inb_of S79 hb2
        have hat79 : cl79.slots[(s_2).toNatClampNeg]? = some (.int (own_sel x_0 x_1 x_2 s_2)) := H79.at hin79 (own_sel_get _ _ _ _ _ hb2)
        obtain ⟨fs, hr, hrun, hended, hW, hsame⟩ := X0.leave (v := some (.int (((31 : Int32) * ((31 : Int32) + (own_sel x_0 x_1 x_2 s_0))) + (own_sel x_0 x_1 x_2 s_2)))) (fun h => by rw [Bd.returns] at h; cases h) (hlocks := BodyLoose.notSynchronized Bd)
        refine ⟨_, _, pre68 _ ?_, hrun, hended, _, _, rfl, ?_, ⟨_, rfl⟩, hW, hsame.mono (by decide) (by decide)⟩
        · show Steps p.tables e below (s₁.setTop (mkF m 38 #[.val (.ref e_o), .val (.ref s_o), .val (.int ((31 : Int32) + (own_sel x_0 x_1 x_2 s_0)))] [(.int (2 : Int32)), (.int n_1)])) _
          refine XS.icmpNo X0.here hx rfl (hb hby own_d6_38) rfl (tlt hc38_69).2.2.2 ?_
          show Steps p.tables e below (s₁.setTop (mkF m 41 #[.val (.ref e_o), .val (.ref s_o), .val (.int ((31 : Int32) + (own_sel x_0 x_1 x_2 s_0)))] [])) _
          refine XS.bipush X0.here hx rfl (hb hby own_d6_41) ?_
          show Steps p.tables e below (s₁.setTop (mkF m 43 #[.val (.ref e_o), .val (.ref s_o), .val (.int ((31 : Int32) + (own_sel x_0 x_1 x_2 s_0)))] [(.int (31 : Int32))])) _
          refine XS.iloadN X0.here hx rfl (hb hby own_d6_43) rfl ?_
          show Steps p.tables e below (s₁.setTop (mkF m 44 #[.val (.ref e_o), .val (.ref s_o), .val (.int ((31 : Int32) + (own_sel x_0 x_1 x_2 s_0)))] [(.int ((31 : Int32) + (own_sel x_0 x_1 x_2 s_0))), (.int (31 : Int32))])) _
          refine XS.imul X0.here hx rfl (hb hby own_d6_44) rfl ?_
          show Steps p.tables e below (s₁.setTop (mkF m 45 #[.val (.ref e_o), .val (.ref s_o), .val (.int ((31 : Int32) + (own_sel x_0 x_1 x_2 s_0)))] [(.int ((31 : Int32) * ((31 : Int32) + (own_sel x_0 x_1 x_2 s_0))))])) _
          refine XS.aloadN X0.here hx rfl (hb hby own_d6_45) rfl rfl ?_
          show Steps p.tables e below (s₁.setTop (mkF m 46 #[.val (.ref e_o), .val (.ref s_o), .val (.int ((31 : Int32) + (own_sel x_0 x_1 x_2 s_0)))] [(.ref e_o), (.int ((31 : Int32) * ((31 : Int32) + (own_sel x_0 x_1 x_2 s_0))))])) _
          refine XS.aloadN X0.here hx rfl (hb hby own_d6_46) rfl rfl ?_
          show Steps p.tables e below (s₁.setTop (mkF m 47 #[.val (.ref e_o), .val (.ref s_o), .val (.int ((31 : Int32) + (own_sel x_0 x_1 x_2 s_0)))] [(.ref s_o), (.ref e_o), (.int ((31 : Int32) * ((31 : Int32) + (own_sel x_0 x_1 x_2 s_0))))])) _
          refine XS.iconst X0.here hx rfl (hb hby own_d6_47) ?_
          show Steps p.tables e below (s₁.setTop (mkF m 48 #[.val (.ref e_o), .val (.ref s_o), .val (.int ((31 : Int32) + (own_sel x_0 x_1 x_2 s_0)))] [(.int (2 : Int32)), (.ref s_o), (.ref e_o), (.int ((31 : Int32) * ((31 : Int32) + (own_sel x_0 x_1 x_2 s_0))))])) _
          refine X0.iaload hx (j := (2 : Int32)) (v := (.int s_2)) (by rw [e0]; exact Ar77.1) (State.isArrayOf_alike hZ.alike Ar77.2.1) Ar77.2.2 hin77 hat77 (g := (mkF m 48 #[.val (.ref e_o), .val (.ref s_o), .val (.int ((31 : Int32) + (own_sel x_0 x_1 x_2 s_0)))] [(.int (2 : Int32)), (.ref s_o), (.ref e_o), (.int ((31 : Int32) * ((31 : Int32) + (own_sel x_0 x_1 x_2 s_0))))])) rfl rfl (hb hby own_d6_48) _ ?_
          show Steps p.tables e below (s₁.setTop (mkF m 49 #[.val (.ref e_o), .val (.ref s_o), .val (.int ((31 : Int32) + (own_sel x_0 x_1 x_2 s_0)))] [(.int s_2), (.ref e_o), (.int ((31 : Int32) * ((31 : Int32) + (own_sel x_0 x_1 x_2 s_0))))])) _
          refine X0.iaload hx (j := s_2) (v := (.int (own_sel x_0 x_1 x_2 s_2))) (by rw [e0]; exact Ar79.1) (State.isArrayOf_alike hZ.alike Ar79.2.1) Ar79.2.2 hin79 hat79 (g := (mkF m 49 #[.val (.ref e_o), .val (.ref s_o), .val (.int ((31 : Int32) + (own_sel x_0 x_1 x_2 s_0)))] [(.int s_2), (.ref e_o), (.int ((31 : Int32) * ((31 : Int32) + (own_sel x_0 x_1 x_2 s_0))))])) rfl rfl (hb hby own_d6_49) _ ?_
          show Steps p.tables e below (s₁.setTop (mkF m 50 #[.val (.ref e_o), .val (.ref s_o), .val (.int ((31 : Int32) + (own_sel x_0 x_1 x_2 s_0)))] [(.int (own_sel x_0 x_1 x_2 s_2)), (.int ((31 : Int32) * ((31 : Int32) + (own_sel x_0 x_1 x_2 s_0))))])) _
          refine XS.iadd X0.here hx rfl (hb hby own_d6_50) rfl ?_
          show Steps p.tables e below (s₁.setTop (mkF m 51 #[.val (.ref e_o), .val (.ref s_o), .val (.int ((31 : Int32) + (own_sel x_0 x_1 x_2 s_0)))] [(.int (((31 : Int32) * ((31 : Int32) + (own_sel x_0 x_1 x_2 s_0))) + (own_sel x_0 x_1 x_2 s_2)))])) _
          refine XS.istoreN X0.here hx rfl (hb hby own_d6_51) rfl (l' := #[.val (.ref e_o), .val (.ref s_o), .val (.int (((31 : Int32) * ((31 : Int32) + (own_sel x_0 x_1 x_2 s_0))) + (own_sel x_0 x_1 x_2 s_2)))]) rfl ?_
          show Steps p.tables e below (s₁.setTop (mkF m 52 #[.val (.ref e_o), .val (.ref s_o), .val (.int (((31 : Int32) * ((31 : Int32) + (own_sel x_0 x_1 x_2 s_0))) + (own_sel x_0 x_1 x_2 s_2)))] [])) _
          refine XS.iloadN X0.here hx rfl (hb hby own_d6_52) rfl ?_
          show Steps p.tables e below (s₁.setTop (mkF m 53 #[.val (.ref e_o), .val (.ref s_o), .val (.int (((31 : Int32) * ((31 : Int32) + (own_sel x_0 x_1 x_2 s_0))) + (own_sel x_0 x_1 x_2 s_2)))] [(.int (((31 : Int32) * ((31 : Int32) + (own_sel x_0 x_1 x_2 s_0))) + (own_sel x_0 x_1 x_2 s_2)))])) _
          exact retI X0 hx Bd.returns (hb hby own_d6_53) hr
        · show Qown_hash Z e_o s_o k_e k_s n_1 x_0 x_1 x_2 s_0 s_1 s_2 h0 n0 _ s₁.heap _
          rw [e0]
          have hv : (own_hash_f n_1 x_0 x_1 x_2 s_0 s_1 s_2) = (((31 : Int32) * ((31 : Int32) + (own_sel x_0 x_1 x_2 s_0))) + (own_sel x_0 x_1 x_2 s_2)) := by unfold own_hash_f; rw [if_pos hc4_8, if_neg hc21_27, if_pos hc38_69]
          exact ⟨(by rw [hv]), N0, rfl⟩
      · obtain ⟨fs, hr, hrun, hended, hW, hsame⟩ := X0.leave (v := some (.int ((31 : Int32) + (own_sel x_0 x_1 x_2 s_0)))) (fun h => by rw [Bd.returns] at h; cases h) (hlocks := BodyLoose.notSynchronized Bd)
        refine ⟨_, _, pre68 _ ?_, hrun, hended, _, _, rfl, ?_, ⟨_, rfl⟩, hW, hsame.mono (by decide) (by decide)⟩
        · show Steps p.tables e below (s₁.setTop (mkF m 38 #[.val (.ref e_o), .val (.ref s_o), .val (.int ((31 : Int32) + (own_sel x_0 x_1 x_2 s_0)))] [(.int (2 : Int32)), (.int n_1)])) _
          refine XS.icmpYes X0.here hx rfl (pc0 := 38) (pc' := 52) rfl (hb hby own_d6_38) rfl (flt hc38_69).2.2.2 (by decide) (by decide) ?_
          show Steps p.tables e below (s₁.setTop (mkF m 52 #[.val (.ref e_o), .val (.ref s_o), .val (.int ((31 : Int32) + (own_sel x_0 x_1 x_2 s_0)))] [])) _
          refine XS.iloadN X0.here hx rfl (hb hby own_d6_52) rfl ?_
          show Steps p.tables e below (s₁.setTop (mkF m 53 #[.val (.ref e_o), .val (.ref s_o), .val (.int ((31 : Int32) + (own_sel x_0 x_1 x_2 s_0)))] [(.int ((31 : Int32) + (own_sel x_0 x_1 x_2 s_0)))])) _
          exact retI X0 hx Bd.returns (hb hby own_d6_53) hr
        · show Qown_hash Z e_o s_o k_e k_s n_1 x_0 x_1 x_2 s_0 s_1 s_2 h0 n0 _ s₁.heap _
          rw [e0]
          have hv : (own_hash_f n_1 x_0 x_1 x_2 s_0 s_1 s_2) = ((31 : Int32) + (own_sel x_0 x_1 x_2 s_0)) := by unfold own_hash_f; rw [if_pos hc4_8, if_neg hc21_27, if_neg hc38_69]
          exact ⟨(by rw [hv]), N0, rfl⟩
  · obtain ⟨cl88, Ar88, -, S88, M88, -, -⟩ := id V_s
    have pre91 : ∀ t, Steps p.tables e below (s₁.setTop (mkF m 21 #[.val (.ref e_o), .val (.ref s_o), .val (.int (1 : Int32))] [(.int (1 : Int32)), (.int n_1)])) t → Steps p.tables e below (s₁.setTop (entryFrame m #[(.ref e_o), (.ref s_o)] 3)) t := by
      intro t kt
      refine pre7 _ ?_
      show Steps p.tables e below (s₁.setTop (mkF m 4 #[.val (.ref e_o), .val (.ref s_o), .val (.int (1 : Int32))] [(.int n_1)])) _
      refine XS.ifYes X0.here hx rfl (pc0 := 4) (pc' := 18) rfl (hb hby own_d6_4) rfl ((if0 _ _).trans (flt hc4_8).2.2.2) (by decide) (by decide) ?_
      show Steps p.tables e below (s₁.setTop (mkF m 18 #[.val (.ref e_o), .val (.ref s_o), .val (.int (1 : Int32))] [])) _
      refine XS.aloadN X0.here hx rfl (hb hby own_d6_18) rfl rfl ?_
      show Steps p.tables e below (s₁.setTop (mkF m 19 #[.val (.ref e_o), .val (.ref s_o), .val (.int (1 : Int32))] [(.ref s_o)])) _
      refine X0.arraylength hx (by rw [e0]; exact Ar88.1) (State.isArrayOf_alike hZ.alike Ar88.2.1) (g := (mkF m 19 #[.val (.ref e_o), .val (.ref s_o), .val (.int (1 : Int32))] [(.ref s_o)])) rfl rfl (hb hby own_d6_19) _ ?_
      rw [len_of S88 M88]
      show Steps p.tables e below (s₁.setTop (mkF m 20 #[.val (.ref e_o), .val (.ref s_o), .val (.int (1 : Int32))] [(.int n_1)])) _
      refine XS.iconst X0.here hx rfl (hb hby own_d6_20) ?_
      exact kt
    by_cases hc21_92 : (1 : Int32) < n_1
    · obtain ⟨cl100, Ar100, q100, S100, M100, H100, G100⟩ := id V_s
      have hin100 : ¬ ((1 : Int32) < 0 ∨ cl100.slots.size ≤ ((1 : Int32)).toNatClampNeg) := inb_of S100 ⟨by decide, hc21_92⟩
      have hat100 : cl100.slots[((1 : Int32)).toNatClampNeg]? = some (.int s_1) := H100.at hin100 rfl
      obtain ⟨cl102, Ar102, q102, S102, M102, H102, G102⟩ := id V_e
      have hin102 : ¬ (s_1 < 0 ∨ cl102.slots.size ≤ (s_1).toNatClampNeg) := inb_of S102 hb1
      have hat102 : cl102.slots[(s_1).toNatClampNeg]? = some (.int (own_sel x_0 x_1 x_2 s_1)) := H102.at hin102 (own_sel_get _ _ _ _ _ hb1)
      obtain ⟨cl107, Ar107, -, S107, M107, -, -⟩ := id V_s
      have pre110 : ∀ t, Steps p.tables e below (s₁.setTop (mkF m 38 #[.val (.ref e_o), .val (.ref s_o), .val (.int ((31 : Int32) + (own_sel x_0 x_1 x_2 s_1)))] [(.int (2 : Int32)), (.int n_1)])) t → Steps p.tables e below (s₁.setTop (entryFrame m #[(.ref e_o), (.ref s_o)] 3)) t := by
        intro t kt
        refine pre91 _ ?_
        show Steps p.tables e below (s₁.setTop (mkF m 21 #[.val (.ref e_o), .val (.ref s_o), .val (.int (1 : Int32))] [(.int (1 : Int32)), (.int n_1)])) _
        refine XS.icmpNo X0.here hx rfl (hb hby own_d6_21) rfl (tlt hc21_92).2.2.2 ?_
        show Steps p.tables e below (s₁.setTop (mkF m 24 #[.val (.ref e_o), .val (.ref s_o), .val (.int (1 : Int32))] [])) _
        refine XS.bipush X0.here hx rfl (hb hby own_d6_24) ?_
        show Steps p.tables e below (s₁.setTop (mkF m 26 #[.val (.ref e_o), .val (.ref s_o), .val (.int (1 : Int32))] [(.int (31 : Int32))])) _
        refine XS.iloadN X0.here hx rfl (hb hby own_d6_26) rfl ?_
        show Steps p.tables e below (s₁.setTop (mkF m 27 #[.val (.ref e_o), .val (.ref s_o), .val (.int (1 : Int32))] [(.int (1 : Int32)), (.int (31 : Int32))])) _
        refine XS.imul X0.here hx rfl (hb hby own_d6_27) rfl ?_
        show Steps p.tables e below (s₁.setTop (mkF m 28 #[.val (.ref e_o), .val (.ref s_o), .val (.int (1 : Int32))] [(.int (31 : Int32))])) _
        refine XS.aloadN X0.here hx rfl (hb hby own_d6_28) rfl rfl ?_
        show Steps p.tables e below (s₁.setTop (mkF m 29 #[.val (.ref e_o), .val (.ref s_o), .val (.int (1 : Int32))] [(.ref e_o), (.int (31 : Int32))])) _
        refine XS.aloadN X0.here hx rfl (hb hby own_d6_29) rfl rfl ?_
        show Steps p.tables e below (s₁.setTop (mkF m 30 #[.val (.ref e_o), .val (.ref s_o), .val (.int (1 : Int32))] [(.ref s_o), (.ref e_o), (.int (31 : Int32))])) _
        refine XS.iconst X0.here hx rfl (hb hby own_d6_30) ?_
        show Steps p.tables e below (s₁.setTop (mkF m 31 #[.val (.ref e_o), .val (.ref s_o), .val (.int (1 : Int32))] [(.int (1 : Int32)), (.ref s_o), (.ref e_o), (.int (31 : Int32))])) _
        refine X0.iaload hx (j := (1 : Int32)) (v := (.int s_1)) (by rw [e0]; exact Ar100.1) (State.isArrayOf_alike hZ.alike Ar100.2.1) Ar100.2.2 hin100 hat100 (g := (mkF m 31 #[.val (.ref e_o), .val (.ref s_o), .val (.int (1 : Int32))] [(.int (1 : Int32)), (.ref s_o), (.ref e_o), (.int (31 : Int32))])) rfl rfl (hb hby own_d6_31) _ ?_
        show Steps p.tables e below (s₁.setTop (mkF m 32 #[.val (.ref e_o), .val (.ref s_o), .val (.int (1 : Int32))] [(.int s_1), (.ref e_o), (.int (31 : Int32))])) _
        refine X0.iaload hx (j := s_1) (v := (.int (own_sel x_0 x_1 x_2 s_1))) (by rw [e0]; exact Ar102.1) (State.isArrayOf_alike hZ.alike Ar102.2.1) Ar102.2.2 hin102 hat102 (g := (mkF m 32 #[.val (.ref e_o), .val (.ref s_o), .val (.int (1 : Int32))] [(.int s_1), (.ref e_o), (.int (31 : Int32))])) rfl rfl (hb hby own_d6_32) _ ?_
        show Steps p.tables e below (s₁.setTop (mkF m 33 #[.val (.ref e_o), .val (.ref s_o), .val (.int (1 : Int32))] [(.int (own_sel x_0 x_1 x_2 s_1)), (.int (31 : Int32))])) _
        refine XS.iadd X0.here hx rfl (hb hby own_d6_33) rfl ?_
        show Steps p.tables e below (s₁.setTop (mkF m 34 #[.val (.ref e_o), .val (.ref s_o), .val (.int (1 : Int32))] [(.int ((31 : Int32) + (own_sel x_0 x_1 x_2 s_1)))])) _
        refine XS.istoreN X0.here hx rfl (hb hby own_d6_34) rfl (l' := #[.val (.ref e_o), .val (.ref s_o), .val (.int ((31 : Int32) + (own_sel x_0 x_1 x_2 s_1)))]) rfl ?_
        show Steps p.tables e below (s₁.setTop (mkF m 35 #[.val (.ref e_o), .val (.ref s_o), .val (.int ((31 : Int32) + (own_sel x_0 x_1 x_2 s_1)))] [])) _
        refine XS.aloadN X0.here hx rfl (hb hby own_d6_35) rfl rfl ?_
        show Steps p.tables e below (s₁.setTop (mkF m 36 #[.val (.ref e_o), .val (.ref s_o), .val (.int ((31 : Int32) + (own_sel x_0 x_1 x_2 s_1)))] [(.ref s_o)])) _
        refine X0.arraylength hx (by rw [e0]; exact Ar107.1) (State.isArrayOf_alike hZ.alike Ar107.2.1) (g := (mkF m 36 #[.val (.ref e_o), .val (.ref s_o), .val (.int ((31 : Int32) + (own_sel x_0 x_1 x_2 s_1)))] [(.ref s_o)])) rfl rfl (hb hby own_d6_36) _ ?_
        rw [len_of S107 M107]
        show Steps p.tables e below (s₁.setTop (mkF m 37 #[.val (.ref e_o), .val (.ref s_o), .val (.int ((31 : Int32) + (own_sel x_0 x_1 x_2 s_1)))] [(.int n_1)])) _
        refine XS.iconst X0.here hx rfl (hb hby own_d6_37) ?_
        exact kt
      by_cases hc38_111 : (2 : Int32) < n_1
      · obtain ⟨cl119, Ar119, q119, S119, M119, H119, G119⟩ := id V_s
        have hin119 : ¬ ((2 : Int32) < 0 ∨ cl119.slots.size ≤ ((2 : Int32)).toNatClampNeg) := inb_of S119 ⟨by decide, hc38_111⟩
        have hat119 : cl119.slots[((2 : Int32)).toNatClampNeg]? = some (.int s_2) := H119.at hin119 rfl
        obtain ⟨cl121, Ar121, q121, S121, M121, H121, G121⟩ := id V_e
        have hin121 : ¬ (s_2 < 0 ∨ cl121.slots.size ≤ (s_2).toNatClampNeg) := inb_of S121 hb2
        have hat121 : cl121.slots[(s_2).toNatClampNeg]? = some (.int (own_sel x_0 x_1 x_2 s_2)) := H121.at hin121 (own_sel_get _ _ _ _ _ hb2)
        obtain ⟨fs, hr, hrun, hended, hW, hsame⟩ := X0.leave (v := some (.int (((31 : Int32) * ((31 : Int32) + (own_sel x_0 x_1 x_2 s_1))) + (own_sel x_0 x_1 x_2 s_2)))) (fun h => by rw [Bd.returns] at h; cases h) (hlocks := BodyLoose.notSynchronized Bd)
        refine ⟨_, _, pre110 _ ?_, hrun, hended, _, _, rfl, ?_, ⟨_, rfl⟩, hW, hsame.mono (by decide) (by decide)⟩
        · show Steps p.tables e below (s₁.setTop (mkF m 38 #[.val (.ref e_o), .val (.ref s_o), .val (.int ((31 : Int32) + (own_sel x_0 x_1 x_2 s_1)))] [(.int (2 : Int32)), (.int n_1)])) _
          refine XS.icmpNo X0.here hx rfl (hb hby own_d6_38) rfl (tlt hc38_111).2.2.2 ?_
          show Steps p.tables e below (s₁.setTop (mkF m 41 #[.val (.ref e_o), .val (.ref s_o), .val (.int ((31 : Int32) + (own_sel x_0 x_1 x_2 s_1)))] [])) _
          refine XS.bipush X0.here hx rfl (hb hby own_d6_41) ?_
          show Steps p.tables e below (s₁.setTop (mkF m 43 #[.val (.ref e_o), .val (.ref s_o), .val (.int ((31 : Int32) + (own_sel x_0 x_1 x_2 s_1)))] [(.int (31 : Int32))])) _
          refine XS.iloadN X0.here hx rfl (hb hby own_d6_43) rfl ?_
          show Steps p.tables e below (s₁.setTop (mkF m 44 #[.val (.ref e_o), .val (.ref s_o), .val (.int ((31 : Int32) + (own_sel x_0 x_1 x_2 s_1)))] [(.int ((31 : Int32) + (own_sel x_0 x_1 x_2 s_1))), (.int (31 : Int32))])) _
          refine XS.imul X0.here hx rfl (hb hby own_d6_44) rfl ?_
          show Steps p.tables e below (s₁.setTop (mkF m 45 #[.val (.ref e_o), .val (.ref s_o), .val (.int ((31 : Int32) + (own_sel x_0 x_1 x_2 s_1)))] [(.int ((31 : Int32) * ((31 : Int32) + (own_sel x_0 x_1 x_2 s_1))))])) _
          refine XS.aloadN X0.here hx rfl (hb hby own_d6_45) rfl rfl ?_
          show Steps p.tables e below (s₁.setTop (mkF m 46 #[.val (.ref e_o), .val (.ref s_o), .val (.int ((31 : Int32) + (own_sel x_0 x_1 x_2 s_1)))] [(.ref e_o), (.int ((31 : Int32) * ((31 : Int32) + (own_sel x_0 x_1 x_2 s_1))))])) _
          refine XS.aloadN X0.here hx rfl (hb hby own_d6_46) rfl rfl ?_
          show Steps p.tables e below (s₁.setTop (mkF m 47 #[.val (.ref e_o), .val (.ref s_o), .val (.int ((31 : Int32) + (own_sel x_0 x_1 x_2 s_1)))] [(.ref s_o), (.ref e_o), (.int ((31 : Int32) * ((31 : Int32) + (own_sel x_0 x_1 x_2 s_1))))])) _
          refine XS.iconst X0.here hx rfl (hb hby own_d6_47) ?_
          show Steps p.tables e below (s₁.setTop (mkF m 48 #[.val (.ref e_o), .val (.ref s_o), .val (.int ((31 : Int32) + (own_sel x_0 x_1 x_2 s_1)))] [(.int (2 : Int32)), (.ref s_o), (.ref e_o), (.int ((31 : Int32) * ((31 : Int32) + (own_sel x_0 x_1 x_2 s_1))))])) _
          refine X0.iaload hx (j := (2 : Int32)) (v := (.int s_2)) (by rw [e0]; exact Ar119.1) (State.isArrayOf_alike hZ.alike Ar119.2.1) Ar119.2.2 hin119 hat119 (g := (mkF m 48 #[.val (.ref e_o), .val (.ref s_o), .val (.int ((31 : Int32) + (own_sel x_0 x_1 x_2 s_1)))] [(.int (2 : Int32)), (.ref s_o), (.ref e_o), (.int ((31 : Int32) * ((31 : Int32) + (own_sel x_0 x_1 x_2 s_1))))])) rfl rfl (hb hby own_d6_48) _ ?_
          show Steps p.tables e below (s₁.setTop (mkF m 49 #[.val (.ref e_o), .val (.ref s_o), .val (.int ((31 : Int32) + (own_sel x_0 x_1 x_2 s_1)))] [(.int s_2), (.ref e_o), (.int ((31 : Int32) * ((31 : Int32) + (own_sel x_0 x_1 x_2 s_1))))])) _
          refine X0.iaload hx (j := s_2) (v := (.int (own_sel x_0 x_1 x_2 s_2))) (by rw [e0]; exact Ar121.1) (State.isArrayOf_alike hZ.alike Ar121.2.1) Ar121.2.2 hin121 hat121 (g := (mkF m 49 #[.val (.ref e_o), .val (.ref s_o), .val (.int ((31 : Int32) + (own_sel x_0 x_1 x_2 s_1)))] [(.int s_2), (.ref e_o), (.int ((31 : Int32) * ((31 : Int32) + (own_sel x_0 x_1 x_2 s_1))))])) rfl rfl (hb hby own_d6_49) _ ?_
          show Steps p.tables e below (s₁.setTop (mkF m 50 #[.val (.ref e_o), .val (.ref s_o), .val (.int ((31 : Int32) + (own_sel x_0 x_1 x_2 s_1)))] [(.int (own_sel x_0 x_1 x_2 s_2)), (.int ((31 : Int32) * ((31 : Int32) + (own_sel x_0 x_1 x_2 s_1))))])) _
          refine XS.iadd X0.here hx rfl (hb hby own_d6_50) rfl ?_
          show Steps p.tables e below (s₁.setTop (mkF m 51 #[.val (.ref e_o), .val (.ref s_o), .val (.int ((31 : Int32) + (own_sel x_0 x_1 x_2 s_1)))] [(.int (((31 : Int32) * ((31 : Int32) + (own_sel x_0 x_1 x_2 s_1))) + (own_sel x_0 x_1 x_2 s_2)))])) _
          refine XS.istoreN X0.here hx rfl (hb hby own_d6_51) rfl (l' := #[.val (.ref e_o), .val (.ref s_o), .val (.int (((31 : Int32) * ((31 : Int32) + (own_sel x_0 x_1 x_2 s_1))) + (own_sel x_0 x_1 x_2 s_2)))]) rfl ?_
          show Steps p.tables e below (s₁.setTop (mkF m 52 #[.val (.ref e_o), .val (.ref s_o), .val (.int (((31 : Int32) * ((31 : Int32) + (own_sel x_0 x_1 x_2 s_1))) + (own_sel x_0 x_1 x_2 s_2)))] [])) _
          refine XS.iloadN X0.here hx rfl (hb hby own_d6_52) rfl ?_
          show Steps p.tables e below (s₁.setTop (mkF m 53 #[.val (.ref e_o), .val (.ref s_o), .val (.int (((31 : Int32) * ((31 : Int32) + (own_sel x_0 x_1 x_2 s_1))) + (own_sel x_0 x_1 x_2 s_2)))] [(.int (((31 : Int32) * ((31 : Int32) + (own_sel x_0 x_1 x_2 s_1))) + (own_sel x_0 x_1 x_2 s_2)))])) _
          exact retI X0 hx Bd.returns (hb hby own_d6_53) hr
        · show Qown_hash Z e_o s_o k_e k_s n_1 x_0 x_1 x_2 s_0 s_1 s_2 h0 n0 _ s₁.heap _
          rw [e0]
          have hv : (own_hash_f n_1 x_0 x_1 x_2 s_0 s_1 s_2) = (((31 : Int32) * ((31 : Int32) + (own_sel x_0 x_1 x_2 s_1))) + (own_sel x_0 x_1 x_2 s_2)) := by unfold own_hash_f; rw [if_neg hc4_8, if_pos hc21_92, if_pos hc38_111]
          exact ⟨(by rw [hv]), N0, rfl⟩
      · obtain ⟨fs, hr, hrun, hended, hW, hsame⟩ := X0.leave (v := some (.int ((31 : Int32) + (own_sel x_0 x_1 x_2 s_1)))) (fun h => by rw [Bd.returns] at h; cases h) (hlocks := BodyLoose.notSynchronized Bd)
        refine ⟨_, _, pre110 _ ?_, hrun, hended, _, _, rfl, ?_, ⟨_, rfl⟩, hW, hsame.mono (by decide) (by decide)⟩
        · show Steps p.tables e below (s₁.setTop (mkF m 38 #[.val (.ref e_o), .val (.ref s_o), .val (.int ((31 : Int32) + (own_sel x_0 x_1 x_2 s_1)))] [(.int (2 : Int32)), (.int n_1)])) _
          refine XS.icmpYes X0.here hx rfl (pc0 := 38) (pc' := 52) rfl (hb hby own_d6_38) rfl (flt hc38_111).2.2.2 (by decide) (by decide) ?_
          show Steps p.tables e below (s₁.setTop (mkF m 52 #[.val (.ref e_o), .val (.ref s_o), .val (.int ((31 : Int32) + (own_sel x_0 x_1 x_2 s_1)))] [])) _
          refine XS.iloadN X0.here hx rfl (hb hby own_d6_52) rfl ?_
          show Steps p.tables e below (s₁.setTop (mkF m 53 #[.val (.ref e_o), .val (.ref s_o), .val (.int ((31 : Int32) + (own_sel x_0 x_1 x_2 s_1)))] [(.int ((31 : Int32) + (own_sel x_0 x_1 x_2 s_1)))])) _
          exact retI X0 hx Bd.returns (hb hby own_d6_53) hr
        · show Qown_hash Z e_o s_o k_e k_s n_1 x_0 x_1 x_2 s_0 s_1 s_2 h0 n0 _ s₁.heap _
          rw [e0]
          have hv : (own_hash_f n_1 x_0 x_1 x_2 s_0 s_1 s_2) = ((31 : Int32) + (own_sel x_0 x_1 x_2 s_1)) := by unfold own_hash_f; rw [if_neg hc4_8, if_pos hc21_92, if_neg hc38_111]
          exact ⟨(by rw [hv]), N0, rfl⟩
    · obtain ⟨cl130, Ar130, -, S130, M130, -, -⟩ := id V_s
      have pre133 : ∀ t, Steps p.tables e below (s₁.setTop (mkF m 38 #[.val (.ref e_o), .val (.ref s_o), .val (.int (1 : Int32))] [(.int (2 : Int32)), (.int n_1)])) t → Steps p.tables e below (s₁.setTop (entryFrame m #[(.ref e_o), (.ref s_o)] 3)) t := by
        intro t kt
        refine pre91 _ ?_
        show Steps p.tables e below (s₁.setTop (mkF m 21 #[.val (.ref e_o), .val (.ref s_o), .val (.int (1 : Int32))] [(.int (1 : Int32)), (.int n_1)])) _
        refine XS.icmpYes X0.here hx rfl (pc0 := 21) (pc' := 35) rfl (hb hby own_d6_21) rfl (flt hc21_92).2.2.2 (by decide) (by decide) ?_
        show Steps p.tables e below (s₁.setTop (mkF m 35 #[.val (.ref e_o), .val (.ref s_o), .val (.int (1 : Int32))] [])) _
        refine XS.aloadN X0.here hx rfl (hb hby own_d6_35) rfl rfl ?_
        show Steps p.tables e below (s₁.setTop (mkF m 36 #[.val (.ref e_o), .val (.ref s_o), .val (.int (1 : Int32))] [(.ref s_o)])) _
        refine X0.arraylength hx (by rw [e0]; exact Ar130.1) (State.isArrayOf_alike hZ.alike Ar130.2.1) (g := (mkF m 36 #[.val (.ref e_o), .val (.ref s_o), .val (.int (1 : Int32))] [(.ref s_o)])) rfl rfl (hb hby own_d6_36) _ ?_
        rw [len_of S130 M130]
        show Steps p.tables e below (s₁.setTop (mkF m 37 #[.val (.ref e_o), .val (.ref s_o), .val (.int (1 : Int32))] [(.int n_1)])) _
        refine XS.iconst X0.here hx rfl (hb hby own_d6_37) ?_
        exact kt
      by_cases hc38_134 : (2 : Int32) < n_1
      · obtain ⟨cl142, Ar142, q142, S142, M142, H142, G142⟩ := id V_s
        have hin142 : ¬ ((2 : Int32) < 0 ∨ cl142.slots.size ≤ ((2 : Int32)).toNatClampNeg) := inb_of S142 ⟨by decide, hc38_134⟩
        have hat142 : cl142.slots[((2 : Int32)).toNatClampNeg]? = some (.int s_2) := H142.at hin142 rfl
        obtain ⟨cl144, Ar144, q144, S144, M144, H144, G144⟩ := id V_e
        have hin144 : ¬ (s_2 < 0 ∨ cl144.slots.size ≤ (s_2).toNatClampNeg) := inb_of S144 hb2
        have hat144 : cl144.slots[(s_2).toNatClampNeg]? = some (.int (own_sel x_0 x_1 x_2 s_2)) := H144.at hin144 (own_sel_get _ _ _ _ _ hb2)
        obtain ⟨fs, hr, hrun, hended, hW, hsame⟩ := X0.leave (v := some (.int ((31 : Int32) + (own_sel x_0 x_1 x_2 s_2)))) (fun h => by rw [Bd.returns] at h; cases h) (hlocks := BodyLoose.notSynchronized Bd)
        refine ⟨_, _, pre133 _ ?_, hrun, hended, _, _, rfl, ?_, ⟨_, rfl⟩, hW, hsame.mono (by decide) (by decide)⟩
        · show Steps p.tables e below (s₁.setTop (mkF m 38 #[.val (.ref e_o), .val (.ref s_o), .val (.int (1 : Int32))] [(.int (2 : Int32)), (.int n_1)])) _
          refine XS.icmpNo X0.here hx rfl (hb hby own_d6_38) rfl (tlt hc38_134).2.2.2 ?_
          show Steps p.tables e below (s₁.setTop (mkF m 41 #[.val (.ref e_o), .val (.ref s_o), .val (.int (1 : Int32))] [])) _
          refine XS.bipush X0.here hx rfl (hb hby own_d6_41) ?_
          show Steps p.tables e below (s₁.setTop (mkF m 43 #[.val (.ref e_o), .val (.ref s_o), .val (.int (1 : Int32))] [(.int (31 : Int32))])) _
          refine XS.iloadN X0.here hx rfl (hb hby own_d6_43) rfl ?_
          show Steps p.tables e below (s₁.setTop (mkF m 44 #[.val (.ref e_o), .val (.ref s_o), .val (.int (1 : Int32))] [(.int (1 : Int32)), (.int (31 : Int32))])) _
          refine XS.imul X0.here hx rfl (hb hby own_d6_44) rfl ?_
          show Steps p.tables e below (s₁.setTop (mkF m 45 #[.val (.ref e_o), .val (.ref s_o), .val (.int (1 : Int32))] [(.int (31 : Int32))])) _
          refine XS.aloadN X0.here hx rfl (hb hby own_d6_45) rfl rfl ?_
          show Steps p.tables e below (s₁.setTop (mkF m 46 #[.val (.ref e_o), .val (.ref s_o), .val (.int (1 : Int32))] [(.ref e_o), (.int (31 : Int32))])) _
          refine XS.aloadN X0.here hx rfl (hb hby own_d6_46) rfl rfl ?_
          show Steps p.tables e below (s₁.setTop (mkF m 47 #[.val (.ref e_o), .val (.ref s_o), .val (.int (1 : Int32))] [(.ref s_o), (.ref e_o), (.int (31 : Int32))])) _
          refine XS.iconst X0.here hx rfl (hb hby own_d6_47) ?_
          show Steps p.tables e below (s₁.setTop (mkF m 48 #[.val (.ref e_o), .val (.ref s_o), .val (.int (1 : Int32))] [(.int (2 : Int32)), (.ref s_o), (.ref e_o), (.int (31 : Int32))])) _
          refine X0.iaload hx (j := (2 : Int32)) (v := (.int s_2)) (by rw [e0]; exact Ar142.1) (State.isArrayOf_alike hZ.alike Ar142.2.1) Ar142.2.2 hin142 hat142 (g := (mkF m 48 #[.val (.ref e_o), .val (.ref s_o), .val (.int (1 : Int32))] [(.int (2 : Int32)), (.ref s_o), (.ref e_o), (.int (31 : Int32))])) rfl rfl (hb hby own_d6_48) _ ?_
          show Steps p.tables e below (s₁.setTop (mkF m 49 #[.val (.ref e_o), .val (.ref s_o), .val (.int (1 : Int32))] [(.int s_2), (.ref e_o), (.int (31 : Int32))])) _
          refine X0.iaload hx (j := s_2) (v := (.int (own_sel x_0 x_1 x_2 s_2))) (by rw [e0]; exact Ar144.1) (State.isArrayOf_alike hZ.alike Ar144.2.1) Ar144.2.2 hin144 hat144 (g := (mkF m 49 #[.val (.ref e_o), .val (.ref s_o), .val (.int (1 : Int32))] [(.int s_2), (.ref e_o), (.int (31 : Int32))])) rfl rfl (hb hby own_d6_49) _ ?_
          show Steps p.tables e below (s₁.setTop (mkF m 50 #[.val (.ref e_o), .val (.ref s_o), .val (.int (1 : Int32))] [(.int (own_sel x_0 x_1 x_2 s_2)), (.int (31 : Int32))])) _
          refine XS.iadd X0.here hx rfl (hb hby own_d6_50) rfl ?_
          show Steps p.tables e below (s₁.setTop (mkF m 51 #[.val (.ref e_o), .val (.ref s_o), .val (.int (1 : Int32))] [(.int ((31 : Int32) + (own_sel x_0 x_1 x_2 s_2)))])) _
          refine XS.istoreN X0.here hx rfl (hb hby own_d6_51) rfl (l' := #[.val (.ref e_o), .val (.ref s_o), .val (.int ((31 : Int32) + (own_sel x_0 x_1 x_2 s_2)))]) rfl ?_
          show Steps p.tables e below (s₁.setTop (mkF m 52 #[.val (.ref e_o), .val (.ref s_o), .val (.int ((31 : Int32) + (own_sel x_0 x_1 x_2 s_2)))] [])) _
          refine XS.iloadN X0.here hx rfl (hb hby own_d6_52) rfl ?_
          show Steps p.tables e below (s₁.setTop (mkF m 53 #[.val (.ref e_o), .val (.ref s_o), .val (.int ((31 : Int32) + (own_sel x_0 x_1 x_2 s_2)))] [(.int ((31 : Int32) + (own_sel x_0 x_1 x_2 s_2)))])) _
          exact retI X0 hx Bd.returns (hb hby own_d6_53) hr
        · show Qown_hash Z e_o s_o k_e k_s n_1 x_0 x_1 x_2 s_0 s_1 s_2 h0 n0 _ s₁.heap _
          rw [e0]
          have hv : (own_hash_f n_1 x_0 x_1 x_2 s_0 s_1 s_2) = ((31 : Int32) + (own_sel x_0 x_1 x_2 s_2)) := by unfold own_hash_f; rw [if_neg hc4_8, if_neg hc21_92, if_pos hc38_134]
          exact ⟨(by rw [hv]), N0, rfl⟩
      · obtain ⟨fs, hr, hrun, hended, hW, hsame⟩ := X0.leave (v := some (.int (1 : Int32))) (fun h => by rw [Bd.returns] at h; cases h) (hlocks := BodyLoose.notSynchronized Bd)
        refine ⟨_, _, pre133 _ ?_, hrun, hended, _, _, rfl, ?_, ⟨_, rfl⟩, hW, hsame.mono (by decide) (by decide)⟩
        · show Steps p.tables e below (s₁.setTop (mkF m 38 #[.val (.ref e_o), .val (.ref s_o), .val (.int (1 : Int32))] [(.int (2 : Int32)), (.int n_1)])) _
          refine XS.icmpYes X0.here hx rfl (pc0 := 38) (pc' := 52) rfl (hb hby own_d6_38) rfl (flt hc38_134).2.2.2 (by decide) (by decide) ?_
          show Steps p.tables e below (s₁.setTop (mkF m 52 #[.val (.ref e_o), .val (.ref s_o), .val (.int (1 : Int32))] [])) _
          refine XS.iloadN X0.here hx rfl (hb hby own_d6_52) rfl ?_
          show Steps p.tables e below (s₁.setTop (mkF m 53 #[.val (.ref e_o), .val (.ref s_o), .val (.int (1 : Int32))] [(.int (1 : Int32))])) _
          exact retI X0 hx Bd.returns (hb hby own_d6_53) hr
        · show Qown_hash Z e_o s_o k_e k_s n_1 x_0 x_1 x_2 s_0 s_1 s_2 h0 n0 _ s₁.heap _
          rw [e0]
          have hv : (own_hash_f n_1 x_0 x_1 x_2 s_0 s_1 s_2) = (1 : Int32) := by unfold own_hash_f; rw [if_neg hc4_8, if_neg hc21_92, if_neg hc38_134]
          exact ⟨(by rw [hv]), N0, rfl⟩
theorem own_ef_own_same (m : MethodId) (e_o : Addr) (s_o : Addr) (f_o : Addr) (t_o : Addr) : entryFrame m #[(.ref e_o), (.ref s_o), (.ref f_o), (.ref t_o)] 5 = mkF m 0 #[.val (.ref e_o), .val (.ref s_o), .val (.ref f_o), .val (.ref t_o), .unset] [] := by first | (simp [entryFrame, mkF, argsToLocals, Value.category]; done) | rfl
theorem own_d8_0 : decode method_4_code 0 = .ok (.aload_n 1, 1) := by decide +kernel
theorem own_d8_1 : decode method_4_code 1 = .ok (.arraylength, 1) := by decide +kernel
theorem own_d8_2 : decode method_4_code 2 = .ok (.aload_n 3, 1) := by decide +kernel
theorem own_d8_3 : decode method_4_code 3 = .ok (.arraylength, 1) := by decide +kernel
theorem own_d8_4 : decode method_4_code 4 = .ok (.if_icmp .eq 5, 3) := by decide +kernel
theorem own_d8_7 : decode method_4_code 7 = .ok (.iconst 0, 1) := by decide +kernel
theorem own_d8_8 : decode method_4_code 8 = .ok (.ireturn, 1) := by decide +kernel
theorem own_d8_9 : decode method_4_code 9 = .ok (.iconst 1, 1) := by decide +kernel
theorem own_d8_10 : decode method_4_code 10 = .ok (.istore 4, 2) := by decide +kernel
theorem own_d8_12 : decode method_4_code 12 = .ok (.aload_n 1, 1) := by decide +kernel
theorem own_d8_13 : decode method_4_code 13 = .ok (.arraylength, 1) := by decide +kernel
theorem own_d8_14 : decode method_4_code 14 = .ok (.ifCond .le 28, 3) := by decide +kernel
theorem own_d8_17 : decode method_4_code 17 = .ok (.iload 4, 2) := by decide +kernel
theorem own_d8_19 : decode method_4_code 19 = .ok (.ifCond .eq 20, 3) := by decide +kernel
theorem own_d8_22 : decode method_4_code 22 = .ok (.aload_n 0, 1) := by decide +kernel
theorem own_d8_23 : decode method_4_code 23 = .ok (.aload_n 1, 1) := by decide +kernel
theorem own_d8_24 : decode method_4_code 24 = .ok (.iconst 0, 1) := by decide +kernel
theorem own_d8_25 : decode method_4_code 25 = .ok (.iaload, 1) := by decide +kernel
theorem own_d8_26 : decode method_4_code 26 = .ok (.iaload, 1) := by decide +kernel
theorem own_d8_27 : decode method_4_code 27 = .ok (.aload_n 2, 1) := by decide +kernel
theorem own_d8_28 : decode method_4_code 28 = .ok (.aload_n 3, 1) := by decide +kernel
theorem own_d8_29 : decode method_4_code 29 = .ok (.iconst 0, 1) := by decide +kernel
theorem own_d8_30 : decode method_4_code 30 = .ok (.iaload, 1) := by decide +kernel
theorem own_d8_31 : decode method_4_code 31 = .ok (.iaload, 1) := by decide +kernel
theorem own_d8_32 : decode method_4_code 32 = .ok (.if_icmp .ne 7, 3) := by decide +kernel
theorem own_d8_35 : decode method_4_code 35 = .ok (.iconst 1, 1) := by decide +kernel
theorem own_d8_36 : decode method_4_code 36 = .ok (.goto 4, 3) := by decide +kernel
theorem own_d8_39 : decode method_4_code 39 = .ok (.iconst 0, 1) := by decide +kernel
theorem own_d8_40 : decode method_4_code 40 = .ok (.istore 4, 2) := by decide +kernel
theorem own_d8_42 : decode method_4_code 42 = .ok (.aload_n 1, 1) := by decide +kernel
theorem own_d8_43 : decode method_4_code 43 = .ok (.arraylength, 1) := by decide +kernel
theorem own_d8_44 : decode method_4_code 44 = .ok (.iconst 1, 1) := by decide +kernel
theorem own_d8_45 : decode method_4_code 45 = .ok (.if_icmp .le 28, 3) := by decide +kernel
theorem own_d8_48 : decode method_4_code 48 = .ok (.iload 4, 2) := by decide +kernel
theorem own_d8_50 : decode method_4_code 50 = .ok (.ifCond .eq 20, 3) := by decide +kernel
theorem own_d8_53 : decode method_4_code 53 = .ok (.aload_n 0, 1) := by decide +kernel
theorem own_d8_54 : decode method_4_code 54 = .ok (.aload_n 1, 1) := by decide +kernel
theorem own_d8_55 : decode method_4_code 55 = .ok (.iconst 1, 1) := by decide +kernel
theorem own_d8_56 : decode method_4_code 56 = .ok (.iaload, 1) := by decide +kernel
theorem own_d8_57 : decode method_4_code 57 = .ok (.iaload, 1) := by decide +kernel
theorem own_d8_58 : decode method_4_code 58 = .ok (.aload_n 2, 1) := by decide +kernel
theorem own_d8_59 : decode method_4_code 59 = .ok (.aload_n 3, 1) := by decide +kernel
theorem own_d8_60 : decode method_4_code 60 = .ok (.iconst 1, 1) := by decide +kernel
theorem own_d8_61 : decode method_4_code 61 = .ok (.iaload, 1) := by decide +kernel
theorem own_d8_62 : decode method_4_code 62 = .ok (.iaload, 1) := by decide +kernel
theorem own_d8_63 : decode method_4_code 63 = .ok (.if_icmp .ne 7, 3) := by decide +kernel
theorem own_d8_66 : decode method_4_code 66 = .ok (.iconst 1, 1) := by decide +kernel
theorem own_d8_67 : decode method_4_code 67 = .ok (.goto 4, 3) := by decide +kernel
theorem own_d8_70 : decode method_4_code 70 = .ok (.iconst 0, 1) := by decide +kernel
theorem own_d8_71 : decode method_4_code 71 = .ok (.istore 4, 2) := by decide +kernel
theorem own_d8_73 : decode method_4_code 73 = .ok (.aload_n 1, 1) := by decide +kernel
theorem own_d8_74 : decode method_4_code 74 = .ok (.arraylength, 1) := by decide +kernel
theorem own_d8_75 : decode method_4_code 75 = .ok (.iconst 2, 1) := by decide +kernel
theorem own_d8_76 : decode method_4_code 76 = .ok (.if_icmp .le 28, 3) := by decide +kernel
theorem own_d8_79 : decode method_4_code 79 = .ok (.iload 4, 2) := by decide +kernel
theorem own_d8_81 : decode method_4_code 81 = .ok (.ifCond .eq 20, 3) := by decide +kernel
theorem own_d8_84 : decode method_4_code 84 = .ok (.aload_n 0, 1) := by decide +kernel
theorem own_d8_85 : decode method_4_code 85 = .ok (.aload_n 1, 1) := by decide +kernel
theorem own_d8_86 : decode method_4_code 86 = .ok (.iconst 2, 1) := by decide +kernel
theorem own_d8_87 : decode method_4_code 87 = .ok (.iaload, 1) := by decide +kernel
theorem own_d8_88 : decode method_4_code 88 = .ok (.iaload, 1) := by decide +kernel
theorem own_d8_89 : decode method_4_code 89 = .ok (.aload_n 2, 1) := by decide +kernel
theorem own_d8_90 : decode method_4_code 90 = .ok (.aload_n 3, 1) := by decide +kernel
theorem own_d8_91 : decode method_4_code 91 = .ok (.iconst 2, 1) := by decide +kernel
theorem own_d8_92 : decode method_4_code 92 = .ok (.iaload, 1) := by decide +kernel
theorem own_d8_93 : decode method_4_code 93 = .ok (.iaload, 1) := by decide +kernel
theorem own_d8_94 : decode method_4_code 94 = .ok (.if_icmp .ne 7, 3) := by decide +kernel
theorem own_d8_97 : decode method_4_code 97 = .ok (.iconst 1, 1) := by decide +kernel
theorem own_d8_98 : decode method_4_code 98 = .ok (.goto 4, 3) := by decide +kernel
theorem own_d8_101 : decode method_4_code 101 = .ok (.iconst 0, 1) := by decide +kernel
theorem own_d8_102 : decode method_4_code 102 = .ok (.istore 4, 2) := by decide +kernel
theorem own_d8_104 : decode method_4_code 104 = .ok (.iload 4, 2) := by decide +kernel
theorem own_d8_106 : decode method_4_code 106 = .ok (.ireturn, 1) := by decide +kernel
def own_same_f (n_1 : Int32) (m_1 : Int32) (x_0 : Int32) (x_1 : Int32) (x_2 : Int32) (s_0 : Int32) (s_1 : Int32) (s_2 : Int32) (y_0 : Int32) (y_1 : Int32) (y_2 : Int32) (t_0 : Int32) (t_1 : Int32) (t_2 : Int32) : Int32 := (if n_1 = m_1 then (if (0 : Int32) < n_1 then (if (own_sel x_0 x_1 x_2 s_0) = (own_sel y_0 y_1 y_2 t_0) then (if (1 : Int32) < n_1 then (if (own_sel x_0 x_1 x_2 s_1) = (own_sel y_0 y_1 y_2 t_1) then (if (2 : Int32) < n_1 then (if (own_sel x_0 x_1 x_2 s_2) = (own_sel y_0 y_1 y_2 t_2) then (1 : Int32) else (0 : Int32)) else (1 : Int32)) else (if (2 : Int32) < n_1 then (0 : Int32) else (0 : Int32))) else (if (2 : Int32) < n_1 then (if (own_sel x_0 x_1 x_2 s_2) = (own_sel y_0 y_1 y_2 t_2) then (1 : Int32) else (0 : Int32)) else (1 : Int32))) else (if (1 : Int32) < n_1 then (if (2 : Int32) < n_1 then (0 : Int32) else (0 : Int32)) else (if (2 : Int32) < n_1 then (0 : Int32) else (0 : Int32)))) else (if (1 : Int32) < n_1 then (if (own_sel x_0 x_1 x_2 s_1) = (own_sel y_0 y_1 y_2 t_1) then (if (2 : Int32) < n_1 then (if (own_sel x_0 x_1 x_2 s_2) = (own_sel y_0 y_1 y_2 t_2) then (1 : Int32) else (0 : Int32)) else (1 : Int32)) else (if (2 : Int32) < n_1 then (0 : Int32) else (0 : Int32))) else (if (2 : Int32) < n_1 then (if (own_sel x_0 x_1 x_2 s_2) = (own_sel y_0 y_1 y_2 t_2) then (1 : Int32) else (0 : Int32)) else (1 : Int32)))) else (0 : Int32))
def Qown_same (Z : State) (e_o : Addr) (s_o : Addr) (f_o : Addr) (t_o : Addr) (k_e : ClassId) (k_s : ClassId) (k_f : ClassId) (k_t : ClassId) (n_1 : Int32) (m_1 : Int32) (x_0 : Int32) (x_1 : Int32) (x_2 : Int32) (s_0 : Int32) (s_1 : Int32) (s_2 : Int32) (y_0 : Int32) (y_1 : Int32) (y_2 : Int32) (t_0 : Int32) (t_1 : Int32) (t_2 : Int32) (h0 : Heap) (n0 : Nat) (v : Option Value) (h : Heap) (L : List Loc) : Prop := v = some (.int (own_same_f n_1 m_1 x_0 x_1 x_2 s_0 s_1 s_2 y_0 y_1 y_2 t_0 t_1 t_2)) ∧ Fr n0 L ∧ h = h0
set_option maxRecDepth 65536 in
set_option maxHeartbeats 40000000 in
theorem own_same (l : Launch) (Z : State) (a0 : Array Value) (hw : ∀ d ∈ tables_1, d.before a0 Z = true) (ws : List Jvm.Cond) (e_o : Addr) (s_o : Addr) (f_o : Addr) (t_o : Addr) (k_e : ClassId) (k_s : ClassId) (k_f : ClassId) (k_t : ClassId) (n_1 : Int32) (m_1 : Int32) (x_0 : Int32) (x_1 : Int32) (x_2 : Int32) (s_0 : Int32) (s_1 : Int32) (s_2 : Int32) (y_0 : Int32) (y_1 : Int32) (y_2 : Int32) (t_0 : Int32) (t_1 : Int32) (t_2 : Int32) (h0 : Heap) (n0 : Nat) (Z0 : n0 ≤ h0.size) (V_e : Arv Z h0 e_o k_e .int (3 : Int32) [(.int x_0), (.int x_1), (.int x_2)] (.int (0 : Int32))) (V_s : Arv Z h0 s_o k_s .int n_1 [(.int s_0), (.int s_1), (.int s_2)] (.int (0 : Int32))) (hb0 : ¬ s_0 < 0 ∧ s_0 < 3) (hb1 : ¬ s_1 < 0 ∧ s_1 < 3) (hb2 : ¬ s_2 < 0 ∧ s_2 < 3) (V_f : Arv Z h0 f_o k_f .int (3 : Int32) [(.int y_0), (.int y_1), (.int y_2)] (.int (0 : Int32))) (V_t : Arv Z h0 t_o k_t .int m_1 [(.int t_0), (.int t_1), (.int t_2)] (.int (0 : Int32))) (hd0 : ¬ t_0 < 0 ∧ t_0 < 3) (hd1 : ¬ t_1 < 0 ∧ t_1 < 3) (hd2 : ¬ t_2 < 0 ∧ t_2 < 3) :
    MetFree l (⟨"com/example/fovea/fovea/KeyOfPinLaw", "same", "([I[I[I[I)Z"⟩ : MethodName) (head1 (Jvm.Cond.code (⟨"com/example/fovea/fovea/KeyOfPinLaw", "same", "([I[I[I[I)Z"⟩ : MethodName) method_4_code 5 (some .boolean) :: ws) ({ frames := 0, cells := 0, slots := 0, locals := 0 } : Room)) (fun a U => a = #[(.ref e_o), (.ref s_o), (.ref f_o), (.ref t_o)] ∧ Z.Warmed39 U.vm ∧ U.heap = h0) (fun _ _ _ _ _ => True) (fun _ U o U' => ∃ v L, o = .returned v ∧ Qown_same Z e_o s_o f_o t_o k_e k_s k_f k_t n_1 m_1 x_0 x_1 x_2 s_0 s_1 s_2 y_0 y_1 y_2 t_0 t_1 t_2 h0 n0 v U'.heap L ∧ FrameEnd U o U' L ({ frames := 0, cells := 0, slots := 0, locals := 0 } : Room).cells ({ frames := 0, cells := 0, slots := 0, locals := 0 } : Room).slots) := by
  refine MetFree.of_bodySF (plainFor_of_name own_pn0) hisR ?_
  intro p e s m args below meth c s₁ Bd hml0 hP hK
  obtain ⟨rfl, hZ, hh⟩ := hP
  have hx := Bd.exec
  have hby := Bd.bytes
  have hml : c.maxLocals = 5 := hml0
  have hown : s.vm.findClass "com/example/fovea/fovea/KeyOfPinLaw" = some m.cls := findClass_of_methodNamed Bd.named
  have hnm := (name_of_methodNamed Bd.named Bd.method).1
  have X0 : Stand p l e ({ frames := 0, cells := 0, slots := 0, locals := 0 } : Room) s m #[(.ref e_o), (.ref s_o), (.ref f_o), (.ref t_o)] below meth c s₁ [] 0 0 := Stand.of_body Bd
  have e0 : s₁.heap = h0 := by rw [← hh, Bd.state]; rfl
  have N0 := Fr.nil n0
  have pre0 : ∀ t, Steps p.tables e below (s₁.setTop (mkF m 0 #[.val (.ref e_o), .val (.ref s_o), .val (.ref f_o), .val (.ref t_o), .unset] [])) t → Steps p.tables e below (s₁.setTop (entryFrame m #[(.ref e_o), (.ref s_o), (.ref f_o), (.ref t_o)] 5)) t := fun t k => castTop (own_ef_own_same m e_o s_o f_o t_o) k
  obtain ⟨cl3, Ar3, -, S3, M3, -, -⟩ := id V_s
  obtain ⟨cl6, Ar6, -, S6, M6, -, -⟩ := id V_t
  have pre8 : ∀ t, Steps p.tables e below (s₁.setTop (mkF m 4 #[.val (.ref e_o), .val (.ref s_o), .val (.ref f_o), .val (.ref t_o), .unset] [(.int m_1), (.int n_1)])) t → Steps p.tables e below (s₁.setTop (entryFrame m #[(.ref e_o), (.ref s_o), (.ref f_o), (.ref t_o)] 5)) t := by
    intro t kt
    refine pre0 _ ?_
    show Steps p.tables e below (s₁.setTop (mkF m 0 #[.val (.ref e_o), .val (.ref s_o), .val (.ref f_o), .val (.ref t_o), .unset] [])) _
    refine XS.aloadN X0.here hx rfl (hb hby own_d8_0) rfl rfl ?_
    show Steps p.tables e below (s₁.setTop (mkF m 1 #[.val (.ref e_o), .val (.ref s_o), .val (.ref f_o), .val (.ref t_o), .unset] [(.ref s_o)])) _
    refine X0.arraylength hx (by rw [e0]; exact Ar3.1) (State.isArrayOf_alike hZ.alike Ar3.2.1) (g := (mkF m 1 #[.val (.ref e_o), .val (.ref s_o), .val (.ref f_o), .val (.ref t_o), .unset] [(.ref s_o)])) rfl rfl (hb hby own_d8_1) _ ?_
    rw [len_of S3 M3]
    show Steps p.tables e below (s₁.setTop (mkF m 2 #[.val (.ref e_o), .val (.ref s_o), .val (.ref f_o), .val (.ref t_o), .unset] [(.int n_1)])) _
    refine XS.aloadN X0.here hx rfl (hb hby own_d8_2) rfl rfl ?_
    show Steps p.tables e below (s₁.setTop (mkF m 3 #[.val (.ref e_o), .val (.ref s_o), .val (.ref f_o), .val (.ref t_o), .unset] [(.ref t_o), (.int n_1)])) _
    refine X0.arraylength hx (by rw [e0]; exact Ar6.1) (State.isArrayOf_alike hZ.alike Ar6.2.1) (g := (mkF m 3 #[.val (.ref e_o), .val (.ref s_o), .val (.ref f_o), .val (.ref t_o), .unset] [(.ref t_o), (.int n_1)])) rfl rfl (hb hby own_d8_3) _ ?_
    rw [len_of S6 M6]
    exact kt
  by_cases hc4_9 : n_1 = m_1
  · obtain ⟨cl14, Ar14, -, S14, M14, -, -⟩ := id V_s
    have pre16 : ∀ t, Steps p.tables e below (s₁.setTop (mkF m 14 #[.val (.ref e_o), .val (.ref s_o), .val (.ref f_o), .val (.ref t_o), .val (.int (1 : Int32))] [(.int n_1)])) t → Steps p.tables e below (s₁.setTop (entryFrame m #[(.ref e_o), (.ref s_o), (.ref f_o), (.ref t_o)] 5)) t := by
      intro t kt
      refine pre8 _ ?_
      show Steps p.tables e below (s₁.setTop (mkF m 4 #[.val (.ref e_o), .val (.ref s_o), .val (.ref f_o), .val (.ref t_o), .unset] [(.int m_1), (.int n_1)])) _
      refine XS.icmpYes X0.here hx rfl (pc0 := 4) (pc' := 9) rfl (hb hby own_d8_4) rfl (teq hc4_9).1 (by decide) (by decide) ?_
      show Steps p.tables e below (s₁.setTop (mkF m 9 #[.val (.ref e_o), .val (.ref s_o), .val (.ref f_o), .val (.ref t_o), .unset] [])) _
      refine XS.iconst X0.here hx rfl (hb hby own_d8_9) ?_
      show Steps p.tables e below (s₁.setTop (mkF m 10 #[.val (.ref e_o), .val (.ref s_o), .val (.ref f_o), .val (.ref t_o), .unset] [(.int (1 : Int32))])) _
      refine XS.istore X0.here hx rfl (hb hby own_d8_10) rfl (l' := #[.val (.ref e_o), .val (.ref s_o), .val (.ref f_o), .val (.ref t_o), .val (.int (1 : Int32))]) rfl ?_
      show Steps p.tables e below (s₁.setTop (mkF m 12 #[.val (.ref e_o), .val (.ref s_o), .val (.ref f_o), .val (.ref t_o), .val (.int (1 : Int32))] [])) _
      refine XS.aloadN X0.here hx rfl (hb hby own_d8_12) rfl rfl ?_
      show Steps p.tables e below (s₁.setTop (mkF m 13 #[.val (.ref e_o), .val (.ref s_o), .val (.ref f_o), .val (.ref t_o), .val (.int (1 : Int32))] [(.ref s_o)])) _
      refine X0.arraylength hx (by rw [e0]; exact Ar14.1) (State.isArrayOf_alike hZ.alike Ar14.2.1) (g := (mkF m 13 #[.val (.ref e_o), .val (.ref s_o), .val (.ref f_o), .val (.ref t_o), .val (.int (1 : Int32))] [(.ref s_o)])) rfl rfl (hb hby own_d8_13) _ ?_
      rw [len_of S14 M14]
      exact kt
    by_cases hc14_17 : (0 : Int32) < n_1
    · obtain ⟨cl24, Ar24, q24, S24, M24, H24, G24⟩ := id V_s
      have hin24 : ¬ ((0 : Int32) < 0 ∨ cl24.slots.size ≤ ((0 : Int32)).toNatClampNeg) := inb_of S24 ⟨by decide, hc14_17⟩
      have hat24 : cl24.slots[((0 : Int32)).toNatClampNeg]? = some (.int s_0) := H24.at hin24 rfl
      obtain ⟨cl26, Ar26, q26, S26, M26, H26, G26⟩ := id V_e
      have hin26 : ¬ (s_0 < 0 ∨ cl26.slots.size ≤ (s_0).toNatClampNeg) := inb_of S26 hb0
      have hat26 : cl26.slots[(s_0).toNatClampNeg]? = some (.int (own_sel x_0 x_1 x_2 s_0)) := H26.at hin26 (own_sel_get _ _ _ _ _ hb0)
      obtain ⟨cl31, Ar31, q31, S31, M31, H31, G31⟩ := id V_t
      have hin31 : ¬ ((0 : Int32) < 0 ∨ cl31.slots.size ≤ ((0 : Int32)).toNatClampNeg) := inb_of S31 ⟨by decide, hc4_9 ▸ hc14_17⟩
      have hat31 : cl31.slots[((0 : Int32)).toNatClampNeg]? = some (.int t_0) := H31.at hin31 rfl
      obtain ⟨cl33, Ar33, q33, S33, M33, H33, G33⟩ := id V_f
      have hin33 : ¬ (t_0 < 0 ∨ cl33.slots.size ≤ (t_0).toNatClampNeg) := inb_of S33 hd0
      have hat33 : cl33.slots[(t_0).toNatClampNeg]? = some (.int (own_sel y_0 y_1 y_2 t_0)) := H33.at hin33 (own_sel_get _ _ _ _ _ hd0)
      have pre35 : ∀ t, Steps p.tables e below (s₁.setTop (mkF m 32 #[.val (.ref e_o), .val (.ref s_o), .val (.ref f_o), .val (.ref t_o), .val (.int (1 : Int32))] [(.int (own_sel y_0 y_1 y_2 t_0)), (.int (own_sel x_0 x_1 x_2 s_0))])) t → Steps p.tables e below (s₁.setTop (entryFrame m #[(.ref e_o), (.ref s_o), (.ref f_o), (.ref t_o)] 5)) t := by
        intro t kt
        refine pre16 _ ?_
        show Steps p.tables e below (s₁.setTop (mkF m 14 #[.val (.ref e_o), .val (.ref s_o), .val (.ref f_o), .val (.ref t_o), .val (.int (1 : Int32))] [(.int n_1)])) _
        refine XS.ifNo X0.here hx rfl (hb hby own_d8_14) rfl ((if0 _ _).trans (tlt hc14_17).2.2.2) ?_
        show Steps p.tables e below (s₁.setTop (mkF m 17 #[.val (.ref e_o), .val (.ref s_o), .val (.ref f_o), .val (.ref t_o), .val (.int (1 : Int32))] [])) _
        refine XS.iload X0.here hx rfl (hb hby own_d8_17) rfl ?_
        show Steps p.tables e below (s₁.setTop (mkF m 19 #[.val (.ref e_o), .val (.ref s_o), .val (.ref f_o), .val (.ref t_o), .val (.int (1 : Int32))] [(.int (1 : Int32))])) _
        refine XS.ifNo X0.here hx rfl (hb hby own_d8_19) rfl ((if0 _ _).trans (feq ((by decide) : ¬ ((1 : Int32) = (0 : Int32)))).1) ?_
        show Steps p.tables e below (s₁.setTop (mkF m 22 #[.val (.ref e_o), .val (.ref s_o), .val (.ref f_o), .val (.ref t_o), .val (.int (1 : Int32))] [])) _
        refine XS.aloadN X0.here hx rfl (hb hby own_d8_22) rfl rfl ?_
        show Steps p.tables e below (s₁.setTop (mkF m 23 #[.val (.ref e_o), .val (.ref s_o), .val (.ref f_o), .val (.ref t_o), .val (.int (1 : Int32))] [(.ref e_o)])) _
        refine XS.aloadN X0.here hx rfl (hb hby own_d8_23) rfl rfl ?_
        show Steps p.tables e below (s₁.setTop (mkF m 24 #[.val (.ref e_o), .val (.ref s_o), .val (.ref f_o), .val (.ref t_o), .val (.int (1 : Int32))] [(.ref s_o), (.ref e_o)])) _
        refine XS.iconst X0.here hx rfl (hb hby own_d8_24) ?_
        show Steps p.tables e below (s₁.setTop (mkF m 25 #[.val (.ref e_o), .val (.ref s_o), .val (.ref f_o), .val (.ref t_o), .val (.int (1 : Int32))] [(.int (0 : Int32)), (.ref s_o), (.ref e_o)])) _
        refine X0.iaload hx (j := (0 : Int32)) (v := (.int s_0)) (by rw [e0]; exact Ar24.1) (State.isArrayOf_alike hZ.alike Ar24.2.1) Ar24.2.2 hin24 hat24 (g := (mkF m 25 #[.val (.ref e_o), .val (.ref s_o), .val (.ref f_o), .val (.ref t_o), .val (.int (1 : Int32))] [(.int (0 : Int32)), (.ref s_o), (.ref e_o)])) rfl rfl (hb hby own_d8_25) _ ?_
        show Steps p.tables e below (s₁.setTop (mkF m 26 #[.val (.ref e_o), .val (.ref s_o), .val (.ref f_o), .val (.ref t_o), .val (.int (1 : Int32))] [(.int s_0), (.ref e_o)])) _
        refine X0.iaload hx (j := s_0) (v := (.int (own_sel x_0 x_1 x_2 s_0))) (by rw [e0]; exact Ar26.1) (State.isArrayOf_alike hZ.alike Ar26.2.1) Ar26.2.2 hin26 hat26 (g := (mkF m 26 #[.val (.ref e_o), .val (.ref s_o), .val (.ref f_o), .val (.ref t_o), .val (.int (1 : Int32))] [(.int s_0), (.ref e_o)])) rfl rfl (hb hby own_d8_26) _ ?_
        show Steps p.tables e below (s₁.setTop (mkF m 27 #[.val (.ref e_o), .val (.ref s_o), .val (.ref f_o), .val (.ref t_o), .val (.int (1 : Int32))] [(.int (own_sel x_0 x_1 x_2 s_0))])) _
        refine XS.aloadN X0.here hx rfl (hb hby own_d8_27) rfl rfl ?_
        show Steps p.tables e below (s₁.setTop (mkF m 28 #[.val (.ref e_o), .val (.ref s_o), .val (.ref f_o), .val (.ref t_o), .val (.int (1 : Int32))] [(.ref f_o), (.int (own_sel x_0 x_1 x_2 s_0))])) _
        refine XS.aloadN X0.here hx rfl (hb hby own_d8_28) rfl rfl ?_
        show Steps p.tables e below (s₁.setTop (mkF m 29 #[.val (.ref e_o), .val (.ref s_o), .val (.ref f_o), .val (.ref t_o), .val (.int (1 : Int32))] [(.ref t_o), (.ref f_o), (.int (own_sel x_0 x_1 x_2 s_0))])) _
        refine XS.iconst X0.here hx rfl (hb hby own_d8_29) ?_
        show Steps p.tables e below (s₁.setTop (mkF m 30 #[.val (.ref e_o), .val (.ref s_o), .val (.ref f_o), .val (.ref t_o), .val (.int (1 : Int32))] [(.int (0 : Int32)), (.ref t_o), (.ref f_o), (.int (own_sel x_0 x_1 x_2 s_0))])) _
        refine X0.iaload hx (j := (0 : Int32)) (v := (.int t_0)) (by rw [e0]; exact Ar31.1) (State.isArrayOf_alike hZ.alike Ar31.2.1) Ar31.2.2 hin31 hat31 (g := (mkF m 30 #[.val (.ref e_o), .val (.ref s_o), .val (.ref f_o), .val (.ref t_o), .val (.int (1 : Int32))] [(.int (0 : Int32)), (.ref t_o), (.ref f_o), (.int (own_sel x_0 x_1 x_2 s_0))])) rfl rfl (hb hby own_d8_30) _ ?_
        show Steps p.tables e below (s₁.setTop (mkF m 31 #[.val (.ref e_o), .val (.ref s_o), .val (.ref f_o), .val (.ref t_o), .val (.int (1 : Int32))] [(.int t_0), (.ref f_o), (.int (own_sel x_0 x_1 x_2 s_0))])) _
        refine X0.iaload hx (j := t_0) (v := (.int (own_sel y_0 y_1 y_2 t_0))) (by rw [e0]; exact Ar33.1) (State.isArrayOf_alike hZ.alike Ar33.2.1) Ar33.2.2 hin33 hat33 (g := (mkF m 31 #[.val (.ref e_o), .val (.ref s_o), .val (.ref f_o), .val (.ref t_o), .val (.int (1 : Int32))] [(.int t_0), (.ref f_o), (.int (own_sel x_0 x_1 x_2 s_0))])) rfl rfl (hb hby own_d8_31) _ ?_
        exact kt
      by_cases hc32_36 : (own_sel x_0 x_1 x_2 s_0) = (own_sel y_0 y_1 y_2 t_0)
      · obtain ⟨cl42, Ar42, -, S42, M42, -, -⟩ := id V_s
        have pre45 : ∀ t, Steps p.tables e below (s₁.setTop (mkF m 45 #[.val (.ref e_o), .val (.ref s_o), .val (.ref f_o), .val (.ref t_o), .val (.int (1 : Int32))] [(.int (1 : Int32)), (.int n_1)])) t → Steps p.tables e below (s₁.setTop (entryFrame m #[(.ref e_o), (.ref s_o), (.ref f_o), (.ref t_o)] 5)) t := by
          intro t kt
          refine pre35 _ ?_
          show Steps p.tables e below (s₁.setTop (mkF m 32 #[.val (.ref e_o), .val (.ref s_o), .val (.ref f_o), .val (.ref t_o), .val (.int (1 : Int32))] [(.int (own_sel y_0 y_1 y_2 t_0)), (.int (own_sel x_0 x_1 x_2 s_0))])) _
          refine XS.icmpNo X0.here hx rfl (hb hby own_d8_32) rfl (teq hc32_36).2 ?_
          show Steps p.tables e below (s₁.setTop (mkF m 35 #[.val (.ref e_o), .val (.ref s_o), .val (.ref f_o), .val (.ref t_o), .val (.int (1 : Int32))] [])) _
          refine XS.iconst X0.here hx rfl (hb hby own_d8_35) ?_
          show Steps p.tables e below (s₁.setTop (mkF m 36 #[.val (.ref e_o), .val (.ref s_o), .val (.ref f_o), .val (.ref t_o), .val (.int (1 : Int32))] [(.int (1 : Int32))])) _
          refine XS.goto X0.here hx rfl (pc0 := 36) (pc' := 40) rfl (hb hby own_d8_36) (by decide) (by decide) ?_
          show Steps p.tables e below (s₁.setTop (mkF m 40 #[.val (.ref e_o), .val (.ref s_o), .val (.ref f_o), .val (.ref t_o), .val (.int (1 : Int32))] [(.int (1 : Int32))])) _
          refine XS.istore X0.here hx rfl (hb hby own_d8_40) rfl (l' := #[.val (.ref e_o), .val (.ref s_o), .val (.ref f_o), .val (.ref t_o), .val (.int (1 : Int32))]) rfl ?_
          show Steps p.tables e below (s₁.setTop (mkF m 42 #[.val (.ref e_o), .val (.ref s_o), .val (.ref f_o), .val (.ref t_o), .val (.int (1 : Int32))] [])) _
          refine XS.aloadN X0.here hx rfl (hb hby own_d8_42) rfl rfl ?_
          show Steps p.tables e below (s₁.setTop (mkF m 43 #[.val (.ref e_o), .val (.ref s_o), .val (.ref f_o), .val (.ref t_o), .val (.int (1 : Int32))] [(.ref s_o)])) _
          refine X0.arraylength hx (by rw [e0]; exact Ar42.1) (State.isArrayOf_alike hZ.alike Ar42.2.1) (g := (mkF m 43 #[.val (.ref e_o), .val (.ref s_o), .val (.ref f_o), .val (.ref t_o), .val (.int (1 : Int32))] [(.ref s_o)])) rfl rfl (hb hby own_d8_43) _ ?_
          rw [len_of S42 M42]
          show Steps p.tables e below (s₁.setTop (mkF m 44 #[.val (.ref e_o), .val (.ref s_o), .val (.ref f_o), .val (.ref t_o), .val (.int (1 : Int32))] [(.int n_1)])) _
          refine XS.iconst X0.here hx rfl (hb hby own_d8_44) ?_
          exact kt
        by_cases hc45_46 : (1 : Int32) < n_1
        · obtain ⟨cl53, Ar53, q53, S53, M53, H53, G53⟩ := id V_s
          have hin53 : ¬ ((1 : Int32) < 0 ∨ cl53.slots.size ≤ ((1 : Int32)).toNatClampNeg) := inb_of S53 ⟨by decide, hc45_46⟩
          have hat53 : cl53.slots[((1 : Int32)).toNatClampNeg]? = some (.int s_1) := H53.at hin53 rfl
          obtain ⟨cl55, Ar55, q55, S55, M55, H55, G55⟩ := id V_e
          have hin55 : ¬ (s_1 < 0 ∨ cl55.slots.size ≤ (s_1).toNatClampNeg) := inb_of S55 hb1
          have hat55 : cl55.slots[(s_1).toNatClampNeg]? = some (.int (own_sel x_0 x_1 x_2 s_1)) := H55.at hin55 (own_sel_get _ _ _ _ _ hb1)
          obtain ⟨cl60, Ar60, q60, S60, M60, H60, G60⟩ := id V_t
          have hin60 : ¬ ((1 : Int32) < 0 ∨ cl60.slots.size ≤ ((1 : Int32)).toNatClampNeg) := inb_of S60 ⟨by decide, hc4_9 ▸ hc45_46⟩
          have hat60 : cl60.slots[((1 : Int32)).toNatClampNeg]? = some (.int t_1) := H60.at hin60 rfl
          obtain ⟨cl62, Ar62, q62, S62, M62, H62, G62⟩ := id V_f
          have hin62 : ¬ (t_1 < 0 ∨ cl62.slots.size ≤ (t_1).toNatClampNeg) := inb_of S62 hd1
          have hat62 : cl62.slots[(t_1).toNatClampNeg]? = some (.int (own_sel y_0 y_1 y_2 t_1)) := H62.at hin62 (own_sel_get _ _ _ _ _ hd1)
          have pre64 : ∀ t, Steps p.tables e below (s₁.setTop (mkF m 63 #[.val (.ref e_o), .val (.ref s_o), .val (.ref f_o), .val (.ref t_o), .val (.int (1 : Int32))] [(.int (own_sel y_0 y_1 y_2 t_1)), (.int (own_sel x_0 x_1 x_2 s_1))])) t → Steps p.tables e below (s₁.setTop (entryFrame m #[(.ref e_o), (.ref s_o), (.ref f_o), (.ref t_o)] 5)) t := by
            intro t kt
            refine pre45 _ ?_
            show Steps p.tables e below (s₁.setTop (mkF m 45 #[.val (.ref e_o), .val (.ref s_o), .val (.ref f_o), .val (.ref t_o), .val (.int (1 : Int32))] [(.int (1 : Int32)), (.int n_1)])) _
            refine XS.icmpNo X0.here hx rfl (hb hby own_d8_45) rfl (tlt hc45_46).2.2.2 ?_
            show Steps p.tables e below (s₁.setTop (mkF m 48 #[.val (.ref e_o), .val (.ref s_o), .val (.ref f_o), .val (.ref t_o), .val (.int (1 : Int32))] [])) _
            refine XS.iload X0.here hx rfl (hb hby own_d8_48) rfl ?_
            show Steps p.tables e below (s₁.setTop (mkF m 50 #[.val (.ref e_o), .val (.ref s_o), .val (.ref f_o), .val (.ref t_o), .val (.int (1 : Int32))] [(.int (1 : Int32))])) _
            refine XS.ifNo X0.here hx rfl (hb hby own_d8_50) rfl ((if0 _ _).trans (feq ((by decide) : ¬ ((1 : Int32) = (0 : Int32)))).1) ?_
            show Steps p.tables e below (s₁.setTop (mkF m 53 #[.val (.ref e_o), .val (.ref s_o), .val (.ref f_o), .val (.ref t_o), .val (.int (1 : Int32))] [])) _
            refine XS.aloadN X0.here hx rfl (hb hby own_d8_53) rfl rfl ?_
            show Steps p.tables e below (s₁.setTop (mkF m 54 #[.val (.ref e_o), .val (.ref s_o), .val (.ref f_o), .val (.ref t_o), .val (.int (1 : Int32))] [(.ref e_o)])) _
            refine XS.aloadN X0.here hx rfl (hb hby own_d8_54) rfl rfl ?_
            show Steps p.tables e below (s₁.setTop (mkF m 55 #[.val (.ref e_o), .val (.ref s_o), .val (.ref f_o), .val (.ref t_o), .val (.int (1 : Int32))] [(.ref s_o), (.ref e_o)])) _
            refine XS.iconst X0.here hx rfl (hb hby own_d8_55) ?_
            show Steps p.tables e below (s₁.setTop (mkF m 56 #[.val (.ref e_o), .val (.ref s_o), .val (.ref f_o), .val (.ref t_o), .val (.int (1 : Int32))] [(.int (1 : Int32)), (.ref s_o), (.ref e_o)])) _
            refine X0.iaload hx (j := (1 : Int32)) (v := (.int s_1)) (by rw [e0]; exact Ar53.1) (State.isArrayOf_alike hZ.alike Ar53.2.1) Ar53.2.2 hin53 hat53 (g := (mkF m 56 #[.val (.ref e_o), .val (.ref s_o), .val (.ref f_o), .val (.ref t_o), .val (.int (1 : Int32))] [(.int (1 : Int32)), (.ref s_o), (.ref e_o)])) rfl rfl (hb hby own_d8_56) _ ?_
            show Steps p.tables e below (s₁.setTop (mkF m 57 #[.val (.ref e_o), .val (.ref s_o), .val (.ref f_o), .val (.ref t_o), .val (.int (1 : Int32))] [(.int s_1), (.ref e_o)])) _
            refine X0.iaload hx (j := s_1) (v := (.int (own_sel x_0 x_1 x_2 s_1))) (by rw [e0]; exact Ar55.1) (State.isArrayOf_alike hZ.alike Ar55.2.1) Ar55.2.2 hin55 hat55 (g := (mkF m 57 #[.val (.ref e_o), .val (.ref s_o), .val (.ref f_o), .val (.ref t_o), .val (.int (1 : Int32))] [(.int s_1), (.ref e_o)])) rfl rfl (hb hby own_d8_57) _ ?_
            show Steps p.tables e below (s₁.setTop (mkF m 58 #[.val (.ref e_o), .val (.ref s_o), .val (.ref f_o), .val (.ref t_o), .val (.int (1 : Int32))] [(.int (own_sel x_0 x_1 x_2 s_1))])) _
            refine XS.aloadN X0.here hx rfl (hb hby own_d8_58) rfl rfl ?_
            show Steps p.tables e below (s₁.setTop (mkF m 59 #[.val (.ref e_o), .val (.ref s_o), .val (.ref f_o), .val (.ref t_o), .val (.int (1 : Int32))] [(.ref f_o), (.int (own_sel x_0 x_1 x_2 s_1))])) _
            refine XS.aloadN X0.here hx rfl (hb hby own_d8_59) rfl rfl ?_
            show Steps p.tables e below (s₁.setTop (mkF m 60 #[.val (.ref e_o), .val (.ref s_o), .val (.ref f_o), .val (.ref t_o), .val (.int (1 : Int32))] [(.ref t_o), (.ref f_o), (.int (own_sel x_0 x_1 x_2 s_1))])) _
            refine XS.iconst X0.here hx rfl (hb hby own_d8_60) ?_
            show Steps p.tables e below (s₁.setTop (mkF m 61 #[.val (.ref e_o), .val (.ref s_o), .val (.ref f_o), .val (.ref t_o), .val (.int (1 : Int32))] [(.int (1 : Int32)), (.ref t_o), (.ref f_o), (.int (own_sel x_0 x_1 x_2 s_1))])) _
            refine X0.iaload hx (j := (1 : Int32)) (v := (.int t_1)) (by rw [e0]; exact Ar60.1) (State.isArrayOf_alike hZ.alike Ar60.2.1) Ar60.2.2 hin60 hat60 (g := (mkF m 61 #[.val (.ref e_o), .val (.ref s_o), .val (.ref f_o), .val (.ref t_o), .val (.int (1 : Int32))] [(.int (1 : Int32)), (.ref t_o), (.ref f_o), (.int (own_sel x_0 x_1 x_2 s_1))])) rfl rfl (hb hby own_d8_61) _ ?_
            show Steps p.tables e below (s₁.setTop (mkF m 62 #[.val (.ref e_o), .val (.ref s_o), .val (.ref f_o), .val (.ref t_o), .val (.int (1 : Int32))] [(.int t_1), (.ref f_o), (.int (own_sel x_0 x_1 x_2 s_1))])) _
            refine X0.iaload hx (j := t_1) (v := (.int (own_sel y_0 y_1 y_2 t_1))) (by rw [e0]; exact Ar62.1) (State.isArrayOf_alike hZ.alike Ar62.2.1) Ar62.2.2 hin62 hat62 (g := (mkF m 62 #[.val (.ref e_o), .val (.ref s_o), .val (.ref f_o), .val (.ref t_o), .val (.int (1 : Int32))] [(.int t_1), (.ref f_o), (.int (own_sel x_0 x_1 x_2 s_1))])) rfl rfl (hb hby own_d8_62) _ ?_
            exact kt
          by_cases hc63_65 : (own_sel x_0 x_1 x_2 s_1) = (own_sel y_0 y_1 y_2 t_1)
          · obtain ⟨cl71, Ar71, -, S71, M71, -, -⟩ := id V_s
            have pre74 : ∀ t, Steps p.tables e below (s₁.setTop (mkF m 76 #[.val (.ref e_o), .val (.ref s_o), .val (.ref f_o), .val (.ref t_o), .val (.int (1 : Int32))] [(.int (2 : Int32)), (.int n_1)])) t → Steps p.tables e below (s₁.setTop (entryFrame m #[(.ref e_o), (.ref s_o), (.ref f_o), (.ref t_o)] 5)) t := by
              intro t kt
              refine pre64 _ ?_
              show Steps p.tables e below (s₁.setTop (mkF m 63 #[.val (.ref e_o), .val (.ref s_o), .val (.ref f_o), .val (.ref t_o), .val (.int (1 : Int32))] [(.int (own_sel y_0 y_1 y_2 t_1)), (.int (own_sel x_0 x_1 x_2 s_1))])) _
              refine XS.icmpNo X0.here hx rfl (hb hby own_d8_63) rfl (teq hc63_65).2 ?_
              show Steps p.tables e below (s₁.setTop (mkF m 66 #[.val (.ref e_o), .val (.ref s_o), .val (.ref f_o), .val (.ref t_o), .val (.int (1 : Int32))] [])) _
              refine XS.iconst X0.here hx rfl (hb hby own_d8_66) ?_
              show Steps p.tables e below (s₁.setTop (mkF m 67 #[.val (.ref e_o), .val (.ref s_o), .val (.ref f_o), .val (.ref t_o), .val (.int (1 : Int32))] [(.int (1 : Int32))])) _
              refine XS.goto X0.here hx rfl (pc0 := 67) (pc' := 71) rfl (hb hby own_d8_67) (by decide) (by decide) ?_
              show Steps p.tables e below (s₁.setTop (mkF m 71 #[.val (.ref e_o), .val (.ref s_o), .val (.ref f_o), .val (.ref t_o), .val (.int (1 : Int32))] [(.int (1 : Int32))])) _
              refine XS.istore X0.here hx rfl (hb hby own_d8_71) rfl (l' := #[.val (.ref e_o), .val (.ref s_o), .val (.ref f_o), .val (.ref t_o), .val (.int (1 : Int32))]) rfl ?_
              show Steps p.tables e below (s₁.setTop (mkF m 73 #[.val (.ref e_o), .val (.ref s_o), .val (.ref f_o), .val (.ref t_o), .val (.int (1 : Int32))] [])) _
              refine XS.aloadN X0.here hx rfl (hb hby own_d8_73) rfl rfl ?_
              show Steps p.tables e below (s₁.setTop (mkF m 74 #[.val (.ref e_o), .val (.ref s_o), .val (.ref f_o), .val (.ref t_o), .val (.int (1 : Int32))] [(.ref s_o)])) _
              refine X0.arraylength hx (by rw [e0]; exact Ar71.1) (State.isArrayOf_alike hZ.alike Ar71.2.1) (g := (mkF m 74 #[.val (.ref e_o), .val (.ref s_o), .val (.ref f_o), .val (.ref t_o), .val (.int (1 : Int32))] [(.ref s_o)])) rfl rfl (hb hby own_d8_74) _ ?_
              rw [len_of S71 M71]
              show Steps p.tables e below (s₁.setTop (mkF m 75 #[.val (.ref e_o), .val (.ref s_o), .val (.ref f_o), .val (.ref t_o), .val (.int (1 : Int32))] [(.int n_1)])) _
              refine XS.iconst X0.here hx rfl (hb hby own_d8_75) ?_
              exact kt
            by_cases hc76_75 : (2 : Int32) < n_1
            · obtain ⟨cl82, Ar82, q82, S82, M82, H82, G82⟩ := id V_s
              have hin82 : ¬ ((2 : Int32) < 0 ∨ cl82.slots.size ≤ ((2 : Int32)).toNatClampNeg) := inb_of S82 ⟨by decide, hc76_75⟩
              have hat82 : cl82.slots[((2 : Int32)).toNatClampNeg]? = some (.int s_2) := H82.at hin82 rfl
              obtain ⟨cl84, Ar84, q84, S84, M84, H84, G84⟩ := id V_e
              have hin84 : ¬ (s_2 < 0 ∨ cl84.slots.size ≤ (s_2).toNatClampNeg) := inb_of S84 hb2
              have hat84 : cl84.slots[(s_2).toNatClampNeg]? = some (.int (own_sel x_0 x_1 x_2 s_2)) := H84.at hin84 (own_sel_get _ _ _ _ _ hb2)
              obtain ⟨cl89, Ar89, q89, S89, M89, H89, G89⟩ := id V_t
              have hin89 : ¬ ((2 : Int32) < 0 ∨ cl89.slots.size ≤ ((2 : Int32)).toNatClampNeg) := inb_of S89 ⟨by decide, hc4_9 ▸ hc76_75⟩
              have hat89 : cl89.slots[((2 : Int32)).toNatClampNeg]? = some (.int t_2) := H89.at hin89 rfl
              obtain ⟨cl91, Ar91, q91, S91, M91, H91, G91⟩ := id V_f
              have hin91 : ¬ (t_2 < 0 ∨ cl91.slots.size ≤ (t_2).toNatClampNeg) := inb_of S91 hd2
              have hat91 : cl91.slots[(t_2).toNatClampNeg]? = some (.int (own_sel y_0 y_1 y_2 t_2)) := H91.at hin91 (own_sel_get _ _ _ _ _ hd2)
              have pre93 : ∀ t, Steps p.tables e below (s₁.setTop (mkF m 94 #[.val (.ref e_o), .val (.ref s_o), .val (.ref f_o), .val (.ref t_o), .val (.int (1 : Int32))] [(.int (own_sel y_0 y_1 y_2 t_2)), (.int (own_sel x_0 x_1 x_2 s_2))])) t → Steps p.tables e below (s₁.setTop (entryFrame m #[(.ref e_o), (.ref s_o), (.ref f_o), (.ref t_o)] 5)) t := by
                intro t kt
                refine pre74 _ ?_
                show Steps p.tables e below (s₁.setTop (mkF m 76 #[.val (.ref e_o), .val (.ref s_o), .val (.ref f_o), .val (.ref t_o), .val (.int (1 : Int32))] [(.int (2 : Int32)), (.int n_1)])) _
                refine XS.icmpNo X0.here hx rfl (hb hby own_d8_76) rfl (tlt hc76_75).2.2.2 ?_
                show Steps p.tables e below (s₁.setTop (mkF m 79 #[.val (.ref e_o), .val (.ref s_o), .val (.ref f_o), .val (.ref t_o), .val (.int (1 : Int32))] [])) _
                refine XS.iload X0.here hx rfl (hb hby own_d8_79) rfl ?_
                show Steps p.tables e below (s₁.setTop (mkF m 81 #[.val (.ref e_o), .val (.ref s_o), .val (.ref f_o), .val (.ref t_o), .val (.int (1 : Int32))] [(.int (1 : Int32))])) _
                refine XS.ifNo X0.here hx rfl (hb hby own_d8_81) rfl ((if0 _ _).trans (feq ((by decide) : ¬ ((1 : Int32) = (0 : Int32)))).1) ?_
                show Steps p.tables e below (s₁.setTop (mkF m 84 #[.val (.ref e_o), .val (.ref s_o), .val (.ref f_o), .val (.ref t_o), .val (.int (1 : Int32))] [])) _
                refine XS.aloadN X0.here hx rfl (hb hby own_d8_84) rfl rfl ?_
                show Steps p.tables e below (s₁.setTop (mkF m 85 #[.val (.ref e_o), .val (.ref s_o), .val (.ref f_o), .val (.ref t_o), .val (.int (1 : Int32))] [(.ref e_o)])) _
                refine XS.aloadN X0.here hx rfl (hb hby own_d8_85) rfl rfl ?_
                show Steps p.tables e below (s₁.setTop (mkF m 86 #[.val (.ref e_o), .val (.ref s_o), .val (.ref f_o), .val (.ref t_o), .val (.int (1 : Int32))] [(.ref s_o), (.ref e_o)])) _
                refine XS.iconst X0.here hx rfl (hb hby own_d8_86) ?_
                show Steps p.tables e below (s₁.setTop (mkF m 87 #[.val (.ref e_o), .val (.ref s_o), .val (.ref f_o), .val (.ref t_o), .val (.int (1 : Int32))] [(.int (2 : Int32)), (.ref s_o), (.ref e_o)])) _
                refine X0.iaload hx (j := (2 : Int32)) (v := (.int s_2)) (by rw [e0]; exact Ar82.1) (State.isArrayOf_alike hZ.alike Ar82.2.1) Ar82.2.2 hin82 hat82 (g := (mkF m 87 #[.val (.ref e_o), .val (.ref s_o), .val (.ref f_o), .val (.ref t_o), .val (.int (1 : Int32))] [(.int (2 : Int32)), (.ref s_o), (.ref e_o)])) rfl rfl (hb hby own_d8_87) _ ?_
                show Steps p.tables e below (s₁.setTop (mkF m 88 #[.val (.ref e_o), .val (.ref s_o), .val (.ref f_o), .val (.ref t_o), .val (.int (1 : Int32))] [(.int s_2), (.ref e_o)])) _
                refine X0.iaload hx (j := s_2) (v := (.int (own_sel x_0 x_1 x_2 s_2))) (by rw [e0]; exact Ar84.1) (State.isArrayOf_alike hZ.alike Ar84.2.1) Ar84.2.2 hin84 hat84 (g := (mkF m 88 #[.val (.ref e_o), .val (.ref s_o), .val (.ref f_o), .val (.ref t_o), .val (.int (1 : Int32))] [(.int s_2), (.ref e_o)])) rfl rfl (hb hby own_d8_88) _ ?_
                show Steps p.tables e below (s₁.setTop (mkF m 89 #[.val (.ref e_o), .val (.ref s_o), .val (.ref f_o), .val (.ref t_o), .val (.int (1 : Int32))] [(.int (own_sel x_0 x_1 x_2 s_2))])) _
                refine XS.aloadN X0.here hx rfl (hb hby own_d8_89) rfl rfl ?_
                show Steps p.tables e below (s₁.setTop (mkF m 90 #[.val (.ref e_o), .val (.ref s_o), .val (.ref f_o), .val (.ref t_o), .val (.int (1 : Int32))] [(.ref f_o), (.int (own_sel x_0 x_1 x_2 s_2))])) _
                refine XS.aloadN X0.here hx rfl (hb hby own_d8_90) rfl rfl ?_
                show Steps p.tables e below (s₁.setTop (mkF m 91 #[.val (.ref e_o), .val (.ref s_o), .val (.ref f_o), .val (.ref t_o), .val (.int (1 : Int32))] [(.ref t_o), (.ref f_o), (.int (own_sel x_0 x_1 x_2 s_2))])) _
                refine XS.iconst X0.here hx rfl (hb hby own_d8_91) ?_
                show Steps p.tables e below (s₁.setTop (mkF m 92 #[.val (.ref e_o), .val (.ref s_o), .val (.ref f_o), .val (.ref t_o), .val (.int (1 : Int32))] [(.int (2 : Int32)), (.ref t_o), (.ref f_o), (.int (own_sel x_0 x_1 x_2 s_2))])) _
                refine X0.iaload hx (j := (2 : Int32)) (v := (.int t_2)) (by rw [e0]; exact Ar89.1) (State.isArrayOf_alike hZ.alike Ar89.2.1) Ar89.2.2 hin89 hat89 (g := (mkF m 92 #[.val (.ref e_o), .val (.ref s_o), .val (.ref f_o), .val (.ref t_o), .val (.int (1 : Int32))] [(.int (2 : Int32)), (.ref t_o), (.ref f_o), (.int (own_sel x_0 x_1 x_2 s_2))])) rfl rfl (hb hby own_d8_92) _ ?_
                show Steps p.tables e below (s₁.setTop (mkF m 93 #[.val (.ref e_o), .val (.ref s_o), .val (.ref f_o), .val (.ref t_o), .val (.int (1 : Int32))] [(.int t_2), (.ref f_o), (.int (own_sel x_0 x_1 x_2 s_2))])) _
                refine X0.iaload hx (j := t_2) (v := (.int (own_sel y_0 y_1 y_2 t_2))) (by rw [e0]; exact Ar91.1) (State.isArrayOf_alike hZ.alike Ar91.2.1) Ar91.2.2 hin91 hat91 (g := (mkF m 93 #[.val (.ref e_o), .val (.ref s_o), .val (.ref f_o), .val (.ref t_o), .val (.int (1 : Int32))] [(.int t_2), (.ref f_o), (.int (own_sel x_0 x_1 x_2 s_2))])) rfl rfl (hb hby own_d8_93) _ ?_
                exact kt
              by_cases hc94_94 : (own_sel x_0 x_1 x_2 s_2) = (own_sel y_0 y_1 y_2 t_2)
              · obtain ⟨fs, hr, hrun, hended, hW, hsame⟩ := X0.leave (v := some (.int (1 : Int32))) (fun h => by rw [Bd.returns] at h; cases h) (hlocks := BodyLoose.notSynchronized Bd)
                refine ⟨_, _, pre93 _ ?_, hrun, hended, _, _, rfl, ?_, ⟨_, rfl⟩, hW, hsame.mono (by decide) (by decide)⟩
                · show Steps p.tables e below (s₁.setTop (mkF m 94 #[.val (.ref e_o), .val (.ref s_o), .val (.ref f_o), .val (.ref t_o), .val (.int (1 : Int32))] [(.int (own_sel y_0 y_1 y_2 t_2)), (.int (own_sel x_0 x_1 x_2 s_2))])) _
                  refine XS.icmpNo X0.here hx rfl (hb hby own_d8_94) rfl (teq hc94_94).2 ?_
                  show Steps p.tables e below (s₁.setTop (mkF m 97 #[.val (.ref e_o), .val (.ref s_o), .val (.ref f_o), .val (.ref t_o), .val (.int (1 : Int32))] [])) _
                  refine XS.iconst X0.here hx rfl (hb hby own_d8_97) ?_
                  show Steps p.tables e below (s₁.setTop (mkF m 98 #[.val (.ref e_o), .val (.ref s_o), .val (.ref f_o), .val (.ref t_o), .val (.int (1 : Int32))] [(.int (1 : Int32))])) _
                  refine XS.goto X0.here hx rfl (pc0 := 98) (pc' := 102) rfl (hb hby own_d8_98) (by decide) (by decide) ?_
                  show Steps p.tables e below (s₁.setTop (mkF m 102 #[.val (.ref e_o), .val (.ref s_o), .val (.ref f_o), .val (.ref t_o), .val (.int (1 : Int32))] [(.int (1 : Int32))])) _
                  refine XS.istore X0.here hx rfl (hb hby own_d8_102) rfl (l' := #[.val (.ref e_o), .val (.ref s_o), .val (.ref f_o), .val (.ref t_o), .val (.int (1 : Int32))]) rfl ?_
                  show Steps p.tables e below (s₁.setTop (mkF m 104 #[.val (.ref e_o), .val (.ref s_o), .val (.ref f_o), .val (.ref t_o), .val (.int (1 : Int32))] [])) _
                  refine XS.iload X0.here hx rfl (hb hby own_d8_104) rfl ?_
                  show Steps p.tables e below (s₁.setTop (mkF m 106 #[.val (.ref e_o), .val (.ref s_o), .val (.ref f_o), .val (.ref t_o), .val (.int (1 : Int32))] [(.int (1 : Int32))])) _
                  exact retN X0 hx (t := .boolean) Bd.returns (by simp) (hb hby own_d8_106) hr
                · show Qown_same Z e_o s_o f_o t_o k_e k_s k_f k_t n_1 m_1 x_0 x_1 x_2 s_0 s_1 s_2 y_0 y_1 y_2 t_0 t_1 t_2 h0 n0 _ s₁.heap _
                  rw [e0]
                  have hv : (own_same_f n_1 m_1 x_0 x_1 x_2 s_0 s_1 s_2 y_0 y_1 y_2 t_0 t_1 t_2) = (1 : Int32) := by unfold own_same_f; rw [if_pos hc4_9, if_pos hc14_17, if_pos hc32_36, if_pos hc45_46, if_pos hc63_65, if_pos hc76_75, if_pos hc94_94]
                  exact ⟨(by rw [hv]), N0, rfl⟩
              · obtain ⟨fs, hr, hrun, hended, hW, hsame⟩ := X0.leave (v := some (.int (0 : Int32))) (fun h => by rw [Bd.returns] at h; cases h) (hlocks := BodyLoose.notSynchronized Bd)
                refine ⟨_, _, pre93 _ ?_, hrun, hended, _, _, rfl, ?_, ⟨_, rfl⟩, hW, hsame.mono (by decide) (by decide)⟩
                · show Steps p.tables e below (s₁.setTop (mkF m 94 #[.val (.ref e_o), .val (.ref s_o), .val (.ref f_o), .val (.ref t_o), .val (.int (1 : Int32))] [(.int (own_sel y_0 y_1 y_2 t_2)), (.int (own_sel x_0 x_1 x_2 s_2))])) _
                  refine XS.icmpYes X0.here hx rfl (pc0 := 94) (pc' := 101) rfl (hb hby own_d8_94) rfl (feq hc94_94).2 (by decide) (by decide) ?_
                  show Steps p.tables e below (s₁.setTop (mkF m 101 #[.val (.ref e_o), .val (.ref s_o), .val (.ref f_o), .val (.ref t_o), .val (.int (1 : Int32))] [])) _
                  refine XS.iconst X0.here hx rfl (hb hby own_d8_101) ?_
                  show Steps p.tables e below (s₁.setTop (mkF m 102 #[.val (.ref e_o), .val (.ref s_o), .val (.ref f_o), .val (.ref t_o), .val (.int (1 : Int32))] [(.int (0 : Int32))])) _
                  refine XS.istore X0.here hx rfl (hb hby own_d8_102) rfl (l' := #[.val (.ref e_o), .val (.ref s_o), .val (.ref f_o), .val (.ref t_o), .val (.int (0 : Int32))]) rfl ?_
                  show Steps p.tables e below (s₁.setTop (mkF m 104 #[.val (.ref e_o), .val (.ref s_o), .val (.ref f_o), .val (.ref t_o), .val (.int (0 : Int32))] [])) _
                  refine XS.iload X0.here hx rfl (hb hby own_d8_104) rfl ?_
                  show Steps p.tables e below (s₁.setTop (mkF m 106 #[.val (.ref e_o), .val (.ref s_o), .val (.ref f_o), .val (.ref t_o), .val (.int (0 : Int32))] [(.int (0 : Int32))])) _
                  exact retN X0 hx (t := .boolean) Bd.returns (by simp) (hb hby own_d8_106) hr
                · show Qown_same Z e_o s_o f_o t_o k_e k_s k_f k_t n_1 m_1 x_0 x_1 x_2 s_0 s_1 s_2 y_0 y_1 y_2 t_0 t_1 t_2 h0 n0 _ s₁.heap _
                  rw [e0]
                  have hv : (own_same_f n_1 m_1 x_0 x_1 x_2 s_0 s_1 s_2 y_0 y_1 y_2 t_0 t_1 t_2) = (0 : Int32) := by unfold own_same_f; rw [if_pos hc4_9, if_pos hc14_17, if_pos hc32_36, if_pos hc45_46, if_pos hc63_65, if_pos hc76_75, if_neg hc94_94]
                  exact ⟨(by rw [hv]), N0, rfl⟩
            · obtain ⟨fs, hr, hrun, hended, hW, hsame⟩ := X0.leave (v := some (.int (1 : Int32))) (fun h => by rw [Bd.returns] at h; cases h) (hlocks := BodyLoose.notSynchronized Bd)
              refine ⟨_, _, pre74 _ ?_, hrun, hended, _, _, rfl, ?_, ⟨_, rfl⟩, hW, hsame.mono (by decide) (by decide)⟩
              · show Steps p.tables e below (s₁.setTop (mkF m 76 #[.val (.ref e_o), .val (.ref s_o), .val (.ref f_o), .val (.ref t_o), .val (.int (1 : Int32))] [(.int (2 : Int32)), (.int n_1)])) _
                refine XS.icmpYes X0.here hx rfl (pc0 := 76) (pc' := 104) rfl (hb hby own_d8_76) rfl (flt hc76_75).2.2.2 (by decide) (by decide) ?_
                show Steps p.tables e below (s₁.setTop (mkF m 104 #[.val (.ref e_o), .val (.ref s_o), .val (.ref f_o), .val (.ref t_o), .val (.int (1 : Int32))] [])) _
                refine XS.iload X0.here hx rfl (hb hby own_d8_104) rfl ?_
                show Steps p.tables e below (s₁.setTop (mkF m 106 #[.val (.ref e_o), .val (.ref s_o), .val (.ref f_o), .val (.ref t_o), .val (.int (1 : Int32))] [(.int (1 : Int32))])) _
                exact retN X0 hx (t := .boolean) Bd.returns (by simp) (hb hby own_d8_106) hr
              · show Qown_same Z e_o s_o f_o t_o k_e k_s k_f k_t n_1 m_1 x_0 x_1 x_2 s_0 s_1 s_2 y_0 y_1 y_2 t_0 t_1 t_2 h0 n0 _ s₁.heap _
                rw [e0]
                have hv : (own_same_f n_1 m_1 x_0 x_1 x_2 s_0 s_1 s_2 y_0 y_1 y_2 t_0 t_1 t_2) = (1 : Int32) := by unfold own_same_f; rw [if_pos hc4_9, if_pos hc14_17, if_pos hc32_36, if_pos hc45_46, if_pos hc63_65, if_neg hc76_75]
                exact ⟨(by rw [hv]), N0, rfl⟩
          · obtain ⟨cl110, Ar110, -, S110, M110, -, -⟩ := id V_s
            have pre113 : ∀ t, Steps p.tables e below (s₁.setTop (mkF m 76 #[.val (.ref e_o), .val (.ref s_o), .val (.ref f_o), .val (.ref t_o), .val (.int (0 : Int32))] [(.int (2 : Int32)), (.int n_1)])) t → Steps p.tables e below (s₁.setTop (entryFrame m #[(.ref e_o), (.ref s_o), (.ref f_o), (.ref t_o)] 5)) t := by
              intro t kt
              refine pre64 _ ?_
              show Steps p.tables e below (s₁.setTop (mkF m 63 #[.val (.ref e_o), .val (.ref s_o), .val (.ref f_o), .val (.ref t_o), .val (.int (1 : Int32))] [(.int (own_sel y_0 y_1 y_2 t_1)), (.int (own_sel x_0 x_1 x_2 s_1))])) _
              refine XS.icmpYes X0.here hx rfl (pc0 := 63) (pc' := 70) rfl (hb hby own_d8_63) rfl (feq hc63_65).2 (by decide) (by decide) ?_
              show Steps p.tables e below (s₁.setTop (mkF m 70 #[.val (.ref e_o), .val (.ref s_o), .val (.ref f_o), .val (.ref t_o), .val (.int (1 : Int32))] [])) _
              refine XS.iconst X0.here hx rfl (hb hby own_d8_70) ?_
              show Steps p.tables e below (s₁.setTop (mkF m 71 #[.val (.ref e_o), .val (.ref s_o), .val (.ref f_o), .val (.ref t_o), .val (.int (1 : Int32))] [(.int (0 : Int32))])) _
              refine XS.istore X0.here hx rfl (hb hby own_d8_71) rfl (l' := #[.val (.ref e_o), .val (.ref s_o), .val (.ref f_o), .val (.ref t_o), .val (.int (0 : Int32))]) rfl ?_
              show Steps p.tables e below (s₁.setTop (mkF m 73 #[.val (.ref e_o), .val (.ref s_o), .val (.ref f_o), .val (.ref t_o), .val (.int (0 : Int32))] [])) _
              refine XS.aloadN X0.here hx rfl (hb hby own_d8_73) rfl rfl ?_
              show Steps p.tables e below (s₁.setTop (mkF m 74 #[.val (.ref e_o), .val (.ref s_o), .val (.ref f_o), .val (.ref t_o), .val (.int (0 : Int32))] [(.ref s_o)])) _
              refine X0.arraylength hx (by rw [e0]; exact Ar110.1) (State.isArrayOf_alike hZ.alike Ar110.2.1) (g := (mkF m 74 #[.val (.ref e_o), .val (.ref s_o), .val (.ref f_o), .val (.ref t_o), .val (.int (0 : Int32))] [(.ref s_o)])) rfl rfl (hb hby own_d8_74) _ ?_
              rw [len_of S110 M110]
              show Steps p.tables e below (s₁.setTop (mkF m 75 #[.val (.ref e_o), .val (.ref s_o), .val (.ref f_o), .val (.ref t_o), .val (.int (0 : Int32))] [(.int n_1)])) _
              refine XS.iconst X0.here hx rfl (hb hby own_d8_75) ?_
              exact kt
            by_cases hc76_114 : (2 : Int32) < n_1
            · obtain ⟨fs, hr, hrun, hended, hW, hsame⟩ := X0.leave (v := some (.int (0 : Int32))) (fun h => by rw [Bd.returns] at h; cases h) (hlocks := BodyLoose.notSynchronized Bd)
              refine ⟨_, _, pre113 _ ?_, hrun, hended, _, _, rfl, ?_, ⟨_, rfl⟩, hW, hsame.mono (by decide) (by decide)⟩
              · show Steps p.tables e below (s₁.setTop (mkF m 76 #[.val (.ref e_o), .val (.ref s_o), .val (.ref f_o), .val (.ref t_o), .val (.int (0 : Int32))] [(.int (2 : Int32)), (.int n_1)])) _
                refine XS.icmpNo X0.here hx rfl (hb hby own_d8_76) rfl (tlt hc76_114).2.2.2 ?_
                show Steps p.tables e below (s₁.setTop (mkF m 79 #[.val (.ref e_o), .val (.ref s_o), .val (.ref f_o), .val (.ref t_o), .val (.int (0 : Int32))] [])) _
                refine XS.iload X0.here hx rfl (hb hby own_d8_79) rfl ?_
                show Steps p.tables e below (s₁.setTop (mkF m 81 #[.val (.ref e_o), .val (.ref s_o), .val (.ref f_o), .val (.ref t_o), .val (.int (0 : Int32))] [(.int (0 : Int32))])) _
                refine XS.ifYes X0.here hx rfl (pc0 := 81) (pc' := 101) rfl (hb hby own_d8_81) rfl ((if0 _ _).trans (teq ((by decide) : (0 : Int32) = (0 : Int32))).1) (by decide) (by decide) ?_
                show Steps p.tables e below (s₁.setTop (mkF m 101 #[.val (.ref e_o), .val (.ref s_o), .val (.ref f_o), .val (.ref t_o), .val (.int (0 : Int32))] [])) _
                refine XS.iconst X0.here hx rfl (hb hby own_d8_101) ?_
                show Steps p.tables e below (s₁.setTop (mkF m 102 #[.val (.ref e_o), .val (.ref s_o), .val (.ref f_o), .val (.ref t_o), .val (.int (0 : Int32))] [(.int (0 : Int32))])) _
                refine XS.istore X0.here hx rfl (hb hby own_d8_102) rfl (l' := #[.val (.ref e_o), .val (.ref s_o), .val (.ref f_o), .val (.ref t_o), .val (.int (0 : Int32))]) rfl ?_
                show Steps p.tables e below (s₁.setTop (mkF m 104 #[.val (.ref e_o), .val (.ref s_o), .val (.ref f_o), .val (.ref t_o), .val (.int (0 : Int32))] [])) _
                refine XS.iload X0.here hx rfl (hb hby own_d8_104) rfl ?_
                show Steps p.tables e below (s₁.setTop (mkF m 106 #[.val (.ref e_o), .val (.ref s_o), .val (.ref f_o), .val (.ref t_o), .val (.int (0 : Int32))] [(.int (0 : Int32))])) _
                exact retN X0 hx (t := .boolean) Bd.returns (by simp) (hb hby own_d8_106) hr
              · show Qown_same Z e_o s_o f_o t_o k_e k_s k_f k_t n_1 m_1 x_0 x_1 x_2 s_0 s_1 s_2 y_0 y_1 y_2 t_0 t_1 t_2 h0 n0 _ s₁.heap _
                rw [e0]
                have hv : (own_same_f n_1 m_1 x_0 x_1 x_2 s_0 s_1 s_2 y_0 y_1 y_2 t_0 t_1 t_2) = (0 : Int32) := by unfold own_same_f; rw [if_pos hc4_9, if_pos hc14_17, if_pos hc32_36, if_pos hc45_46, if_neg hc63_65, if_pos hc76_114]
                exact ⟨(by rw [hv]), N0, rfl⟩
            · obtain ⟨fs, hr, hrun, hended, hW, hsame⟩ := X0.leave (v := some (.int (0 : Int32))) (fun h => by rw [Bd.returns] at h; cases h) (hlocks := BodyLoose.notSynchronized Bd)
              refine ⟨_, _, pre113 _ ?_, hrun, hended, _, _, rfl, ?_, ⟨_, rfl⟩, hW, hsame.mono (by decide) (by decide)⟩
              · show Steps p.tables e below (s₁.setTop (mkF m 76 #[.val (.ref e_o), .val (.ref s_o), .val (.ref f_o), .val (.ref t_o), .val (.int (0 : Int32))] [(.int (2 : Int32)), (.int n_1)])) _
                refine XS.icmpYes X0.here hx rfl (pc0 := 76) (pc' := 104) rfl (hb hby own_d8_76) rfl (flt hc76_114).2.2.2 (by decide) (by decide) ?_
                show Steps p.tables e below (s₁.setTop (mkF m 104 #[.val (.ref e_o), .val (.ref s_o), .val (.ref f_o), .val (.ref t_o), .val (.int (0 : Int32))] [])) _
                refine XS.iload X0.here hx rfl (hb hby own_d8_104) rfl ?_
                show Steps p.tables e below (s₁.setTop (mkF m 106 #[.val (.ref e_o), .val (.ref s_o), .val (.ref f_o), .val (.ref t_o), .val (.int (0 : Int32))] [(.int (0 : Int32))])) _
                exact retN X0 hx (t := .boolean) Bd.returns (by simp) (hb hby own_d8_106) hr
              · show Qown_same Z e_o s_o f_o t_o k_e k_s k_f k_t n_1 m_1 x_0 x_1 x_2 s_0 s_1 s_2 y_0 y_1 y_2 t_0 t_1 t_2 h0 n0 _ s₁.heap _
                rw [e0]
                have hv : (own_same_f n_1 m_1 x_0 x_1 x_2 s_0 s_1 s_2 y_0 y_1 y_2 t_0 t_1 t_2) = (0 : Int32) := by unfold own_same_f; rw [if_pos hc4_9, if_pos hc14_17, if_pos hc32_36, if_pos hc45_46, if_neg hc63_65, if_neg hc76_114]
                exact ⟨(by rw [hv]), N0, rfl⟩
        · obtain ⟨cl125, Ar125, -, S125, M125, -, -⟩ := id V_s
          have pre128 : ∀ t, Steps p.tables e below (s₁.setTop (mkF m 76 #[.val (.ref e_o), .val (.ref s_o), .val (.ref f_o), .val (.ref t_o), .val (.int (1 : Int32))] [(.int (2 : Int32)), (.int n_1)])) t → Steps p.tables e below (s₁.setTop (entryFrame m #[(.ref e_o), (.ref s_o), (.ref f_o), (.ref t_o)] 5)) t := by
            intro t kt
            refine pre45 _ ?_
            show Steps p.tables e below (s₁.setTop (mkF m 45 #[.val (.ref e_o), .val (.ref s_o), .val (.ref f_o), .val (.ref t_o), .val (.int (1 : Int32))] [(.int (1 : Int32)), (.int n_1)])) _
            refine XS.icmpYes X0.here hx rfl (pc0 := 45) (pc' := 73) rfl (hb hby own_d8_45) rfl (flt hc45_46).2.2.2 (by decide) (by decide) ?_
            show Steps p.tables e below (s₁.setTop (mkF m 73 #[.val (.ref e_o), .val (.ref s_o), .val (.ref f_o), .val (.ref t_o), .val (.int (1 : Int32))] [])) _
            refine XS.aloadN X0.here hx rfl (hb hby own_d8_73) rfl rfl ?_
            show Steps p.tables e below (s₁.setTop (mkF m 74 #[.val (.ref e_o), .val (.ref s_o), .val (.ref f_o), .val (.ref t_o), .val (.int (1 : Int32))] [(.ref s_o)])) _
            refine X0.arraylength hx (by rw [e0]; exact Ar125.1) (State.isArrayOf_alike hZ.alike Ar125.2.1) (g := (mkF m 74 #[.val (.ref e_o), .val (.ref s_o), .val (.ref f_o), .val (.ref t_o), .val (.int (1 : Int32))] [(.ref s_o)])) rfl rfl (hb hby own_d8_74) _ ?_
            rw [len_of S125 M125]
            show Steps p.tables e below (s₁.setTop (mkF m 75 #[.val (.ref e_o), .val (.ref s_o), .val (.ref f_o), .val (.ref t_o), .val (.int (1 : Int32))] [(.int n_1)])) _
            refine XS.iconst X0.here hx rfl (hb hby own_d8_75) ?_
            exact kt
          by_cases hc76_129 : (2 : Int32) < n_1
          · obtain ⟨cl136, Ar136, q136, S136, M136, H136, G136⟩ := id V_s
            have hin136 : ¬ ((2 : Int32) < 0 ∨ cl136.slots.size ≤ ((2 : Int32)).toNatClampNeg) := inb_of S136 ⟨by decide, hc76_129⟩
            have hat136 : cl136.slots[((2 : Int32)).toNatClampNeg]? = some (.int s_2) := H136.at hin136 rfl
            obtain ⟨cl138, Ar138, q138, S138, M138, H138, G138⟩ := id V_e
            have hin138 : ¬ (s_2 < 0 ∨ cl138.slots.size ≤ (s_2).toNatClampNeg) := inb_of S138 hb2
            have hat138 : cl138.slots[(s_2).toNatClampNeg]? = some (.int (own_sel x_0 x_1 x_2 s_2)) := H138.at hin138 (own_sel_get _ _ _ _ _ hb2)
            obtain ⟨cl143, Ar143, q143, S143, M143, H143, G143⟩ := id V_t
            have hin143 : ¬ ((2 : Int32) < 0 ∨ cl143.slots.size ≤ ((2 : Int32)).toNatClampNeg) := inb_of S143 ⟨by decide, hc4_9 ▸ hc76_129⟩
            have hat143 : cl143.slots[((2 : Int32)).toNatClampNeg]? = some (.int t_2) := H143.at hin143 rfl
            obtain ⟨cl145, Ar145, q145, S145, M145, H145, G145⟩ := id V_f
            have hin145 : ¬ (t_2 < 0 ∨ cl145.slots.size ≤ (t_2).toNatClampNeg) := inb_of S145 hd2
            have hat145 : cl145.slots[(t_2).toNatClampNeg]? = some (.int (own_sel y_0 y_1 y_2 t_2)) := H145.at hin145 (own_sel_get _ _ _ _ _ hd2)
            have pre147 : ∀ t, Steps p.tables e below (s₁.setTop (mkF m 94 #[.val (.ref e_o), .val (.ref s_o), .val (.ref f_o), .val (.ref t_o), .val (.int (1 : Int32))] [(.int (own_sel y_0 y_1 y_2 t_2)), (.int (own_sel x_0 x_1 x_2 s_2))])) t → Steps p.tables e below (s₁.setTop (entryFrame m #[(.ref e_o), (.ref s_o), (.ref f_o), (.ref t_o)] 5)) t := by
              intro t kt
              refine pre128 _ ?_
              show Steps p.tables e below (s₁.setTop (mkF m 76 #[.val (.ref e_o), .val (.ref s_o), .val (.ref f_o), .val (.ref t_o), .val (.int (1 : Int32))] [(.int (2 : Int32)), (.int n_1)])) _
              refine XS.icmpNo X0.here hx rfl (hb hby own_d8_76) rfl (tlt hc76_129).2.2.2 ?_
              show Steps p.tables e below (s₁.setTop (mkF m 79 #[.val (.ref e_o), .val (.ref s_o), .val (.ref f_o), .val (.ref t_o), .val (.int (1 : Int32))] [])) _
              refine XS.iload X0.here hx rfl (hb hby own_d8_79) rfl ?_
              show Steps p.tables e below (s₁.setTop (mkF m 81 #[.val (.ref e_o), .val (.ref s_o), .val (.ref f_o), .val (.ref t_o), .val (.int (1 : Int32))] [(.int (1 : Int32))])) _
              refine XS.ifNo X0.here hx rfl (hb hby own_d8_81) rfl ((if0 _ _).trans (feq ((by decide) : ¬ ((1 : Int32) = (0 : Int32)))).1) ?_
              show Steps p.tables e below (s₁.setTop (mkF m 84 #[.val (.ref e_o), .val (.ref s_o), .val (.ref f_o), .val (.ref t_o), .val (.int (1 : Int32))] [])) _
              refine XS.aloadN X0.here hx rfl (hb hby own_d8_84) rfl rfl ?_
              show Steps p.tables e below (s₁.setTop (mkF m 85 #[.val (.ref e_o), .val (.ref s_o), .val (.ref f_o), .val (.ref t_o), .val (.int (1 : Int32))] [(.ref e_o)])) _
              refine XS.aloadN X0.here hx rfl (hb hby own_d8_85) rfl rfl ?_
              show Steps p.tables e below (s₁.setTop (mkF m 86 #[.val (.ref e_o), .val (.ref s_o), .val (.ref f_o), .val (.ref t_o), .val (.int (1 : Int32))] [(.ref s_o), (.ref e_o)])) _
              refine XS.iconst X0.here hx rfl (hb hby own_d8_86) ?_
              show Steps p.tables e below (s₁.setTop (mkF m 87 #[.val (.ref e_o), .val (.ref s_o), .val (.ref f_o), .val (.ref t_o), .val (.int (1 : Int32))] [(.int (2 : Int32)), (.ref s_o), (.ref e_o)])) _
              refine X0.iaload hx (j := (2 : Int32)) (v := (.int s_2)) (by rw [e0]; exact Ar136.1) (State.isArrayOf_alike hZ.alike Ar136.2.1) Ar136.2.2 hin136 hat136 (g := (mkF m 87 #[.val (.ref e_o), .val (.ref s_o), .val (.ref f_o), .val (.ref t_o), .val (.int (1 : Int32))] [(.int (2 : Int32)), (.ref s_o), (.ref e_o)])) rfl rfl (hb hby own_d8_87) _ ?_
              show Steps p.tables e below (s₁.setTop (mkF m 88 #[.val (.ref e_o), .val (.ref s_o), .val (.ref f_o), .val (.ref t_o), .val (.int (1 : Int32))] [(.int s_2), (.ref e_o)])) _
              refine X0.iaload hx (j := s_2) (v := (.int (own_sel x_0 x_1 x_2 s_2))) (by rw [e0]; exact Ar138.1) (State.isArrayOf_alike hZ.alike Ar138.2.1) Ar138.2.2 hin138 hat138 (g := (mkF m 88 #[.val (.ref e_o), .val (.ref s_o), .val (.ref f_o), .val (.ref t_o), .val (.int (1 : Int32))] [(.int s_2), (.ref e_o)])) rfl rfl (hb hby own_d8_88) _ ?_
              show Steps p.tables e below (s₁.setTop (mkF m 89 #[.val (.ref e_o), .val (.ref s_o), .val (.ref f_o), .val (.ref t_o), .val (.int (1 : Int32))] [(.int (own_sel x_0 x_1 x_2 s_2))])) _
              refine XS.aloadN X0.here hx rfl (hb hby own_d8_89) rfl rfl ?_
              show Steps p.tables e below (s₁.setTop (mkF m 90 #[.val (.ref e_o), .val (.ref s_o), .val (.ref f_o), .val (.ref t_o), .val (.int (1 : Int32))] [(.ref f_o), (.int (own_sel x_0 x_1 x_2 s_2))])) _
              refine XS.aloadN X0.here hx rfl (hb hby own_d8_90) rfl rfl ?_
              show Steps p.tables e below (s₁.setTop (mkF m 91 #[.val (.ref e_o), .val (.ref s_o), .val (.ref f_o), .val (.ref t_o), .val (.int (1 : Int32))] [(.ref t_o), (.ref f_o), (.int (own_sel x_0 x_1 x_2 s_2))])) _
              refine XS.iconst X0.here hx rfl (hb hby own_d8_91) ?_
              show Steps p.tables e below (s₁.setTop (mkF m 92 #[.val (.ref e_o), .val (.ref s_o), .val (.ref f_o), .val (.ref t_o), .val (.int (1 : Int32))] [(.int (2 : Int32)), (.ref t_o), (.ref f_o), (.int (own_sel x_0 x_1 x_2 s_2))])) _
              refine X0.iaload hx (j := (2 : Int32)) (v := (.int t_2)) (by rw [e0]; exact Ar143.1) (State.isArrayOf_alike hZ.alike Ar143.2.1) Ar143.2.2 hin143 hat143 (g := (mkF m 92 #[.val (.ref e_o), .val (.ref s_o), .val (.ref f_o), .val (.ref t_o), .val (.int (1 : Int32))] [(.int (2 : Int32)), (.ref t_o), (.ref f_o), (.int (own_sel x_0 x_1 x_2 s_2))])) rfl rfl (hb hby own_d8_92) _ ?_
              show Steps p.tables e below (s₁.setTop (mkF m 93 #[.val (.ref e_o), .val (.ref s_o), .val (.ref f_o), .val (.ref t_o), .val (.int (1 : Int32))] [(.int t_2), (.ref f_o), (.int (own_sel x_0 x_1 x_2 s_2))])) _
              refine X0.iaload hx (j := t_2) (v := (.int (own_sel y_0 y_1 y_2 t_2))) (by rw [e0]; exact Ar145.1) (State.isArrayOf_alike hZ.alike Ar145.2.1) Ar145.2.2 hin145 hat145 (g := (mkF m 93 #[.val (.ref e_o), .val (.ref s_o), .val (.ref f_o), .val (.ref t_o), .val (.int (1 : Int32))] [(.int t_2), (.ref f_o), (.int (own_sel x_0 x_1 x_2 s_2))])) rfl rfl (hb hby own_d8_93) _ ?_
              exact kt
            by_cases hc94_148 : (own_sel x_0 x_1 x_2 s_2) = (own_sel y_0 y_1 y_2 t_2)
            · obtain ⟨fs, hr, hrun, hended, hW, hsame⟩ := X0.leave (v := some (.int (1 : Int32))) (fun h => by rw [Bd.returns] at h; cases h) (hlocks := BodyLoose.notSynchronized Bd)
              refine ⟨_, _, pre147 _ ?_, hrun, hended, _, _, rfl, ?_, ⟨_, rfl⟩, hW, hsame.mono (by decide) (by decide)⟩
              · show Steps p.tables e below (s₁.setTop (mkF m 94 #[.val (.ref e_o), .val (.ref s_o), .val (.ref f_o), .val (.ref t_o), .val (.int (1 : Int32))] [(.int (own_sel y_0 y_1 y_2 t_2)), (.int (own_sel x_0 x_1 x_2 s_2))])) _
                refine XS.icmpNo X0.here hx rfl (hb hby own_d8_94) rfl (teq hc94_148).2 ?_
                show Steps p.tables e below (s₁.setTop (mkF m 97 #[.val (.ref e_o), .val (.ref s_o), .val (.ref f_o), .val (.ref t_o), .val (.int (1 : Int32))] [])) _
                refine XS.iconst X0.here hx rfl (hb hby own_d8_97) ?_
                show Steps p.tables e below (s₁.setTop (mkF m 98 #[.val (.ref e_o), .val (.ref s_o), .val (.ref f_o), .val (.ref t_o), .val (.int (1 : Int32))] [(.int (1 : Int32))])) _
                refine XS.goto X0.here hx rfl (pc0 := 98) (pc' := 102) rfl (hb hby own_d8_98) (by decide) (by decide) ?_
                show Steps p.tables e below (s₁.setTop (mkF m 102 #[.val (.ref e_o), .val (.ref s_o), .val (.ref f_o), .val (.ref t_o), .val (.int (1 : Int32))] [(.int (1 : Int32))])) _
                refine XS.istore X0.here hx rfl (hb hby own_d8_102) rfl (l' := #[.val (.ref e_o), .val (.ref s_o), .val (.ref f_o), .val (.ref t_o), .val (.int (1 : Int32))]) rfl ?_
                show Steps p.tables e below (s₁.setTop (mkF m 104 #[.val (.ref e_o), .val (.ref s_o), .val (.ref f_o), .val (.ref t_o), .val (.int (1 : Int32))] [])) _
                refine XS.iload X0.here hx rfl (hb hby own_d8_104) rfl ?_
                show Steps p.tables e below (s₁.setTop (mkF m 106 #[.val (.ref e_o), .val (.ref s_o), .val (.ref f_o), .val (.ref t_o), .val (.int (1 : Int32))] [(.int (1 : Int32))])) _
                exact retN X0 hx (t := .boolean) Bd.returns (by simp) (hb hby own_d8_106) hr
              · show Qown_same Z e_o s_o f_o t_o k_e k_s k_f k_t n_1 m_1 x_0 x_1 x_2 s_0 s_1 s_2 y_0 y_1 y_2 t_0 t_1 t_2 h0 n0 _ s₁.heap _
                rw [e0]
                have hv : (own_same_f n_1 m_1 x_0 x_1 x_2 s_0 s_1 s_2 y_0 y_1 y_2 t_0 t_1 t_2) = (1 : Int32) := by unfold own_same_f; rw [if_pos hc4_9, if_pos hc14_17, if_pos hc32_36, if_neg hc45_46, if_pos hc76_129, if_pos hc94_148]
                exact ⟨(by rw [hv]), N0, rfl⟩
            · obtain ⟨fs, hr, hrun, hended, hW, hsame⟩ := X0.leave (v := some (.int (0 : Int32))) (fun h => by rw [Bd.returns] at h; cases h) (hlocks := BodyLoose.notSynchronized Bd)
              refine ⟨_, _, pre147 _ ?_, hrun, hended, _, _, rfl, ?_, ⟨_, rfl⟩, hW, hsame.mono (by decide) (by decide)⟩
              · show Steps p.tables e below (s₁.setTop (mkF m 94 #[.val (.ref e_o), .val (.ref s_o), .val (.ref f_o), .val (.ref t_o), .val (.int (1 : Int32))] [(.int (own_sel y_0 y_1 y_2 t_2)), (.int (own_sel x_0 x_1 x_2 s_2))])) _
                refine XS.icmpYes X0.here hx rfl (pc0 := 94) (pc' := 101) rfl (hb hby own_d8_94) rfl (feq hc94_148).2 (by decide) (by decide) ?_
                show Steps p.tables e below (s₁.setTop (mkF m 101 #[.val (.ref e_o), .val (.ref s_o), .val (.ref f_o), .val (.ref t_o), .val (.int (1 : Int32))] [])) _
                refine XS.iconst X0.here hx rfl (hb hby own_d8_101) ?_
                show Steps p.tables e below (s₁.setTop (mkF m 102 #[.val (.ref e_o), .val (.ref s_o), .val (.ref f_o), .val (.ref t_o), .val (.int (1 : Int32))] [(.int (0 : Int32))])) _
                refine XS.istore X0.here hx rfl (hb hby own_d8_102) rfl (l' := #[.val (.ref e_o), .val (.ref s_o), .val (.ref f_o), .val (.ref t_o), .val (.int (0 : Int32))]) rfl ?_
                show Steps p.tables e below (s₁.setTop (mkF m 104 #[.val (.ref e_o), .val (.ref s_o), .val (.ref f_o), .val (.ref t_o), .val (.int (0 : Int32))] [])) _
                refine XS.iload X0.here hx rfl (hb hby own_d8_104) rfl ?_
                show Steps p.tables e below (s₁.setTop (mkF m 106 #[.val (.ref e_o), .val (.ref s_o), .val (.ref f_o), .val (.ref t_o), .val (.int (0 : Int32))] [(.int (0 : Int32))])) _
                exact retN X0 hx (t := .boolean) Bd.returns (by simp) (hb hby own_d8_106) hr
              · show Qown_same Z e_o s_o f_o t_o k_e k_s k_f k_t n_1 m_1 x_0 x_1 x_2 s_0 s_1 s_2 y_0 y_1 y_2 t_0 t_1 t_2 h0 n0 _ s₁.heap _
                rw [e0]
                have hv : (own_same_f n_1 m_1 x_0 x_1 x_2 s_0 s_1 s_2 y_0 y_1 y_2 t_0 t_1 t_2) = (0 : Int32) := by unfold own_same_f; rw [if_pos hc4_9, if_pos hc14_17, if_pos hc32_36, if_neg hc45_46, if_pos hc76_129, if_neg hc94_148]
                exact ⟨(by rw [hv]), N0, rfl⟩
          · obtain ⟨fs, hr, hrun, hended, hW, hsame⟩ := X0.leave (v := some (.int (1 : Int32))) (fun h => by rw [Bd.returns] at h; cases h) (hlocks := BodyLoose.notSynchronized Bd)
            refine ⟨_, _, pre128 _ ?_, hrun, hended, _, _, rfl, ?_, ⟨_, rfl⟩, hW, hsame.mono (by decide) (by decide)⟩
            · show Steps p.tables e below (s₁.setTop (mkF m 76 #[.val (.ref e_o), .val (.ref s_o), .val (.ref f_o), .val (.ref t_o), .val (.int (1 : Int32))] [(.int (2 : Int32)), (.int n_1)])) _
              refine XS.icmpYes X0.here hx rfl (pc0 := 76) (pc' := 104) rfl (hb hby own_d8_76) rfl (flt hc76_129).2.2.2 (by decide) (by decide) ?_
              show Steps p.tables e below (s₁.setTop (mkF m 104 #[.val (.ref e_o), .val (.ref s_o), .val (.ref f_o), .val (.ref t_o), .val (.int (1 : Int32))] [])) _
              refine XS.iload X0.here hx rfl (hb hby own_d8_104) rfl ?_
              show Steps p.tables e below (s₁.setTop (mkF m 106 #[.val (.ref e_o), .val (.ref s_o), .val (.ref f_o), .val (.ref t_o), .val (.int (1 : Int32))] [(.int (1 : Int32))])) _
              exact retN X0 hx (t := .boolean) Bd.returns (by simp) (hb hby own_d8_106) hr
            · show Qown_same Z e_o s_o f_o t_o k_e k_s k_f k_t n_1 m_1 x_0 x_1 x_2 s_0 s_1 s_2 y_0 y_1 y_2 t_0 t_1 t_2 h0 n0 _ s₁.heap _
              rw [e0]
              have hv : (own_same_f n_1 m_1 x_0 x_1 x_2 s_0 s_1 s_2 y_0 y_1 y_2 t_0 t_1 t_2) = (1 : Int32) := by unfold own_same_f; rw [if_pos hc4_9, if_pos hc14_17, if_pos hc32_36, if_neg hc45_46, if_neg hc76_129]
              exact ⟨(by rw [hv]), N0, rfl⟩
      · obtain ⟨cl164, Ar164, -, S164, M164, -, -⟩ := id V_s
        have pre167 : ∀ t, Steps p.tables e below (s₁.setTop (mkF m 45 #[.val (.ref e_o), .val (.ref s_o), .val (.ref f_o), .val (.ref t_o), .val (.int (0 : Int32))] [(.int (1 : Int32)), (.int n_1)])) t → Steps p.tables e below (s₁.setTop (entryFrame m #[(.ref e_o), (.ref s_o), (.ref f_o), (.ref t_o)] 5)) t := by
          intro t kt
          refine pre35 _ ?_
          show Steps p.tables e below (s₁.setTop (mkF m 32 #[.val (.ref e_o), .val (.ref s_o), .val (.ref f_o), .val (.ref t_o), .val (.int (1 : Int32))] [(.int (own_sel y_0 y_1 y_2 t_0)), (.int (own_sel x_0 x_1 x_2 s_0))])) _
          refine XS.icmpYes X0.here hx rfl (pc0 := 32) (pc' := 39) rfl (hb hby own_d8_32) rfl (feq hc32_36).2 (by decide) (by decide) ?_
          show Steps p.tables e below (s₁.setTop (mkF m 39 #[.val (.ref e_o), .val (.ref s_o), .val (.ref f_o), .val (.ref t_o), .val (.int (1 : Int32))] [])) _
          refine XS.iconst X0.here hx rfl (hb hby own_d8_39) ?_
          show Steps p.tables e below (s₁.setTop (mkF m 40 #[.val (.ref e_o), .val (.ref s_o), .val (.ref f_o), .val (.ref t_o), .val (.int (1 : Int32))] [(.int (0 : Int32))])) _
          refine XS.istore X0.here hx rfl (hb hby own_d8_40) rfl (l' := #[.val (.ref e_o), .val (.ref s_o), .val (.ref f_o), .val (.ref t_o), .val (.int (0 : Int32))]) rfl ?_
          show Steps p.tables e below (s₁.setTop (mkF m 42 #[.val (.ref e_o), .val (.ref s_o), .val (.ref f_o), .val (.ref t_o), .val (.int (0 : Int32))] [])) _
          refine XS.aloadN X0.here hx rfl (hb hby own_d8_42) rfl rfl ?_
          show Steps p.tables e below (s₁.setTop (mkF m 43 #[.val (.ref e_o), .val (.ref s_o), .val (.ref f_o), .val (.ref t_o), .val (.int (0 : Int32))] [(.ref s_o)])) _
          refine X0.arraylength hx (by rw [e0]; exact Ar164.1) (State.isArrayOf_alike hZ.alike Ar164.2.1) (g := (mkF m 43 #[.val (.ref e_o), .val (.ref s_o), .val (.ref f_o), .val (.ref t_o), .val (.int (0 : Int32))] [(.ref s_o)])) rfl rfl (hb hby own_d8_43) _ ?_
          rw [len_of S164 M164]
          show Steps p.tables e below (s₁.setTop (mkF m 44 #[.val (.ref e_o), .val (.ref s_o), .val (.ref f_o), .val (.ref t_o), .val (.int (0 : Int32))] [(.int n_1)])) _
          refine XS.iconst X0.here hx rfl (hb hby own_d8_44) ?_
          exact kt
        by_cases hc45_168 : (1 : Int32) < n_1
        · obtain ⟨cl175, Ar175, -, S175, M175, -, -⟩ := id V_s
          have pre178 : ∀ t, Steps p.tables e below (s₁.setTop (mkF m 76 #[.val (.ref e_o), .val (.ref s_o), .val (.ref f_o), .val (.ref t_o), .val (.int (0 : Int32))] [(.int (2 : Int32)), (.int n_1)])) t → Steps p.tables e below (s₁.setTop (entryFrame m #[(.ref e_o), (.ref s_o), (.ref f_o), (.ref t_o)] 5)) t := by
            intro t kt
            refine pre167 _ ?_
            show Steps p.tables e below (s₁.setTop (mkF m 45 #[.val (.ref e_o), .val (.ref s_o), .val (.ref f_o), .val (.ref t_o), .val (.int (0 : Int32))] [(.int (1 : Int32)), (.int n_1)])) _
            refine XS.icmpNo X0.here hx rfl (hb hby own_d8_45) rfl (tlt hc45_168).2.2.2 ?_
            show Steps p.tables e below (s₁.setTop (mkF m 48 #[.val (.ref e_o), .val (.ref s_o), .val (.ref f_o), .val (.ref t_o), .val (.int (0 : Int32))] [])) _
            refine XS.iload X0.here hx rfl (hb hby own_d8_48) rfl ?_
            show Steps p.tables e below (s₁.setTop (mkF m 50 #[.val (.ref e_o), .val (.ref s_o), .val (.ref f_o), .val (.ref t_o), .val (.int (0 : Int32))] [(.int (0 : Int32))])) _
            refine XS.ifYes X0.here hx rfl (pc0 := 50) (pc' := 70) rfl (hb hby own_d8_50) rfl ((if0 _ _).trans (teq ((by decide) : (0 : Int32) = (0 : Int32))).1) (by decide) (by decide) ?_
            show Steps p.tables e below (s₁.setTop (mkF m 70 #[.val (.ref e_o), .val (.ref s_o), .val (.ref f_o), .val (.ref t_o), .val (.int (0 : Int32))] [])) _
            refine XS.iconst X0.here hx rfl (hb hby own_d8_70) ?_
            show Steps p.tables e below (s₁.setTop (mkF m 71 #[.val (.ref e_o), .val (.ref s_o), .val (.ref f_o), .val (.ref t_o), .val (.int (0 : Int32))] [(.int (0 : Int32))])) _
            refine XS.istore X0.here hx rfl (hb hby own_d8_71) rfl (l' := #[.val (.ref e_o), .val (.ref s_o), .val (.ref f_o), .val (.ref t_o), .val (.int (0 : Int32))]) rfl ?_
            show Steps p.tables e below (s₁.setTop (mkF m 73 #[.val (.ref e_o), .val (.ref s_o), .val (.ref f_o), .val (.ref t_o), .val (.int (0 : Int32))] [])) _
            refine XS.aloadN X0.here hx rfl (hb hby own_d8_73) rfl rfl ?_
            show Steps p.tables e below (s₁.setTop (mkF m 74 #[.val (.ref e_o), .val (.ref s_o), .val (.ref f_o), .val (.ref t_o), .val (.int (0 : Int32))] [(.ref s_o)])) _
            refine X0.arraylength hx (by rw [e0]; exact Ar175.1) (State.isArrayOf_alike hZ.alike Ar175.2.1) (g := (mkF m 74 #[.val (.ref e_o), .val (.ref s_o), .val (.ref f_o), .val (.ref t_o), .val (.int (0 : Int32))] [(.ref s_o)])) rfl rfl (hb hby own_d8_74) _ ?_
            rw [len_of S175 M175]
            show Steps p.tables e below (s₁.setTop (mkF m 75 #[.val (.ref e_o), .val (.ref s_o), .val (.ref f_o), .val (.ref t_o), .val (.int (0 : Int32))] [(.int n_1)])) _
            refine XS.iconst X0.here hx rfl (hb hby own_d8_75) ?_
            exact kt
          by_cases hc76_179 : (2 : Int32) < n_1
          · obtain ⟨fs, hr, hrun, hended, hW, hsame⟩ := X0.leave (v := some (.int (0 : Int32))) (fun h => by rw [Bd.returns] at h; cases h) (hlocks := BodyLoose.notSynchronized Bd)
            refine ⟨_, _, pre178 _ ?_, hrun, hended, _, _, rfl, ?_, ⟨_, rfl⟩, hW, hsame.mono (by decide) (by decide)⟩
            · show Steps p.tables e below (s₁.setTop (mkF m 76 #[.val (.ref e_o), .val (.ref s_o), .val (.ref f_o), .val (.ref t_o), .val (.int (0 : Int32))] [(.int (2 : Int32)), (.int n_1)])) _
              refine XS.icmpNo X0.here hx rfl (hb hby own_d8_76) rfl (tlt hc76_179).2.2.2 ?_
              show Steps p.tables e below (s₁.setTop (mkF m 79 #[.val (.ref e_o), .val (.ref s_o), .val (.ref f_o), .val (.ref t_o), .val (.int (0 : Int32))] [])) _
              refine XS.iload X0.here hx rfl (hb hby own_d8_79) rfl ?_
              show Steps p.tables e below (s₁.setTop (mkF m 81 #[.val (.ref e_o), .val (.ref s_o), .val (.ref f_o), .val (.ref t_o), .val (.int (0 : Int32))] [(.int (0 : Int32))])) _
              refine XS.ifYes X0.here hx rfl (pc0 := 81) (pc' := 101) rfl (hb hby own_d8_81) rfl ((if0 _ _).trans (teq ((by decide) : (0 : Int32) = (0 : Int32))).1) (by decide) (by decide) ?_
              show Steps p.tables e below (s₁.setTop (mkF m 101 #[.val (.ref e_o), .val (.ref s_o), .val (.ref f_o), .val (.ref t_o), .val (.int (0 : Int32))] [])) _
              refine XS.iconst X0.here hx rfl (hb hby own_d8_101) ?_
              show Steps p.tables e below (s₁.setTop (mkF m 102 #[.val (.ref e_o), .val (.ref s_o), .val (.ref f_o), .val (.ref t_o), .val (.int (0 : Int32))] [(.int (0 : Int32))])) _
              refine XS.istore X0.here hx rfl (hb hby own_d8_102) rfl (l' := #[.val (.ref e_o), .val (.ref s_o), .val (.ref f_o), .val (.ref t_o), .val (.int (0 : Int32))]) rfl ?_
              show Steps p.tables e below (s₁.setTop (mkF m 104 #[.val (.ref e_o), .val (.ref s_o), .val (.ref f_o), .val (.ref t_o), .val (.int (0 : Int32))] [])) _
              refine XS.iload X0.here hx rfl (hb hby own_d8_104) rfl ?_
              show Steps p.tables e below (s₁.setTop (mkF m 106 #[.val (.ref e_o), .val (.ref s_o), .val (.ref f_o), .val (.ref t_o), .val (.int (0 : Int32))] [(.int (0 : Int32))])) _
              exact retN X0 hx (t := .boolean) Bd.returns (by simp) (hb hby own_d8_106) hr
            · show Qown_same Z e_o s_o f_o t_o k_e k_s k_f k_t n_1 m_1 x_0 x_1 x_2 s_0 s_1 s_2 y_0 y_1 y_2 t_0 t_1 t_2 h0 n0 _ s₁.heap _
              rw [e0]
              have hv : (own_same_f n_1 m_1 x_0 x_1 x_2 s_0 s_1 s_2 y_0 y_1 y_2 t_0 t_1 t_2) = (0 : Int32) := by unfold own_same_f; rw [if_pos hc4_9, if_pos hc14_17, if_neg hc32_36, if_pos hc45_168, if_pos hc76_179]
              exact ⟨(by rw [hv]), N0, rfl⟩
          · obtain ⟨fs, hr, hrun, hended, hW, hsame⟩ := X0.leave (v := some (.int (0 : Int32))) (fun h => by rw [Bd.returns] at h; cases h) (hlocks := BodyLoose.notSynchronized Bd)
            refine ⟨_, _, pre178 _ ?_, hrun, hended, _, _, rfl, ?_, ⟨_, rfl⟩, hW, hsame.mono (by decide) (by decide)⟩
            · show Steps p.tables e below (s₁.setTop (mkF m 76 #[.val (.ref e_o), .val (.ref s_o), .val (.ref f_o), .val (.ref t_o), .val (.int (0 : Int32))] [(.int (2 : Int32)), (.int n_1)])) _
              refine XS.icmpYes X0.here hx rfl (pc0 := 76) (pc' := 104) rfl (hb hby own_d8_76) rfl (flt hc76_179).2.2.2 (by decide) (by decide) ?_
              show Steps p.tables e below (s₁.setTop (mkF m 104 #[.val (.ref e_o), .val (.ref s_o), .val (.ref f_o), .val (.ref t_o), .val (.int (0 : Int32))] [])) _
              refine XS.iload X0.here hx rfl (hb hby own_d8_104) rfl ?_
              show Steps p.tables e below (s₁.setTop (mkF m 106 #[.val (.ref e_o), .val (.ref s_o), .val (.ref f_o), .val (.ref t_o), .val (.int (0 : Int32))] [(.int (0 : Int32))])) _
              exact retN X0 hx (t := .boolean) Bd.returns (by simp) (hb hby own_d8_106) hr
            · show Qown_same Z e_o s_o f_o t_o k_e k_s k_f k_t n_1 m_1 x_0 x_1 x_2 s_0 s_1 s_2 y_0 y_1 y_2 t_0 t_1 t_2 h0 n0 _ s₁.heap _
              rw [e0]
              have hv : (own_same_f n_1 m_1 x_0 x_1 x_2 s_0 s_1 s_2 y_0 y_1 y_2 t_0 t_1 t_2) = (0 : Int32) := by unfold own_same_f; rw [if_pos hc4_9, if_pos hc14_17, if_neg hc32_36, if_pos hc45_168, if_neg hc76_179]
              exact ⟨(by rw [hv]), N0, rfl⟩
        · obtain ⟨cl190, Ar190, -, S190, M190, -, -⟩ := id V_s
          have pre193 : ∀ t, Steps p.tables e below (s₁.setTop (mkF m 76 #[.val (.ref e_o), .val (.ref s_o), .val (.ref f_o), .val (.ref t_o), .val (.int (0 : Int32))] [(.int (2 : Int32)), (.int n_1)])) t → Steps p.tables e below (s₁.setTop (entryFrame m #[(.ref e_o), (.ref s_o), (.ref f_o), (.ref t_o)] 5)) t := by
            intro t kt
            refine pre167 _ ?_
            show Steps p.tables e below (s₁.setTop (mkF m 45 #[.val (.ref e_o), .val (.ref s_o), .val (.ref f_o), .val (.ref t_o), .val (.int (0 : Int32))] [(.int (1 : Int32)), (.int n_1)])) _
            refine XS.icmpYes X0.here hx rfl (pc0 := 45) (pc' := 73) rfl (hb hby own_d8_45) rfl (flt hc45_168).2.2.2 (by decide) (by decide) ?_
            show Steps p.tables e below (s₁.setTop (mkF m 73 #[.val (.ref e_o), .val (.ref s_o), .val (.ref f_o), .val (.ref t_o), .val (.int (0 : Int32))] [])) _
            refine XS.aloadN X0.here hx rfl (hb hby own_d8_73) rfl rfl ?_
            show Steps p.tables e below (s₁.setTop (mkF m 74 #[.val (.ref e_o), .val (.ref s_o), .val (.ref f_o), .val (.ref t_o), .val (.int (0 : Int32))] [(.ref s_o)])) _
            refine X0.arraylength hx (by rw [e0]; exact Ar190.1) (State.isArrayOf_alike hZ.alike Ar190.2.1) (g := (mkF m 74 #[.val (.ref e_o), .val (.ref s_o), .val (.ref f_o), .val (.ref t_o), .val (.int (0 : Int32))] [(.ref s_o)])) rfl rfl (hb hby own_d8_74) _ ?_
            rw [len_of S190 M190]
            show Steps p.tables e below (s₁.setTop (mkF m 75 #[.val (.ref e_o), .val (.ref s_o), .val (.ref f_o), .val (.ref t_o), .val (.int (0 : Int32))] [(.int n_1)])) _
            refine XS.iconst X0.here hx rfl (hb hby own_d8_75) ?_
            exact kt
          by_cases hc76_194 : (2 : Int32) < n_1
          · obtain ⟨fs, hr, hrun, hended, hW, hsame⟩ := X0.leave (v := some (.int (0 : Int32))) (fun h => by rw [Bd.returns] at h; cases h) (hlocks := BodyLoose.notSynchronized Bd)
            refine ⟨_, _, pre193 _ ?_, hrun, hended, _, _, rfl, ?_, ⟨_, rfl⟩, hW, hsame.mono (by decide) (by decide)⟩
            · show Steps p.tables e below (s₁.setTop (mkF m 76 #[.val (.ref e_o), .val (.ref s_o), .val (.ref f_o), .val (.ref t_o), .val (.int (0 : Int32))] [(.int (2 : Int32)), (.int n_1)])) _
              refine XS.icmpNo X0.here hx rfl (hb hby own_d8_76) rfl (tlt hc76_194).2.2.2 ?_
              show Steps p.tables e below (s₁.setTop (mkF m 79 #[.val (.ref e_o), .val (.ref s_o), .val (.ref f_o), .val (.ref t_o), .val (.int (0 : Int32))] [])) _
              refine XS.iload X0.here hx rfl (hb hby own_d8_79) rfl ?_
              show Steps p.tables e below (s₁.setTop (mkF m 81 #[.val (.ref e_o), .val (.ref s_o), .val (.ref f_o), .val (.ref t_o), .val (.int (0 : Int32))] [(.int (0 : Int32))])) _
              refine XS.ifYes X0.here hx rfl (pc0 := 81) (pc' := 101) rfl (hb hby own_d8_81) rfl ((if0 _ _).trans (teq ((by decide) : (0 : Int32) = (0 : Int32))).1) (by decide) (by decide) ?_
              show Steps p.tables e below (s₁.setTop (mkF m 101 #[.val (.ref e_o), .val (.ref s_o), .val (.ref f_o), .val (.ref t_o), .val (.int (0 : Int32))] [])) _
              refine XS.iconst X0.here hx rfl (hb hby own_d8_101) ?_
              show Steps p.tables e below (s₁.setTop (mkF m 102 #[.val (.ref e_o), .val (.ref s_o), .val (.ref f_o), .val (.ref t_o), .val (.int (0 : Int32))] [(.int (0 : Int32))])) _
              refine XS.istore X0.here hx rfl (hb hby own_d8_102) rfl (l' := #[.val (.ref e_o), .val (.ref s_o), .val (.ref f_o), .val (.ref t_o), .val (.int (0 : Int32))]) rfl ?_
              show Steps p.tables e below (s₁.setTop (mkF m 104 #[.val (.ref e_o), .val (.ref s_o), .val (.ref f_o), .val (.ref t_o), .val (.int (0 : Int32))] [])) _
              refine XS.iload X0.here hx rfl (hb hby own_d8_104) rfl ?_
              show Steps p.tables e below (s₁.setTop (mkF m 106 #[.val (.ref e_o), .val (.ref s_o), .val (.ref f_o), .val (.ref t_o), .val (.int (0 : Int32))] [(.int (0 : Int32))])) _
              exact retN X0 hx (t := .boolean) Bd.returns (by simp) (hb hby own_d8_106) hr
            · show Qown_same Z e_o s_o f_o t_o k_e k_s k_f k_t n_1 m_1 x_0 x_1 x_2 s_0 s_1 s_2 y_0 y_1 y_2 t_0 t_1 t_2 h0 n0 _ s₁.heap _
              rw [e0]
              have hv : (own_same_f n_1 m_1 x_0 x_1 x_2 s_0 s_1 s_2 y_0 y_1 y_2 t_0 t_1 t_2) = (0 : Int32) := by unfold own_same_f; rw [if_pos hc4_9, if_pos hc14_17, if_neg hc32_36, if_neg hc45_168, if_pos hc76_194]
              exact ⟨(by rw [hv]), N0, rfl⟩
          · obtain ⟨fs, hr, hrun, hended, hW, hsame⟩ := X0.leave (v := some (.int (0 : Int32))) (fun h => by rw [Bd.returns] at h; cases h) (hlocks := BodyLoose.notSynchronized Bd)
            refine ⟨_, _, pre193 _ ?_, hrun, hended, _, _, rfl, ?_, ⟨_, rfl⟩, hW, hsame.mono (by decide) (by decide)⟩
            · show Steps p.tables e below (s₁.setTop (mkF m 76 #[.val (.ref e_o), .val (.ref s_o), .val (.ref f_o), .val (.ref t_o), .val (.int (0 : Int32))] [(.int (2 : Int32)), (.int n_1)])) _
              refine XS.icmpYes X0.here hx rfl (pc0 := 76) (pc' := 104) rfl (hb hby own_d8_76) rfl (flt hc76_194).2.2.2 (by decide) (by decide) ?_
              show Steps p.tables e below (s₁.setTop (mkF m 104 #[.val (.ref e_o), .val (.ref s_o), .val (.ref f_o), .val (.ref t_o), .val (.int (0 : Int32))] [])) _
              refine XS.iload X0.here hx rfl (hb hby own_d8_104) rfl ?_
              show Steps p.tables e below (s₁.setTop (mkF m 106 #[.val (.ref e_o), .val (.ref s_o), .val (.ref f_o), .val (.ref t_o), .val (.int (0 : Int32))] [(.int (0 : Int32))])) _
              exact retN X0 hx (t := .boolean) Bd.returns (by simp) (hb hby own_d8_106) hr
            · show Qown_same Z e_o s_o f_o t_o k_e k_s k_f k_t n_1 m_1 x_0 x_1 x_2 s_0 s_1 s_2 y_0 y_1 y_2 t_0 t_1 t_2 h0 n0 _ s₁.heap _
              rw [e0]
              have hv : (own_same_f n_1 m_1 x_0 x_1 x_2 s_0 s_1 s_2 y_0 y_1 y_2 t_0 t_1 t_2) = (0 : Int32) := by unfold own_same_f; rw [if_pos hc4_9, if_pos hc14_17, if_neg hc32_36, if_neg hc45_168, if_neg hc76_194]
              exact ⟨(by rw [hv]), N0, rfl⟩
    · obtain ⟨cl205, Ar205, -, S205, M205, -, -⟩ := id V_s
      have pre208 : ∀ t, Steps p.tables e below (s₁.setTop (mkF m 45 #[.val (.ref e_o), .val (.ref s_o), .val (.ref f_o), .val (.ref t_o), .val (.int (1 : Int32))] [(.int (1 : Int32)), (.int n_1)])) t → Steps p.tables e below (s₁.setTop (entryFrame m #[(.ref e_o), (.ref s_o), (.ref f_o), (.ref t_o)] 5)) t := by
        intro t kt
        refine pre16 _ ?_
        show Steps p.tables e below (s₁.setTop (mkF m 14 #[.val (.ref e_o), .val (.ref s_o), .val (.ref f_o), .val (.ref t_o), .val (.int (1 : Int32))] [(.int n_1)])) _
        refine XS.ifYes X0.here hx rfl (pc0 := 14) (pc' := 42) rfl (hb hby own_d8_14) rfl ((if0 _ _).trans (flt hc14_17).2.2.2) (by decide) (by decide) ?_
        show Steps p.tables e below (s₁.setTop (mkF m 42 #[.val (.ref e_o), .val (.ref s_o), .val (.ref f_o), .val (.ref t_o), .val (.int (1 : Int32))] [])) _
        refine XS.aloadN X0.here hx rfl (hb hby own_d8_42) rfl rfl ?_
        show Steps p.tables e below (s₁.setTop (mkF m 43 #[.val (.ref e_o), .val (.ref s_o), .val (.ref f_o), .val (.ref t_o), .val (.int (1 : Int32))] [(.ref s_o)])) _
        refine X0.arraylength hx (by rw [e0]; exact Ar205.1) (State.isArrayOf_alike hZ.alike Ar205.2.1) (g := (mkF m 43 #[.val (.ref e_o), .val (.ref s_o), .val (.ref f_o), .val (.ref t_o), .val (.int (1 : Int32))] [(.ref s_o)])) rfl rfl (hb hby own_d8_43) _ ?_
        rw [len_of S205 M205]
        show Steps p.tables e below (s₁.setTop (mkF m 44 #[.val (.ref e_o), .val (.ref s_o), .val (.ref f_o), .val (.ref t_o), .val (.int (1 : Int32))] [(.int n_1)])) _
        refine XS.iconst X0.here hx rfl (hb hby own_d8_44) ?_
        exact kt
      by_cases hc45_209 : (1 : Int32) < n_1
      · obtain ⟨cl216, Ar216, q216, S216, M216, H216, G216⟩ := id V_s
        have hin216 : ¬ ((1 : Int32) < 0 ∨ cl216.slots.size ≤ ((1 : Int32)).toNatClampNeg) := inb_of S216 ⟨by decide, hc45_209⟩
        have hat216 : cl216.slots[((1 : Int32)).toNatClampNeg]? = some (.int s_1) := H216.at hin216 rfl
        obtain ⟨cl218, Ar218, q218, S218, M218, H218, G218⟩ := id V_e
        have hin218 : ¬ (s_1 < 0 ∨ cl218.slots.size ≤ (s_1).toNatClampNeg) := inb_of S218 hb1
        have hat218 : cl218.slots[(s_1).toNatClampNeg]? = some (.int (own_sel x_0 x_1 x_2 s_1)) := H218.at hin218 (own_sel_get _ _ _ _ _ hb1)
        obtain ⟨cl223, Ar223, q223, S223, M223, H223, G223⟩ := id V_t
        have hin223 : ¬ ((1 : Int32) < 0 ∨ cl223.slots.size ≤ ((1 : Int32)).toNatClampNeg) := inb_of S223 ⟨by decide, hc4_9 ▸ hc45_209⟩
        have hat223 : cl223.slots[((1 : Int32)).toNatClampNeg]? = some (.int t_1) := H223.at hin223 rfl
        obtain ⟨cl225, Ar225, q225, S225, M225, H225, G225⟩ := id V_f
        have hin225 : ¬ (t_1 < 0 ∨ cl225.slots.size ≤ (t_1).toNatClampNeg) := inb_of S225 hd1
        have hat225 : cl225.slots[(t_1).toNatClampNeg]? = some (.int (own_sel y_0 y_1 y_2 t_1)) := H225.at hin225 (own_sel_get _ _ _ _ _ hd1)
        have pre227 : ∀ t, Steps p.tables e below (s₁.setTop (mkF m 63 #[.val (.ref e_o), .val (.ref s_o), .val (.ref f_o), .val (.ref t_o), .val (.int (1 : Int32))] [(.int (own_sel y_0 y_1 y_2 t_1)), (.int (own_sel x_0 x_1 x_2 s_1))])) t → Steps p.tables e below (s₁.setTop (entryFrame m #[(.ref e_o), (.ref s_o), (.ref f_o), (.ref t_o)] 5)) t := by
          intro t kt
          refine pre208 _ ?_
          show Steps p.tables e below (s₁.setTop (mkF m 45 #[.val (.ref e_o), .val (.ref s_o), .val (.ref f_o), .val (.ref t_o), .val (.int (1 : Int32))] [(.int (1 : Int32)), (.int n_1)])) _
          refine XS.icmpNo X0.here hx rfl (hb hby own_d8_45) rfl (tlt hc45_209).2.2.2 ?_
          show Steps p.tables e below (s₁.setTop (mkF m 48 #[.val (.ref e_o), .val (.ref s_o), .val (.ref f_o), .val (.ref t_o), .val (.int (1 : Int32))] [])) _
          refine XS.iload X0.here hx rfl (hb hby own_d8_48) rfl ?_
          show Steps p.tables e below (s₁.setTop (mkF m 50 #[.val (.ref e_o), .val (.ref s_o), .val (.ref f_o), .val (.ref t_o), .val (.int (1 : Int32))] [(.int (1 : Int32))])) _
          refine XS.ifNo X0.here hx rfl (hb hby own_d8_50) rfl ((if0 _ _).trans (feq ((by decide) : ¬ ((1 : Int32) = (0 : Int32)))).1) ?_
          show Steps p.tables e below (s₁.setTop (mkF m 53 #[.val (.ref e_o), .val (.ref s_o), .val (.ref f_o), .val (.ref t_o), .val (.int (1 : Int32))] [])) _
          refine XS.aloadN X0.here hx rfl (hb hby own_d8_53) rfl rfl ?_
          show Steps p.tables e below (s₁.setTop (mkF m 54 #[.val (.ref e_o), .val (.ref s_o), .val (.ref f_o), .val (.ref t_o), .val (.int (1 : Int32))] [(.ref e_o)])) _
          refine XS.aloadN X0.here hx rfl (hb hby own_d8_54) rfl rfl ?_
          show Steps p.tables e below (s₁.setTop (mkF m 55 #[.val (.ref e_o), .val (.ref s_o), .val (.ref f_o), .val (.ref t_o), .val (.int (1 : Int32))] [(.ref s_o), (.ref e_o)])) _
          refine XS.iconst X0.here hx rfl (hb hby own_d8_55) ?_
          show Steps p.tables e below (s₁.setTop (mkF m 56 #[.val (.ref e_o), .val (.ref s_o), .val (.ref f_o), .val (.ref t_o), .val (.int (1 : Int32))] [(.int (1 : Int32)), (.ref s_o), (.ref e_o)])) _
          refine X0.iaload hx (j := (1 : Int32)) (v := (.int s_1)) (by rw [e0]; exact Ar216.1) (State.isArrayOf_alike hZ.alike Ar216.2.1) Ar216.2.2 hin216 hat216 (g := (mkF m 56 #[.val (.ref e_o), .val (.ref s_o), .val (.ref f_o), .val (.ref t_o), .val (.int (1 : Int32))] [(.int (1 : Int32)), (.ref s_o), (.ref e_o)])) rfl rfl (hb hby own_d8_56) _ ?_
          show Steps p.tables e below (s₁.setTop (mkF m 57 #[.val (.ref e_o), .val (.ref s_o), .val (.ref f_o), .val (.ref t_o), .val (.int (1 : Int32))] [(.int s_1), (.ref e_o)])) _
          refine X0.iaload hx (j := s_1) (v := (.int (own_sel x_0 x_1 x_2 s_1))) (by rw [e0]; exact Ar218.1) (State.isArrayOf_alike hZ.alike Ar218.2.1) Ar218.2.2 hin218 hat218 (g := (mkF m 57 #[.val (.ref e_o), .val (.ref s_o), .val (.ref f_o), .val (.ref t_o), .val (.int (1 : Int32))] [(.int s_1), (.ref e_o)])) rfl rfl (hb hby own_d8_57) _ ?_
          show Steps p.tables e below (s₁.setTop (mkF m 58 #[.val (.ref e_o), .val (.ref s_o), .val (.ref f_o), .val (.ref t_o), .val (.int (1 : Int32))] [(.int (own_sel x_0 x_1 x_2 s_1))])) _
          refine XS.aloadN X0.here hx rfl (hb hby own_d8_58) rfl rfl ?_
          show Steps p.tables e below (s₁.setTop (mkF m 59 #[.val (.ref e_o), .val (.ref s_o), .val (.ref f_o), .val (.ref t_o), .val (.int (1 : Int32))] [(.ref f_o), (.int (own_sel x_0 x_1 x_2 s_1))])) _
          refine XS.aloadN X0.here hx rfl (hb hby own_d8_59) rfl rfl ?_
          show Steps p.tables e below (s₁.setTop (mkF m 60 #[.val (.ref e_o), .val (.ref s_o), .val (.ref f_o), .val (.ref t_o), .val (.int (1 : Int32))] [(.ref t_o), (.ref f_o), (.int (own_sel x_0 x_1 x_2 s_1))])) _
          refine XS.iconst X0.here hx rfl (hb hby own_d8_60) ?_
          show Steps p.tables e below (s₁.setTop (mkF m 61 #[.val (.ref e_o), .val (.ref s_o), .val (.ref f_o), .val (.ref t_o), .val (.int (1 : Int32))] [(.int (1 : Int32)), (.ref t_o), (.ref f_o), (.int (own_sel x_0 x_1 x_2 s_1))])) _
          refine X0.iaload hx (j := (1 : Int32)) (v := (.int t_1)) (by rw [e0]; exact Ar223.1) (State.isArrayOf_alike hZ.alike Ar223.2.1) Ar223.2.2 hin223 hat223 (g := (mkF m 61 #[.val (.ref e_o), .val (.ref s_o), .val (.ref f_o), .val (.ref t_o), .val (.int (1 : Int32))] [(.int (1 : Int32)), (.ref t_o), (.ref f_o), (.int (own_sel x_0 x_1 x_2 s_1))])) rfl rfl (hb hby own_d8_61) _ ?_
          show Steps p.tables e below (s₁.setTop (mkF m 62 #[.val (.ref e_o), .val (.ref s_o), .val (.ref f_o), .val (.ref t_o), .val (.int (1 : Int32))] [(.int t_1), (.ref f_o), (.int (own_sel x_0 x_1 x_2 s_1))])) _
          refine X0.iaload hx (j := t_1) (v := (.int (own_sel y_0 y_1 y_2 t_1))) (by rw [e0]; exact Ar225.1) (State.isArrayOf_alike hZ.alike Ar225.2.1) Ar225.2.2 hin225 hat225 (g := (mkF m 62 #[.val (.ref e_o), .val (.ref s_o), .val (.ref f_o), .val (.ref t_o), .val (.int (1 : Int32))] [(.int t_1), (.ref f_o), (.int (own_sel x_0 x_1 x_2 s_1))])) rfl rfl (hb hby own_d8_62) _ ?_
          exact kt
        by_cases hc63_228 : (own_sel x_0 x_1 x_2 s_1) = (own_sel y_0 y_1 y_2 t_1)
        · obtain ⟨cl234, Ar234, -, S234, M234, -, -⟩ := id V_s
          have pre237 : ∀ t, Steps p.tables e below (s₁.setTop (mkF m 76 #[.val (.ref e_o), .val (.ref s_o), .val (.ref f_o), .val (.ref t_o), .val (.int (1 : Int32))] [(.int (2 : Int32)), (.int n_1)])) t → Steps p.tables e below (s₁.setTop (entryFrame m #[(.ref e_o), (.ref s_o), (.ref f_o), (.ref t_o)] 5)) t := by
            intro t kt
            refine pre227 _ ?_
            show Steps p.tables e below (s₁.setTop (mkF m 63 #[.val (.ref e_o), .val (.ref s_o), .val (.ref f_o), .val (.ref t_o), .val (.int (1 : Int32))] [(.int (own_sel y_0 y_1 y_2 t_1)), (.int (own_sel x_0 x_1 x_2 s_1))])) _
            refine XS.icmpNo X0.here hx rfl (hb hby own_d8_63) rfl (teq hc63_228).2 ?_
            show Steps p.tables e below (s₁.setTop (mkF m 66 #[.val (.ref e_o), .val (.ref s_o), .val (.ref f_o), .val (.ref t_o), .val (.int (1 : Int32))] [])) _
            refine XS.iconst X0.here hx rfl (hb hby own_d8_66) ?_
            show Steps p.tables e below (s₁.setTop (mkF m 67 #[.val (.ref e_o), .val (.ref s_o), .val (.ref f_o), .val (.ref t_o), .val (.int (1 : Int32))] [(.int (1 : Int32))])) _
            refine XS.goto X0.here hx rfl (pc0 := 67) (pc' := 71) rfl (hb hby own_d8_67) (by decide) (by decide) ?_
            show Steps p.tables e below (s₁.setTop (mkF m 71 #[.val (.ref e_o), .val (.ref s_o), .val (.ref f_o), .val (.ref t_o), .val (.int (1 : Int32))] [(.int (1 : Int32))])) _
            refine XS.istore X0.here hx rfl (hb hby own_d8_71) rfl (l' := #[.val (.ref e_o), .val (.ref s_o), .val (.ref f_o), .val (.ref t_o), .val (.int (1 : Int32))]) rfl ?_
            show Steps p.tables e below (s₁.setTop (mkF m 73 #[.val (.ref e_o), .val (.ref s_o), .val (.ref f_o), .val (.ref t_o), .val (.int (1 : Int32))] [])) _
            refine XS.aloadN X0.here hx rfl (hb hby own_d8_73) rfl rfl ?_
            show Steps p.tables e below (s₁.setTop (mkF m 74 #[.val (.ref e_o), .val (.ref s_o), .val (.ref f_o), .val (.ref t_o), .val (.int (1 : Int32))] [(.ref s_o)])) _
            refine X0.arraylength hx (by rw [e0]; exact Ar234.1) (State.isArrayOf_alike hZ.alike Ar234.2.1) (g := (mkF m 74 #[.val (.ref e_o), .val (.ref s_o), .val (.ref f_o), .val (.ref t_o), .val (.int (1 : Int32))] [(.ref s_o)])) rfl rfl (hb hby own_d8_74) _ ?_
            rw [len_of S234 M234]
            show Steps p.tables e below (s₁.setTop (mkF m 75 #[.val (.ref e_o), .val (.ref s_o), .val (.ref f_o), .val (.ref t_o), .val (.int (1 : Int32))] [(.int n_1)])) _
            refine XS.iconst X0.here hx rfl (hb hby own_d8_75) ?_
            exact kt
          by_cases hc76_238 : (2 : Int32) < n_1
          · obtain ⟨cl245, Ar245, q245, S245, M245, H245, G245⟩ := id V_s
            have hin245 : ¬ ((2 : Int32) < 0 ∨ cl245.slots.size ≤ ((2 : Int32)).toNatClampNeg) := inb_of S245 ⟨by decide, hc76_238⟩
            have hat245 : cl245.slots[((2 : Int32)).toNatClampNeg]? = some (.int s_2) := H245.at hin245 rfl
            obtain ⟨cl247, Ar247, q247, S247, M247, H247, G247⟩ := id V_e
            have hin247 : ¬ (s_2 < 0 ∨ cl247.slots.size ≤ (s_2).toNatClampNeg) := inb_of S247 hb2
            have hat247 : cl247.slots[(s_2).toNatClampNeg]? = some (.int (own_sel x_0 x_1 x_2 s_2)) := H247.at hin247 (own_sel_get _ _ _ _ _ hb2)
            obtain ⟨cl252, Ar252, q252, S252, M252, H252, G252⟩ := id V_t
            have hin252 : ¬ ((2 : Int32) < 0 ∨ cl252.slots.size ≤ ((2 : Int32)).toNatClampNeg) := inb_of S252 ⟨by decide, hc4_9 ▸ hc76_238⟩
            have hat252 : cl252.slots[((2 : Int32)).toNatClampNeg]? = some (.int t_2) := H252.at hin252 rfl
            obtain ⟨cl254, Ar254, q254, S254, M254, H254, G254⟩ := id V_f
            have hin254 : ¬ (t_2 < 0 ∨ cl254.slots.size ≤ (t_2).toNatClampNeg) := inb_of S254 hd2
            have hat254 : cl254.slots[(t_2).toNatClampNeg]? = some (.int (own_sel y_0 y_1 y_2 t_2)) := H254.at hin254 (own_sel_get _ _ _ _ _ hd2)
            have pre256 : ∀ t, Steps p.tables e below (s₁.setTop (mkF m 94 #[.val (.ref e_o), .val (.ref s_o), .val (.ref f_o), .val (.ref t_o), .val (.int (1 : Int32))] [(.int (own_sel y_0 y_1 y_2 t_2)), (.int (own_sel x_0 x_1 x_2 s_2))])) t → Steps p.tables e below (s₁.setTop (entryFrame m #[(.ref e_o), (.ref s_o), (.ref f_o), (.ref t_o)] 5)) t := by
              intro t kt
              refine pre237 _ ?_
              show Steps p.tables e below (s₁.setTop (mkF m 76 #[.val (.ref e_o), .val (.ref s_o), .val (.ref f_o), .val (.ref t_o), .val (.int (1 : Int32))] [(.int (2 : Int32)), (.int n_1)])) _
              refine XS.icmpNo X0.here hx rfl (hb hby own_d8_76) rfl (tlt hc76_238).2.2.2 ?_
              show Steps p.tables e below (s₁.setTop (mkF m 79 #[.val (.ref e_o), .val (.ref s_o), .val (.ref f_o), .val (.ref t_o), .val (.int (1 : Int32))] [])) _
              refine XS.iload X0.here hx rfl (hb hby own_d8_79) rfl ?_
              show Steps p.tables e below (s₁.setTop (mkF m 81 #[.val (.ref e_o), .val (.ref s_o), .val (.ref f_o), .val (.ref t_o), .val (.int (1 : Int32))] [(.int (1 : Int32))])) _
              refine XS.ifNo X0.here hx rfl (hb hby own_d8_81) rfl ((if0 _ _).trans (feq ((by decide) : ¬ ((1 : Int32) = (0 : Int32)))).1) ?_
              show Steps p.tables e below (s₁.setTop (mkF m 84 #[.val (.ref e_o), .val (.ref s_o), .val (.ref f_o), .val (.ref t_o), .val (.int (1 : Int32))] [])) _
              refine XS.aloadN X0.here hx rfl (hb hby own_d8_84) rfl rfl ?_
              show Steps p.tables e below (s₁.setTop (mkF m 85 #[.val (.ref e_o), .val (.ref s_o), .val (.ref f_o), .val (.ref t_o), .val (.int (1 : Int32))] [(.ref e_o)])) _
              refine XS.aloadN X0.here hx rfl (hb hby own_d8_85) rfl rfl ?_
              show Steps p.tables e below (s₁.setTop (mkF m 86 #[.val (.ref e_o), .val (.ref s_o), .val (.ref f_o), .val (.ref t_o), .val (.int (1 : Int32))] [(.ref s_o), (.ref e_o)])) _
              refine XS.iconst X0.here hx rfl (hb hby own_d8_86) ?_
              show Steps p.tables e below (s₁.setTop (mkF m 87 #[.val (.ref e_o), .val (.ref s_o), .val (.ref f_o), .val (.ref t_o), .val (.int (1 : Int32))] [(.int (2 : Int32)), (.ref s_o), (.ref e_o)])) _
              refine X0.iaload hx (j := (2 : Int32)) (v := (.int s_2)) (by rw [e0]; exact Ar245.1) (State.isArrayOf_alike hZ.alike Ar245.2.1) Ar245.2.2 hin245 hat245 (g := (mkF m 87 #[.val (.ref e_o), .val (.ref s_o), .val (.ref f_o), .val (.ref t_o), .val (.int (1 : Int32))] [(.int (2 : Int32)), (.ref s_o), (.ref e_o)])) rfl rfl (hb hby own_d8_87) _ ?_
              show Steps p.tables e below (s₁.setTop (mkF m 88 #[.val (.ref e_o), .val (.ref s_o), .val (.ref f_o), .val (.ref t_o), .val (.int (1 : Int32))] [(.int s_2), (.ref e_o)])) _
              refine X0.iaload hx (j := s_2) (v := (.int (own_sel x_0 x_1 x_2 s_2))) (by rw [e0]; exact Ar247.1) (State.isArrayOf_alike hZ.alike Ar247.2.1) Ar247.2.2 hin247 hat247 (g := (mkF m 88 #[.val (.ref e_o), .val (.ref s_o), .val (.ref f_o), .val (.ref t_o), .val (.int (1 : Int32))] [(.int s_2), (.ref e_o)])) rfl rfl (hb hby own_d8_88) _ ?_
              show Steps p.tables e below (s₁.setTop (mkF m 89 #[.val (.ref e_o), .val (.ref s_o), .val (.ref f_o), .val (.ref t_o), .val (.int (1 : Int32))] [(.int (own_sel x_0 x_1 x_2 s_2))])) _
              refine XS.aloadN X0.here hx rfl (hb hby own_d8_89) rfl rfl ?_
              show Steps p.tables e below (s₁.setTop (mkF m 90 #[.val (.ref e_o), .val (.ref s_o), .val (.ref f_o), .val (.ref t_o), .val (.int (1 : Int32))] [(.ref f_o), (.int (own_sel x_0 x_1 x_2 s_2))])) _
              refine XS.aloadN X0.here hx rfl (hb hby own_d8_90) rfl rfl ?_
              show Steps p.tables e below (s₁.setTop (mkF m 91 #[.val (.ref e_o), .val (.ref s_o), .val (.ref f_o), .val (.ref t_o), .val (.int (1 : Int32))] [(.ref t_o), (.ref f_o), (.int (own_sel x_0 x_1 x_2 s_2))])) _
              refine XS.iconst X0.here hx rfl (hb hby own_d8_91) ?_
              show Steps p.tables e below (s₁.setTop (mkF m 92 #[.val (.ref e_o), .val (.ref s_o), .val (.ref f_o), .val (.ref t_o), .val (.int (1 : Int32))] [(.int (2 : Int32)), (.ref t_o), (.ref f_o), (.int (own_sel x_0 x_1 x_2 s_2))])) _
              refine X0.iaload hx (j := (2 : Int32)) (v := (.int t_2)) (by rw [e0]; exact Ar252.1) (State.isArrayOf_alike hZ.alike Ar252.2.1) Ar252.2.2 hin252 hat252 (g := (mkF m 92 #[.val (.ref e_o), .val (.ref s_o), .val (.ref f_o), .val (.ref t_o), .val (.int (1 : Int32))] [(.int (2 : Int32)), (.ref t_o), (.ref f_o), (.int (own_sel x_0 x_1 x_2 s_2))])) rfl rfl (hb hby own_d8_92) _ ?_
              show Steps p.tables e below (s₁.setTop (mkF m 93 #[.val (.ref e_o), .val (.ref s_o), .val (.ref f_o), .val (.ref t_o), .val (.int (1 : Int32))] [(.int t_2), (.ref f_o), (.int (own_sel x_0 x_1 x_2 s_2))])) _
              refine X0.iaload hx (j := t_2) (v := (.int (own_sel y_0 y_1 y_2 t_2))) (by rw [e0]; exact Ar254.1) (State.isArrayOf_alike hZ.alike Ar254.2.1) Ar254.2.2 hin254 hat254 (g := (mkF m 93 #[.val (.ref e_o), .val (.ref s_o), .val (.ref f_o), .val (.ref t_o), .val (.int (1 : Int32))] [(.int t_2), (.ref f_o), (.int (own_sel x_0 x_1 x_2 s_2))])) rfl rfl (hb hby own_d8_93) _ ?_
              exact kt
            by_cases hc94_257 : (own_sel x_0 x_1 x_2 s_2) = (own_sel y_0 y_1 y_2 t_2)
            · obtain ⟨fs, hr, hrun, hended, hW, hsame⟩ := X0.leave (v := some (.int (1 : Int32))) (fun h => by rw [Bd.returns] at h; cases h) (hlocks := BodyLoose.notSynchronized Bd)
              refine ⟨_, _, pre256 _ ?_, hrun, hended, _, _, rfl, ?_, ⟨_, rfl⟩, hW, hsame.mono (by decide) (by decide)⟩
              · show Steps p.tables e below (s₁.setTop (mkF m 94 #[.val (.ref e_o), .val (.ref s_o), .val (.ref f_o), .val (.ref t_o), .val (.int (1 : Int32))] [(.int (own_sel y_0 y_1 y_2 t_2)), (.int (own_sel x_0 x_1 x_2 s_2))])) _
                refine XS.icmpNo X0.here hx rfl (hb hby own_d8_94) rfl (teq hc94_257).2 ?_
                show Steps p.tables e below (s₁.setTop (mkF m 97 #[.val (.ref e_o), .val (.ref s_o), .val (.ref f_o), .val (.ref t_o), .val (.int (1 : Int32))] [])) _
                refine XS.iconst X0.here hx rfl (hb hby own_d8_97) ?_
                show Steps p.tables e below (s₁.setTop (mkF m 98 #[.val (.ref e_o), .val (.ref s_o), .val (.ref f_o), .val (.ref t_o), .val (.int (1 : Int32))] [(.int (1 : Int32))])) _
                refine XS.goto X0.here hx rfl (pc0 := 98) (pc' := 102) rfl (hb hby own_d8_98) (by decide) (by decide) ?_
                show Steps p.tables e below (s₁.setTop (mkF m 102 #[.val (.ref e_o), .val (.ref s_o), .val (.ref f_o), .val (.ref t_o), .val (.int (1 : Int32))] [(.int (1 : Int32))])) _
                refine XS.istore X0.here hx rfl (hb hby own_d8_102) rfl (l' := #[.val (.ref e_o), .val (.ref s_o), .val (.ref f_o), .val (.ref t_o), .val (.int (1 : Int32))]) rfl ?_
                show Steps p.tables e below (s₁.setTop (mkF m 104 #[.val (.ref e_o), .val (.ref s_o), .val (.ref f_o), .val (.ref t_o), .val (.int (1 : Int32))] [])) _
                refine XS.iload X0.here hx rfl (hb hby own_d8_104) rfl ?_
                show Steps p.tables e below (s₁.setTop (mkF m 106 #[.val (.ref e_o), .val (.ref s_o), .val (.ref f_o), .val (.ref t_o), .val (.int (1 : Int32))] [(.int (1 : Int32))])) _
                exact retN X0 hx (t := .boolean) Bd.returns (by simp) (hb hby own_d8_106) hr
              · show Qown_same Z e_o s_o f_o t_o k_e k_s k_f k_t n_1 m_1 x_0 x_1 x_2 s_0 s_1 s_2 y_0 y_1 y_2 t_0 t_1 t_2 h0 n0 _ s₁.heap _
                rw [e0]
                have hv : (own_same_f n_1 m_1 x_0 x_1 x_2 s_0 s_1 s_2 y_0 y_1 y_2 t_0 t_1 t_2) = (1 : Int32) := by unfold own_same_f; rw [if_pos hc4_9, if_neg hc14_17, if_pos hc45_209, if_pos hc63_228, if_pos hc76_238, if_pos hc94_257]
                exact ⟨(by rw [hv]), N0, rfl⟩
            · obtain ⟨fs, hr, hrun, hended, hW, hsame⟩ := X0.leave (v := some (.int (0 : Int32))) (fun h => by rw [Bd.returns] at h; cases h) (hlocks := BodyLoose.notSynchronized Bd)
              refine ⟨_, _, pre256 _ ?_, hrun, hended, _, _, rfl, ?_, ⟨_, rfl⟩, hW, hsame.mono (by decide) (by decide)⟩
              · show Steps p.tables e below (s₁.setTop (mkF m 94 #[.val (.ref e_o), .val (.ref s_o), .val (.ref f_o), .val (.ref t_o), .val (.int (1 : Int32))] [(.int (own_sel y_0 y_1 y_2 t_2)), (.int (own_sel x_0 x_1 x_2 s_2))])) _
                refine XS.icmpYes X0.here hx rfl (pc0 := 94) (pc' := 101) rfl (hb hby own_d8_94) rfl (feq hc94_257).2 (by decide) (by decide) ?_
                show Steps p.tables e below (s₁.setTop (mkF m 101 #[.val (.ref e_o), .val (.ref s_o), .val (.ref f_o), .val (.ref t_o), .val (.int (1 : Int32))] [])) _
                refine XS.iconst X0.here hx rfl (hb hby own_d8_101) ?_
                show Steps p.tables e below (s₁.setTop (mkF m 102 #[.val (.ref e_o), .val (.ref s_o), .val (.ref f_o), .val (.ref t_o), .val (.int (1 : Int32))] [(.int (0 : Int32))])) _
                refine XS.istore X0.here hx rfl (hb hby own_d8_102) rfl (l' := #[.val (.ref e_o), .val (.ref s_o), .val (.ref f_o), .val (.ref t_o), .val (.int (0 : Int32))]) rfl ?_
                show Steps p.tables e below (s₁.setTop (mkF m 104 #[.val (.ref e_o), .val (.ref s_o), .val (.ref f_o), .val (.ref t_o), .val (.int (0 : Int32))] [])) _
                refine XS.iload X0.here hx rfl (hb hby own_d8_104) rfl ?_
                show Steps p.tables e below (s₁.setTop (mkF m 106 #[.val (.ref e_o), .val (.ref s_o), .val (.ref f_o), .val (.ref t_o), .val (.int (0 : Int32))] [(.int (0 : Int32))])) _
                exact retN X0 hx (t := .boolean) Bd.returns (by simp) (hb hby own_d8_106) hr
              · show Qown_same Z e_o s_o f_o t_o k_e k_s k_f k_t n_1 m_1 x_0 x_1 x_2 s_0 s_1 s_2 y_0 y_1 y_2 t_0 t_1 t_2 h0 n0 _ s₁.heap _
                rw [e0]
                have hv : (own_same_f n_1 m_1 x_0 x_1 x_2 s_0 s_1 s_2 y_0 y_1 y_2 t_0 t_1 t_2) = (0 : Int32) := by unfold own_same_f; rw [if_pos hc4_9, if_neg hc14_17, if_pos hc45_209, if_pos hc63_228, if_pos hc76_238, if_neg hc94_257]
                exact ⟨(by rw [hv]), N0, rfl⟩
          · obtain ⟨fs, hr, hrun, hended, hW, hsame⟩ := X0.leave (v := some (.int (1 : Int32))) (fun h => by rw [Bd.returns] at h; cases h) (hlocks := BodyLoose.notSynchronized Bd)
            refine ⟨_, _, pre237 _ ?_, hrun, hended, _, _, rfl, ?_, ⟨_, rfl⟩, hW, hsame.mono (by decide) (by decide)⟩
            · show Steps p.tables e below (s₁.setTop (mkF m 76 #[.val (.ref e_o), .val (.ref s_o), .val (.ref f_o), .val (.ref t_o), .val (.int (1 : Int32))] [(.int (2 : Int32)), (.int n_1)])) _
              refine XS.icmpYes X0.here hx rfl (pc0 := 76) (pc' := 104) rfl (hb hby own_d8_76) rfl (flt hc76_238).2.2.2 (by decide) (by decide) ?_
              show Steps p.tables e below (s₁.setTop (mkF m 104 #[.val (.ref e_o), .val (.ref s_o), .val (.ref f_o), .val (.ref t_o), .val (.int (1 : Int32))] [])) _
              refine XS.iload X0.here hx rfl (hb hby own_d8_104) rfl ?_
              show Steps p.tables e below (s₁.setTop (mkF m 106 #[.val (.ref e_o), .val (.ref s_o), .val (.ref f_o), .val (.ref t_o), .val (.int (1 : Int32))] [(.int (1 : Int32))])) _
              exact retN X0 hx (t := .boolean) Bd.returns (by simp) (hb hby own_d8_106) hr
            · show Qown_same Z e_o s_o f_o t_o k_e k_s k_f k_t n_1 m_1 x_0 x_1 x_2 s_0 s_1 s_2 y_0 y_1 y_2 t_0 t_1 t_2 h0 n0 _ s₁.heap _
              rw [e0]
              have hv : (own_same_f n_1 m_1 x_0 x_1 x_2 s_0 s_1 s_2 y_0 y_1 y_2 t_0 t_1 t_2) = (1 : Int32) := by unfold own_same_f; rw [if_pos hc4_9, if_neg hc14_17, if_pos hc45_209, if_pos hc63_228, if_neg hc76_238]
              exact ⟨(by rw [hv]), N0, rfl⟩
        · obtain ⟨cl273, Ar273, -, S273, M273, -, -⟩ := id V_s
          have pre276 : ∀ t, Steps p.tables e below (s₁.setTop (mkF m 76 #[.val (.ref e_o), .val (.ref s_o), .val (.ref f_o), .val (.ref t_o), .val (.int (0 : Int32))] [(.int (2 : Int32)), (.int n_1)])) t → Steps p.tables e below (s₁.setTop (entryFrame m #[(.ref e_o), (.ref s_o), (.ref f_o), (.ref t_o)] 5)) t := by
            intro t kt
            refine pre227 _ ?_
            show Steps p.tables e below (s₁.setTop (mkF m 63 #[.val (.ref e_o), .val (.ref s_o), .val (.ref f_o), .val (.ref t_o), .val (.int (1 : Int32))] [(.int (own_sel y_0 y_1 y_2 t_1)), (.int (own_sel x_0 x_1 x_2 s_1))])) _
            refine XS.icmpYes X0.here hx rfl (pc0 := 63) (pc' := 70) rfl (hb hby own_d8_63) rfl (feq hc63_228).2 (by decide) (by decide) ?_
            show Steps p.tables e below (s₁.setTop (mkF m 70 #[.val (.ref e_o), .val (.ref s_o), .val (.ref f_o), .val (.ref t_o), .val (.int (1 : Int32))] [])) _
            refine XS.iconst X0.here hx rfl (hb hby own_d8_70) ?_
            show Steps p.tables e below (s₁.setTop (mkF m 71 #[.val (.ref e_o), .val (.ref s_o), .val (.ref f_o), .val (.ref t_o), .val (.int (1 : Int32))] [(.int (0 : Int32))])) _
            refine XS.istore X0.here hx rfl (hb hby own_d8_71) rfl (l' := #[.val (.ref e_o), .val (.ref s_o), .val (.ref f_o), .val (.ref t_o), .val (.int (0 : Int32))]) rfl ?_
            show Steps p.tables e below (s₁.setTop (mkF m 73 #[.val (.ref e_o), .val (.ref s_o), .val (.ref f_o), .val (.ref t_o), .val (.int (0 : Int32))] [])) _
            refine XS.aloadN X0.here hx rfl (hb hby own_d8_73) rfl rfl ?_
            show Steps p.tables e below (s₁.setTop (mkF m 74 #[.val (.ref e_o), .val (.ref s_o), .val (.ref f_o), .val (.ref t_o), .val (.int (0 : Int32))] [(.ref s_o)])) _
            refine X0.arraylength hx (by rw [e0]; exact Ar273.1) (State.isArrayOf_alike hZ.alike Ar273.2.1) (g := (mkF m 74 #[.val (.ref e_o), .val (.ref s_o), .val (.ref f_o), .val (.ref t_o), .val (.int (0 : Int32))] [(.ref s_o)])) rfl rfl (hb hby own_d8_74) _ ?_
            rw [len_of S273 M273]
            show Steps p.tables e below (s₁.setTop (mkF m 75 #[.val (.ref e_o), .val (.ref s_o), .val (.ref f_o), .val (.ref t_o), .val (.int (0 : Int32))] [(.int n_1)])) _
            refine XS.iconst X0.here hx rfl (hb hby own_d8_75) ?_
            exact kt
          by_cases hc76_277 : (2 : Int32) < n_1
          · obtain ⟨fs, hr, hrun, hended, hW, hsame⟩ := X0.leave (v := some (.int (0 : Int32))) (fun h => by rw [Bd.returns] at h; cases h) (hlocks := BodyLoose.notSynchronized Bd)
            refine ⟨_, _, pre276 _ ?_, hrun, hended, _, _, rfl, ?_, ⟨_, rfl⟩, hW, hsame.mono (by decide) (by decide)⟩
            · show Steps p.tables e below (s₁.setTop (mkF m 76 #[.val (.ref e_o), .val (.ref s_o), .val (.ref f_o), .val (.ref t_o), .val (.int (0 : Int32))] [(.int (2 : Int32)), (.int n_1)])) _
              refine XS.icmpNo X0.here hx rfl (hb hby own_d8_76) rfl (tlt hc76_277).2.2.2 ?_
              show Steps p.tables e below (s₁.setTop (mkF m 79 #[.val (.ref e_o), .val (.ref s_o), .val (.ref f_o), .val (.ref t_o), .val (.int (0 : Int32))] [])) _
              refine XS.iload X0.here hx rfl (hb hby own_d8_79) rfl ?_
              show Steps p.tables e below (s₁.setTop (mkF m 81 #[.val (.ref e_o), .val (.ref s_o), .val (.ref f_o), .val (.ref t_o), .val (.int (0 : Int32))] [(.int (0 : Int32))])) _
              refine XS.ifYes X0.here hx rfl (pc0 := 81) (pc' := 101) rfl (hb hby own_d8_81) rfl ((if0 _ _).trans (teq ((by decide) : (0 : Int32) = (0 : Int32))).1) (by decide) (by decide) ?_
              show Steps p.tables e below (s₁.setTop (mkF m 101 #[.val (.ref e_o), .val (.ref s_o), .val (.ref f_o), .val (.ref t_o), .val (.int (0 : Int32))] [])) _
              refine XS.iconst X0.here hx rfl (hb hby own_d8_101) ?_
              show Steps p.tables e below (s₁.setTop (mkF m 102 #[.val (.ref e_o), .val (.ref s_o), .val (.ref f_o), .val (.ref t_o), .val (.int (0 : Int32))] [(.int (0 : Int32))])) _
              refine XS.istore X0.here hx rfl (hb hby own_d8_102) rfl (l' := #[.val (.ref e_o), .val (.ref s_o), .val (.ref f_o), .val (.ref t_o), .val (.int (0 : Int32))]) rfl ?_
              show Steps p.tables e below (s₁.setTop (mkF m 104 #[.val (.ref e_o), .val (.ref s_o), .val (.ref f_o), .val (.ref t_o), .val (.int (0 : Int32))] [])) _
              refine XS.iload X0.here hx rfl (hb hby own_d8_104) rfl ?_
              show Steps p.tables e below (s₁.setTop (mkF m 106 #[.val (.ref e_o), .val (.ref s_o), .val (.ref f_o), .val (.ref t_o), .val (.int (0 : Int32))] [(.int (0 : Int32))])) _
              exact retN X0 hx (t := .boolean) Bd.returns (by simp) (hb hby own_d8_106) hr
            · show Qown_same Z e_o s_o f_o t_o k_e k_s k_f k_t n_1 m_1 x_0 x_1 x_2 s_0 s_1 s_2 y_0 y_1 y_2 t_0 t_1 t_2 h0 n0 _ s₁.heap _
              rw [e0]
              have hv : (own_same_f n_1 m_1 x_0 x_1 x_2 s_0 s_1 s_2 y_0 y_1 y_2 t_0 t_1 t_2) = (0 : Int32) := by unfold own_same_f; rw [if_pos hc4_9, if_neg hc14_17, if_pos hc45_209, if_neg hc63_228, if_pos hc76_277]
              exact ⟨(by rw [hv]), N0, rfl⟩
          · obtain ⟨fs, hr, hrun, hended, hW, hsame⟩ := X0.leave (v := some (.int (0 : Int32))) (fun h => by rw [Bd.returns] at h; cases h) (hlocks := BodyLoose.notSynchronized Bd)
            refine ⟨_, _, pre276 _ ?_, hrun, hended, _, _, rfl, ?_, ⟨_, rfl⟩, hW, hsame.mono (by decide) (by decide)⟩
            · show Steps p.tables e below (s₁.setTop (mkF m 76 #[.val (.ref e_o), .val (.ref s_o), .val (.ref f_o), .val (.ref t_o), .val (.int (0 : Int32))] [(.int (2 : Int32)), (.int n_1)])) _
              refine XS.icmpYes X0.here hx rfl (pc0 := 76) (pc' := 104) rfl (hb hby own_d8_76) rfl (flt hc76_277).2.2.2 (by decide) (by decide) ?_
              show Steps p.tables e below (s₁.setTop (mkF m 104 #[.val (.ref e_o), .val (.ref s_o), .val (.ref f_o), .val (.ref t_o), .val (.int (0 : Int32))] [])) _
              refine XS.iload X0.here hx rfl (hb hby own_d8_104) rfl ?_
              show Steps p.tables e below (s₁.setTop (mkF m 106 #[.val (.ref e_o), .val (.ref s_o), .val (.ref f_o), .val (.ref t_o), .val (.int (0 : Int32))] [(.int (0 : Int32))])) _
              exact retN X0 hx (t := .boolean) Bd.returns (by simp) (hb hby own_d8_106) hr
            · show Qown_same Z e_o s_o f_o t_o k_e k_s k_f k_t n_1 m_1 x_0 x_1 x_2 s_0 s_1 s_2 y_0 y_1 y_2 t_0 t_1 t_2 h0 n0 _ s₁.heap _
              rw [e0]
              have hv : (own_same_f n_1 m_1 x_0 x_1 x_2 s_0 s_1 s_2 y_0 y_1 y_2 t_0 t_1 t_2) = (0 : Int32) := by unfold own_same_f; rw [if_pos hc4_9, if_neg hc14_17, if_pos hc45_209, if_neg hc63_228, if_neg hc76_277]
              exact ⟨(by rw [hv]), N0, rfl⟩
      · obtain ⟨cl288, Ar288, -, S288, M288, -, -⟩ := id V_s
        have pre291 : ∀ t, Steps p.tables e below (s₁.setTop (mkF m 76 #[.val (.ref e_o), .val (.ref s_o), .val (.ref f_o), .val (.ref t_o), .val (.int (1 : Int32))] [(.int (2 : Int32)), (.int n_1)])) t → Steps p.tables e below (s₁.setTop (entryFrame m #[(.ref e_o), (.ref s_o), (.ref f_o), (.ref t_o)] 5)) t := by
          intro t kt
          refine pre208 _ ?_
          show Steps p.tables e below (s₁.setTop (mkF m 45 #[.val (.ref e_o), .val (.ref s_o), .val (.ref f_o), .val (.ref t_o), .val (.int (1 : Int32))] [(.int (1 : Int32)), (.int n_1)])) _
          refine XS.icmpYes X0.here hx rfl (pc0 := 45) (pc' := 73) rfl (hb hby own_d8_45) rfl (flt hc45_209).2.2.2 (by decide) (by decide) ?_
          show Steps p.tables e below (s₁.setTop (mkF m 73 #[.val (.ref e_o), .val (.ref s_o), .val (.ref f_o), .val (.ref t_o), .val (.int (1 : Int32))] [])) _
          refine XS.aloadN X0.here hx rfl (hb hby own_d8_73) rfl rfl ?_
          show Steps p.tables e below (s₁.setTop (mkF m 74 #[.val (.ref e_o), .val (.ref s_o), .val (.ref f_o), .val (.ref t_o), .val (.int (1 : Int32))] [(.ref s_o)])) _
          refine X0.arraylength hx (by rw [e0]; exact Ar288.1) (State.isArrayOf_alike hZ.alike Ar288.2.1) (g := (mkF m 74 #[.val (.ref e_o), .val (.ref s_o), .val (.ref f_o), .val (.ref t_o), .val (.int (1 : Int32))] [(.ref s_o)])) rfl rfl (hb hby own_d8_74) _ ?_
          rw [len_of S288 M288]
          show Steps p.tables e below (s₁.setTop (mkF m 75 #[.val (.ref e_o), .val (.ref s_o), .val (.ref f_o), .val (.ref t_o), .val (.int (1 : Int32))] [(.int n_1)])) _
          refine XS.iconst X0.here hx rfl (hb hby own_d8_75) ?_
          exact kt
        by_cases hc76_292 : (2 : Int32) < n_1
        · obtain ⟨cl299, Ar299, q299, S299, M299, H299, G299⟩ := id V_s
          have hin299 : ¬ ((2 : Int32) < 0 ∨ cl299.slots.size ≤ ((2 : Int32)).toNatClampNeg) := inb_of S299 ⟨by decide, hc76_292⟩
          have hat299 : cl299.slots[((2 : Int32)).toNatClampNeg]? = some (.int s_2) := H299.at hin299 rfl
          obtain ⟨cl301, Ar301, q301, S301, M301, H301, G301⟩ := id V_e
          have hin301 : ¬ (s_2 < 0 ∨ cl301.slots.size ≤ (s_2).toNatClampNeg) := inb_of S301 hb2
          have hat301 : cl301.slots[(s_2).toNatClampNeg]? = some (.int (own_sel x_0 x_1 x_2 s_2)) := H301.at hin301 (own_sel_get _ _ _ _ _ hb2)
          obtain ⟨cl306, Ar306, q306, S306, M306, H306, G306⟩ := id V_t
          have hin306 : ¬ ((2 : Int32) < 0 ∨ cl306.slots.size ≤ ((2 : Int32)).toNatClampNeg) := inb_of S306 ⟨by decide, hc4_9 ▸ hc76_292⟩
          have hat306 : cl306.slots[((2 : Int32)).toNatClampNeg]? = some (.int t_2) := H306.at hin306 rfl
          obtain ⟨cl308, Ar308, q308, S308, M308, H308, G308⟩ := id V_f
          have hin308 : ¬ (t_2 < 0 ∨ cl308.slots.size ≤ (t_2).toNatClampNeg) := inb_of S308 hd2
          have hat308 : cl308.slots[(t_2).toNatClampNeg]? = some (.int (own_sel y_0 y_1 y_2 t_2)) := H308.at hin308 (own_sel_get _ _ _ _ _ hd2)
          have pre310 : ∀ t, Steps p.tables e below (s₁.setTop (mkF m 94 #[.val (.ref e_o), .val (.ref s_o), .val (.ref f_o), .val (.ref t_o), .val (.int (1 : Int32))] [(.int (own_sel y_0 y_1 y_2 t_2)), (.int (own_sel x_0 x_1 x_2 s_2))])) t → Steps p.tables e below (s₁.setTop (entryFrame m #[(.ref e_o), (.ref s_o), (.ref f_o), (.ref t_o)] 5)) t := by
            intro t kt
            refine pre291 _ ?_
            show Steps p.tables e below (s₁.setTop (mkF m 76 #[.val (.ref e_o), .val (.ref s_o), .val (.ref f_o), .val (.ref t_o), .val (.int (1 : Int32))] [(.int (2 : Int32)), (.int n_1)])) _
            refine XS.icmpNo X0.here hx rfl (hb hby own_d8_76) rfl (tlt hc76_292).2.2.2 ?_
            show Steps p.tables e below (s₁.setTop (mkF m 79 #[.val (.ref e_o), .val (.ref s_o), .val (.ref f_o), .val (.ref t_o), .val (.int (1 : Int32))] [])) _
            refine XS.iload X0.here hx rfl (hb hby own_d8_79) rfl ?_
            show Steps p.tables e below (s₁.setTop (mkF m 81 #[.val (.ref e_o), .val (.ref s_o), .val (.ref f_o), .val (.ref t_o), .val (.int (1 : Int32))] [(.int (1 : Int32))])) _
            refine XS.ifNo X0.here hx rfl (hb hby own_d8_81) rfl ((if0 _ _).trans (feq ((by decide) : ¬ ((1 : Int32) = (0 : Int32)))).1) ?_
            show Steps p.tables e below (s₁.setTop (mkF m 84 #[.val (.ref e_o), .val (.ref s_o), .val (.ref f_o), .val (.ref t_o), .val (.int (1 : Int32))] [])) _
            refine XS.aloadN X0.here hx rfl (hb hby own_d8_84) rfl rfl ?_
            show Steps p.tables e below (s₁.setTop (mkF m 85 #[.val (.ref e_o), .val (.ref s_o), .val (.ref f_o), .val (.ref t_o), .val (.int (1 : Int32))] [(.ref e_o)])) _
            refine XS.aloadN X0.here hx rfl (hb hby own_d8_85) rfl rfl ?_
            show Steps p.tables e below (s₁.setTop (mkF m 86 #[.val (.ref e_o), .val (.ref s_o), .val (.ref f_o), .val (.ref t_o), .val (.int (1 : Int32))] [(.ref s_o), (.ref e_o)])) _
            refine XS.iconst X0.here hx rfl (hb hby own_d8_86) ?_
            show Steps p.tables e below (s₁.setTop (mkF m 87 #[.val (.ref e_o), .val (.ref s_o), .val (.ref f_o), .val (.ref t_o), .val (.int (1 : Int32))] [(.int (2 : Int32)), (.ref s_o), (.ref e_o)])) _
            refine X0.iaload hx (j := (2 : Int32)) (v := (.int s_2)) (by rw [e0]; exact Ar299.1) (State.isArrayOf_alike hZ.alike Ar299.2.1) Ar299.2.2 hin299 hat299 (g := (mkF m 87 #[.val (.ref e_o), .val (.ref s_o), .val (.ref f_o), .val (.ref t_o), .val (.int (1 : Int32))] [(.int (2 : Int32)), (.ref s_o), (.ref e_o)])) rfl rfl (hb hby own_d8_87) _ ?_
            show Steps p.tables e below (s₁.setTop (mkF m 88 #[.val (.ref e_o), .val (.ref s_o), .val (.ref f_o), .val (.ref t_o), .val (.int (1 : Int32))] [(.int s_2), (.ref e_o)])) _
            refine X0.iaload hx (j := s_2) (v := (.int (own_sel x_0 x_1 x_2 s_2))) (by rw [e0]; exact Ar301.1) (State.isArrayOf_alike hZ.alike Ar301.2.1) Ar301.2.2 hin301 hat301 (g := (mkF m 88 #[.val (.ref e_o), .val (.ref s_o), .val (.ref f_o), .val (.ref t_o), .val (.int (1 : Int32))] [(.int s_2), (.ref e_o)])) rfl rfl (hb hby own_d8_88) _ ?_
            show Steps p.tables e below (s₁.setTop (mkF m 89 #[.val (.ref e_o), .val (.ref s_o), .val (.ref f_o), .val (.ref t_o), .val (.int (1 : Int32))] [(.int (own_sel x_0 x_1 x_2 s_2))])) _
            refine XS.aloadN X0.here hx rfl (hb hby own_d8_89) rfl rfl ?_
            show Steps p.tables e below (s₁.setTop (mkF m 90 #[.val (.ref e_o), .val (.ref s_o), .val (.ref f_o), .val (.ref t_o), .val (.int (1 : Int32))] [(.ref f_o), (.int (own_sel x_0 x_1 x_2 s_2))])) _
            refine XS.aloadN X0.here hx rfl (hb hby own_d8_90) rfl rfl ?_
            show Steps p.tables e below (s₁.setTop (mkF m 91 #[.val (.ref e_o), .val (.ref s_o), .val (.ref f_o), .val (.ref t_o), .val (.int (1 : Int32))] [(.ref t_o), (.ref f_o), (.int (own_sel x_0 x_1 x_2 s_2))])) _
            refine XS.iconst X0.here hx rfl (hb hby own_d8_91) ?_
            show Steps p.tables e below (s₁.setTop (mkF m 92 #[.val (.ref e_o), .val (.ref s_o), .val (.ref f_o), .val (.ref t_o), .val (.int (1 : Int32))] [(.int (2 : Int32)), (.ref t_o), (.ref f_o), (.int (own_sel x_0 x_1 x_2 s_2))])) _
            refine X0.iaload hx (j := (2 : Int32)) (v := (.int t_2)) (by rw [e0]; exact Ar306.1) (State.isArrayOf_alike hZ.alike Ar306.2.1) Ar306.2.2 hin306 hat306 (g := (mkF m 92 #[.val (.ref e_o), .val (.ref s_o), .val (.ref f_o), .val (.ref t_o), .val (.int (1 : Int32))] [(.int (2 : Int32)), (.ref t_o), (.ref f_o), (.int (own_sel x_0 x_1 x_2 s_2))])) rfl rfl (hb hby own_d8_92) _ ?_
            show Steps p.tables e below (s₁.setTop (mkF m 93 #[.val (.ref e_o), .val (.ref s_o), .val (.ref f_o), .val (.ref t_o), .val (.int (1 : Int32))] [(.int t_2), (.ref f_o), (.int (own_sel x_0 x_1 x_2 s_2))])) _
            refine X0.iaload hx (j := t_2) (v := (.int (own_sel y_0 y_1 y_2 t_2))) (by rw [e0]; exact Ar308.1) (State.isArrayOf_alike hZ.alike Ar308.2.1) Ar308.2.2 hin308 hat308 (g := (mkF m 93 #[.val (.ref e_o), .val (.ref s_o), .val (.ref f_o), .val (.ref t_o), .val (.int (1 : Int32))] [(.int t_2), (.ref f_o), (.int (own_sel x_0 x_1 x_2 s_2))])) rfl rfl (hb hby own_d8_93) _ ?_
            exact kt
          by_cases hc94_311 : (own_sel x_0 x_1 x_2 s_2) = (own_sel y_0 y_1 y_2 t_2)
          · obtain ⟨fs, hr, hrun, hended, hW, hsame⟩ := X0.leave (v := some (.int (1 : Int32))) (fun h => by rw [Bd.returns] at h; cases h) (hlocks := BodyLoose.notSynchronized Bd)
            refine ⟨_, _, pre310 _ ?_, hrun, hended, _, _, rfl, ?_, ⟨_, rfl⟩, hW, hsame.mono (by decide) (by decide)⟩
            · show Steps p.tables e below (s₁.setTop (mkF m 94 #[.val (.ref e_o), .val (.ref s_o), .val (.ref f_o), .val (.ref t_o), .val (.int (1 : Int32))] [(.int (own_sel y_0 y_1 y_2 t_2)), (.int (own_sel x_0 x_1 x_2 s_2))])) _
              refine XS.icmpNo X0.here hx rfl (hb hby own_d8_94) rfl (teq hc94_311).2 ?_
              show Steps p.tables e below (s₁.setTop (mkF m 97 #[.val (.ref e_o), .val (.ref s_o), .val (.ref f_o), .val (.ref t_o), .val (.int (1 : Int32))] [])) _
              refine XS.iconst X0.here hx rfl (hb hby own_d8_97) ?_
              show Steps p.tables e below (s₁.setTop (mkF m 98 #[.val (.ref e_o), .val (.ref s_o), .val (.ref f_o), .val (.ref t_o), .val (.int (1 : Int32))] [(.int (1 : Int32))])) _
              refine XS.goto X0.here hx rfl (pc0 := 98) (pc' := 102) rfl (hb hby own_d8_98) (by decide) (by decide) ?_
              show Steps p.tables e below (s₁.setTop (mkF m 102 #[.val (.ref e_o), .val (.ref s_o), .val (.ref f_o), .val (.ref t_o), .val (.int (1 : Int32))] [(.int (1 : Int32))])) _
              refine XS.istore X0.here hx rfl (hb hby own_d8_102) rfl (l' := #[.val (.ref e_o), .val (.ref s_o), .val (.ref f_o), .val (.ref t_o), .val (.int (1 : Int32))]) rfl ?_
              show Steps p.tables e below (s₁.setTop (mkF m 104 #[.val (.ref e_o), .val (.ref s_o), .val (.ref f_o), .val (.ref t_o), .val (.int (1 : Int32))] [])) _
              refine XS.iload X0.here hx rfl (hb hby own_d8_104) rfl ?_
              show Steps p.tables e below (s₁.setTop (mkF m 106 #[.val (.ref e_o), .val (.ref s_o), .val (.ref f_o), .val (.ref t_o), .val (.int (1 : Int32))] [(.int (1 : Int32))])) _
              exact retN X0 hx (t := .boolean) Bd.returns (by simp) (hb hby own_d8_106) hr
            · show Qown_same Z e_o s_o f_o t_o k_e k_s k_f k_t n_1 m_1 x_0 x_1 x_2 s_0 s_1 s_2 y_0 y_1 y_2 t_0 t_1 t_2 h0 n0 _ s₁.heap _
              rw [e0]
              have hv : (own_same_f n_1 m_1 x_0 x_1 x_2 s_0 s_1 s_2 y_0 y_1 y_2 t_0 t_1 t_2) = (1 : Int32) := by unfold own_same_f; rw [if_pos hc4_9, if_neg hc14_17, if_neg hc45_209, if_pos hc76_292, if_pos hc94_311]
              exact ⟨(by rw [hv]), N0, rfl⟩
          · obtain ⟨fs, hr, hrun, hended, hW, hsame⟩ := X0.leave (v := some (.int (0 : Int32))) (fun h => by rw [Bd.returns] at h; cases h) (hlocks := BodyLoose.notSynchronized Bd)
            refine ⟨_, _, pre310 _ ?_, hrun, hended, _, _, rfl, ?_, ⟨_, rfl⟩, hW, hsame.mono (by decide) (by decide)⟩
            · show Steps p.tables e below (s₁.setTop (mkF m 94 #[.val (.ref e_o), .val (.ref s_o), .val (.ref f_o), .val (.ref t_o), .val (.int (1 : Int32))] [(.int (own_sel y_0 y_1 y_2 t_2)), (.int (own_sel x_0 x_1 x_2 s_2))])) _
              refine XS.icmpYes X0.here hx rfl (pc0 := 94) (pc' := 101) rfl (hb hby own_d8_94) rfl (feq hc94_311).2 (by decide) (by decide) ?_
              show Steps p.tables e below (s₁.setTop (mkF m 101 #[.val (.ref e_o), .val (.ref s_o), .val (.ref f_o), .val (.ref t_o), .val (.int (1 : Int32))] [])) _
              refine XS.iconst X0.here hx rfl (hb hby own_d8_101) ?_
              show Steps p.tables e below (s₁.setTop (mkF m 102 #[.val (.ref e_o), .val (.ref s_o), .val (.ref f_o), .val (.ref t_o), .val (.int (1 : Int32))] [(.int (0 : Int32))])) _
              refine XS.istore X0.here hx rfl (hb hby own_d8_102) rfl (l' := #[.val (.ref e_o), .val (.ref s_o), .val (.ref f_o), .val (.ref t_o), .val (.int (0 : Int32))]) rfl ?_
              show Steps p.tables e below (s₁.setTop (mkF m 104 #[.val (.ref e_o), .val (.ref s_o), .val (.ref f_o), .val (.ref t_o), .val (.int (0 : Int32))] [])) _
              refine XS.iload X0.here hx rfl (hb hby own_d8_104) rfl ?_
              show Steps p.tables e below (s₁.setTop (mkF m 106 #[.val (.ref e_o), .val (.ref s_o), .val (.ref f_o), .val (.ref t_o), .val (.int (0 : Int32))] [(.int (0 : Int32))])) _
              exact retN X0 hx (t := .boolean) Bd.returns (by simp) (hb hby own_d8_106) hr
            · show Qown_same Z e_o s_o f_o t_o k_e k_s k_f k_t n_1 m_1 x_0 x_1 x_2 s_0 s_1 s_2 y_0 y_1 y_2 t_0 t_1 t_2 h0 n0 _ s₁.heap _
              rw [e0]
              have hv : (own_same_f n_1 m_1 x_0 x_1 x_2 s_0 s_1 s_2 y_0 y_1 y_2 t_0 t_1 t_2) = (0 : Int32) := by unfold own_same_f; rw [if_pos hc4_9, if_neg hc14_17, if_neg hc45_209, if_pos hc76_292, if_neg hc94_311]
              exact ⟨(by rw [hv]), N0, rfl⟩
        · obtain ⟨fs, hr, hrun, hended, hW, hsame⟩ := X0.leave (v := some (.int (1 : Int32))) (fun h => by rw [Bd.returns] at h; cases h) (hlocks := BodyLoose.notSynchronized Bd)
          refine ⟨_, _, pre291 _ ?_, hrun, hended, _, _, rfl, ?_, ⟨_, rfl⟩, hW, hsame.mono (by decide) (by decide)⟩
          · show Steps p.tables e below (s₁.setTop (mkF m 76 #[.val (.ref e_o), .val (.ref s_o), .val (.ref f_o), .val (.ref t_o), .val (.int (1 : Int32))] [(.int (2 : Int32)), (.int n_1)])) _
            refine XS.icmpYes X0.here hx rfl (pc0 := 76) (pc' := 104) rfl (hb hby own_d8_76) rfl (flt hc76_292).2.2.2 (by decide) (by decide) ?_
            show Steps p.tables e below (s₁.setTop (mkF m 104 #[.val (.ref e_o), .val (.ref s_o), .val (.ref f_o), .val (.ref t_o), .val (.int (1 : Int32))] [])) _
            refine XS.iload X0.here hx rfl (hb hby own_d8_104) rfl ?_
            show Steps p.tables e below (s₁.setTop (mkF m 106 #[.val (.ref e_o), .val (.ref s_o), .val (.ref f_o), .val (.ref t_o), .val (.int (1 : Int32))] [(.int (1 : Int32))])) _
            exact retN X0 hx (t := .boolean) Bd.returns (by simp) (hb hby own_d8_106) hr
          · show Qown_same Z e_o s_o f_o t_o k_e k_s k_f k_t n_1 m_1 x_0 x_1 x_2 s_0 s_1 s_2 y_0 y_1 y_2 t_0 t_1 t_2 h0 n0 _ s₁.heap _
            rw [e0]
            have hv : (own_same_f n_1 m_1 x_0 x_1 x_2 s_0 s_1 s_2 y_0 y_1 y_2 t_0 t_1 t_2) = (1 : Int32) := by unfold own_same_f; rw [if_pos hc4_9, if_neg hc14_17, if_neg hc45_209, if_neg hc76_292]
            exact ⟨(by rw [hv]), N0, rfl⟩
  · obtain ⟨fs, hr, hrun, hended, hW, hsame⟩ := X0.leave (v := some (.int (0 : Int32))) (fun h => by rw [Bd.returns] at h; cases h) (hlocks := BodyLoose.notSynchronized Bd)
    refine ⟨_, _, pre8 _ ?_, hrun, hended, _, _, rfl, ?_, ⟨_, rfl⟩, hW, hsame.mono (by decide) (by decide)⟩
    · show Steps p.tables e below (s₁.setTop (mkF m 4 #[.val (.ref e_o), .val (.ref s_o), .val (.ref f_o), .val (.ref t_o), .unset] [(.int m_1), (.int n_1)])) _
      refine XS.icmpNo X0.here hx rfl (hb hby own_d8_4) rfl (feq hc4_9).1 ?_
      show Steps p.tables e below (s₁.setTop (mkF m 7 #[.val (.ref e_o), .val (.ref s_o), .val (.ref f_o), .val (.ref t_o), .unset] [])) _
      refine XS.iconst X0.here hx rfl (hb hby own_d8_7) ?_
      show Steps p.tables e below (s₁.setTop (mkF m 8 #[.val (.ref e_o), .val (.ref s_o), .val (.ref f_o), .val (.ref t_o), .unset] [(.int (0 : Int32))])) _
      exact retN X0 hx (t := .boolean) Bd.returns (by simp) (hb hby own_d8_8) hr
    · show Qown_same Z e_o s_o f_o t_o k_e k_s k_f k_t n_1 m_1 x_0 x_1 x_2 s_0 s_1 s_2 y_0 y_1 y_2 t_0 t_1 t_2 h0 n0 _ s₁.heap _
      rw [e0]
      have hv : (own_same_f n_1 m_1 x_0 x_1 x_2 s_0 s_1 s_2 y_0 y_1 y_2 t_0 t_1 t_2) = (0 : Int32) := by unfold own_same_f; rw [if_neg hc4_9]
      exact ⟨(by rw [hv]), N0, rfl⟩
theorem own_ef_own_eq (m : MethodId) (a_o : Addr) (b_o : Addr) : entryFrame m #[(.ref a_o), (.ref b_o)] 5 = mkF m 0 #[.val (.ref a_o), .val (.ref b_o), .unset, .unset, .unset] [] := by first | (simp [entryFrame, mkF, argsToLocals, Value.category]; done) | rfl
theorem own_d7_0 : decode prog_37_method_6_code 0 = .ok (.aload_n 1, 1) := by decide +kernel
theorem own_d7_1 : decode prog_37_method_6_code 1 = .ok (.instanceof 8, 3) := by decide +kernel
theorem own_d7_4 : decode prog_37_method_6_code 4 = .ok (.ifCond .ne 5, 3) := by decide +kernel
theorem own_d7_9 : decode prog_37_method_6_code 9 = .ok (.aload_n 1, 1) := by decide +kernel
theorem own_d7_10 : decode prog_37_method_6_code 10 = .ok (.checkcast 8, 3) := by decide +kernel
theorem own_d7_13 : decode prog_37_method_6_code 13 = .ok (.astore_n 2, 1) := by decide +kernel
theorem own_d7_14 : decode prog_37_method_6_code 14 = .ok (.aload_n 0, 1) := by decide +kernel
theorem own_d7_15 : decode prog_37_method_6_code 15 = .ok (.getfield 13, 3) := by decide +kernel
theorem own_d7_18 : decode prog_37_method_6_code 18 = .ok (.arraylength, 1) := by decide +kernel
theorem own_d7_19 : decode prog_37_method_6_code 19 = .ok (.aload_n 2, 1) := by decide +kernel
theorem own_d7_20 : decode prog_37_method_6_code 20 = .ok (.getfield 13, 3) := by decide +kernel
theorem own_d7_23 : decode prog_37_method_6_code 23 = .ok (.arraylength, 1) := by decide +kernel
theorem own_d7_24 : decode prog_37_method_6_code 24 = .ok (.if_icmp .ne 7, 3) := by decide +kernel
theorem own_d7_27 : decode prog_37_method_6_code 27 = .ok (.iconst 1, 1) := by decide +kernel
theorem own_d7_28 : decode prog_37_method_6_code 28 = .ok (.goto 4, 3) := by decide +kernel
theorem own_d7_31 : decode prog_37_method_6_code 31 = .ok (.iconst 0, 1) := by decide +kernel
theorem own_d7_32 : decode prog_37_method_6_code 32 = .ok (.istore_n 3, 1) := by decide +kernel
theorem own_d7_33 : decode prog_37_method_6_code 33 = .ok (.iconst 0, 1) := by decide +kernel
theorem own_d7_34 : decode prog_37_method_6_code 34 = .ok (.istore 4, 2) := by decide +kernel
theorem own_d7_36 : decode prog_37_method_6_code 36 = .ok (.iload_n 3, 1) := by decide +kernel
theorem own_d7_37 : decode prog_37_method_6_code 37 = .ok (.ifCond .eq 52, 3) := by decide +kernel
theorem own_d7_40 : decode prog_37_method_6_code 40 = .ok (.iload 4, 2) := by decide +kernel
theorem own_d7_42 : decode prog_37_method_6_code 42 = .ok (.aload_n 0, 1) := by decide +kernel
theorem own_d7_43 : decode prog_37_method_6_code 43 = .ok (.getfield 13, 3) := by decide +kernel
theorem own_d7_46 : decode prog_37_method_6_code 46 = .ok (.arraylength, 1) := by decide +kernel
theorem own_d7_47 : decode prog_37_method_6_code 47 = .ok (.if_icmp .ge 42, 3) := by decide +kernel
theorem own_d7_50 : decode prog_37_method_6_code 50 = .ok (.aload_n 0, 1) := by decide +kernel
theorem own_d7_51 : decode prog_37_method_6_code 51 = .ok (.getfield 7, 3) := by decide +kernel
theorem own_d7_54 : decode prog_37_method_6_code 54 = .ok (.aload_n 0, 1) := by decide +kernel
theorem own_d7_55 : decode prog_37_method_6_code 55 = .ok (.getfield 13, 3) := by decide +kernel
theorem own_d7_58 : decode prog_37_method_6_code 58 = .ok (.iload 4, 2) := by decide +kernel
theorem own_d7_60 : decode prog_37_method_6_code 60 = .ok (.iaload, 1) := by decide +kernel
theorem own_d7_61 : decode prog_37_method_6_code 61 = .ok (.iaload, 1) := by decide +kernel
theorem own_d7_62 : decode prog_37_method_6_code 62 = .ok (.aload_n 2, 1) := by decide +kernel
theorem own_d7_63 : decode prog_37_method_6_code 63 = .ok (.getfield 7, 3) := by decide +kernel
theorem own_d7_66 : decode prog_37_method_6_code 66 = .ok (.aload_n 2, 1) := by decide +kernel
theorem own_d7_67 : decode prog_37_method_6_code 67 = .ok (.getfield 13, 3) := by decide +kernel
theorem own_d7_70 : decode prog_37_method_6_code 70 = .ok (.iload 4, 2) := by decide +kernel
theorem own_d7_72 : decode prog_37_method_6_code 72 = .ok (.iaload, 1) := by decide +kernel
theorem own_d7_73 : decode prog_37_method_6_code 73 = .ok (.iaload, 1) := by decide +kernel
theorem own_d7_74 : decode prog_37_method_6_code 74 = .ok (.if_icmp .ne 7, 3) := by decide +kernel
theorem own_d7_77 : decode prog_37_method_6_code 77 = .ok (.iconst 1, 1) := by decide +kernel
theorem own_d7_78 : decode prog_37_method_6_code 78 = .ok (.goto 4, 3) := by decide +kernel
theorem own_d7_81 : decode prog_37_method_6_code 81 = .ok (.iconst 0, 1) := by decide +kernel
theorem own_d7_82 : decode prog_37_method_6_code 82 = .ok (.istore_n 3, 1) := by decide +kernel
theorem own_d7_83 : decode prog_37_method_6_code 83 = .ok (.iinc 4 1, 3) := by decide +kernel
theorem own_d7_86 : decode prog_37_method_6_code 86 = .ok (.goto (-50), 3) := by decide +kernel
theorem own_d7_89 : decode prog_37_method_6_code 89 = .ok (.iload_n 3, 1) := by decide +kernel
theorem own_d7_90 : decode prog_37_method_6_code 90 = .ok (.ireturn, 1) := by decide +kernel
def own_eq_f (n_1 : Int32) (m_1 : Int32) (x_0 : Int32) (x_1 : Int32) (x_2 : Int32) (s_0 : Int32) (s_1 : Int32) (s_2 : Int32) (y_0 : Int32) (y_1 : Int32) (y_2 : Int32) (t_0 : Int32) (t_1 : Int32) (t_2 : Int32) : Int32 := (if n_1 = m_1 then (if (0 : Int32) < n_1 then (if (own_sel x_0 x_1 x_2 s_0) = (own_sel y_0 y_1 y_2 t_0) then (if (1 : Int32) < n_1 then (if (own_sel x_0 x_1 x_2 s_1) = (own_sel y_0 y_1 y_2 t_1) then (if (2 : Int32) < n_1 then (if (own_sel x_0 x_1 x_2 s_2) = (own_sel y_0 y_1 y_2 t_2) then (1 : Int32) else (0 : Int32)) else (1 : Int32)) else (0 : Int32)) else (1 : Int32)) else (0 : Int32)) else (1 : Int32)) else (0 : Int32))
def Qown_eq (Z : State) (a_o : Addr) (b_o : Addr) (e_o : Addr) (s_o : Addr) (f_o : Addr) (t_o : Addr) (k_e : ClassId) (k_s : ClassId) (k_f : ClassId) (k_t : ClassId) (n_1 : Int32) (m_1 : Int32) (x_0 : Int32) (x_1 : Int32) (x_2 : Int32) (s_0 : Int32) (s_1 : Int32) (s_2 : Int32) (y_0 : Int32) (y_1 : Int32) (y_2 : Int32) (t_0 : Int32) (t_1 : Int32) (t_2 : Int32) (h0 : Heap) (n0 : Nat) (v : Option Value) (h : Heap) (L : List Loc) : Prop := v = some (.int (own_eq_f n_1 m_1 x_0 x_1 x_2 s_0 s_1 s_2 y_0 y_1 y_2 t_0 t_1 t_2)) ∧ Fr n0 L ∧ h = h0
set_option maxRecDepth 65536 in
set_option maxHeartbeats 40000000 in
theorem own_eq (l : Launch) (Z : State) (a0 : Array Value) (hw : ∀ d ∈ tables_1, d.before a0 Z = true) (ws : List Jvm.Cond) (a_o : Addr) (b_o : Addr) (e_o : Addr) (s_o : Addr) (f_o : Addr) (t_o : Addr) (k_e : ClassId) (k_s : ClassId) (k_f : ClassId) (k_t : ClassId) (n_1 : Int32) (m_1 : Int32) (x_0 : Int32) (x_1 : Int32) (x_2 : Int32) (s_0 : Int32) (s_1 : Int32) (s_2 : Int32) (y_0 : Int32) (y_1 : Int32) (y_2 : Int32) (t_0 : Int32) (t_1 : Int32) (t_2 : Int32) (h0 : Heap) (n0 : Nat) (Z0 : n0 ≤ h0.size) (Eb : Exa Z h0 b_o "com/example/fovea/fovea/Memory$Key") (F_ae : Fld Z h0 a_o "com/example/fovea/fovea/Memory$Key" "entry" "[I" (.ref e_o)) (F_as : Fld Z h0 a_o "com/example/fovea/fovea/Memory$Key" "slots" "[I" (.ref s_o)) (F_be : Fld Z h0 b_o "com/example/fovea/fovea/Memory$Key" "entry" "[I" (.ref f_o)) (F_bs : Fld Z h0 b_o "com/example/fovea/fovea/Memory$Key" "slots" "[I" (.ref t_o)) (V_e : Arv Z h0 e_o k_e .int (3 : Int32) [(.int x_0), (.int x_1), (.int x_2)] (.int (0 : Int32))) (V_s : Arv Z h0 s_o k_s .int n_1 [(.int s_0), (.int s_1), (.int s_2)] (.int (0 : Int32))) (hb0 : ¬ s_0 < 0 ∧ s_0 < 3) (hb1 : ¬ s_1 < 0 ∧ s_1 < 3) (hb2 : ¬ s_2 < 0 ∧ s_2 < 3) (V_f : Arv Z h0 f_o k_f .int (3 : Int32) [(.int y_0), (.int y_1), (.int y_2)] (.int (0 : Int32))) (V_t : Arv Z h0 t_o k_t .int m_1 [(.int t_0), (.int t_1), (.int t_2)] (.int (0 : Int32))) (hd0 : ¬ t_0 < 0 ∧ t_0 < 3) (hd1 : ¬ t_1 < 0 ∧ t_1 < 3) (hd2 : ¬ t_2 < 0 ∧ t_2 < 3) (hn : ¬ (3 : Int32) < n_1) :
    MetFree l (⟨"com/example/fovea/fovea/Memory$Key", "equals", "(Ljava/lang/Object;)Z"⟩ : MethodName) (head1 (Jvm.Cond.code (⟨"com/example/fovea/fovea/Memory$Key", "equals", "(Ljava/lang/Object;)Z"⟩ : MethodName) prog_37_method_6_code 5 (some .boolean) :: ws) ({ frames := 0, cells := 0, slots := 0, locals := 0 } : Room)) (fun a U => a = #[(.ref a_o), (.ref b_o)] ∧ Z.Warmed39 U.vm ∧ U.heap = h0) (fun _ _ _ _ _ => True) (fun _ U o U' => ∃ v L, o = .returned v ∧ Qown_eq Z a_o b_o e_o s_o f_o t_o k_e k_s k_f k_t n_1 m_1 x_0 x_1 x_2 s_0 s_1 s_2 y_0 y_1 y_2 t_0 t_1 t_2 h0 n0 v U'.heap L ∧ FrameEnd U o U' L ({ frames := 0, cells := 0, slots := 0, locals := 0 } : Room).cells ({ frames := 0, cells := 0, slots := 0, locals := 0 } : Room).slots) := by
  refine MetFree.of_bodySF (plainFor_of_name own_pn1) hisR ?_
  intro p e s m args below meth c s₁ Bd hml0 hP hK
  obtain ⟨rfl, hZ, hh⟩ := hP
  have hx := Bd.exec
  have hby := Bd.bytes
  have hml : c.maxLocals = 5 := hml0
  have hown : s.vm.findClass "com/example/fovea/fovea/Memory$Key" = some m.cls := findClass_of_methodNamed Bd.named
  have hnm := (name_of_methodNamed Bd.named Bd.method).1
  have X0 : Stand p l e ({ frames := 0, cells := 0, slots := 0, locals := 0 } : Room) s m #[(.ref a_o), (.ref b_o)] below meth c s₁ [] 0 0 := Stand.of_body Bd
  have e0 : s₁.heap = h0 := by rw [← hh, Bd.state]; rfl
  have N0 := Fr.nil n0
  have pre0 : ∀ t, Steps p.tables e below (s₁.setTop (mkF m 0 #[.val (.ref a_o), .val (.ref b_o), .unset, .unset, .unset] [])) t → Steps p.tables e below (s₁.setTop (entryFrame m #[(.ref a_o), (.ref b_o)] 5)) t := fun t k => castTop (own_ef_own_eq m a_o b_o) k
  obtain ⟨T3, X3, e3, st3⟩ := instY X0 hx hZ hown (hw _ (List.mem_of_getElem? (i := 38) rfl)) e0 (Ins.self Eb) (g := (mkF m 1 #[.val (.ref a_o), .val (.ref b_o), .unset, .unset, .unset] [(.ref b_o)])) rfl rfl (hb hby own_d7_1)
  obtain ⟨T7, X7, e7, st7⟩ := castY X3 hx hZ hown (hw _ (List.mem_of_getElem? (i := 38) rfl)) e3 (Ins.self Eb) (g := (mkF m 10 #[.val (.ref a_o), .val (.ref b_o), .unset, .unset, .unset] [(.ref b_o)])) rfl rfl (hb hby own_d7_10)
  obtain ⟨T11, X11, e11, st11⟩ := getF X7 hx hZ hown (host := "") (Or.inl (hw _ (List.mem_of_getElem? (i := 21) rfl))) Via.refl e7 F_as (g := (mkF m 15 #[.val (.ref a_o), .val (.ref b_o), .val (.ref b_o), .unset, .unset] [(.ref a_o)])) rfl rfl (hb hby own_d7_15)
  obtain ⟨cl13, Ar13, -, S13, M13, -, -⟩ := id V_s
  obtain ⟨T16, X16, e16, st16⟩ := getF X11 hx hZ hown (host := "") (Or.inl (hw _ (List.mem_of_getElem? (i := 21) rfl))) Via.refl e11 F_bs (g := (mkF m 20 #[.val (.ref a_o), .val (.ref b_o), .val (.ref b_o), .unset, .unset] [(.ref b_o), (.int n_1)])) rfl rfl (hb hby own_d7_20)
  obtain ⟨cl18, Ar18, -, S18, M18, -, -⟩ := id V_t
  have pre20 : ∀ t, Steps p.tables e below (T16.setTop (mkF m 24 #[.val (.ref a_o), .val (.ref b_o), .val (.ref b_o), .unset, .unset] [(.int m_1), (.int n_1)])) t → Steps p.tables e below (s₁.setTop (entryFrame m #[(.ref a_o), (.ref b_o)] 5)) t := by
    intro t kt
    refine pre0 _ ?_
    show Steps p.tables e below (s₁.setTop (mkF m 0 #[.val (.ref a_o), .val (.ref b_o), .unset, .unset, .unset] [])) _
    refine XS.aloadN X0.here hx rfl (hb hby own_d7_0) rfl rfl ?_
    show Steps p.tables e below (s₁.setTop (mkF m 1 #[.val (.ref a_o), .val (.ref b_o), .unset, .unset, .unset] [(.ref b_o)])) _
    refine st3 _ ?_
    show Steps p.tables e below (T3.setTop (mkF m 4 #[.val (.ref a_o), .val (.ref b_o), .unset, .unset, .unset] [(.int (1 : Int32))])) _
    refine XS.ifYes X3.here hx rfl (pc0 := 4) (pc' := 9) rfl (hb hby own_d7_4) rfl ((if0 _ _).trans (feq ((by decide) : ¬ ((1 : Int32) = (0 : Int32)))).2) (by decide) (by decide) ?_
    show Steps p.tables e below (T3.setTop (mkF m 9 #[.val (.ref a_o), .val (.ref b_o), .unset, .unset, .unset] [])) _
    refine XS.aloadN X3.here hx rfl (hb hby own_d7_9) rfl rfl ?_
    show Steps p.tables e below (T3.setTop (mkF m 10 #[.val (.ref a_o), .val (.ref b_o), .unset, .unset, .unset] [(.ref b_o)])) _
    refine st7 _ ?_
    show Steps p.tables e below (T7.setTop (mkF m 13 #[.val (.ref a_o), .val (.ref b_o), .unset, .unset, .unset] [(.ref b_o)])) _
    refine XS.astoreN X7.here hx rfl (hb hby own_d7_13) rfl rfl (l' := #[.val (.ref a_o), .val (.ref b_o), .val (.ref b_o), .unset, .unset]) rfl ?_
    show Steps p.tables e below (T7.setTop (mkF m 14 #[.val (.ref a_o), .val (.ref b_o), .val (.ref b_o), .unset, .unset] [])) _
    refine XS.aloadN X7.here hx rfl (hb hby own_d7_14) rfl rfl ?_
    show Steps p.tables e below (T7.setTop (mkF m 15 #[.val (.ref a_o), .val (.ref b_o), .val (.ref b_o), .unset, .unset] [(.ref a_o)])) _
    refine st11 _ ?_
    show Steps p.tables e below (T11.setTop (mkF m 18 #[.val (.ref a_o), .val (.ref b_o), .val (.ref b_o), .unset, .unset] [(.ref s_o)])) _
    refine X11.arraylength hx (by rw [e11]; exact Ar13.1) (State.isArrayOf_alike hZ.alike Ar13.2.1) (g := (mkF m 18 #[.val (.ref a_o), .val (.ref b_o), .val (.ref b_o), .unset, .unset] [(.ref s_o)])) rfl rfl (hb hby own_d7_18) _ ?_
    rw [len_of S13 M13]
    show Steps p.tables e below (T11.setTop (mkF m 19 #[.val (.ref a_o), .val (.ref b_o), .val (.ref b_o), .unset, .unset] [(.int n_1)])) _
    refine XS.aloadN X11.here hx rfl (hb hby own_d7_19) rfl rfl ?_
    show Steps p.tables e below (T11.setTop (mkF m 20 #[.val (.ref a_o), .val (.ref b_o), .val (.ref b_o), .unset, .unset] [(.ref b_o), (.int n_1)])) _
    refine st16 _ ?_
    show Steps p.tables e below (T16.setTop (mkF m 23 #[.val (.ref a_o), .val (.ref b_o), .val (.ref b_o), .unset, .unset] [(.ref t_o), (.int n_1)])) _
    refine X16.arraylength hx (by rw [e16]; exact Ar18.1) (State.isArrayOf_alike hZ.alike Ar18.2.1) (g := (mkF m 23 #[.val (.ref a_o), .val (.ref b_o), .val (.ref b_o), .unset, .unset] [(.ref t_o), (.int n_1)])) rfl rfl (hb hby own_d7_23) _ ?_
    rw [len_of S18 M18]
    exact kt
  by_cases hc24_21 : n_1 = m_1
  · obtain ⟨T32, X32, e32, st32⟩ := getF X16 hx hZ hown (host := "") (Or.inl (hw _ (List.mem_of_getElem? (i := 21) rfl))) Via.refl e16 F_as (g := (mkF m 43 #[.val (.ref a_o), .val (.ref b_o), .val (.ref b_o), .val (.int (1 : Int32)), .val (.int (0 : Int32))] [(.ref a_o), (.int (0 : Int32))])) rfl rfl (hb hby own_d7_43)
    obtain ⟨cl34, Ar34, -, S34, M34, -, -⟩ := id V_s
    have pre36 : ∀ t, Steps p.tables e below (T32.setTop (mkF m 47 #[.val (.ref a_o), .val (.ref b_o), .val (.ref b_o), .val (.int (1 : Int32)), .val (.int (0 : Int32))] [(.int n_1), (.int (0 : Int32))])) t → Steps p.tables e below (s₁.setTop (entryFrame m #[(.ref a_o), (.ref b_o)] 5)) t := by
      intro t kt
      refine pre20 _ ?_
      show Steps p.tables e below (T16.setTop (mkF m 24 #[.val (.ref a_o), .val (.ref b_o), .val (.ref b_o), .unset, .unset] [(.int m_1), (.int n_1)])) _
      refine XS.icmpNo X16.here hx rfl (hb hby own_d7_24) rfl (teq hc24_21).2 ?_
      show Steps p.tables e below (T16.setTop (mkF m 27 #[.val (.ref a_o), .val (.ref b_o), .val (.ref b_o), .unset, .unset] [])) _
      refine XS.iconst X16.here hx rfl (hb hby own_d7_27) ?_
      show Steps p.tables e below (T16.setTop (mkF m 28 #[.val (.ref a_o), .val (.ref b_o), .val (.ref b_o), .unset, .unset] [(.int (1 : Int32))])) _
      refine XS.goto X16.here hx rfl (pc0 := 28) (pc' := 32) rfl (hb hby own_d7_28) (by decide) (by decide) ?_
      show Steps p.tables e below (T16.setTop (mkF m 32 #[.val (.ref a_o), .val (.ref b_o), .val (.ref b_o), .unset, .unset] [(.int (1 : Int32))])) _
      refine XS.istoreN X16.here hx rfl (hb hby own_d7_32) rfl (l' := #[.val (.ref a_o), .val (.ref b_o), .val (.ref b_o), .val (.int (1 : Int32)), .unset]) rfl ?_
      show Steps p.tables e below (T16.setTop (mkF m 33 #[.val (.ref a_o), .val (.ref b_o), .val (.ref b_o), .val (.int (1 : Int32)), .unset] [])) _
      refine XS.iconst X16.here hx rfl (hb hby own_d7_33) ?_
      show Steps p.tables e below (T16.setTop (mkF m 34 #[.val (.ref a_o), .val (.ref b_o), .val (.ref b_o), .val (.int (1 : Int32)), .unset] [(.int (0 : Int32))])) _
      refine XS.istore X16.here hx rfl (hb hby own_d7_34) rfl (l' := #[.val (.ref a_o), .val (.ref b_o), .val (.ref b_o), .val (.int (1 : Int32)), .val (.int (0 : Int32))]) rfl ?_
      show Steps p.tables e below (T16.setTop (mkF m 36 #[.val (.ref a_o), .val (.ref b_o), .val (.ref b_o), .val (.int (1 : Int32)), .val (.int (0 : Int32))] [])) _
      refine XS.iloadN X16.here hx rfl (hb hby own_d7_36) rfl ?_
      show Steps p.tables e below (T16.setTop (mkF m 37 #[.val (.ref a_o), .val (.ref b_o), .val (.ref b_o), .val (.int (1 : Int32)), .val (.int (0 : Int32))] [(.int (1 : Int32))])) _
      refine XS.ifNo X16.here hx rfl (hb hby own_d7_37) rfl ((if0 _ _).trans (feq ((by decide) : ¬ ((1 : Int32) = (0 : Int32)))).1) ?_
      show Steps p.tables e below (T16.setTop (mkF m 40 #[.val (.ref a_o), .val (.ref b_o), .val (.ref b_o), .val (.int (1 : Int32)), .val (.int (0 : Int32))] [])) _
      refine XS.iload X16.here hx rfl (hb hby own_d7_40) rfl ?_
      show Steps p.tables e below (T16.setTop (mkF m 42 #[.val (.ref a_o), .val (.ref b_o), .val (.ref b_o), .val (.int (1 : Int32)), .val (.int (0 : Int32))] [(.int (0 : Int32))])) _
      refine XS.aloadN X16.here hx rfl (hb hby own_d7_42) rfl rfl ?_
      show Steps p.tables e below (T16.setTop (mkF m 43 #[.val (.ref a_o), .val (.ref b_o), .val (.ref b_o), .val (.int (1 : Int32)), .val (.int (0 : Int32))] [(.ref a_o), (.int (0 : Int32))])) _
      refine st32 _ ?_
      show Steps p.tables e below (T32.setTop (mkF m 46 #[.val (.ref a_o), .val (.ref b_o), .val (.ref b_o), .val (.int (1 : Int32)), .val (.int (0 : Int32))] [(.ref s_o), (.int (0 : Int32))])) _
      refine X32.arraylength hx (by rw [e32]; exact Ar34.1) (State.isArrayOf_alike hZ.alike Ar34.2.1) (g := (mkF m 46 #[.val (.ref a_o), .val (.ref b_o), .val (.ref b_o), .val (.int (1 : Int32)), .val (.int (0 : Int32))] [(.ref s_o), (.int (0 : Int32))])) rfl rfl (hb hby own_d7_46) _ ?_
      rw [len_of S34 M34]
      exact kt
    by_cases hc47_37 : (0 : Int32) < n_1
    · obtain ⟨T40, X40, e40, st40⟩ := getF X32 hx hZ hown (host := "") (Or.inl (hw _ (List.mem_of_getElem? (i := 19) rfl))) Via.refl e32 F_ae (g := (mkF m 51 #[.val (.ref a_o), .val (.ref b_o), .val (.ref b_o), .val (.int (1 : Int32)), .val (.int (0 : Int32))] [(.ref a_o)])) rfl rfl (hb hby own_d7_51)
      obtain ⟨T43, X43, e43, st43⟩ := getF X40 hx hZ hown (host := "") (Or.inl (hw _ (List.mem_of_getElem? (i := 21) rfl))) Via.refl e40 F_as (g := (mkF m 55 #[.val (.ref a_o), .val (.ref b_o), .val (.ref b_o), .val (.int (1 : Int32)), .val (.int (0 : Int32))] [(.ref a_o), (.ref e_o)])) rfl rfl (hb hby own_d7_55)
      obtain ⟨cl46, Ar46, q46, S46, M46, H46, G46⟩ := id V_s
      have hin46 : ¬ ((0 : Int32) < 0 ∨ cl46.slots.size ≤ ((0 : Int32)).toNatClampNeg) := inb_of S46 ⟨by decide, hc47_37⟩
      have hat46 : cl46.slots[((0 : Int32)).toNatClampNeg]? = some (.int s_0) := H46.at hin46 rfl
      obtain ⟨cl48, Ar48, q48, S48, M48, H48, G48⟩ := id V_e
      have hin48 : ¬ (s_0 < 0 ∨ cl48.slots.size ≤ (s_0).toNatClampNeg) := inb_of S48 hb0
      have hat48 : cl48.slots[(s_0).toNatClampNeg]? = some (.int (own_sel x_0 x_1 x_2 s_0)) := H48.at hin48 (own_sel_get _ _ _ _ _ hb0)
      obtain ⟨T51, X51, e51, st51⟩ := getF X43 hx hZ hown (host := "") (Or.inl (hw _ (List.mem_of_getElem? (i := 19) rfl))) Via.refl e43 F_be (g := (mkF m 63 #[.val (.ref a_o), .val (.ref b_o), .val (.ref b_o), .val (.int (1 : Int32)), .val (.int (0 : Int32))] [(.ref b_o), (.int (own_sel x_0 x_1 x_2 s_0))])) rfl rfl (hb hby own_d7_63)
      obtain ⟨T54, X54, e54, st54⟩ := getF X51 hx hZ hown (host := "") (Or.inl (hw _ (List.mem_of_getElem? (i := 21) rfl))) Via.refl e51 F_bs (g := (mkF m 67 #[.val (.ref a_o), .val (.ref b_o), .val (.ref b_o), .val (.int (1 : Int32)), .val (.int (0 : Int32))] [(.ref b_o), (.ref f_o), (.int (own_sel x_0 x_1 x_2 s_0))])) rfl rfl (hb hby own_d7_67)
      obtain ⟨cl57, Ar57, q57, S57, M57, H57, G57⟩ := id V_t
      have hin57 : ¬ ((0 : Int32) < 0 ∨ cl57.slots.size ≤ ((0 : Int32)).toNatClampNeg) := inb_of S57 ⟨by decide, hc24_21 ▸ hc47_37⟩
      have hat57 : cl57.slots[((0 : Int32)).toNatClampNeg]? = some (.int t_0) := H57.at hin57 rfl
      obtain ⟨cl59, Ar59, q59, S59, M59, H59, G59⟩ := id V_f
      have hin59 : ¬ (t_0 < 0 ∨ cl59.slots.size ≤ (t_0).toNatClampNeg) := inb_of S59 hd0
      have hat59 : cl59.slots[(t_0).toNatClampNeg]? = some (.int (own_sel y_0 y_1 y_2 t_0)) := H59.at hin59 (own_sel_get _ _ _ _ _ hd0)
      have pre61 : ∀ t, Steps p.tables e below (T54.setTop (mkF m 74 #[.val (.ref a_o), .val (.ref b_o), .val (.ref b_o), .val (.int (1 : Int32)), .val (.int (0 : Int32))] [(.int (own_sel y_0 y_1 y_2 t_0)), (.int (own_sel x_0 x_1 x_2 s_0))])) t → Steps p.tables e below (s₁.setTop (entryFrame m #[(.ref a_o), (.ref b_o)] 5)) t := by
        intro t kt
        refine pre36 _ ?_
        show Steps p.tables e below (T32.setTop (mkF m 47 #[.val (.ref a_o), .val (.ref b_o), .val (.ref b_o), .val (.int (1 : Int32)), .val (.int (0 : Int32))] [(.int n_1), (.int (0 : Int32))])) _
        refine XS.icmpNo X32.here hx rfl (hb hby own_d7_47) rfl (tlt hc47_37).2.1 ?_
        show Steps p.tables e below (T32.setTop (mkF m 50 #[.val (.ref a_o), .val (.ref b_o), .val (.ref b_o), .val (.int (1 : Int32)), .val (.int (0 : Int32))] [])) _
        refine XS.aloadN X32.here hx rfl (hb hby own_d7_50) rfl rfl ?_
        show Steps p.tables e below (T32.setTop (mkF m 51 #[.val (.ref a_o), .val (.ref b_o), .val (.ref b_o), .val (.int (1 : Int32)), .val (.int (0 : Int32))] [(.ref a_o)])) _
        refine st40 _ ?_
        show Steps p.tables e below (T40.setTop (mkF m 54 #[.val (.ref a_o), .val (.ref b_o), .val (.ref b_o), .val (.int (1 : Int32)), .val (.int (0 : Int32))] [(.ref e_o)])) _
        refine XS.aloadN X40.here hx rfl (hb hby own_d7_54) rfl rfl ?_
        show Steps p.tables e below (T40.setTop (mkF m 55 #[.val (.ref a_o), .val (.ref b_o), .val (.ref b_o), .val (.int (1 : Int32)), .val (.int (0 : Int32))] [(.ref a_o), (.ref e_o)])) _
        refine st43 _ ?_
        show Steps p.tables e below (T43.setTop (mkF m 58 #[.val (.ref a_o), .val (.ref b_o), .val (.ref b_o), .val (.int (1 : Int32)), .val (.int (0 : Int32))] [(.ref s_o), (.ref e_o)])) _
        refine XS.iload X43.here hx rfl (hb hby own_d7_58) rfl ?_
        show Steps p.tables e below (T43.setTop (mkF m 60 #[.val (.ref a_o), .val (.ref b_o), .val (.ref b_o), .val (.int (1 : Int32)), .val (.int (0 : Int32))] [(.int (0 : Int32)), (.ref s_o), (.ref e_o)])) _
        refine X43.iaload hx (j := (0 : Int32)) (v := (.int s_0)) (by rw [e43]; exact Ar46.1) (State.isArrayOf_alike hZ.alike Ar46.2.1) Ar46.2.2 hin46 hat46 (g := (mkF m 60 #[.val (.ref a_o), .val (.ref b_o), .val (.ref b_o), .val (.int (1 : Int32)), .val (.int (0 : Int32))] [(.int (0 : Int32)), (.ref s_o), (.ref e_o)])) rfl rfl (hb hby own_d7_60) _ ?_
        show Steps p.tables e below (T43.setTop (mkF m 61 #[.val (.ref a_o), .val (.ref b_o), .val (.ref b_o), .val (.int (1 : Int32)), .val (.int (0 : Int32))] [(.int s_0), (.ref e_o)])) _
        refine X43.iaload hx (j := s_0) (v := (.int (own_sel x_0 x_1 x_2 s_0))) (by rw [e43]; exact Ar48.1) (State.isArrayOf_alike hZ.alike Ar48.2.1) Ar48.2.2 hin48 hat48 (g := (mkF m 61 #[.val (.ref a_o), .val (.ref b_o), .val (.ref b_o), .val (.int (1 : Int32)), .val (.int (0 : Int32))] [(.int s_0), (.ref e_o)])) rfl rfl (hb hby own_d7_61) _ ?_
        show Steps p.tables e below (T43.setTop (mkF m 62 #[.val (.ref a_o), .val (.ref b_o), .val (.ref b_o), .val (.int (1 : Int32)), .val (.int (0 : Int32))] [(.int (own_sel x_0 x_1 x_2 s_0))])) _
        refine XS.aloadN X43.here hx rfl (hb hby own_d7_62) rfl rfl ?_
        show Steps p.tables e below (T43.setTop (mkF m 63 #[.val (.ref a_o), .val (.ref b_o), .val (.ref b_o), .val (.int (1 : Int32)), .val (.int (0 : Int32))] [(.ref b_o), (.int (own_sel x_0 x_1 x_2 s_0))])) _
        refine st51 _ ?_
        show Steps p.tables e below (T51.setTop (mkF m 66 #[.val (.ref a_o), .val (.ref b_o), .val (.ref b_o), .val (.int (1 : Int32)), .val (.int (0 : Int32))] [(.ref f_o), (.int (own_sel x_0 x_1 x_2 s_0))])) _
        refine XS.aloadN X51.here hx rfl (hb hby own_d7_66) rfl rfl ?_
        show Steps p.tables e below (T51.setTop (mkF m 67 #[.val (.ref a_o), .val (.ref b_o), .val (.ref b_o), .val (.int (1 : Int32)), .val (.int (0 : Int32))] [(.ref b_o), (.ref f_o), (.int (own_sel x_0 x_1 x_2 s_0))])) _
        refine st54 _ ?_
        show Steps p.tables e below (T54.setTop (mkF m 70 #[.val (.ref a_o), .val (.ref b_o), .val (.ref b_o), .val (.int (1 : Int32)), .val (.int (0 : Int32))] [(.ref t_o), (.ref f_o), (.int (own_sel x_0 x_1 x_2 s_0))])) _
        refine XS.iload X54.here hx rfl (hb hby own_d7_70) rfl ?_
        show Steps p.tables e below (T54.setTop (mkF m 72 #[.val (.ref a_o), .val (.ref b_o), .val (.ref b_o), .val (.int (1 : Int32)), .val (.int (0 : Int32))] [(.int (0 : Int32)), (.ref t_o), (.ref f_o), (.int (own_sel x_0 x_1 x_2 s_0))])) _
        refine X54.iaload hx (j := (0 : Int32)) (v := (.int t_0)) (by rw [e54]; exact Ar57.1) (State.isArrayOf_alike hZ.alike Ar57.2.1) Ar57.2.2 hin57 hat57 (g := (mkF m 72 #[.val (.ref a_o), .val (.ref b_o), .val (.ref b_o), .val (.int (1 : Int32)), .val (.int (0 : Int32))] [(.int (0 : Int32)), (.ref t_o), (.ref f_o), (.int (own_sel x_0 x_1 x_2 s_0))])) rfl rfl (hb hby own_d7_72) _ ?_
        show Steps p.tables e below (T54.setTop (mkF m 73 #[.val (.ref a_o), .val (.ref b_o), .val (.ref b_o), .val (.int (1 : Int32)), .val (.int (0 : Int32))] [(.int t_0), (.ref f_o), (.int (own_sel x_0 x_1 x_2 s_0))])) _
        refine X54.iaload hx (j := t_0) (v := (.int (own_sel y_0 y_1 y_2 t_0))) (by rw [e54]; exact Ar59.1) (State.isArrayOf_alike hZ.alike Ar59.2.1) Ar59.2.2 hin59 hat59 (g := (mkF m 73 #[.val (.ref a_o), .val (.ref b_o), .val (.ref b_o), .val (.int (1 : Int32)), .val (.int (0 : Int32))] [(.int t_0), (.ref f_o), (.int (own_sel x_0 x_1 x_2 s_0))])) rfl rfl (hb hby own_d7_73) _ ?_
        exact kt
      by_cases hc74_62 : (own_sel x_0 x_1 x_2 s_0) = (own_sel y_0 y_1 y_2 t_0)
      · obtain ⟨T73, X73, e73, st73⟩ := getF X54 hx hZ hown (host := "") (Or.inl (hw _ (List.mem_of_getElem? (i := 21) rfl))) Via.refl e54 F_as (g := (mkF m 43 #[.val (.ref a_o), .val (.ref b_o), .val (.ref b_o), .val (.int (1 : Int32)), .val (.int (1 : Int32))] [(.ref a_o), (.int (1 : Int32))])) rfl rfl (hb hby own_d7_43)
        obtain ⟨cl75, Ar75, -, S75, M75, -, -⟩ := id V_s
        have pre77 : ∀ t, Steps p.tables e below (T73.setTop (mkF m 47 #[.val (.ref a_o), .val (.ref b_o), .val (.ref b_o), .val (.int (1 : Int32)), .val (.int (1 : Int32))] [(.int n_1), (.int (1 : Int32))])) t → Steps p.tables e below (s₁.setTop (entryFrame m #[(.ref a_o), (.ref b_o)] 5)) t := by
          intro t kt
          refine pre61 _ ?_
          show Steps p.tables e below (T54.setTop (mkF m 74 #[.val (.ref a_o), .val (.ref b_o), .val (.ref b_o), .val (.int (1 : Int32)), .val (.int (0 : Int32))] [(.int (own_sel y_0 y_1 y_2 t_0)), (.int (own_sel x_0 x_1 x_2 s_0))])) _
          refine XS.icmpNo X54.here hx rfl (hb hby own_d7_74) rfl (teq hc74_62).2 ?_
          show Steps p.tables e below (T54.setTop (mkF m 77 #[.val (.ref a_o), .val (.ref b_o), .val (.ref b_o), .val (.int (1 : Int32)), .val (.int (0 : Int32))] [])) _
          refine XS.iconst X54.here hx rfl (hb hby own_d7_77) ?_
          show Steps p.tables e below (T54.setTop (mkF m 78 #[.val (.ref a_o), .val (.ref b_o), .val (.ref b_o), .val (.int (1 : Int32)), .val (.int (0 : Int32))] [(.int (1 : Int32))])) _
          refine XS.goto X54.here hx rfl (pc0 := 78) (pc' := 82) rfl (hb hby own_d7_78) (by decide) (by decide) ?_
          show Steps p.tables e below (T54.setTop (mkF m 82 #[.val (.ref a_o), .val (.ref b_o), .val (.ref b_o), .val (.int (1 : Int32)), .val (.int (0 : Int32))] [(.int (1 : Int32))])) _
          refine XS.istoreN X54.here hx rfl (hb hby own_d7_82) rfl (l' := #[.val (.ref a_o), .val (.ref b_o), .val (.ref b_o), .val (.int (1 : Int32)), .val (.int (0 : Int32))]) rfl ?_
          show Steps p.tables e below (T54.setTop (mkF m 83 #[.val (.ref a_o), .val (.ref b_o), .val (.ref b_o), .val (.int (1 : Int32)), .val (.int (0 : Int32))] [])) _
          refine XS.iinc X54.here hx rfl (hb hby own_d7_83) rfl (l' := #[.val (.ref a_o), .val (.ref b_o), .val (.ref b_o), .val (.int (1 : Int32)), .val (.int (1 : Int32))]) rfl ?_
          show Steps p.tables e below (T54.setTop (mkF m 86 #[.val (.ref a_o), .val (.ref b_o), .val (.ref b_o), .val (.int (1 : Int32)), .val (.int (1 : Int32))] [])) _
          refine XS.goto X54.here hx rfl (pc0 := 86) (pc' := 36) rfl (hb hby own_d7_86) (by decide) (by decide) ?_
          show Steps p.tables e below (T54.setTop (mkF m 36 #[.val (.ref a_o), .val (.ref b_o), .val (.ref b_o), .val (.int (1 : Int32)), .val (.int (1 : Int32))] [])) _
          refine XS.iloadN X54.here hx rfl (hb hby own_d7_36) rfl ?_
          show Steps p.tables e below (T54.setTop (mkF m 37 #[.val (.ref a_o), .val (.ref b_o), .val (.ref b_o), .val (.int (1 : Int32)), .val (.int (1 : Int32))] [(.int (1 : Int32))])) _
          refine XS.ifNo X54.here hx rfl (hb hby own_d7_37) rfl ((if0 _ _).trans (feq ((by decide) : ¬ ((1 : Int32) = (0 : Int32)))).1) ?_
          show Steps p.tables e below (T54.setTop (mkF m 40 #[.val (.ref a_o), .val (.ref b_o), .val (.ref b_o), .val (.int (1 : Int32)), .val (.int (1 : Int32))] [])) _
          refine XS.iload X54.here hx rfl (hb hby own_d7_40) rfl ?_
          show Steps p.tables e below (T54.setTop (mkF m 42 #[.val (.ref a_o), .val (.ref b_o), .val (.ref b_o), .val (.int (1 : Int32)), .val (.int (1 : Int32))] [(.int (1 : Int32))])) _
          refine XS.aloadN X54.here hx rfl (hb hby own_d7_42) rfl rfl ?_
          show Steps p.tables e below (T54.setTop (mkF m 43 #[.val (.ref a_o), .val (.ref b_o), .val (.ref b_o), .val (.int (1 : Int32)), .val (.int (1 : Int32))] [(.ref a_o), (.int (1 : Int32))])) _
          refine st73 _ ?_
          show Steps p.tables e below (T73.setTop (mkF m 46 #[.val (.ref a_o), .val (.ref b_o), .val (.ref b_o), .val (.int (1 : Int32)), .val (.int (1 : Int32))] [(.ref s_o), (.int (1 : Int32))])) _
          refine X73.arraylength hx (by rw [e73]; exact Ar75.1) (State.isArrayOf_alike hZ.alike Ar75.2.1) (g := (mkF m 46 #[.val (.ref a_o), .val (.ref b_o), .val (.ref b_o), .val (.int (1 : Int32)), .val (.int (1 : Int32))] [(.ref s_o), (.int (1 : Int32))])) rfl rfl (hb hby own_d7_46) _ ?_
          rw [len_of S75 M75]
          exact kt
        by_cases hc47_78 : (1 : Int32) < n_1
        · obtain ⟨T81, X81, e81, st81⟩ := getF X73 hx hZ hown (host := "") (Or.inl (hw _ (List.mem_of_getElem? (i := 19) rfl))) Via.refl e73 F_ae (g := (mkF m 51 #[.val (.ref a_o), .val (.ref b_o), .val (.ref b_o), .val (.int (1 : Int32)), .val (.int (1 : Int32))] [(.ref a_o)])) rfl rfl (hb hby own_d7_51)
          obtain ⟨T84, X84, e84, st84⟩ := getF X81 hx hZ hown (host := "") (Or.inl (hw _ (List.mem_of_getElem? (i := 21) rfl))) Via.refl e81 F_as (g := (mkF m 55 #[.val (.ref a_o), .val (.ref b_o), .val (.ref b_o), .val (.int (1 : Int32)), .val (.int (1 : Int32))] [(.ref a_o), (.ref e_o)])) rfl rfl (hb hby own_d7_55)
          obtain ⟨cl87, Ar87, q87, S87, M87, H87, G87⟩ := id V_s
          have hin87 : ¬ ((1 : Int32) < 0 ∨ cl87.slots.size ≤ ((1 : Int32)).toNatClampNeg) := inb_of S87 ⟨by decide, hc47_78⟩
          have hat87 : cl87.slots[((1 : Int32)).toNatClampNeg]? = some (.int s_1) := H87.at hin87 rfl
          obtain ⟨cl89, Ar89, q89, S89, M89, H89, G89⟩ := id V_e
          have hin89 : ¬ (s_1 < 0 ∨ cl89.slots.size ≤ (s_1).toNatClampNeg) := inb_of S89 hb1
          have hat89 : cl89.slots[(s_1).toNatClampNeg]? = some (.int (own_sel x_0 x_1 x_2 s_1)) := H89.at hin89 (own_sel_get _ _ _ _ _ hb1)
          obtain ⟨T92, X92, e92, st92⟩ := getF X84 hx hZ hown (host := "") (Or.inl (hw _ (List.mem_of_getElem? (i := 19) rfl))) Via.refl e84 F_be (g := (mkF m 63 #[.val (.ref a_o), .val (.ref b_o), .val (.ref b_o), .val (.int (1 : Int32)), .val (.int (1 : Int32))] [(.ref b_o), (.int (own_sel x_0 x_1 x_2 s_1))])) rfl rfl (hb hby own_d7_63)
          obtain ⟨T95, X95, e95, st95⟩ := getF X92 hx hZ hown (host := "") (Or.inl (hw _ (List.mem_of_getElem? (i := 21) rfl))) Via.refl e92 F_bs (g := (mkF m 67 #[.val (.ref a_o), .val (.ref b_o), .val (.ref b_o), .val (.int (1 : Int32)), .val (.int (1 : Int32))] [(.ref b_o), (.ref f_o), (.int (own_sel x_0 x_1 x_2 s_1))])) rfl rfl (hb hby own_d7_67)
          obtain ⟨cl98, Ar98, q98, S98, M98, H98, G98⟩ := id V_t
          have hin98 : ¬ ((1 : Int32) < 0 ∨ cl98.slots.size ≤ ((1 : Int32)).toNatClampNeg) := inb_of S98 ⟨by decide, hc24_21 ▸ hc47_78⟩
          have hat98 : cl98.slots[((1 : Int32)).toNatClampNeg]? = some (.int t_1) := H98.at hin98 rfl
          obtain ⟨cl100, Ar100, q100, S100, M100, H100, G100⟩ := id V_f
          have hin100 : ¬ (t_1 < 0 ∨ cl100.slots.size ≤ (t_1).toNatClampNeg) := inb_of S100 hd1
          have hat100 : cl100.slots[(t_1).toNatClampNeg]? = some (.int (own_sel y_0 y_1 y_2 t_1)) := H100.at hin100 (own_sel_get _ _ _ _ _ hd1)
          have pre102 : ∀ t, Steps p.tables e below (T95.setTop (mkF m 74 #[.val (.ref a_o), .val (.ref b_o), .val (.ref b_o), .val (.int (1 : Int32)), .val (.int (1 : Int32))] [(.int (own_sel y_0 y_1 y_2 t_1)), (.int (own_sel x_0 x_1 x_2 s_1))])) t → Steps p.tables e below (s₁.setTop (entryFrame m #[(.ref a_o), (.ref b_o)] 5)) t := by
            intro t kt
            refine pre77 _ ?_
            show Steps p.tables e below (T73.setTop (mkF m 47 #[.val (.ref a_o), .val (.ref b_o), .val (.ref b_o), .val (.int (1 : Int32)), .val (.int (1 : Int32))] [(.int n_1), (.int (1 : Int32))])) _
            refine XS.icmpNo X73.here hx rfl (hb hby own_d7_47) rfl (tlt hc47_78).2.1 ?_
            show Steps p.tables e below (T73.setTop (mkF m 50 #[.val (.ref a_o), .val (.ref b_o), .val (.ref b_o), .val (.int (1 : Int32)), .val (.int (1 : Int32))] [])) _
            refine XS.aloadN X73.here hx rfl (hb hby own_d7_50) rfl rfl ?_
            show Steps p.tables e below (T73.setTop (mkF m 51 #[.val (.ref a_o), .val (.ref b_o), .val (.ref b_o), .val (.int (1 : Int32)), .val (.int (1 : Int32))] [(.ref a_o)])) _
            refine st81 _ ?_
            show Steps p.tables e below (T81.setTop (mkF m 54 #[.val (.ref a_o), .val (.ref b_o), .val (.ref b_o), .val (.int (1 : Int32)), .val (.int (1 : Int32))] [(.ref e_o)])) _
            refine XS.aloadN X81.here hx rfl (hb hby own_d7_54) rfl rfl ?_
            show Steps p.tables e below (T81.setTop (mkF m 55 #[.val (.ref a_o), .val (.ref b_o), .val (.ref b_o), .val (.int (1 : Int32)), .val (.int (1 : Int32))] [(.ref a_o), (.ref e_o)])) _
            refine st84 _ ?_
            show Steps p.tables e below (T84.setTop (mkF m 58 #[.val (.ref a_o), .val (.ref b_o), .val (.ref b_o), .val (.int (1 : Int32)), .val (.int (1 : Int32))] [(.ref s_o), (.ref e_o)])) _
            refine XS.iload X84.here hx rfl (hb hby own_d7_58) rfl ?_
            show Steps p.tables e below (T84.setTop (mkF m 60 #[.val (.ref a_o), .val (.ref b_o), .val (.ref b_o), .val (.int (1 : Int32)), .val (.int (1 : Int32))] [(.int (1 : Int32)), (.ref s_o), (.ref e_o)])) _
            refine X84.iaload hx (j := (1 : Int32)) (v := (.int s_1)) (by rw [e84]; exact Ar87.1) (State.isArrayOf_alike hZ.alike Ar87.2.1) Ar87.2.2 hin87 hat87 (g := (mkF m 60 #[.val (.ref a_o), .val (.ref b_o), .val (.ref b_o), .val (.int (1 : Int32)), .val (.int (1 : Int32))] [(.int (1 : Int32)), (.ref s_o), (.ref e_o)])) rfl rfl (hb hby own_d7_60) _ ?_
            show Steps p.tables e below (T84.setTop (mkF m 61 #[.val (.ref a_o), .val (.ref b_o), .val (.ref b_o), .val (.int (1 : Int32)), .val (.int (1 : Int32))] [(.int s_1), (.ref e_o)])) _
            refine X84.iaload hx (j := s_1) (v := (.int (own_sel x_0 x_1 x_2 s_1))) (by rw [e84]; exact Ar89.1) (State.isArrayOf_alike hZ.alike Ar89.2.1) Ar89.2.2 hin89 hat89 (g := (mkF m 61 #[.val (.ref a_o), .val (.ref b_o), .val (.ref b_o), .val (.int (1 : Int32)), .val (.int (1 : Int32))] [(.int s_1), (.ref e_o)])) rfl rfl (hb hby own_d7_61) _ ?_
            show Steps p.tables e below (T84.setTop (mkF m 62 #[.val (.ref a_o), .val (.ref b_o), .val (.ref b_o), .val (.int (1 : Int32)), .val (.int (1 : Int32))] [(.int (own_sel x_0 x_1 x_2 s_1))])) _
            refine XS.aloadN X84.here hx rfl (hb hby own_d7_62) rfl rfl ?_
            show Steps p.tables e below (T84.setTop (mkF m 63 #[.val (.ref a_o), .val (.ref b_o), .val (.ref b_o), .val (.int (1 : Int32)), .val (.int (1 : Int32))] [(.ref b_o), (.int (own_sel x_0 x_1 x_2 s_1))])) _
            refine st92 _ ?_
            show Steps p.tables e below (T92.setTop (mkF m 66 #[.val (.ref a_o), .val (.ref b_o), .val (.ref b_o), .val (.int (1 : Int32)), .val (.int (1 : Int32))] [(.ref f_o), (.int (own_sel x_0 x_1 x_2 s_1))])) _
            refine XS.aloadN X92.here hx rfl (hb hby own_d7_66) rfl rfl ?_
            show Steps p.tables e below (T92.setTop (mkF m 67 #[.val (.ref a_o), .val (.ref b_o), .val (.ref b_o), .val (.int (1 : Int32)), .val (.int (1 : Int32))] [(.ref b_o), (.ref f_o), (.int (own_sel x_0 x_1 x_2 s_1))])) _
            refine st95 _ ?_
            show Steps p.tables e below (T95.setTop (mkF m 70 #[.val (.ref a_o), .val (.ref b_o), .val (.ref b_o), .val (.int (1 : Int32)), .val (.int (1 : Int32))] [(.ref t_o), (.ref f_o), (.int (own_sel x_0 x_1 x_2 s_1))])) _
            refine XS.iload X95.here hx rfl (hb hby own_d7_70) rfl ?_
            show Steps p.tables e below (T95.setTop (mkF m 72 #[.val (.ref a_o), .val (.ref b_o), .val (.ref b_o), .val (.int (1 : Int32)), .val (.int (1 : Int32))] [(.int (1 : Int32)), (.ref t_o), (.ref f_o), (.int (own_sel x_0 x_1 x_2 s_1))])) _
            refine X95.iaload hx (j := (1 : Int32)) (v := (.int t_1)) (by rw [e95]; exact Ar98.1) (State.isArrayOf_alike hZ.alike Ar98.2.1) Ar98.2.2 hin98 hat98 (g := (mkF m 72 #[.val (.ref a_o), .val (.ref b_o), .val (.ref b_o), .val (.int (1 : Int32)), .val (.int (1 : Int32))] [(.int (1 : Int32)), (.ref t_o), (.ref f_o), (.int (own_sel x_0 x_1 x_2 s_1))])) rfl rfl (hb hby own_d7_72) _ ?_
            show Steps p.tables e below (T95.setTop (mkF m 73 #[.val (.ref a_o), .val (.ref b_o), .val (.ref b_o), .val (.int (1 : Int32)), .val (.int (1 : Int32))] [(.int t_1), (.ref f_o), (.int (own_sel x_0 x_1 x_2 s_1))])) _
            refine X95.iaload hx (j := t_1) (v := (.int (own_sel y_0 y_1 y_2 t_1))) (by rw [e95]; exact Ar100.1) (State.isArrayOf_alike hZ.alike Ar100.2.1) Ar100.2.2 hin100 hat100 (g := (mkF m 73 #[.val (.ref a_o), .val (.ref b_o), .val (.ref b_o), .val (.int (1 : Int32)), .val (.int (1 : Int32))] [(.int t_1), (.ref f_o), (.int (own_sel x_0 x_1 x_2 s_1))])) rfl rfl (hb hby own_d7_73) _ ?_
            exact kt
          by_cases hc74_103 : (own_sel x_0 x_1 x_2 s_1) = (own_sel y_0 y_1 y_2 t_1)
          · obtain ⟨T114, X114, e114, st114⟩ := getF X95 hx hZ hown (host := "") (Or.inl (hw _ (List.mem_of_getElem? (i := 21) rfl))) Via.refl e95 F_as (g := (mkF m 43 #[.val (.ref a_o), .val (.ref b_o), .val (.ref b_o), .val (.int (1 : Int32)), .val (.int (2 : Int32))] [(.ref a_o), (.int (2 : Int32))])) rfl rfl (hb hby own_d7_43)
            obtain ⟨cl116, Ar116, -, S116, M116, -, -⟩ := id V_s
            have pre118 : ∀ t, Steps p.tables e below (T114.setTop (mkF m 47 #[.val (.ref a_o), .val (.ref b_o), .val (.ref b_o), .val (.int (1 : Int32)), .val (.int (2 : Int32))] [(.int n_1), (.int (2 : Int32))])) t → Steps p.tables e below (s₁.setTop (entryFrame m #[(.ref a_o), (.ref b_o)] 5)) t := by
              intro t kt
              refine pre102 _ ?_
              show Steps p.tables e below (T95.setTop (mkF m 74 #[.val (.ref a_o), .val (.ref b_o), .val (.ref b_o), .val (.int (1 : Int32)), .val (.int (1 : Int32))] [(.int (own_sel y_0 y_1 y_2 t_1)), (.int (own_sel x_0 x_1 x_2 s_1))])) _
              refine XS.icmpNo X95.here hx rfl (hb hby own_d7_74) rfl (teq hc74_103).2 ?_
              show Steps p.tables e below (T95.setTop (mkF m 77 #[.val (.ref a_o), .val (.ref b_o), .val (.ref b_o), .val (.int (1 : Int32)), .val (.int (1 : Int32))] [])) _
              refine XS.iconst X95.here hx rfl (hb hby own_d7_77) ?_
              show Steps p.tables e below (T95.setTop (mkF m 78 #[.val (.ref a_o), .val (.ref b_o), .val (.ref b_o), .val (.int (1 : Int32)), .val (.int (1 : Int32))] [(.int (1 : Int32))])) _
              refine XS.goto X95.here hx rfl (pc0 := 78) (pc' := 82) rfl (hb hby own_d7_78) (by decide) (by decide) ?_
              show Steps p.tables e below (T95.setTop (mkF m 82 #[.val (.ref a_o), .val (.ref b_o), .val (.ref b_o), .val (.int (1 : Int32)), .val (.int (1 : Int32))] [(.int (1 : Int32))])) _
              refine XS.istoreN X95.here hx rfl (hb hby own_d7_82) rfl (l' := #[.val (.ref a_o), .val (.ref b_o), .val (.ref b_o), .val (.int (1 : Int32)), .val (.int (1 : Int32))]) rfl ?_
              show Steps p.tables e below (T95.setTop (mkF m 83 #[.val (.ref a_o), .val (.ref b_o), .val (.ref b_o), .val (.int (1 : Int32)), .val (.int (1 : Int32))] [])) _
              refine XS.iinc X95.here hx rfl (hb hby own_d7_83) rfl (l' := #[.val (.ref a_o), .val (.ref b_o), .val (.ref b_o), .val (.int (1 : Int32)), .val (.int (2 : Int32))]) rfl ?_
              show Steps p.tables e below (T95.setTop (mkF m 86 #[.val (.ref a_o), .val (.ref b_o), .val (.ref b_o), .val (.int (1 : Int32)), .val (.int (2 : Int32))] [])) _
              refine XS.goto X95.here hx rfl (pc0 := 86) (pc' := 36) rfl (hb hby own_d7_86) (by decide) (by decide) ?_
              show Steps p.tables e below (T95.setTop (mkF m 36 #[.val (.ref a_o), .val (.ref b_o), .val (.ref b_o), .val (.int (1 : Int32)), .val (.int (2 : Int32))] [])) _
              refine XS.iloadN X95.here hx rfl (hb hby own_d7_36) rfl ?_
              show Steps p.tables e below (T95.setTop (mkF m 37 #[.val (.ref a_o), .val (.ref b_o), .val (.ref b_o), .val (.int (1 : Int32)), .val (.int (2 : Int32))] [(.int (1 : Int32))])) _
              refine XS.ifNo X95.here hx rfl (hb hby own_d7_37) rfl ((if0 _ _).trans (feq ((by decide) : ¬ ((1 : Int32) = (0 : Int32)))).1) ?_
              show Steps p.tables e below (T95.setTop (mkF m 40 #[.val (.ref a_o), .val (.ref b_o), .val (.ref b_o), .val (.int (1 : Int32)), .val (.int (2 : Int32))] [])) _
              refine XS.iload X95.here hx rfl (hb hby own_d7_40) rfl ?_
              show Steps p.tables e below (T95.setTop (mkF m 42 #[.val (.ref a_o), .val (.ref b_o), .val (.ref b_o), .val (.int (1 : Int32)), .val (.int (2 : Int32))] [(.int (2 : Int32))])) _
              refine XS.aloadN X95.here hx rfl (hb hby own_d7_42) rfl rfl ?_
              show Steps p.tables e below (T95.setTop (mkF m 43 #[.val (.ref a_o), .val (.ref b_o), .val (.ref b_o), .val (.int (1 : Int32)), .val (.int (2 : Int32))] [(.ref a_o), (.int (2 : Int32))])) _
              refine st114 _ ?_
              show Steps p.tables e below (T114.setTop (mkF m 46 #[.val (.ref a_o), .val (.ref b_o), .val (.ref b_o), .val (.int (1 : Int32)), .val (.int (2 : Int32))] [(.ref s_o), (.int (2 : Int32))])) _
              refine X114.arraylength hx (by rw [e114]; exact Ar116.1) (State.isArrayOf_alike hZ.alike Ar116.2.1) (g := (mkF m 46 #[.val (.ref a_o), .val (.ref b_o), .val (.ref b_o), .val (.int (1 : Int32)), .val (.int (2 : Int32))] [(.ref s_o), (.int (2 : Int32))])) rfl rfl (hb hby own_d7_46) _ ?_
              rw [len_of S116 M116]
              exact kt
            by_cases hc47_119 : (2 : Int32) < n_1
            · obtain ⟨T122, X122, e122, st122⟩ := getF X114 hx hZ hown (host := "") (Or.inl (hw _ (List.mem_of_getElem? (i := 19) rfl))) Via.refl e114 F_ae (g := (mkF m 51 #[.val (.ref a_o), .val (.ref b_o), .val (.ref b_o), .val (.int (1 : Int32)), .val (.int (2 : Int32))] [(.ref a_o)])) rfl rfl (hb hby own_d7_51)
              obtain ⟨T125, X125, e125, st125⟩ := getF X122 hx hZ hown (host := "") (Or.inl (hw _ (List.mem_of_getElem? (i := 21) rfl))) Via.refl e122 F_as (g := (mkF m 55 #[.val (.ref a_o), .val (.ref b_o), .val (.ref b_o), .val (.int (1 : Int32)), .val (.int (2 : Int32))] [(.ref a_o), (.ref e_o)])) rfl rfl (hb hby own_d7_55)
              obtain ⟨cl128, Ar128, q128, S128, M128, H128, G128⟩ := id V_s
              have hin128 : ¬ ((2 : Int32) < 0 ∨ cl128.slots.size ≤ ((2 : Int32)).toNatClampNeg) := inb_of S128 ⟨by decide, hc47_119⟩
              have hat128 : cl128.slots[((2 : Int32)).toNatClampNeg]? = some (.int s_2) := H128.at hin128 rfl
              obtain ⟨cl130, Ar130, q130, S130, M130, H130, G130⟩ := id V_e
              have hin130 : ¬ (s_2 < 0 ∨ cl130.slots.size ≤ (s_2).toNatClampNeg) := inb_of S130 hb2
              have hat130 : cl130.slots[(s_2).toNatClampNeg]? = some (.int (own_sel x_0 x_1 x_2 s_2)) := H130.at hin130 (own_sel_get _ _ _ _ _ hb2)
              obtain ⟨T133, X133, e133, st133⟩ := getF X125 hx hZ hown (host := "") (Or.inl (hw _ (List.mem_of_getElem? (i := 19) rfl))) Via.refl e125 F_be (g := (mkF m 63 #[.val (.ref a_o), .val (.ref b_o), .val (.ref b_o), .val (.int (1 : Int32)), .val (.int (2 : Int32))] [(.ref b_o), (.int (own_sel x_0 x_1 x_2 s_2))])) rfl rfl (hb hby own_d7_63)
              obtain ⟨T136, X136, e136, st136⟩ := getF X133 hx hZ hown (host := "") (Or.inl (hw _ (List.mem_of_getElem? (i := 21) rfl))) Via.refl e133 F_bs (g := (mkF m 67 #[.val (.ref a_o), .val (.ref b_o), .val (.ref b_o), .val (.int (1 : Int32)), .val (.int (2 : Int32))] [(.ref b_o), (.ref f_o), (.int (own_sel x_0 x_1 x_2 s_2))])) rfl rfl (hb hby own_d7_67)
              obtain ⟨cl139, Ar139, q139, S139, M139, H139, G139⟩ := id V_t
              have hin139 : ¬ ((2 : Int32) < 0 ∨ cl139.slots.size ≤ ((2 : Int32)).toNatClampNeg) := inb_of S139 ⟨by decide, hc24_21 ▸ hc47_119⟩
              have hat139 : cl139.slots[((2 : Int32)).toNatClampNeg]? = some (.int t_2) := H139.at hin139 rfl
              obtain ⟨cl141, Ar141, q141, S141, M141, H141, G141⟩ := id V_f
              have hin141 : ¬ (t_2 < 0 ∨ cl141.slots.size ≤ (t_2).toNatClampNeg) := inb_of S141 hd2
              have hat141 : cl141.slots[(t_2).toNatClampNeg]? = some (.int (own_sel y_0 y_1 y_2 t_2)) := H141.at hin141 (own_sel_get _ _ _ _ _ hd2)
              have pre143 : ∀ t, Steps p.tables e below (T136.setTop (mkF m 74 #[.val (.ref a_o), .val (.ref b_o), .val (.ref b_o), .val (.int (1 : Int32)), .val (.int (2 : Int32))] [(.int (own_sel y_0 y_1 y_2 t_2)), (.int (own_sel x_0 x_1 x_2 s_2))])) t → Steps p.tables e below (s₁.setTop (entryFrame m #[(.ref a_o), (.ref b_o)] 5)) t := by
                intro t kt
                refine pre118 _ ?_
                show Steps p.tables e below (T114.setTop (mkF m 47 #[.val (.ref a_o), .val (.ref b_o), .val (.ref b_o), .val (.int (1 : Int32)), .val (.int (2 : Int32))] [(.int n_1), (.int (2 : Int32))])) _
                refine XS.icmpNo X114.here hx rfl (hb hby own_d7_47) rfl (tlt hc47_119).2.1 ?_
                show Steps p.tables e below (T114.setTop (mkF m 50 #[.val (.ref a_o), .val (.ref b_o), .val (.ref b_o), .val (.int (1 : Int32)), .val (.int (2 : Int32))] [])) _
                refine XS.aloadN X114.here hx rfl (hb hby own_d7_50) rfl rfl ?_
                show Steps p.tables e below (T114.setTop (mkF m 51 #[.val (.ref a_o), .val (.ref b_o), .val (.ref b_o), .val (.int (1 : Int32)), .val (.int (2 : Int32))] [(.ref a_o)])) _
                refine st122 _ ?_
                show Steps p.tables e below (T122.setTop (mkF m 54 #[.val (.ref a_o), .val (.ref b_o), .val (.ref b_o), .val (.int (1 : Int32)), .val (.int (2 : Int32))] [(.ref e_o)])) _
                refine XS.aloadN X122.here hx rfl (hb hby own_d7_54) rfl rfl ?_
                show Steps p.tables e below (T122.setTop (mkF m 55 #[.val (.ref a_o), .val (.ref b_o), .val (.ref b_o), .val (.int (1 : Int32)), .val (.int (2 : Int32))] [(.ref a_o), (.ref e_o)])) _
                refine st125 _ ?_
                show Steps p.tables e below (T125.setTop (mkF m 58 #[.val (.ref a_o), .val (.ref b_o), .val (.ref b_o), .val (.int (1 : Int32)), .val (.int (2 : Int32))] [(.ref s_o), (.ref e_o)])) _
                refine XS.iload X125.here hx rfl (hb hby own_d7_58) rfl ?_
                show Steps p.tables e below (T125.setTop (mkF m 60 #[.val (.ref a_o), .val (.ref b_o), .val (.ref b_o), .val (.int (1 : Int32)), .val (.int (2 : Int32))] [(.int (2 : Int32)), (.ref s_o), (.ref e_o)])) _
                refine X125.iaload hx (j := (2 : Int32)) (v := (.int s_2)) (by rw [e125]; exact Ar128.1) (State.isArrayOf_alike hZ.alike Ar128.2.1) Ar128.2.2 hin128 hat128 (g := (mkF m 60 #[.val (.ref a_o), .val (.ref b_o), .val (.ref b_o), .val (.int (1 : Int32)), .val (.int (2 : Int32))] [(.int (2 : Int32)), (.ref s_o), (.ref e_o)])) rfl rfl (hb hby own_d7_60) _ ?_
                show Steps p.tables e below (T125.setTop (mkF m 61 #[.val (.ref a_o), .val (.ref b_o), .val (.ref b_o), .val (.int (1 : Int32)), .val (.int (2 : Int32))] [(.int s_2), (.ref e_o)])) _
                refine X125.iaload hx (j := s_2) (v := (.int (own_sel x_0 x_1 x_2 s_2))) (by rw [e125]; exact Ar130.1) (State.isArrayOf_alike hZ.alike Ar130.2.1) Ar130.2.2 hin130 hat130 (g := (mkF m 61 #[.val (.ref a_o), .val (.ref b_o), .val (.ref b_o), .val (.int (1 : Int32)), .val (.int (2 : Int32))] [(.int s_2), (.ref e_o)])) rfl rfl (hb hby own_d7_61) _ ?_
                show Steps p.tables e below (T125.setTop (mkF m 62 #[.val (.ref a_o), .val (.ref b_o), .val (.ref b_o), .val (.int (1 : Int32)), .val (.int (2 : Int32))] [(.int (own_sel x_0 x_1 x_2 s_2))])) _
                refine XS.aloadN X125.here hx rfl (hb hby own_d7_62) rfl rfl ?_
                show Steps p.tables e below (T125.setTop (mkF m 63 #[.val (.ref a_o), .val (.ref b_o), .val (.ref b_o), .val (.int (1 : Int32)), .val (.int (2 : Int32))] [(.ref b_o), (.int (own_sel x_0 x_1 x_2 s_2))])) _
                refine st133 _ ?_
                show Steps p.tables e below (T133.setTop (mkF m 66 #[.val (.ref a_o), .val (.ref b_o), .val (.ref b_o), .val (.int (1 : Int32)), .val (.int (2 : Int32))] [(.ref f_o), (.int (own_sel x_0 x_1 x_2 s_2))])) _
                refine XS.aloadN X133.here hx rfl (hb hby own_d7_66) rfl rfl ?_
                show Steps p.tables e below (T133.setTop (mkF m 67 #[.val (.ref a_o), .val (.ref b_o), .val (.ref b_o), .val (.int (1 : Int32)), .val (.int (2 : Int32))] [(.ref b_o), (.ref f_o), (.int (own_sel x_0 x_1 x_2 s_2))])) _
                refine st136 _ ?_
                show Steps p.tables e below (T136.setTop (mkF m 70 #[.val (.ref a_o), .val (.ref b_o), .val (.ref b_o), .val (.int (1 : Int32)), .val (.int (2 : Int32))] [(.ref t_o), (.ref f_o), (.int (own_sel x_0 x_1 x_2 s_2))])) _
                refine XS.iload X136.here hx rfl (hb hby own_d7_70) rfl ?_
                show Steps p.tables e below (T136.setTop (mkF m 72 #[.val (.ref a_o), .val (.ref b_o), .val (.ref b_o), .val (.int (1 : Int32)), .val (.int (2 : Int32))] [(.int (2 : Int32)), (.ref t_o), (.ref f_o), (.int (own_sel x_0 x_1 x_2 s_2))])) _
                refine X136.iaload hx (j := (2 : Int32)) (v := (.int t_2)) (by rw [e136]; exact Ar139.1) (State.isArrayOf_alike hZ.alike Ar139.2.1) Ar139.2.2 hin139 hat139 (g := (mkF m 72 #[.val (.ref a_o), .val (.ref b_o), .val (.ref b_o), .val (.int (1 : Int32)), .val (.int (2 : Int32))] [(.int (2 : Int32)), (.ref t_o), (.ref f_o), (.int (own_sel x_0 x_1 x_2 s_2))])) rfl rfl (hb hby own_d7_72) _ ?_
                show Steps p.tables e below (T136.setTop (mkF m 73 #[.val (.ref a_o), .val (.ref b_o), .val (.ref b_o), .val (.int (1 : Int32)), .val (.int (2 : Int32))] [(.int t_2), (.ref f_o), (.int (own_sel x_0 x_1 x_2 s_2))])) _
                refine X136.iaload hx (j := t_2) (v := (.int (own_sel y_0 y_1 y_2 t_2))) (by rw [e136]; exact Ar141.1) (State.isArrayOf_alike hZ.alike Ar141.2.1) Ar141.2.2 hin141 hat141 (g := (mkF m 73 #[.val (.ref a_o), .val (.ref b_o), .val (.ref b_o), .val (.int (1 : Int32)), .val (.int (2 : Int32))] [(.int t_2), (.ref f_o), (.int (own_sel x_0 x_1 x_2 s_2))])) rfl rfl (hb hby own_d7_73) _ ?_
                exact kt
              by_cases hc74_144 : (own_sel x_0 x_1 x_2 s_2) = (own_sel y_0 y_1 y_2 t_2)
              · obtain ⟨T155, X155, e155, st155⟩ := getF X136 hx hZ hown (host := "") (Or.inl (hw _ (List.mem_of_getElem? (i := 21) rfl))) Via.refl e136 F_as (g := (mkF m 43 #[.val (.ref a_o), .val (.ref b_o), .val (.ref b_o), .val (.int (1 : Int32)), .val (.int (3 : Int32))] [(.ref a_o), (.int (3 : Int32))])) rfl rfl (hb hby own_d7_43)
                obtain ⟨cl157, Ar157, -, S157, M157, -, -⟩ := id V_s
                obtain ⟨fs, hr, hrun, hended, hW, hsame⟩ := X155.leave (v := some (.int (1 : Int32))) (fun h => by rw [Bd.returns] at h; cases h) (hlocks := BodyLoose.notSynchronized Bd)
                refine ⟨_, _, pre143 _ ?_, hrun, hended, _, _, rfl, ?_, ⟨_, rfl⟩, hW, hsame.mono (by decide) (by decide)⟩
                · show Steps p.tables e below (T136.setTop (mkF m 74 #[.val (.ref a_o), .val (.ref b_o), .val (.ref b_o), .val (.int (1 : Int32)), .val (.int (2 : Int32))] [(.int (own_sel y_0 y_1 y_2 t_2)), (.int (own_sel x_0 x_1 x_2 s_2))])) _
                  refine XS.icmpNo X136.here hx rfl (hb hby own_d7_74) rfl (teq hc74_144).2 ?_
                  show Steps p.tables e below (T136.setTop (mkF m 77 #[.val (.ref a_o), .val (.ref b_o), .val (.ref b_o), .val (.int (1 : Int32)), .val (.int (2 : Int32))] [])) _
                  refine XS.iconst X136.here hx rfl (hb hby own_d7_77) ?_
                  show Steps p.tables e below (T136.setTop (mkF m 78 #[.val (.ref a_o), .val (.ref b_o), .val (.ref b_o), .val (.int (1 : Int32)), .val (.int (2 : Int32))] [(.int (1 : Int32))])) _
                  refine XS.goto X136.here hx rfl (pc0 := 78) (pc' := 82) rfl (hb hby own_d7_78) (by decide) (by decide) ?_
                  show Steps p.tables e below (T136.setTop (mkF m 82 #[.val (.ref a_o), .val (.ref b_o), .val (.ref b_o), .val (.int (1 : Int32)), .val (.int (2 : Int32))] [(.int (1 : Int32))])) _
                  refine XS.istoreN X136.here hx rfl (hb hby own_d7_82) rfl (l' := #[.val (.ref a_o), .val (.ref b_o), .val (.ref b_o), .val (.int (1 : Int32)), .val (.int (2 : Int32))]) rfl ?_
                  show Steps p.tables e below (T136.setTop (mkF m 83 #[.val (.ref a_o), .val (.ref b_o), .val (.ref b_o), .val (.int (1 : Int32)), .val (.int (2 : Int32))] [])) _
                  refine XS.iinc X136.here hx rfl (hb hby own_d7_83) rfl (l' := #[.val (.ref a_o), .val (.ref b_o), .val (.ref b_o), .val (.int (1 : Int32)), .val (.int (3 : Int32))]) rfl ?_
                  show Steps p.tables e below (T136.setTop (mkF m 86 #[.val (.ref a_o), .val (.ref b_o), .val (.ref b_o), .val (.int (1 : Int32)), .val (.int (3 : Int32))] [])) _
                  refine XS.goto X136.here hx rfl (pc0 := 86) (pc' := 36) rfl (hb hby own_d7_86) (by decide) (by decide) ?_
                  show Steps p.tables e below (T136.setTop (mkF m 36 #[.val (.ref a_o), .val (.ref b_o), .val (.ref b_o), .val (.int (1 : Int32)), .val (.int (3 : Int32))] [])) _
                  refine XS.iloadN X136.here hx rfl (hb hby own_d7_36) rfl ?_
                  show Steps p.tables e below (T136.setTop (mkF m 37 #[.val (.ref a_o), .val (.ref b_o), .val (.ref b_o), .val (.int (1 : Int32)), .val (.int (3 : Int32))] [(.int (1 : Int32))])) _
                  refine XS.ifNo X136.here hx rfl (hb hby own_d7_37) rfl ((if0 _ _).trans (feq ((by decide) : ¬ ((1 : Int32) = (0 : Int32)))).1) ?_
                  show Steps p.tables e below (T136.setTop (mkF m 40 #[.val (.ref a_o), .val (.ref b_o), .val (.ref b_o), .val (.int (1 : Int32)), .val (.int (3 : Int32))] [])) _
                  refine XS.iload X136.here hx rfl (hb hby own_d7_40) rfl ?_
                  show Steps p.tables e below (T136.setTop (mkF m 42 #[.val (.ref a_o), .val (.ref b_o), .val (.ref b_o), .val (.int (1 : Int32)), .val (.int (3 : Int32))] [(.int (3 : Int32))])) _
                  refine XS.aloadN X136.here hx rfl (hb hby own_d7_42) rfl rfl ?_
                  show Steps p.tables e below (T136.setTop (mkF m 43 #[.val (.ref a_o), .val (.ref b_o), .val (.ref b_o), .val (.int (1 : Int32)), .val (.int (3 : Int32))] [(.ref a_o), (.int (3 : Int32))])) _
                  refine st155 _ ?_
                  show Steps p.tables e below (T155.setTop (mkF m 46 #[.val (.ref a_o), .val (.ref b_o), .val (.ref b_o), .val (.int (1 : Int32)), .val (.int (3 : Int32))] [(.ref s_o), (.int (3 : Int32))])) _
                  refine X155.arraylength hx (by rw [e155]; exact Ar157.1) (State.isArrayOf_alike hZ.alike Ar157.2.1) (g := (mkF m 46 #[.val (.ref a_o), .val (.ref b_o), .val (.ref b_o), .val (.int (1 : Int32)), .val (.int (3 : Int32))] [(.ref s_o), (.int (3 : Int32))])) rfl rfl (hb hby own_d7_46) _ ?_
                  rw [len_of S157 M157]
                  show Steps p.tables e below (T155.setTop (mkF m 47 #[.val (.ref a_o), .val (.ref b_o), .val (.ref b_o), .val (.int (1 : Int32)), .val (.int (3 : Int32))] [(.int n_1), (.int (3 : Int32))])) _
                  refine XS.icmpYes X155.here hx rfl (pc0 := 47) (pc' := 89) rfl (hb hby own_d7_47) rfl (flt (hn : ¬ ((3 : Int32) < n_1))).2.1 (by decide) (by decide) ?_
                  show Steps p.tables e below (T155.setTop (mkF m 89 #[.val (.ref a_o), .val (.ref b_o), .val (.ref b_o), .val (.int (1 : Int32)), .val (.int (3 : Int32))] [])) _
                  refine XS.iloadN X155.here hx rfl (hb hby own_d7_89) rfl ?_
                  show Steps p.tables e below (T155.setTop (mkF m 90 #[.val (.ref a_o), .val (.ref b_o), .val (.ref b_o), .val (.int (1 : Int32)), .val (.int (3 : Int32))] [(.int (1 : Int32))])) _
                  exact retN X155 hx (t := .boolean) Bd.returns (by simp) (hb hby own_d7_90) hr
                · show Qown_eq Z a_o b_o e_o s_o f_o t_o k_e k_s k_f k_t n_1 m_1 x_0 x_1 x_2 s_0 s_1 s_2 y_0 y_1 y_2 t_0 t_1 t_2 h0 n0 _ T155.heap _
                  rw [e155]
                  have hv : (own_eq_f n_1 m_1 x_0 x_1 x_2 s_0 s_1 s_2 y_0 y_1 y_2 t_0 t_1 t_2) = (1 : Int32) := by unfold own_eq_f; rw [if_pos hc24_21, if_pos hc47_37, if_pos hc74_62, if_pos hc47_78, if_pos hc74_103, if_pos hc47_119, if_pos hc74_144]
                  exact ⟨(by rw [hv]), N0, rfl⟩
              · obtain ⟨fs, hr, hrun, hended, hW, hsame⟩ := X136.leave (v := some (.int (0 : Int32))) (fun h => by rw [Bd.returns] at h; cases h) (hlocks := BodyLoose.notSynchronized Bd)
                refine ⟨_, _, pre143 _ ?_, hrun, hended, _, _, rfl, ?_, ⟨_, rfl⟩, hW, hsame.mono (by decide) (by decide)⟩
                · show Steps p.tables e below (T136.setTop (mkF m 74 #[.val (.ref a_o), .val (.ref b_o), .val (.ref b_o), .val (.int (1 : Int32)), .val (.int (2 : Int32))] [(.int (own_sel y_0 y_1 y_2 t_2)), (.int (own_sel x_0 x_1 x_2 s_2))])) _
                  refine XS.icmpYes X136.here hx rfl (pc0 := 74) (pc' := 81) rfl (hb hby own_d7_74) rfl (feq hc74_144).2 (by decide) (by decide) ?_
                  show Steps p.tables e below (T136.setTop (mkF m 81 #[.val (.ref a_o), .val (.ref b_o), .val (.ref b_o), .val (.int (1 : Int32)), .val (.int (2 : Int32))] [])) _
                  refine XS.iconst X136.here hx rfl (hb hby own_d7_81) ?_
                  show Steps p.tables e below (T136.setTop (mkF m 82 #[.val (.ref a_o), .val (.ref b_o), .val (.ref b_o), .val (.int (1 : Int32)), .val (.int (2 : Int32))] [(.int (0 : Int32))])) _
                  refine XS.istoreN X136.here hx rfl (hb hby own_d7_82) rfl (l' := #[.val (.ref a_o), .val (.ref b_o), .val (.ref b_o), .val (.int (0 : Int32)), .val (.int (2 : Int32))]) rfl ?_
                  show Steps p.tables e below (T136.setTop (mkF m 83 #[.val (.ref a_o), .val (.ref b_o), .val (.ref b_o), .val (.int (0 : Int32)), .val (.int (2 : Int32))] [])) _
                  refine XS.iinc X136.here hx rfl (hb hby own_d7_83) rfl (l' := #[.val (.ref a_o), .val (.ref b_o), .val (.ref b_o), .val (.int (0 : Int32)), .val (.int (3 : Int32))]) rfl ?_
                  show Steps p.tables e below (T136.setTop (mkF m 86 #[.val (.ref a_o), .val (.ref b_o), .val (.ref b_o), .val (.int (0 : Int32)), .val (.int (3 : Int32))] [])) _
                  refine XS.goto X136.here hx rfl (pc0 := 86) (pc' := 36) rfl (hb hby own_d7_86) (by decide) (by decide) ?_
                  show Steps p.tables e below (T136.setTop (mkF m 36 #[.val (.ref a_o), .val (.ref b_o), .val (.ref b_o), .val (.int (0 : Int32)), .val (.int (3 : Int32))] [])) _
                  refine XS.iloadN X136.here hx rfl (hb hby own_d7_36) rfl ?_
                  show Steps p.tables e below (T136.setTop (mkF m 37 #[.val (.ref a_o), .val (.ref b_o), .val (.ref b_o), .val (.int (0 : Int32)), .val (.int (3 : Int32))] [(.int (0 : Int32))])) _
                  refine XS.ifYes X136.here hx rfl (pc0 := 37) (pc' := 89) rfl (hb hby own_d7_37) rfl ((if0 _ _).trans (teq ((by decide) : (0 : Int32) = (0 : Int32))).1) (by decide) (by decide) ?_
                  show Steps p.tables e below (T136.setTop (mkF m 89 #[.val (.ref a_o), .val (.ref b_o), .val (.ref b_o), .val (.int (0 : Int32)), .val (.int (3 : Int32))] [])) _
                  refine XS.iloadN X136.here hx rfl (hb hby own_d7_89) rfl ?_
                  show Steps p.tables e below (T136.setTop (mkF m 90 #[.val (.ref a_o), .val (.ref b_o), .val (.ref b_o), .val (.int (0 : Int32)), .val (.int (3 : Int32))] [(.int (0 : Int32))])) _
                  exact retN X136 hx (t := .boolean) Bd.returns (by simp) (hb hby own_d7_90) hr
                · show Qown_eq Z a_o b_o e_o s_o f_o t_o k_e k_s k_f k_t n_1 m_1 x_0 x_1 x_2 s_0 s_1 s_2 y_0 y_1 y_2 t_0 t_1 t_2 h0 n0 _ T136.heap _
                  rw [e136]
                  have hv : (own_eq_f n_1 m_1 x_0 x_1 x_2 s_0 s_1 s_2 y_0 y_1 y_2 t_0 t_1 t_2) = (0 : Int32) := by unfold own_eq_f; rw [if_pos hc24_21, if_pos hc47_37, if_pos hc74_62, if_pos hc47_78, if_pos hc74_103, if_pos hc47_119, if_neg hc74_144]
                  exact ⟨(by rw [hv]), N0, rfl⟩
            · obtain ⟨fs, hr, hrun, hended, hW, hsame⟩ := X114.leave (v := some (.int (1 : Int32))) (fun h => by rw [Bd.returns] at h; cases h) (hlocks := BodyLoose.notSynchronized Bd)
              refine ⟨_, _, pre118 _ ?_, hrun, hended, _, _, rfl, ?_, ⟨_, rfl⟩, hW, hsame.mono (by decide) (by decide)⟩
              · show Steps p.tables e below (T114.setTop (mkF m 47 #[.val (.ref a_o), .val (.ref b_o), .val (.ref b_o), .val (.int (1 : Int32)), .val (.int (2 : Int32))] [(.int n_1), (.int (2 : Int32))])) _
                refine XS.icmpYes X114.here hx rfl (pc0 := 47) (pc' := 89) rfl (hb hby own_d7_47) rfl (flt hc47_119).2.1 (by decide) (by decide) ?_
                show Steps p.tables e below (T114.setTop (mkF m 89 #[.val (.ref a_o), .val (.ref b_o), .val (.ref b_o), .val (.int (1 : Int32)), .val (.int (2 : Int32))] [])) _
                refine XS.iloadN X114.here hx rfl (hb hby own_d7_89) rfl ?_
                show Steps p.tables e below (T114.setTop (mkF m 90 #[.val (.ref a_o), .val (.ref b_o), .val (.ref b_o), .val (.int (1 : Int32)), .val (.int (2 : Int32))] [(.int (1 : Int32))])) _
                exact retN X114 hx (t := .boolean) Bd.returns (by simp) (hb hby own_d7_90) hr
              · show Qown_eq Z a_o b_o e_o s_o f_o t_o k_e k_s k_f k_t n_1 m_1 x_0 x_1 x_2 s_0 s_1 s_2 y_0 y_1 y_2 t_0 t_1 t_2 h0 n0 _ T114.heap _
                rw [e114]
                have hv : (own_eq_f n_1 m_1 x_0 x_1 x_2 s_0 s_1 s_2 y_0 y_1 y_2 t_0 t_1 t_2) = (1 : Int32) := by unfold own_eq_f; rw [if_pos hc24_21, if_pos hc47_37, if_pos hc74_62, if_pos hc47_78, if_pos hc74_103, if_neg hc47_119]
                exact ⟨(by rw [hv]), N0, rfl⟩
          · obtain ⟨fs, hr, hrun, hended, hW, hsame⟩ := X95.leave (v := some (.int (0 : Int32))) (fun h => by rw [Bd.returns] at h; cases h) (hlocks := BodyLoose.notSynchronized Bd)
            refine ⟨_, _, pre102 _ ?_, hrun, hended, _, _, rfl, ?_, ⟨_, rfl⟩, hW, hsame.mono (by decide) (by decide)⟩
            · show Steps p.tables e below (T95.setTop (mkF m 74 #[.val (.ref a_o), .val (.ref b_o), .val (.ref b_o), .val (.int (1 : Int32)), .val (.int (1 : Int32))] [(.int (own_sel y_0 y_1 y_2 t_1)), (.int (own_sel x_0 x_1 x_2 s_1))])) _
              refine XS.icmpYes X95.here hx rfl (pc0 := 74) (pc' := 81) rfl (hb hby own_d7_74) rfl (feq hc74_103).2 (by decide) (by decide) ?_
              show Steps p.tables e below (T95.setTop (mkF m 81 #[.val (.ref a_o), .val (.ref b_o), .val (.ref b_o), .val (.int (1 : Int32)), .val (.int (1 : Int32))] [])) _
              refine XS.iconst X95.here hx rfl (hb hby own_d7_81) ?_
              show Steps p.tables e below (T95.setTop (mkF m 82 #[.val (.ref a_o), .val (.ref b_o), .val (.ref b_o), .val (.int (1 : Int32)), .val (.int (1 : Int32))] [(.int (0 : Int32))])) _
              refine XS.istoreN X95.here hx rfl (hb hby own_d7_82) rfl (l' := #[.val (.ref a_o), .val (.ref b_o), .val (.ref b_o), .val (.int (0 : Int32)), .val (.int (1 : Int32))]) rfl ?_
              show Steps p.tables e below (T95.setTop (mkF m 83 #[.val (.ref a_o), .val (.ref b_o), .val (.ref b_o), .val (.int (0 : Int32)), .val (.int (1 : Int32))] [])) _
              refine XS.iinc X95.here hx rfl (hb hby own_d7_83) rfl (l' := #[.val (.ref a_o), .val (.ref b_o), .val (.ref b_o), .val (.int (0 : Int32)), .val (.int (2 : Int32))]) rfl ?_
              show Steps p.tables e below (T95.setTop (mkF m 86 #[.val (.ref a_o), .val (.ref b_o), .val (.ref b_o), .val (.int (0 : Int32)), .val (.int (2 : Int32))] [])) _
              refine XS.goto X95.here hx rfl (pc0 := 86) (pc' := 36) rfl (hb hby own_d7_86) (by decide) (by decide) ?_
              show Steps p.tables e below (T95.setTop (mkF m 36 #[.val (.ref a_o), .val (.ref b_o), .val (.ref b_o), .val (.int (0 : Int32)), .val (.int (2 : Int32))] [])) _
              refine XS.iloadN X95.here hx rfl (hb hby own_d7_36) rfl ?_
              show Steps p.tables e below (T95.setTop (mkF m 37 #[.val (.ref a_o), .val (.ref b_o), .val (.ref b_o), .val (.int (0 : Int32)), .val (.int (2 : Int32))] [(.int (0 : Int32))])) _
              refine XS.ifYes X95.here hx rfl (pc0 := 37) (pc' := 89) rfl (hb hby own_d7_37) rfl ((if0 _ _).trans (teq ((by decide) : (0 : Int32) = (0 : Int32))).1) (by decide) (by decide) ?_
              show Steps p.tables e below (T95.setTop (mkF m 89 #[.val (.ref a_o), .val (.ref b_o), .val (.ref b_o), .val (.int (0 : Int32)), .val (.int (2 : Int32))] [])) _
              refine XS.iloadN X95.here hx rfl (hb hby own_d7_89) rfl ?_
              show Steps p.tables e below (T95.setTop (mkF m 90 #[.val (.ref a_o), .val (.ref b_o), .val (.ref b_o), .val (.int (0 : Int32)), .val (.int (2 : Int32))] [(.int (0 : Int32))])) _
              exact retN X95 hx (t := .boolean) Bd.returns (by simp) (hb hby own_d7_90) hr
            · show Qown_eq Z a_o b_o e_o s_o f_o t_o k_e k_s k_f k_t n_1 m_1 x_0 x_1 x_2 s_0 s_1 s_2 y_0 y_1 y_2 t_0 t_1 t_2 h0 n0 _ T95.heap _
              rw [e95]
              have hv : (own_eq_f n_1 m_1 x_0 x_1 x_2 s_0 s_1 s_2 y_0 y_1 y_2 t_0 t_1 t_2) = (0 : Int32) := by unfold own_eq_f; rw [if_pos hc24_21, if_pos hc47_37, if_pos hc74_62, if_pos hc47_78, if_neg hc74_103]
              exact ⟨(by rw [hv]), N0, rfl⟩
        · obtain ⟨fs, hr, hrun, hended, hW, hsame⟩ := X73.leave (v := some (.int (1 : Int32))) (fun h => by rw [Bd.returns] at h; cases h) (hlocks := BodyLoose.notSynchronized Bd)
          refine ⟨_, _, pre77 _ ?_, hrun, hended, _, _, rfl, ?_, ⟨_, rfl⟩, hW, hsame.mono (by decide) (by decide)⟩
          · show Steps p.tables e below (T73.setTop (mkF m 47 #[.val (.ref a_o), .val (.ref b_o), .val (.ref b_o), .val (.int (1 : Int32)), .val (.int (1 : Int32))] [(.int n_1), (.int (1 : Int32))])) _
            refine XS.icmpYes X73.here hx rfl (pc0 := 47) (pc' := 89) rfl (hb hby own_d7_47) rfl (flt hc47_78).2.1 (by decide) (by decide) ?_
            show Steps p.tables e below (T73.setTop (mkF m 89 #[.val (.ref a_o), .val (.ref b_o), .val (.ref b_o), .val (.int (1 : Int32)), .val (.int (1 : Int32))] [])) _
            refine XS.iloadN X73.here hx rfl (hb hby own_d7_89) rfl ?_
            show Steps p.tables e below (T73.setTop (mkF m 90 #[.val (.ref a_o), .val (.ref b_o), .val (.ref b_o), .val (.int (1 : Int32)), .val (.int (1 : Int32))] [(.int (1 : Int32))])) _
            exact retN X73 hx (t := .boolean) Bd.returns (by simp) (hb hby own_d7_90) hr
          · show Qown_eq Z a_o b_o e_o s_o f_o t_o k_e k_s k_f k_t n_1 m_1 x_0 x_1 x_2 s_0 s_1 s_2 y_0 y_1 y_2 t_0 t_1 t_2 h0 n0 _ T73.heap _
            rw [e73]
            have hv : (own_eq_f n_1 m_1 x_0 x_1 x_2 s_0 s_1 s_2 y_0 y_1 y_2 t_0 t_1 t_2) = (1 : Int32) := by unfold own_eq_f; rw [if_pos hc24_21, if_pos hc47_37, if_pos hc74_62, if_neg hc47_78]
            exact ⟨(by rw [hv]), N0, rfl⟩
      · obtain ⟨fs, hr, hrun, hended, hW, hsame⟩ := X54.leave (v := some (.int (0 : Int32))) (fun h => by rw [Bd.returns] at h; cases h) (hlocks := BodyLoose.notSynchronized Bd)
        refine ⟨_, _, pre61 _ ?_, hrun, hended, _, _, rfl, ?_, ⟨_, rfl⟩, hW, hsame.mono (by decide) (by decide)⟩
        · show Steps p.tables e below (T54.setTop (mkF m 74 #[.val (.ref a_o), .val (.ref b_o), .val (.ref b_o), .val (.int (1 : Int32)), .val (.int (0 : Int32))] [(.int (own_sel y_0 y_1 y_2 t_0)), (.int (own_sel x_0 x_1 x_2 s_0))])) _
          refine XS.icmpYes X54.here hx rfl (pc0 := 74) (pc' := 81) rfl (hb hby own_d7_74) rfl (feq hc74_62).2 (by decide) (by decide) ?_
          show Steps p.tables e below (T54.setTop (mkF m 81 #[.val (.ref a_o), .val (.ref b_o), .val (.ref b_o), .val (.int (1 : Int32)), .val (.int (0 : Int32))] [])) _
          refine XS.iconst X54.here hx rfl (hb hby own_d7_81) ?_
          show Steps p.tables e below (T54.setTop (mkF m 82 #[.val (.ref a_o), .val (.ref b_o), .val (.ref b_o), .val (.int (1 : Int32)), .val (.int (0 : Int32))] [(.int (0 : Int32))])) _
          refine XS.istoreN X54.here hx rfl (hb hby own_d7_82) rfl (l' := #[.val (.ref a_o), .val (.ref b_o), .val (.ref b_o), .val (.int (0 : Int32)), .val (.int (0 : Int32))]) rfl ?_
          show Steps p.tables e below (T54.setTop (mkF m 83 #[.val (.ref a_o), .val (.ref b_o), .val (.ref b_o), .val (.int (0 : Int32)), .val (.int (0 : Int32))] [])) _
          refine XS.iinc X54.here hx rfl (hb hby own_d7_83) rfl (l' := #[.val (.ref a_o), .val (.ref b_o), .val (.ref b_o), .val (.int (0 : Int32)), .val (.int (1 : Int32))]) rfl ?_
          show Steps p.tables e below (T54.setTop (mkF m 86 #[.val (.ref a_o), .val (.ref b_o), .val (.ref b_o), .val (.int (0 : Int32)), .val (.int (1 : Int32))] [])) _
          refine XS.goto X54.here hx rfl (pc0 := 86) (pc' := 36) rfl (hb hby own_d7_86) (by decide) (by decide) ?_
          show Steps p.tables e below (T54.setTop (mkF m 36 #[.val (.ref a_o), .val (.ref b_o), .val (.ref b_o), .val (.int (0 : Int32)), .val (.int (1 : Int32))] [])) _
          refine XS.iloadN X54.here hx rfl (hb hby own_d7_36) rfl ?_
          show Steps p.tables e below (T54.setTop (mkF m 37 #[.val (.ref a_o), .val (.ref b_o), .val (.ref b_o), .val (.int (0 : Int32)), .val (.int (1 : Int32))] [(.int (0 : Int32))])) _
          refine XS.ifYes X54.here hx rfl (pc0 := 37) (pc' := 89) rfl (hb hby own_d7_37) rfl ((if0 _ _).trans (teq ((by decide) : (0 : Int32) = (0 : Int32))).1) (by decide) (by decide) ?_
          show Steps p.tables e below (T54.setTop (mkF m 89 #[.val (.ref a_o), .val (.ref b_o), .val (.ref b_o), .val (.int (0 : Int32)), .val (.int (1 : Int32))] [])) _
          refine XS.iloadN X54.here hx rfl (hb hby own_d7_89) rfl ?_
          show Steps p.tables e below (T54.setTop (mkF m 90 #[.val (.ref a_o), .val (.ref b_o), .val (.ref b_o), .val (.int (0 : Int32)), .val (.int (1 : Int32))] [(.int (0 : Int32))])) _
          exact retN X54 hx (t := .boolean) Bd.returns (by simp) (hb hby own_d7_90) hr
        · show Qown_eq Z a_o b_o e_o s_o f_o t_o k_e k_s k_f k_t n_1 m_1 x_0 x_1 x_2 s_0 s_1 s_2 y_0 y_1 y_2 t_0 t_1 t_2 h0 n0 _ T54.heap _
          rw [e54]
          have hv : (own_eq_f n_1 m_1 x_0 x_1 x_2 s_0 s_1 s_2 y_0 y_1 y_2 t_0 t_1 t_2) = (0 : Int32) := by unfold own_eq_f; rw [if_pos hc24_21, if_pos hc47_37, if_neg hc74_62]
          exact ⟨(by rw [hv]), N0, rfl⟩
    · obtain ⟨fs, hr, hrun, hended, hW, hsame⟩ := X32.leave (v := some (.int (1 : Int32))) (fun h => by rw [Bd.returns] at h; cases h) (hlocks := BodyLoose.notSynchronized Bd)
      refine ⟨_, _, pre36 _ ?_, hrun, hended, _, _, rfl, ?_, ⟨_, rfl⟩, hW, hsame.mono (by decide) (by decide)⟩
      · show Steps p.tables e below (T32.setTop (mkF m 47 #[.val (.ref a_o), .val (.ref b_o), .val (.ref b_o), .val (.int (1 : Int32)), .val (.int (0 : Int32))] [(.int n_1), (.int (0 : Int32))])) _
        refine XS.icmpYes X32.here hx rfl (pc0 := 47) (pc' := 89) rfl (hb hby own_d7_47) rfl (flt hc47_37).2.1 (by decide) (by decide) ?_
        show Steps p.tables e below (T32.setTop (mkF m 89 #[.val (.ref a_o), .val (.ref b_o), .val (.ref b_o), .val (.int (1 : Int32)), .val (.int (0 : Int32))] [])) _
        refine XS.iloadN X32.here hx rfl (hb hby own_d7_89) rfl ?_
        show Steps p.tables e below (T32.setTop (mkF m 90 #[.val (.ref a_o), .val (.ref b_o), .val (.ref b_o), .val (.int (1 : Int32)), .val (.int (0 : Int32))] [(.int (1 : Int32))])) _
        exact retN X32 hx (t := .boolean) Bd.returns (by simp) (hb hby own_d7_90) hr
      · show Qown_eq Z a_o b_o e_o s_o f_o t_o k_e k_s k_f k_t n_1 m_1 x_0 x_1 x_2 s_0 s_1 s_2 y_0 y_1 y_2 t_0 t_1 t_2 h0 n0 _ T32.heap _
        rw [e32]
        have hv : (own_eq_f n_1 m_1 x_0 x_1 x_2 s_0 s_1 s_2 y_0 y_1 y_2 t_0 t_1 t_2) = (1 : Int32) := by unfold own_eq_f; rw [if_pos hc24_21, if_neg hc47_37]
        exact ⟨(by rw [hv]), N0, rfl⟩
  · obtain ⟨fs, hr, hrun, hended, hW, hsame⟩ := X16.leave (v := some (.int (0 : Int32))) (fun h => by rw [Bd.returns] at h; cases h) (hlocks := BodyLoose.notSynchronized Bd)
    refine ⟨_, _, pre20 _ ?_, hrun, hended, _, _, rfl, ?_, ⟨_, rfl⟩, hW, hsame.mono (by decide) (by decide)⟩
    · show Steps p.tables e below (T16.setTop (mkF m 24 #[.val (.ref a_o), .val (.ref b_o), .val (.ref b_o), .unset, .unset] [(.int m_1), (.int n_1)])) _
      refine XS.icmpYes X16.here hx rfl (pc0 := 24) (pc' := 31) rfl (hb hby own_d7_24) rfl (feq hc24_21).2 (by decide) (by decide) ?_
      show Steps p.tables e below (T16.setTop (mkF m 31 #[.val (.ref a_o), .val (.ref b_o), .val (.ref b_o), .unset, .unset] [])) _
      refine XS.iconst X16.here hx rfl (hb hby own_d7_31) ?_
      show Steps p.tables e below (T16.setTop (mkF m 32 #[.val (.ref a_o), .val (.ref b_o), .val (.ref b_o), .unset, .unset] [(.int (0 : Int32))])) _
      refine XS.istoreN X16.here hx rfl (hb hby own_d7_32) rfl (l' := #[.val (.ref a_o), .val (.ref b_o), .val (.ref b_o), .val (.int (0 : Int32)), .unset]) rfl ?_
      show Steps p.tables e below (T16.setTop (mkF m 33 #[.val (.ref a_o), .val (.ref b_o), .val (.ref b_o), .val (.int (0 : Int32)), .unset] [])) _
      refine XS.iconst X16.here hx rfl (hb hby own_d7_33) ?_
      show Steps p.tables e below (T16.setTop (mkF m 34 #[.val (.ref a_o), .val (.ref b_o), .val (.ref b_o), .val (.int (0 : Int32)), .unset] [(.int (0 : Int32))])) _
      refine XS.istore X16.here hx rfl (hb hby own_d7_34) rfl (l' := #[.val (.ref a_o), .val (.ref b_o), .val (.ref b_o), .val (.int (0 : Int32)), .val (.int (0 : Int32))]) rfl ?_
      show Steps p.tables e below (T16.setTop (mkF m 36 #[.val (.ref a_o), .val (.ref b_o), .val (.ref b_o), .val (.int (0 : Int32)), .val (.int (0 : Int32))] [])) _
      refine XS.iloadN X16.here hx rfl (hb hby own_d7_36) rfl ?_
      show Steps p.tables e below (T16.setTop (mkF m 37 #[.val (.ref a_o), .val (.ref b_o), .val (.ref b_o), .val (.int (0 : Int32)), .val (.int (0 : Int32))] [(.int (0 : Int32))])) _
      refine XS.ifYes X16.here hx rfl (pc0 := 37) (pc' := 89) rfl (hb hby own_d7_37) rfl ((if0 _ _).trans (teq ((by decide) : (0 : Int32) = (0 : Int32))).1) (by decide) (by decide) ?_
      show Steps p.tables e below (T16.setTop (mkF m 89 #[.val (.ref a_o), .val (.ref b_o), .val (.ref b_o), .val (.int (0 : Int32)), .val (.int (0 : Int32))] [])) _
      refine XS.iloadN X16.here hx rfl (hb hby own_d7_89) rfl ?_
      show Steps p.tables e below (T16.setTop (mkF m 90 #[.val (.ref a_o), .val (.ref b_o), .val (.ref b_o), .val (.int (0 : Int32)), .val (.int (0 : Int32))] [(.int (0 : Int32))])) _
      exact retN X16 hx (t := .boolean) Bd.returns (by simp) (hb hby own_d7_90) hr
    · show Qown_eq Z a_o b_o e_o s_o f_o t_o k_e k_s k_f k_t n_1 m_1 x_0 x_1 x_2 s_0 s_1 s_2 y_0 y_1 y_2 t_0 t_1 t_2 h0 n0 _ T16.heap _
      rw [e16]
      have hv : (own_eq_f n_1 m_1 x_0 x_1 x_2 s_0 s_1 s_2 y_0 y_1 y_2 t_0 t_1 t_2) = (0 : Int32) := by unfold own_eq_f; rw [if_neg hc24_21]
      exact ⟨(by rw [hv]), N0, rfl⟩
theorem own_up {n : Int32} {i j : Int32} (hij : i < j) (h : j < n) : i < n := by
  rw [Int32.lt_iff_toInt_lt] at *; omega
theorem own_m1 (n x0 x1 x2 s0 s1 s2 : Int32) : own_of_f n x0 x1 x2 s0 s1 s2 = own_hash_f n x0 x1 x2 s0 s1 s2 := by
  unfold own_of_f own_hash_f
  by_cases h0 : (0 : Int32) < n
  · by_cases h1 : (1 : Int32) < n
    · by_cases h2 : (2 : Int32) < n <;> simp [h0, h1, h2]
    · have h2 : ¬ (2 : Int32) < n := fun q => h1 (own_up (by decide) q)
      simp [h0, h1, h2]
  · have h1 : ¬ (1 : Int32) < n := fun q => h0 (own_up (by decide) q)
    have h2 : ¬ (2 : Int32) < n := fun q => h0 (own_up (by decide) q)
    simp [h0, h1, h2]
theorem own_m2 (n m x0 x1 x2 s0 s1 s2 y0 y1 y2 t0 t1 t2 : Int32) : own_eq_f n m x0 x1 x2 s0 s1 s2 y0 y1 y2 t0 t1 t2 = own_same_f n m x0 x1 x2 s0 s1 s2 y0 y1 y2 t0 t1 t2 := by
  unfold own_eq_f own_same_f
  by_cases e : n = m
  · subst e
    by_cases h0 : (0 : Int32) < n
    · by_cases h1 : (1 : Int32) < n
      · by_cases h2 : (2 : Int32) < n
        · simp [h0, h1, h2]
        · simp [h0, h1, h2]
      · have h2 : ¬ (2 : Int32) < n := fun q => h1 (own_up (by decide) q)
        simp [h0, h1, h2]
    · have h1 : ¬ (1 : Int32) < n := fun q => h0 (own_up (by decide) q)
      have h2 : ¬ (2 : Int32) < n := fun q => h0 (own_up (by decide) q)
      simp [h0, h1, h2]
  · simp [e]
theorem own_ef_own_law (m : MethodId) (p0 : Int32) (p1 : Int32) (p2 : Int32) (p3 : Int32) (p4 : Int32) : entryFrame m #[(.int p0), (.int p1), (.int p2), (.int p3), (.int p4)] maxLocals = mkF m 0 #[.val (.int p0), .val (.int p1), .val (.int p2), .val (.int p3), .val (.int p4), .unset, .unset, .unset, .unset, .unset, .unset, .unset, .unset] [] := by first | (simp [entryFrame, mkF, argsToLocals, Value.category, maxLocals]; done) | rfl
theorem own_pd0 : parseMethodDescriptor "(I)[I" = some ⟨[.int], some (.array .int)⟩ := by decide +kernel
theorem own_pd1 : parseMethodDescriptor "()V" = some ⟨[], none⟩ := by decide +kernel
theorem own_pd2 : parseMethodDescriptor "([I[I)Lcom/example/fovea/fovea/Memory$Key;" = some ⟨[(.array .int), (.array .int)], some (.object "com/example/fovea/fovea/Memory$Key")⟩ := by decide +kernel
theorem own_pd3 : parseMethodDescriptor "()I" = some ⟨[], some .int⟩ := by decide +kernel
theorem own_pd4 : parseMethodDescriptor "([I[I)I" = some ⟨[(.array .int), (.array .int)], some .int⟩ := by decide +kernel
theorem own_pd5 : parseMethodDescriptor "(Ljava/lang/Object;)Z" = some ⟨[(.object "java/lang/Object")], some .boolean⟩ := by decide +kernel
theorem own_pd6 : parseMethodDescriptor "([I[I[I[I)Z" = some ⟨[(.array .int), (.array .int), (.array .int), (.array .int)], some .boolean⟩ := by decide +kernel
def Qown_law (Z : State) (p0 : Int32) (p1 : Int32) (p2 : Int32) (p3 : Int32) (p4 : Int32) (h0 : Heap) (n0 : Nat) (v : Option Value) (h : Heap) (L : List Loc) : Prop := v = some (.int (1 : Int32)) ∧ Fr n0 L
set_option maxRecDepth 65536 in
set_option maxHeartbeats 40000000 in
theorem own_law (l : Launch) (Z : State) (a0 : Array Value) (hw : ∀ d ∈ tables_1, d.before a0 Z = true) (ws : List Jvm.Cond) (p0 : Int32) (p1 : Int32) (p2 : Int32) (p3 : Int32) (p4 : Int32) (h0 : Heap) (n0 : Nat) (Z0 : n0 ≤ h0.size) :
    MetFree l x (head1 (Jvm.Cond.code x code maxLocals ret :: ws) room_1) (fun a U => a = #[(.int p0), (.int p1), (.int p2), (.int p3), (.int p4)] ∧ Z.Warmed39 U.vm ∧ U.heap = h0) (fun _ _ _ _ _ => True) (fun _ U o U' => ∃ v L, o = .returned v ∧ Qown_law Z p0 p1 p2 p3 p4 h0 n0 v U'.heap L ∧ FrameEnd U o U' L room_1.cells room_1.slots) := by
  refine MetFree.of_bodySF (plainFor_of_name own_pn0) hisR ?_
  intro p e s m args below meth c s₁ Bd hml0 hP hK
  obtain ⟨rfl, hZ, hh⟩ := hP
  have hx := Bd.exec
  have hby := Bd.bytes
  have hml : c.maxLocals = 13 := hml0
  have hown : s.vm.findClass "com/example/fovea/fovea/KeyOfPinLaw" = some m.cls := findClass_of_methodNamed Bd.named
  have hnm := (name_of_methodNamed Bd.named Bd.method).1
  have X0 : Stand p l e room_1 s m #[(.int p0), (.int p1), (.int p2), (.int p3), (.int p4)] below meth c s₁ [] 0 0 := Stand.of_body Bd
  have e0 : s₁.heap = h0 := by rw [← hh, Bd.state]; rfl
  have N0 := Fr.nil n0
  have pre0 : ∀ t, Steps p.tables e below (s₁.setTop (mkF m 0 #[.val (.int p0), .val (.int p1), .val (.int p2), .val (.int p3), .val (.int p4), .unset, .unset, .unset, .unset, .unset, .unset, .unset, .unset] [])) t → Steps p.tables e below (s₁.setTop (entryFrame m #[(.int p0), (.int p1), (.int p2), (.int p3), (.int p4)] maxLocals)) t := fun t k => castTop (own_ef_own_law m p0 p1 p2 p3 p4) k
  obtain ⟨T3, h3, k3, X3, e3, E3, A3, Y3, st3⟩ := newPE X0 hx hZ (hw _ (List.mem_of_getElem? (i := 0) rfl)) e0 (g := (mkF m 1 #[.val (.int p0), .val (.int p1), .val (.int p2), .val (.int p3), .val (.int p4), .unset, .unset, .unset, .unset, .unset, .unset, .unset, .unset] [(.int (3 : Int32))])) rfl (hb hby at_1) rfl (by decide) (cap := 3) (by decide) (by decide) (by decide) (by decide) (ad := "[I") (by first | rfl | decide)
  obtain ⟨b3, g3⟩ : ∃ z, z = h0.size := ⟨_, rfl⟩
  rw [← g3] at A3 Y3 st3
  have Ge4 : n0 ≤ b3 := Nat.le_trans Z0 (Nat.le_of_eq g3.symm)
  have Sz5 : h0.size ≤ b3 := Nat.le_trans (Keep.refl h0 []).1 (Nat.le_of_eq g3.symm)
  have Kc6 : Keep h0 h3 [] := (Keep.refl h0 []).ext E3
  have Zs7 : n0 ≤ h3.size := (Nat.le_trans Z0 E3.1)
  have V3 : Arv Z h3 b3 k3 .int (3 : Int32) [(.int (0 : Int32)), (.int (0 : Int32)), (.int (0 : Int32))] (.int (0 : Int32)) := (Arv.new A3 (by decide)).pad (pad_rep [] (.int (0 : Int32)) 3)
  obtain ⟨cl12, Ar12, q12, S12, M12, H12, G12⟩ := id V3
  have hin12 : ¬ ((0 : Int32) < 0 ∨ cl12.slots.size ≤ ((0 : Int32)).toNatClampNeg) := inb_of S12 ⟨by decide, by decide⟩
  obtain ⟨T13, h13, X13, e13, W13, st13⟩ := stI X3 hx hZ e3 Ar12 (j := (0 : Int32)) hin12 (g := (mkF m 6 #[.val (.int p0), .val (.int p1), .val (.int p2), .val (.int p3), .val (.int p4), .unset, .unset, .unset, .unset, .unset, .unset, .unset, .unset] [(.int p0), (.int (0 : Int32)), (.ref b3), (.ref b3)])) rfl rfl (hb hby at_6)
  have Kc15 : Keep h0 h13 [] := Kc6.wr W13 (Or.inr Sz5)
  have Zs16 : n0 ≤ h13.size := Nat.le_trans Zs7 (Keep.of_wr W13).1
  have N17 := Fr.snoc X13 N0 Ge4
  have Vm14 : Arv Z h13 b3 k3 .int (3 : Int32) [(.int p0), (.int (0 : Int32)), (.int (0 : Int32))] (.int (0 : Int32)) := Arv.set Ar12 q12 S12 M12 H12 G12 rfl W13 0 rfl (Nat.le_of_ble_eq_true rfl)
  obtain ⟨cl22, Ar22, q22, S22, M22, H22, G22⟩ := id Vm14
  have hin22 : ¬ ((1 : Int32) < 0 ∨ cl22.slots.size ≤ ((1 : Int32)).toNatClampNeg) := inb_of S22 ⟨by decide, by decide⟩
  obtain ⟨T23, h23, X23, e23, W23, st23⟩ := stI X13 hx hZ e13 Ar22 (j := (1 : Int32)) hin22 (g := (mkF m 10 #[.val (.int p0), .val (.int p1), .val (.int p2), .val (.int p3), .val (.int p4), .unset, .unset, .unset, .unset, .unset, .unset, .unset, .unset] [(.int p1), (.int (1 : Int32)), (.ref b3), (.ref b3)])) rfl rfl (hb hby at_10)
  have Kc25 : Keep h0 h23 [] := Kc15.wr W23 (Or.inr Sz5)
  have Zs26 : n0 ≤ h23.size := Nat.le_trans Zs16 (Keep.of_wr W23).1
  have N27 := Fr.snoc X23 N17 Ge4
  have Vm24 : Arv Z h23 b3 k3 .int (3 : Int32) [(.int p0), (.int p1), (.int (0 : Int32))] (.int (0 : Int32)) := Arv.set Ar22 q22 S22 M22 H22 G22 rfl W23 1 rfl (Nat.le_of_ble_eq_true rfl)
  obtain ⟨cl32, Ar32, q32, S32, M32, H32, G32⟩ := id Vm24
  have hin32 : ¬ ((2 : Int32) < 0 ∨ cl32.slots.size ≤ ((2 : Int32)).toNatClampNeg) := inb_of S32 ⟨by decide, by decide⟩
  obtain ⟨T33, h33, X33, e33, W33, st33⟩ := stI X23 hx hZ e23 Ar32 (j := (2 : Int32)) hin32 (g := (mkF m 14 #[.val (.int p0), .val (.int p1), .val (.int p2), .val (.int p3), .val (.int p4), .unset, .unset, .unset, .unset, .unset, .unset, .unset, .unset] [(.int p2), (.int (2 : Int32)), (.ref b3), (.ref b3)])) rfl rfl (hb hby at_14)
  have Kc35 : Keep h0 h33 [] := Kc25.wr W33 (Or.inr Sz5)
  have Zs36 : n0 ≤ h33.size := Nat.le_trans Zs26 (Keep.of_wr W33).1
  have N37 := Fr.snoc X33 N27 Ge4
  have Vm34 : Arv Z h33 b3 k3 .int (3 : Int32) [(.int p0), (.int p1), (.int p2)] (.int (0 : Int32)) := Arv.set Ar32 q32 S32 M32 H32 G32 rfl W33 2 rfl (Nat.le_of_ble_eq_true rfl)
  obtain ⟨T41, h41, k41, X41, e41, E41, A41, Y41, st41⟩ := newPE X33 hx hZ (hw _ (List.mem_of_getElem? (i := 0) rfl)) e33 (g := (mkF m 18 #[.val (.int p0), .val (.int p1), .val (.int p2), .val (.int p3), .val (.int p4), .val (.ref b3), .unset, .unset, .unset, .unset, .unset, .unset, .unset] [(.int (3 : Int32))])) rfl (hb hby at_18) rfl (by decide) (cap := 3) (by decide) (by decide) (by decide) (by decide) (ad := "[I") (by first | rfl | decide)
  obtain ⟨b41, g41⟩ : ∃ z, z = h33.size := ⟨_, rfl⟩
  rw [← g41] at A41 Y41 st41
  have Fq43 : Exa Z h33 b3 "[I" := (((Y3.wr W13).wr W23).wr W33)
  have Ne42 : b3 ≠ b41 := Nat.ne_of_lt (Nat.lt_of_lt_of_le Fq43.lt (Nat.le_of_eq g41.symm))
  have Ge44 : n0 ≤ b41 := Nat.le_trans Zs36 (Nat.le_of_eq g41.symm)
  have Sz45 : h0.size ≤ b41 := Nat.le_trans Kc35.1 (Nat.le_of_eq g41.symm)
  have Kc46 : Keep h0 h41 [] := Kc35.ext E41
  have Zs47 : n0 ≤ h41.size := (Nat.le_trans Zs36 E41.1)
  have V41 : Arv Z h41 b41 k41 .int (3 : Int32) [(.int (0 : Int32)), (.int (0 : Int32)), (.int (0 : Int32))] (.int (0 : Int32)) := (Arv.new A41 (by decide)).pad (pad_rep [] (.int (0 : Int32)) 3)
  obtain ⟨cl52, Ar52, q52, S52, M52, H52, G52⟩ := id V41
  have hin52 : ¬ ((0 : Int32) < 0 ∨ cl52.slots.size ≤ ((0 : Int32)).toNatClampNeg) := inb_of S52 ⟨by decide, by decide⟩
  obtain ⟨T53, h53, X53, e53, W53, st53⟩ := stI X41 hx hZ e41 Ar52 (j := (0 : Int32)) hin52 (g := (mkF m 23 #[.val (.int p0), .val (.int p1), .val (.int p2), .val (.int p3), .val (.int p4), .val (.ref b3), .unset, .unset, .unset, .unset, .unset, .unset, .unset] [(.int p2), (.int (0 : Int32)), (.ref b41), (.ref b41)])) rfl rfl (hb hby at_23)
  have Kc55 : Keep h0 h53 [] := Kc46.wr W53 (Or.inr Sz45)
  have Zs56 : n0 ≤ h53.size := Nat.le_trans Zs47 (Keep.of_wr W53).1
  have N57 := Fr.snoc X53 N37 Ge44
  have Vm54 : Arv Z h53 b41 k41 .int (3 : Int32) [(.int p2), (.int (0 : Int32)), (.int (0 : Int32))] (.int (0 : Int32)) := Arv.set Ar52 q52 S52 M52 H52 G52 rfl W53 0 rfl (Nat.le_of_ble_eq_true rfl)
  obtain ⟨cl62, Ar62, q62, S62, M62, H62, G62⟩ := id Vm54
  have hin62 : ¬ ((1 : Int32) < 0 ∨ cl62.slots.size ≤ ((1 : Int32)).toNatClampNeg) := inb_of S62 ⟨by decide, by decide⟩
  obtain ⟨T63, h63, X63, e63, W63, st63⟩ := stI X53 hx hZ e53 Ar62 (j := (1 : Int32)) hin62 (g := (mkF m 27 #[.val (.int p0), .val (.int p1), .val (.int p2), .val (.int p3), .val (.int p4), .val (.ref b3), .unset, .unset, .unset, .unset, .unset, .unset, .unset] [(.int p0), (.int (1 : Int32)), (.ref b41), (.ref b41)])) rfl rfl (hb hby at_27)
  have Kc65 : Keep h0 h63 [] := Kc55.wr W63 (Or.inr Sz45)
  have Zs66 : n0 ≤ h63.size := Nat.le_trans Zs56 (Keep.of_wr W63).1
  have N67 := Fr.snoc X63 N57 Ge44
  have Vm64 : Arv Z h63 b41 k41 .int (3 : Int32) [(.int p2), (.int p0), (.int (0 : Int32))] (.int (0 : Int32)) := Arv.set Ar62 q62 S62 M62 H62 G62 rfl W63 1 rfl (Nat.le_of_ble_eq_true rfl)
  obtain ⟨cl72, Ar72, q72, S72, M72, H72, G72⟩ := id Vm64
  have hin72 : ¬ ((2 : Int32) < 0 ∨ cl72.slots.size ≤ ((2 : Int32)).toNatClampNeg) := inb_of S72 ⟨by decide, by decide⟩
  obtain ⟨T73, h73, X73, e73, W73, st73⟩ := stI X63 hx hZ e63 Ar72 (j := (2 : Int32)) hin72 (g := (mkF m 31 #[.val (.int p0), .val (.int p1), .val (.int p2), .val (.int p3), .val (.int p4), .val (.ref b3), .unset, .unset, .unset, .unset, .unset, .unset, .unset] [(.int p1), (.int (2 : Int32)), (.ref b41), (.ref b41)])) rfl rfl (hb hby at_31)
  have Kc75 : Keep h0 h73 [] := Kc65.wr W73 (Or.inr Sz45)
  have Zs76 : n0 ≤ h73.size := Nat.le_trans Zs66 (Keep.of_wr W73).1
  have N77 := Fr.snoc X73 N67 Ge44
  have Vm74 : Arv Z h73 b41 k41 .int (3 : Int32) [(.int p2), (.int p0), (.int p1)] (.int (0 : Int32)) := Arv.set Ar72 q72 S72 M72 H72 G72 rfl W73 2 rfl (Nat.le_of_ble_eq_true rfl)
  obtain ⟨_, _, ⟨T81, L81, k81, n81⟩, -, X81, ⟨Lc81, hQ81, l81, y81, z81⟩, st81⟩ := Jvm.LawKit.callS X73 hx (y := (⟨"com/example/fovea/fovea/KeyOfPinLaw", "slots", "(I)[I"⟩ : MethodName)) hown (mvT hZ (hw _ (List.mem_of_getElem? (i := 1) rfl))) (mvT hZ (hw _ (List.mem_of_getElem? (i := 2) rfl))) (mvT hZ (hw _ (List.mem_of_getElem? (i := 3) rfl))) (mvT hZ (hw _ (List.mem_of_getElem? (i := 4) rfl))) (by decide) (backOf (W := 0) (own_slots l Z a0 hw [] p3 h73 n0 Zs76 ) hZ (hw _ (List.mem_of_getElem? (i := 4) rfl)) (hw _ (List.mem_of_getElem? (i := 3) rfl)) (by decide) (by decide)) (g := (mkF m 35 #[.val (.int p0), .val (.int p1), .val (.int p2), .val (.int p3), .val (.int p4), .val (.ref b3), .val (.ref b41), .unset, .unset, .unset, .unset, .unset, .unset] [(.int p3)])) rfl (by rw [hml]; rfl) (argsL := [(.int p3)]) (rest := []) (lenOf own_pd0 rfl) rfl (by show 2 * 0 + _ ≤ _; exact Nat.le_of_eq rfl) (hb hby at_35) (fun _ _ => ⟨rfl, e73, (by decide : 2 + 1 ≤ _), (by decide : 6 + 3 ≤ _)⟩)
  dsimp only [Pt.U, Pt.locs, Pt.cells, Pt.slots] at X81 l81 y81 z81 st81 hQ81
  subst l81 y81 z81
  obtain ⟨r_o_81, k_r_81, rfl, Nq81, sz81_r_o, K81, Pf81_0⟩ := hQ81
  have N82 := Fr.app N77 Nq81
  have Fq84 : Exa Z h73 b3 "[I" := ((((Fq43.ext E41).wr W53).wr W63).wr W73)
  have Ne83 : b3 ≠ r_o_81 := Nat.ne_of_lt (Nat.lt_of_lt_of_le Fq84.lt sz81_r_o)
  have Fq86 : Exa Z h73 b41 "[I" := (((Y41.wr W53).wr W63).wr W73)
  have Ne85 : b41 ≠ r_o_81 := Nat.ne_of_lt (Nat.lt_of_lt_of_le Fq86.lt sz81_r_o)
  have Ge87 : n0 ≤ r_o_81 := Nat.le_trans Zs76 sz81_r_o
  have Sz88 : h0.size ≤ r_o_81 := Nat.le_trans Kc75.1 sz81_r_o
  have Kc89 : Keep h0 T81.heap [] := Kc75.trans K81 all0
  have Zs90 : n0 ≤ T81.heap.size := Nat.le_trans Zs76 K81.1
  obtain ⟨_, _, ⟨T94, L94, k94, n94⟩, -, X94, ⟨Lc94, hQ94, l94, y94, z94⟩, st94⟩ := Jvm.LawKit.callS X81 hx (y := (⟨"com/example/fovea/fovea/KeyOfPinLaw", "slots", "(I)[I"⟩ : MethodName)) hown (mvT hZ (hw _ (List.mem_of_getElem? (i := 1) rfl))) (mvT hZ (hw _ (List.mem_of_getElem? (i := 2) rfl))) (mvT hZ (hw _ (List.mem_of_getElem? (i := 3) rfl))) (mvT hZ (hw _ (List.mem_of_getElem? (i := 4) rfl))) (by decide) (backOf (W := 0) (own_slots l Z a0 hw [] p4 T81.heap n0 Zs90 ) hZ (hw _ (List.mem_of_getElem? (i := 4) rfl)) (hw _ (List.mem_of_getElem? (i := 3) rfl)) (by decide) (by decide)) (g := (mkF m 42 #[.val (.int p0), .val (.int p1), .val (.int p2), .val (.int p3), .val (.int p4), .val (.ref b3), .val (.ref b41), .val (.ref r_o_81), .unset, .unset, .unset, .unset, .unset] [(.int p4)])) rfl (by rw [hml]; rfl) (argsL := [(.int p4)]) (rest := []) (lenOf own_pd0 rfl) rfl (by show 2 * 0 + _ ≤ _; exact Nat.le_of_eq rfl) (hb hby at_42) (fun _ _ => ⟨rfl, rfl, (by decide : 3 + 1 ≤ _), (by decide : 9 + 3 ≤ _)⟩)
  dsimp only [Pt.U, Pt.locs, Pt.cells, Pt.slots] at X94 l94 y94 z94 st94 hQ94
  subst l94 y94 z94
  obtain ⟨r_o_94, k_r_94, rfl, Nq94, sz94_r_o, K94, Pf94_0⟩ := hQ94
  have N95 := Fr.app N82 Nq94
  have Fq97 : Exa Z T81.heap b3 "[I" := (Fq84.keep K81)
  have Ne96 : b3 ≠ r_o_94 := Nat.ne_of_lt (Nat.lt_of_lt_of_le Fq97.lt sz94_r_o)
  have Fq99 : Exa Z T81.heap b41 "[I" := (Fq86.keep K81)
  have Ne98 : b41 ≠ r_o_94 := Nat.ne_of_lt (Nat.lt_of_lt_of_le Fq99.lt sz94_r_o)
  have Ne100 : r_o_81 ≠ r_o_94 := Nat.ne_of_lt (Nat.lt_of_lt_of_le Pf81_0.lt sz94_r_o)
  have Ge101 : n0 ≤ r_o_94 := Nat.le_trans Zs90 sz94_r_o
  have Sz102 : h0.size ≤ r_o_94 := Nat.le_trans Kc89.1 sz94_r_o
  have Kc103 : Keep h0 T94.heap [] := Kc89.trans K94 all0
  have Zs104 : n0 ≤ T94.heap.size := Nat.le_trans Zs90 K94.1
  obtain ⟨T107, h107, X107, e107, E107, A107, D107, -, st107⟩ := newO X94 hx hZ hown (hw _ (List.mem_of_getElem? (i := 5) rfl)) (hw _ (List.mem_of_getElem? (i := 6) rfl)) (hw _ (List.mem_of_getElem? (i := 7) rfl)) rfl (g := (mkF m 47 #[.val (.int p0), .val (.int p1), .val (.int p2), .val (.int p3), .val (.int p4), .val (.ref b3), .val (.ref b41), .val (.ref r_o_81), .val (.ref r_o_94), .unset, .unset, .unset, .unset] [])) rfl (hb hby at_47) (by decide) (by decide)
  obtain ⟨b107, g107⟩ : ∃ z, z = T94.heap.size := ⟨_, rfl⟩
  rw [← g107] at A107 D107 st107
  have Fq109 : Exa Z T94.heap b3 "[I" := (Fq97.keep K94)
  have Ne108 : b3 ≠ b107 := Nat.ne_of_lt (Nat.lt_of_lt_of_le Fq109.lt (Nat.le_of_eq g107.symm))
  have Fq111 : Exa Z T94.heap b41 "[I" := (Fq99.keep K94)
  have Ne110 : b41 ≠ b107 := Nat.ne_of_lt (Nat.lt_of_lt_of_le Fq111.lt (Nat.le_of_eq g107.symm))
  have Fq113 : Arv Z T94.heap r_o_81 k_r_81 .int (p3 &&& (3 : Int32)) [(.int ((((p3.toUInt32 >>> ((2 : Int32) &&& 31).toUInt32).toInt32) &&& (3 : Int32)) % (3 : Int32))), (.int ((((p3.toUInt32 >>> ((4 : Int32) &&& 31).toUInt32).toInt32) &&& (3 : Int32)) % (3 : Int32))), (.int ((((p3.toUInt32 >>> ((6 : Int32) &&& 31).toUInt32).toInt32) &&& (3 : Int32)) % (3 : Int32)))] (.int (0 : Int32)) := (Pf81_0.keep K94 nin0)
  have Ne112 : r_o_81 ≠ b107 := Nat.ne_of_lt (Nat.lt_of_lt_of_le Fq113.lt (Nat.le_of_eq g107.symm))
  have Ne114 : r_o_94 ≠ b107 := Nat.ne_of_lt (Nat.lt_of_lt_of_le Pf94_0.lt (Nat.le_of_eq g107.symm))
  have Ge115 : n0 ≤ b107 := Nat.le_trans Zs104 (Nat.le_of_eq g107.symm)
  have Sz116 : h0.size ≤ b107 := Nat.le_trans Kc103.1 (Nat.le_of_eq g107.symm)
  have Kc117 : Keep h0 h107 [] := Kc103.ext E107
  have Zs118 : n0 ≤ h107.size := (Nat.le_trans Zs104 E107.1)
  have F107_entry : Fld Z h107 b107 "com/example/fovea/fovea/Memory$Key" "entry" "[I" .null := D107 (Or.inl (hw _ (List.mem_of_getElem? (i := 20) rfl))) (ty := (.array .int)) (by decide)
  have F107_slots : Fld Z h107 b107 "com/example/fovea/fovea/Memory$Key" "slots" "[I" .null := D107 (Or.inl (hw _ (List.mem_of_getElem? (i := 22) rfl))) (ty := (.array .int)) (by decide)
  have F107_hash : Fld Z h107 b107 "com/example/fovea/fovea/Memory$Key" "hash" "I" (.int (0 : Int32)) := D107 (Or.inl (hw _ (List.mem_of_getElem? (i := 24) rfl))) (ty := .int) (by decide)
  obtain ⟨_, _, ⟨T121, L121, k121, n121⟩, -, X121, ⟨Lc121, hQ121, l121, y121, z121⟩, st121⟩ := X107.specialBack hx (y := (⟨"com/example/fovea/fovea/Memory$Key", "<init>", "()V"⟩ : MethodName)) rfl hown (mvT hZ (hw _ (List.mem_of_getElem? (i := 8) rfl))) (mvT hZ (hw _ (List.mem_of_getElem? (i := 9) rfl))) (mvT hZ (hw _ (List.mem_of_getElem? (i := 10) rfl))) (by decide) (backOf (W := 1) (own_init l Z a0 hw [] b107 h107 n0 Zs118 ) hZ (hw _ (List.mem_of_getElem? (i := 10) rfl)) (hw _ (List.mem_of_getElem? (i := 7) rfl)) (by decide) (by decide)) (g := (mkF m 51 #[.val (.int p0), .val (.int p1), .val (.int p2), .val (.int p3), .val (.int p4), .val (.ref b3), .val (.ref b41), .val (.ref r_o_81), .val (.ref r_o_94), .unset, .unset, .unset, .unset] [(.ref b107), (.ref b107)])) rfl (by rw [hml]; rfl) (Steps.refl _) (a := b107) (argsL := []) (rest := [(.ref b107)]) (lenOf own_pd1 rfl) rfl (by show 2 * 0 + _ ≤ _; exact Nat.le_of_eq rfl) (hb hby at_51) (fun _ _ => ⟨rfl, e107, (by decide : 5 + 0 ≤ _), (by decide : 17 + 0 ≤ _)⟩)
  dsimp only [Pt.U, Pt.locs, Pt.cells, Pt.slots] at X121 l121 y121 z121 st121 hQ121
  subst l121 y121 z121
  obtain ⟨rfl, Nq121, eh121⟩ := hQ121
  have N122 := Fr.app N95 Nq121
  obtain ⟨T125, h125, X125, e125, E125, A125, D125, -, st125⟩ := newO X121 hx hZ hown (hw _ (List.mem_of_getElem? (i := 5) rfl)) (hw _ (List.mem_of_getElem? (i := 6) rfl)) (hw _ (List.mem_of_getElem? (i := 7) rfl)) eh121 (g := (mkF m 56 #[.val (.int p0), .val (.int p1), .val (.int p2), .val (.int p3), .val (.int p4), .val (.ref b3), .val (.ref b41), .val (.ref r_o_81), .val (.ref r_o_94), .val (.ref b107), .unset, .unset, .unset] [])) rfl (hb hby at_56) (by decide) (by decide)
  obtain ⟨b125, g125⟩ : ∃ z, z = h107.size := ⟨_, rfl⟩
  rw [← g125] at A125 D125 st125
  have Fq127 : Exa Z h107 b3 "[I" := (Fq109.ext E107)
  have Ne126 : b3 ≠ b125 := Nat.ne_of_lt (Nat.lt_of_lt_of_le Fq127.lt (Nat.le_of_eq g125.symm))
  have Fq129 : Exa Z h107 b41 "[I" := (Fq111.ext E107)
  have Ne128 : b41 ≠ b125 := Nat.ne_of_lt (Nat.lt_of_lt_of_le Fq129.lt (Nat.le_of_eq g125.symm))
  have Fq131 : Arv Z h107 r_o_81 k_r_81 .int (p3 &&& (3 : Int32)) [(.int ((((p3.toUInt32 >>> ((2 : Int32) &&& 31).toUInt32).toInt32) &&& (3 : Int32)) % (3 : Int32))), (.int ((((p3.toUInt32 >>> ((4 : Int32) &&& 31).toUInt32).toInt32) &&& (3 : Int32)) % (3 : Int32))), (.int ((((p3.toUInt32 >>> ((6 : Int32) &&& 31).toUInt32).toInt32) &&& (3 : Int32)) % (3 : Int32)))] (.int (0 : Int32)) := (Fq113.ext E107)
  have Ne130 : r_o_81 ≠ b125 := Nat.ne_of_lt (Nat.lt_of_lt_of_le Fq131.lt (Nat.le_of_eq g125.symm))
  have Fq133 : Arv Z h107 r_o_94 k_r_94 .int (p4 &&& (3 : Int32)) [(.int ((((p4.toUInt32 >>> ((2 : Int32) &&& 31).toUInt32).toInt32) &&& (3 : Int32)) % (3 : Int32))), (.int ((((p4.toUInt32 >>> ((4 : Int32) &&& 31).toUInt32).toInt32) &&& (3 : Int32)) % (3 : Int32))), (.int ((((p4.toUInt32 >>> ((6 : Int32) &&& 31).toUInt32).toInt32) &&& (3 : Int32)) % (3 : Int32)))] (.int (0 : Int32)) := (Pf94_0.ext E107)
  have Ne132 : r_o_94 ≠ b125 := Nat.ne_of_lt (Nat.lt_of_lt_of_le Fq133.lt (Nat.le_of_eq g125.symm))
  have Ne134 : b107 ≠ b125 := Nat.ne_of_lt (Nat.lt_of_lt_of_le A107.lt (Nat.le_of_eq g125.symm))
  have Ge135 : n0 ≤ b125 := Nat.le_trans Zs118 (Nat.le_of_eq g125.symm)
  have Sz136 : h0.size ≤ b125 := Nat.le_trans Kc117.1 (Nat.le_of_eq g125.symm)
  have Kc137 : Keep h0 h125 [] := Kc117.ext E125
  have Zs138 : n0 ≤ h125.size := (Nat.le_trans Zs118 E125.1)
  have F125_entry : Fld Z h125 b125 "com/example/fovea/fovea/Memory$Key" "entry" "[I" .null := D125 (Or.inl (hw _ (List.mem_of_getElem? (i := 20) rfl))) (ty := (.array .int)) (by decide)
  have F125_slots : Fld Z h125 b125 "com/example/fovea/fovea/Memory$Key" "slots" "[I" .null := D125 (Or.inl (hw _ (List.mem_of_getElem? (i := 22) rfl))) (ty := (.array .int)) (by decide)
  have F125_hash : Fld Z h125 b125 "com/example/fovea/fovea/Memory$Key" "hash" "I" (.int (0 : Int32)) := D125 (Or.inl (hw _ (List.mem_of_getElem? (i := 24) rfl))) (ty := .int) (by decide)
  obtain ⟨_, _, ⟨T141, L141, k141, n141⟩, -, X141, ⟨Lc141, hQ141, l141, y141, z141⟩, st141⟩ := X125.specialBack hx (y := (⟨"com/example/fovea/fovea/Memory$Key", "<init>", "()V"⟩ : MethodName)) rfl hown (mvT hZ (hw _ (List.mem_of_getElem? (i := 8) rfl))) (mvT hZ (hw _ (List.mem_of_getElem? (i := 9) rfl))) (mvT hZ (hw _ (List.mem_of_getElem? (i := 10) rfl))) (by decide) (backOf (W := 1) (own_init l Z a0 hw [] b125 h125 n0 Zs138 ) hZ (hw _ (List.mem_of_getElem? (i := 10) rfl)) (hw _ (List.mem_of_getElem? (i := 7) rfl)) (by decide) (by decide)) (g := (mkF m 60 #[.val (.int p0), .val (.int p1), .val (.int p2), .val (.int p3), .val (.int p4), .val (.ref b3), .val (.ref b41), .val (.ref r_o_81), .val (.ref r_o_94), .val (.ref b107), .unset, .unset, .unset] [(.ref b125), (.ref b125)])) rfl (by rw [hml]; rfl) (Steps.refl _) (a := b125) (argsL := []) (rest := [(.ref b125)]) (lenOf own_pd1 rfl) rfl (by show 2 * 0 + _ ≤ _; exact Nat.le_of_eq rfl) (hb hby at_60) (fun _ _ => ⟨rfl, e125, (by decide : 6 + 0 ≤ _), (by decide : 22 + 0 ≤ _)⟩)
  dsimp only [Pt.U, Pt.locs, Pt.cells, Pt.slots] at X141 l141 y141 z141 st141 hQ141
  subst l141 y141 z141
  obtain ⟨rfl, Nq141, eh141⟩ := hQ141
  have N142 := Fr.app N122 Nq141
  have Fq149 : Exa Z h125 b107 "com/example/fovea/fovea/Memory$Key" := (A107.ext E125)
  have Fq150 : Fld Z h125 b107 "com/example/fovea/fovea/Memory$Key" "entry" "[I" .null := (F107_entry.ext E125)
  have Fq151 : Fld Z h125 b107 "com/example/fovea/fovea/Memory$Key" "slots" "[I" .null := (F107_slots.ext E125)
  have Fq152 : Fld Z h125 b107 "com/example/fovea/fovea/Memory$Key" "hash" "I" (.int (0 : Int32)) := (F107_hash.ext E125)
  have Fq153 : Arv Z h125 b41 k41 .int (3 : Int32) [(.int p2), (.int p0), (.int p1)] (.int (0 : Int32)) := ((((Vm74.keep K81 nin0).keep K94 nin0).ext E107).ext E125)
  have Fq154 : Arv Z h125 r_o_94 k_r_94 .int (p4 &&& (3 : Int32)) [(.int ((((p4.toUInt32 >>> ((2 : Int32) &&& 31).toUInt32).toInt32) &&& (3 : Int32)) % (3 : Int32))), (.int ((((p4.toUInt32 >>> ((4 : Int32) &&& 31).toUInt32).toInt32) &&& (3 : Int32)) % (3 : Int32))), (.int ((((p4.toUInt32 >>> ((6 : Int32) &&& 31).toUInt32).toInt32) &&& (3 : Int32)) % (3 : Int32)))] (.int (0 : Int32)) := (Fq133.ext E125)
  obtain ⟨cq148, kq148, q148a, q148b, q148c⟩ := isOf hZ eh141 Fq149
  obtain ⟨_, _, ⟨T148, L148, k148, n148⟩, -, X148, ⟨Lc148, hQ148, l148, y148, z148⟩, st148⟩ := X141.virtualBack hx (y := (⟨"com/example/fovea/fovea/Memory$Key", "of", "([I[I)Lcom/example/fovea/fovea/Memory$Key;"⟩ : MethodName)) (z := (⟨"com/example/fovea/fovea/Memory$Key", "of", "([I[I)Lcom/example/fovea/fovea/Memory$Key;"⟩ : MethodName)) hown (mvT hZ (hw _ (List.mem_of_getElem? (i := 14) rfl))) (mvT hZ (hw _ (List.mem_of_getElem? (i := 15) rfl))) (notFace_of_selects (args := #[]) (mvT hZ (hw _ (List.mem_of_getElem? (i := 17) rfl)))) (mvT hZ (hw _ (List.mem_of_getElem? (i := 17) rfl))) (mvT hZ (hw _ (List.mem_of_getElem? (i := 16) rfl))) (by decide) (backOf (W := 0) (own_of l Z a0 hw [] b107 b41 r_o_94 k41 k_r_94 .null .null (.int (0 : Int32)) (p4 &&& (3 : Int32)) p2 p0 p1 ((((p4.toUInt32 >>> ((2 : Int32) &&& 31).toUInt32).toInt32) &&& (3 : Int32)) % (3 : Int32)) ((((p4.toUInt32 >>> ((4 : Int32) &&& 31).toUInt32).toInt32) &&& (3 : Int32)) % (3 : Int32)) ((((p4.toUInt32 >>> ((6 : Int32) &&& 31).toUInt32).toInt32) &&& (3 : Int32)) % (3 : Int32)) h125 n0 Zs138 Fq149 Fq150 Fq151 Fq152 Fq153 Fq154 Ge115 Ne110 Ne114 (own_and3 _).2 (own_mod3 _) (own_mod3 _) (own_mod3 _)) hZ (hw _ (List.mem_of_getElem? (i := 18) rfl)) (hw _ (List.mem_of_getElem? (i := 7) rfl)) (by decide) (by decide)) q148a q148c (g := (mkF m 71 #[.val (.int p0), .val (.int p1), .val (.int p2), .val (.int p3), .val (.int p4), .val (.ref b3), .val (.ref b41), .val (.ref r_o_81), .val (.ref r_o_94), .val (.ref b107), .val (.ref b125), .unset, .unset] [(.ref r_o_94), (.ref b41), (.ref b107)])) rfl (by rw [hml]; rfl) (Steps.refl _) (argsL := [(.ref b41), (.ref r_o_94)]) (rest := []) (lenOf own_pd2 rfl) rfl (by show 2 * 0 + _ ≤ _; exact Nat.le_of_eq rfl) (hb hby at_71) (fun _ _ => ⟨rfl, eh141, (by decide : 6 + 0 ≤ _), (by decide : 22 + 0 ≤ _)⟩)
  dsimp only [Pt.U, Pt.locs, Pt.cells, Pt.slots] at X148 l148 y148 z148 st148 hQ148
  subst l148 y148 z148
  obtain ⟨rfl, Nq148, K148, Pf148_0, Pf148_1, Pf148_2, Pf148_3⟩ := hQ148
  have N155 := Fr.app N142 Nq148
  have Kc156 : Keep h0 T148.heap [] := Kc137.trans K148 (allS (Or.inr Sz116) all0)
  have Zs157 : n0 ≤ T148.heap.size := Nat.le_trans Zs138 K148.1
  have Fq164 : Exa Z T148.heap b125 "com/example/fovea/fovea/Memory$Key" := (A125.keep K148)
  have Fq165 : Fld Z T148.heap b125 "com/example/fovea/fovea/Memory$Key" "entry" "[I" .null := (F125_entry.keep K148 (ninS (Ne.symm Ne134) nin0))
  have Fq166 : Fld Z T148.heap b125 "com/example/fovea/fovea/Memory$Key" "slots" "[I" .null := (F125_slots.keep K148 (ninS (Ne.symm Ne134) nin0))
  have Fq167 : Fld Z T148.heap b125 "com/example/fovea/fovea/Memory$Key" "hash" "I" (.int (0 : Int32)) := (F125_hash.keep K148 (ninS (Ne.symm Ne134) nin0))
  have Fq168 : Arv Z T148.heap b41 k41 .int (3 : Int32) [(.int p2), (.int p0), (.int p1)] (.int (0 : Int32)) := (Fq153.keep K148 (ninS Ne110 nin0))
  have Fq169 : Arv Z T148.heap r_o_94 k_r_94 .int (p4 &&& (3 : Int32)) [(.int ((((p4.toUInt32 >>> ((2 : Int32) &&& 31).toUInt32).toInt32) &&& (3 : Int32)) % (3 : Int32))), (.int ((((p4.toUInt32 >>> ((4 : Int32) &&& 31).toUInt32).toInt32) &&& (3 : Int32)) % (3 : Int32))), (.int ((((p4.toUInt32 >>> ((6 : Int32) &&& 31).toUInt32).toInt32) &&& (3 : Int32)) % (3 : Int32)))] (.int (0 : Int32)) := (Fq154.keep K148 (ninS Ne114 nin0))
  obtain ⟨cq163, kq163, q163a, q163b, q163c⟩ := isOf hZ rfl Fq164
  obtain ⟨_, _, ⟨T163, L163, k163, n163⟩, -, X163, ⟨Lc163, hQ163, l163, y163, z163⟩, st163⟩ := X148.virtualBack hx (y := (⟨"com/example/fovea/fovea/Memory$Key", "of", "([I[I)Lcom/example/fovea/fovea/Memory$Key;"⟩ : MethodName)) (z := (⟨"com/example/fovea/fovea/Memory$Key", "of", "([I[I)Lcom/example/fovea/fovea/Memory$Key;"⟩ : MethodName)) hown (mvT hZ (hw _ (List.mem_of_getElem? (i := 14) rfl))) (mvT hZ (hw _ (List.mem_of_getElem? (i := 15) rfl))) (notFace_of_selects (args := #[]) (mvT hZ (hw _ (List.mem_of_getElem? (i := 17) rfl)))) (mvT hZ (hw _ (List.mem_of_getElem? (i := 17) rfl))) (mvT hZ (hw _ (List.mem_of_getElem? (i := 16) rfl))) (by decide) (backOf (W := 0) (own_of l Z a0 hw [] b125 b41 r_o_94 k41 k_r_94 .null .null (.int (0 : Int32)) (p4 &&& (3 : Int32)) p2 p0 p1 ((((p4.toUInt32 >>> ((2 : Int32) &&& 31).toUInt32).toInt32) &&& (3 : Int32)) % (3 : Int32)) ((((p4.toUInt32 >>> ((4 : Int32) &&& 31).toUInt32).toInt32) &&& (3 : Int32)) % (3 : Int32)) ((((p4.toUInt32 >>> ((6 : Int32) &&& 31).toUInt32).toInt32) &&& (3 : Int32)) % (3 : Int32)) T148.heap n0 Zs157 Fq164 Fq165 Fq166 Fq167 Fq168 Fq169 Ge135 Ne128 Ne132 (own_and3 _).2 (own_mod3 _) (own_mod3 _) (own_mod3 _)) hZ (hw _ (List.mem_of_getElem? (i := 18) rfl)) (hw _ (List.mem_of_getElem? (i := 7) rfl)) (by decide) (by decide)) q163a q163c (g := (mkF m 81 #[.val (.int p0), .val (.int p1), .val (.int p2), .val (.int p3), .val (.int p4), .val (.ref b3), .val (.ref b41), .val (.ref r_o_81), .val (.ref r_o_94), .val (.ref b107), .val (.ref b125), .unset, .unset] [(.ref r_o_94), (.ref b41), (.ref b125)])) rfl (by rw [hml]; rfl) (Steps.refl _) (argsL := [(.ref b41), (.ref r_o_94)]) (rest := []) (lenOf own_pd2 rfl) rfl (by show 2 * 0 + _ ≤ _; exact Nat.le_of_eq rfl) (hb hby at_81) (fun _ _ => ⟨rfl, rfl, (by decide : 6 + 0 ≤ _), (by decide : 22 + 0 ≤ _)⟩)
  dsimp only [Pt.U, Pt.locs, Pt.cells, Pt.slots] at X163 l163 y163 z163 st163 hQ163
  subst l163 y163 z163
  obtain ⟨rfl, Nq163, K163, Pf163_0, Pf163_1, Pf163_2, Pf163_3⟩ := hQ163
  have N170 := Fr.app N155 Nq163
  have Kc171 : Keep h0 T163.heap [] := Kc156.trans K163 (allS (Or.inr Sz136) all0)
  have Zs172 : n0 ≤ T163.heap.size := Nat.le_trans Zs157 K163.1
  have Fq179 : Exa Z T163.heap b107 "com/example/fovea/fovea/Memory$Key" := (Pf148_0.keep K163)
  have Fq180 : Fld Z T163.heap b107 "com/example/fovea/fovea/Memory$Key" "entry" "[I" (.ref b41) := (Pf148_1.keep K163 (ninS Ne134 nin0))
  have Fq181 : Fld Z T163.heap b107 "com/example/fovea/fovea/Memory$Key" "slots" "[I" (.ref r_o_94) := (Pf148_2.keep K163 (ninS Ne134 nin0))
  have Fq182 : Fld Z T163.heap b107 "com/example/fovea/fovea/Memory$Key" "hash" "I" (.int (own_of_f (p4 &&& (3 : Int32)) p2 p0 p1 ((((p4.toUInt32 >>> ((2 : Int32) &&& 31).toUInt32).toInt32) &&& (3 : Int32)) % (3 : Int32)) ((((p4.toUInt32 >>> ((4 : Int32) &&& 31).toUInt32).toInt32) &&& (3 : Int32)) % (3 : Int32)) ((((p4.toUInt32 >>> ((6 : Int32) &&& 31).toUInt32).toInt32) &&& (3 : Int32)) % (3 : Int32)))) := (Pf148_3.keep K163 (ninS Ne134 nin0))
  have Fq183 : Arv Z T163.heap b3 k3 .int (3 : Int32) [(.int p0), (.int p1), (.int p2)] (.int (0 : Int32)) := ((((((((((Vm34.ext E41).other W53 Ne42).other W63 Ne42).other W73 Ne42).keep K81 nin0).keep K94 nin0).ext E107).ext E125).keep K148 (ninS Ne108 nin0)).keep K163 (ninS Ne126 nin0))
  have Fq184 : Arv Z T163.heap r_o_81 k_r_81 .int (p3 &&& (3 : Int32)) [(.int ((((p3.toUInt32 >>> ((2 : Int32) &&& 31).toUInt32).toInt32) &&& (3 : Int32)) % (3 : Int32))), (.int ((((p3.toUInt32 >>> ((4 : Int32) &&& 31).toUInt32).toInt32) &&& (3 : Int32)) % (3 : Int32))), (.int ((((p3.toUInt32 >>> ((6 : Int32) &&& 31).toUInt32).toInt32) &&& (3 : Int32)) % (3 : Int32)))] (.int (0 : Int32)) := (((Fq131.ext E125).keep K148 (ninS Ne112 nin0)).keep K163 (ninS Ne130 nin0))
  obtain ⟨cq178, kq178, q178a, q178b, q178c⟩ := isOf hZ rfl Fq179
  obtain ⟨_, _, ⟨T178, L178, k178, n178⟩, -, X178, ⟨Lc178, hQ178, l178, y178, z178⟩, st178⟩ := X163.virtualBack hx (y := (⟨"com/example/fovea/fovea/Memory$Key", "of", "([I[I)Lcom/example/fovea/fovea/Memory$Key;"⟩ : MethodName)) (z := (⟨"com/example/fovea/fovea/Memory$Key", "of", "([I[I)Lcom/example/fovea/fovea/Memory$Key;"⟩ : MethodName)) hown (mvT hZ (hw _ (List.mem_of_getElem? (i := 14) rfl))) (mvT hZ (hw _ (List.mem_of_getElem? (i := 15) rfl))) (notFace_of_selects (args := #[]) (mvT hZ (hw _ (List.mem_of_getElem? (i := 17) rfl)))) (mvT hZ (hw _ (List.mem_of_getElem? (i := 17) rfl))) (mvT hZ (hw _ (List.mem_of_getElem? (i := 16) rfl))) (by decide) (backOf (W := 0) (own_of l Z a0 hw [] b107 b3 r_o_81 k3 k_r_81 (.ref b41) (.ref r_o_94) (.int (own_of_f (p4 &&& (3 : Int32)) p2 p0 p1 ((((p4.toUInt32 >>> ((2 : Int32) &&& 31).toUInt32).toInt32) &&& (3 : Int32)) % (3 : Int32)) ((((p4.toUInt32 >>> ((4 : Int32) &&& 31).toUInt32).toInt32) &&& (3 : Int32)) % (3 : Int32)) ((((p4.toUInt32 >>> ((6 : Int32) &&& 31).toUInt32).toInt32) &&& (3 : Int32)) % (3 : Int32)))) (p3 &&& (3 : Int32)) p0 p1 p2 ((((p3.toUInt32 >>> ((2 : Int32) &&& 31).toUInt32).toInt32) &&& (3 : Int32)) % (3 : Int32)) ((((p3.toUInt32 >>> ((4 : Int32) &&& 31).toUInt32).toInt32) &&& (3 : Int32)) % (3 : Int32)) ((((p3.toUInt32 >>> ((6 : Int32) &&& 31).toUInt32).toInt32) &&& (3 : Int32)) % (3 : Int32)) T163.heap n0 Zs172 Fq179 Fq180 Fq181 Fq182 Fq183 Fq184 Ge115 Ne108 Ne112 (own_and3 _).2 (own_mod3 _) (own_mod3 _) (own_mod3 _)) hZ (hw _ (List.mem_of_getElem? (i := 18) rfl)) (hw _ (List.mem_of_getElem? (i := 7) rfl)) (by decide) (by decide)) q178a q178c (g := (mkF m 92 #[.val (.int p0), .val (.int p1), .val (.int p2), .val (.int p3), .val (.int p4), .val (.ref b3), .val (.ref b41), .val (.ref r_o_81), .val (.ref r_o_94), .val (.ref b107), .val (.ref b125), .val (.ref b125), .unset] [(.ref r_o_81), (.ref b3), (.ref b107)])) rfl (by rw [hml]; rfl) (Steps.refl _) (argsL := [(.ref b3), (.ref r_o_81)]) (rest := []) (lenOf own_pd2 rfl) rfl (by show 2 * 0 + _ ≤ _; exact Nat.le_of_eq rfl) (hb hby at_92) (fun _ _ => ⟨rfl, rfl, (by decide : 6 + 0 ≤ _), (by decide : 22 + 0 ≤ _)⟩)
  dsimp only [Pt.U, Pt.locs, Pt.cells, Pt.slots] at X178 l178 y178 z178 st178 hQ178
  subst l178 y178 z178
  obtain ⟨rfl, Nq178, K178, Pf178_0, Pf178_1, Pf178_2, Pf178_3⟩ := hQ178
  have N185 := Fr.app N170 Nq178
  have Kc186 : Keep h0 T178.heap [] := Kc171.trans K178 (allS (Or.inr Sz116) all0)
  have Zs187 : n0 ≤ T178.heap.size := Nat.le_trans Zs172 K178.1
  obtain ⟨cq197, kq197, q197a, q197b, q197c⟩ := isOf hZ rfl Pf178_0
  obtain ⟨_, _, ⟨T197, L197, k197, n197⟩, -, X197, ⟨Lc197, hQ197, l197, y197, z197⟩, st197⟩ := X178.virtualBack hx (y := (⟨"com/example/fovea/fovea/Memory$Key", "hashCode", "()I"⟩ : MethodName)) (z := (⟨"com/example/fovea/fovea/Memory$Key", "hashCode", "()I"⟩ : MethodName)) hown (mvT hZ (hw _ (List.mem_of_getElem? (i := 25) rfl))) (mvT hZ (hw _ (List.mem_of_getElem? (i := 26) rfl))) (notFace_of_selects (args := #[]) (mvT hZ (hw _ (List.mem_of_getElem? (i := 28) rfl)))) (mvT hZ (hw _ (List.mem_of_getElem? (i := 28) rfl))) (mvT hZ (hw _ (List.mem_of_getElem? (i := 27) rfl))) (by decide) (backOf (W := 0) (own_hc l Z a0 hw [] b107 (own_of_f (p3 &&& (3 : Int32)) p0 p1 p2 ((((p3.toUInt32 >>> ((2 : Int32) &&& 31).toUInt32).toInt32) &&& (3 : Int32)) % (3 : Int32)) ((((p3.toUInt32 >>> ((4 : Int32) &&& 31).toUInt32).toInt32) &&& (3 : Int32)) % (3 : Int32)) ((((p3.toUInt32 >>> ((6 : Int32) &&& 31).toUInt32).toInt32) &&& (3 : Int32)) % (3 : Int32))) T178.heap n0 Zs187 Pf178_3) hZ (hw _ (List.mem_of_getElem? (i := 29) rfl)) (hw _ (List.mem_of_getElem? (i := 7) rfl)) (by decide) (by decide)) q197a q197c (g := (mkF m 115 #[.val (.int p0), .val (.int p1), .val (.int p2), .val (.int p3), .val (.int p4), .val (.ref b3), .val (.ref b41), .val (.ref r_o_81), .val (.ref r_o_94), .val (.ref b107), .val (.ref b125), .val (.ref b125), .val (.ref b107)] [(.ref b107)])) rfl (by rw [hml]; rfl) (Steps.refl _) (argsL := []) (rest := []) (lenOf own_pd3 rfl) rfl (by show 2 * 0 + _ ≤ _; exact Nat.le_of_eq rfl) (hb hby at_115) (fun _ _ => ⟨rfl, rfl, (by decide : 6 + 0 ≤ _), (by decide : 22 + 0 ≤ _)⟩)
  dsimp only [Pt.U, Pt.locs, Pt.cells, Pt.slots] at X197 l197 y197 z197 st197 hQ197
  subst l197 y197 z197
  obtain ⟨rfl, Nq197, eh197⟩ := hQ197
  have N198 := Fr.app N185 Nq197
  have Fq203 : Arv Z T178.heap b3 k3 .int (3 : Int32) [(.int p0), (.int p1), (.int p2)] (.int (0 : Int32)) := (Fq183.keep K178 (ninS Ne108 nin0))
  have Fq204 : Arv Z T178.heap r_o_81 k_r_81 .int (p3 &&& (3 : Int32)) [(.int ((((p3.toUInt32 >>> ((2 : Int32) &&& 31).toUInt32).toInt32) &&& (3 : Int32)) % (3 : Int32))), (.int ((((p3.toUInt32 >>> ((4 : Int32) &&& 31).toUInt32).toInt32) &&& (3 : Int32)) % (3 : Int32))), (.int ((((p3.toUInt32 >>> ((6 : Int32) &&& 31).toUInt32).toInt32) &&& (3 : Int32)) % (3 : Int32)))] (.int (0 : Int32)) := (Fq184.keep K178 (ninS Ne112 nin0))
  obtain ⟨_, _, ⟨T202, L202, k202, n202⟩, -, X202, ⟨Lc202, hQ202, l202, y202, z202⟩, st202⟩ := Jvm.LawKit.callS X197 hx (y := (⟨"com/example/fovea/fovea/KeyOfPinLaw", "hash", "([I[I)I"⟩ : MethodName)) hown (mvT hZ (hw _ (List.mem_of_getElem? (i := 30) rfl))) (mvT hZ (hw _ (List.mem_of_getElem? (i := 31) rfl))) (mvT hZ (hw _ (List.mem_of_getElem? (i := 3) rfl))) (mvT hZ (hw _ (List.mem_of_getElem? (i := 32) rfl))) (by decide) (backOf (W := 1) (own_hash l Z a0 hw [] b3 r_o_81 k3 k_r_81 (p3 &&& (3 : Int32)) p0 p1 p2 ((((p3.toUInt32 >>> ((2 : Int32) &&& 31).toUInt32).toInt32) &&& (3 : Int32)) % (3 : Int32)) ((((p3.toUInt32 >>> ((4 : Int32) &&& 31).toUInt32).toInt32) &&& (3 : Int32)) % (3 : Int32)) ((((p3.toUInt32 >>> ((6 : Int32) &&& 31).toUInt32).toInt32) &&& (3 : Int32)) % (3 : Int32)) T178.heap n0 Zs187 Fq203 Fq204 (own_mod3 _) (own_mod3 _) (own_mod3 _)) hZ (hw _ (List.mem_of_getElem? (i := 32) rfl)) (hw _ (List.mem_of_getElem? (i := 3) rfl)) (by decide) (by decide)) (g := (mkF m 122 #[.val (.int p0), .val (.int p1), .val (.int p2), .val (.int p3), .val (.int p4), .val (.ref b3), .val (.ref b41), .val (.ref r_o_81), .val (.ref r_o_94), .val (.ref b107), .val (.ref b125), .val (.ref b125), .val (.ref b107)] [(.ref r_o_81), (.ref b3), (.int (own_of_f (p3 &&& (3 : Int32)) p0 p1 p2 ((((p3.toUInt32 >>> ((2 : Int32) &&& 31).toUInt32).toInt32) &&& (3 : Int32)) % (3 : Int32)) ((((p3.toUInt32 >>> ((4 : Int32) &&& 31).toUInt32).toInt32) &&& (3 : Int32)) % (3 : Int32)) ((((p3.toUInt32 >>> ((6 : Int32) &&& 31).toUInt32).toInt32) &&& (3 : Int32)) % (3 : Int32))))])) rfl (by rw [hml]; rfl) (argsL := [(.ref b3), (.ref r_o_81)]) (rest := [(.int (own_of_f (p3 &&& (3 : Int32)) p0 p1 p2 ((((p3.toUInt32 >>> ((2 : Int32) &&& 31).toUInt32).toInt32) &&& (3 : Int32)) % (3 : Int32)) ((((p3.toUInt32 >>> ((4 : Int32) &&& 31).toUInt32).toInt32) &&& (3 : Int32)) % (3 : Int32)) ((((p3.toUInt32 >>> ((6 : Int32) &&& 31).toUInt32).toInt32) &&& (3 : Int32)) % (3 : Int32))))]) (lenOf own_pd4 rfl) rfl (by show 2 * 0 + _ ≤ _; exact Nat.le_of_eq rfl) (hb hby at_122) (fun _ _ => ⟨rfl, eh197, (by decide : 6 + 0 ≤ _), (by decide : 22 + 0 ≤ _)⟩)
  dsimp only [Pt.U, Pt.locs, Pt.cells, Pt.slots] at X202 l202 y202 z202 st202 hQ202
  subst l202 y202 z202
  obtain ⟨rfl, Nq202, eh202⟩ := hQ202
  have N205 := Fr.app N198 Nq202
  have Fq210 : Fld Z T178.heap b125 "com/example/fovea/fovea/Memory$Key" "hash" "I" (.int (own_of_f (p4 &&& (3 : Int32)) p2 p0 p1 ((((p4.toUInt32 >>> ((2 : Int32) &&& 31).toUInt32).toInt32) &&& (3 : Int32)) % (3 : Int32)) ((((p4.toUInt32 >>> ((4 : Int32) &&& 31).toUInt32).toInt32) &&& (3 : Int32)) % (3 : Int32)) ((((p4.toUInt32 >>> ((6 : Int32) &&& 31).toUInt32).toInt32) &&& (3 : Int32)) % (3 : Int32)))) := (Pf163_3.keep K178 (ninS (Ne.symm Ne134) nin0))
  have Fq211 : Exa Z T178.heap b125 "com/example/fovea/fovea/Memory$Key" := (Pf163_0.keep K178)
  obtain ⟨cq209, kq209, q209a, q209b, q209c⟩ := isOf hZ eh202 Fq211
  obtain ⟨_, _, ⟨T209, L209, k209, n209⟩, -, X209, ⟨Lc209, hQ209, l209, y209, z209⟩, st209⟩ := X202.virtualBack hx (y := (⟨"com/example/fovea/fovea/Memory$Key", "hashCode", "()I"⟩ : MethodName)) (z := (⟨"com/example/fovea/fovea/Memory$Key", "hashCode", "()I"⟩ : MethodName)) hown (mvT hZ (hw _ (List.mem_of_getElem? (i := 25) rfl))) (mvT hZ (hw _ (List.mem_of_getElem? (i := 26) rfl))) (notFace_of_selects (args := #[]) (mvT hZ (hw _ (List.mem_of_getElem? (i := 28) rfl)))) (mvT hZ (hw _ (List.mem_of_getElem? (i := 28) rfl))) (mvT hZ (hw _ (List.mem_of_getElem? (i := 27) rfl))) (by decide) (backOf (W := 0) (own_hc l Z a0 hw [] b125 (own_of_f (p4 &&& (3 : Int32)) p2 p0 p1 ((((p4.toUInt32 >>> ((2 : Int32) &&& 31).toUInt32).toInt32) &&& (3 : Int32)) % (3 : Int32)) ((((p4.toUInt32 >>> ((4 : Int32) &&& 31).toUInt32).toInt32) &&& (3 : Int32)) % (3 : Int32)) ((((p4.toUInt32 >>> ((6 : Int32) &&& 31).toUInt32).toInt32) &&& (3 : Int32)) % (3 : Int32))) T178.heap n0 Zs187 Fq210) hZ (hw _ (List.mem_of_getElem? (i := 29) rfl)) (hw _ (List.mem_of_getElem? (i := 7) rfl)) (by decide) (by decide)) q209a q209c (g := (mkF m 132 #[.val (.int p0), .val (.int p1), .val (.int p2), .val (.int p3), .val (.int p4), .val (.ref b3), .val (.ref b41), .val (.ref r_o_81), .val (.ref r_o_94), .val (.ref b107), .val (.ref b125), .val (.ref b125), .val (.ref b107)] [(.ref b125)])) rfl (by rw [hml]; rfl) (Steps.refl _) (argsL := []) (rest := []) (lenOf own_pd3 rfl) rfl (by show 2 * 0 + _ ≤ _; exact Nat.le_of_eq rfl) (hb hby at_132) (fun _ _ => ⟨rfl, eh202, (by decide : 6 + 0 ≤ _), (by decide : 22 + 0 ≤ _)⟩)
  dsimp only [Pt.U, Pt.locs, Pt.cells, Pt.slots] at X209 l209 y209 z209 st209 hQ209
  subst l209 y209 z209
  obtain ⟨rfl, Nq209, eh209⟩ := hQ209
  have N212 := Fr.app N205 Nq209
  have Fq217 : Arv Z T178.heap b41 k41 .int (3 : Int32) [(.int p2), (.int p0), (.int p1)] (.int (0 : Int32)) := ((Fq168.keep K163 (ninS Ne128 nin0)).keep K178 (ninS Ne110 nin0))
  have Fq218 : Arv Z T178.heap r_o_94 k_r_94 .int (p4 &&& (3 : Int32)) [(.int ((((p4.toUInt32 >>> ((2 : Int32) &&& 31).toUInt32).toInt32) &&& (3 : Int32)) % (3 : Int32))), (.int ((((p4.toUInt32 >>> ((4 : Int32) &&& 31).toUInt32).toInt32) &&& (3 : Int32)) % (3 : Int32))), (.int ((((p4.toUInt32 >>> ((6 : Int32) &&& 31).toUInt32).toInt32) &&& (3 : Int32)) % (3 : Int32)))] (.int (0 : Int32)) := ((Fq169.keep K163 (ninS Ne132 nin0)).keep K178 (ninS Ne114 nin0))
  obtain ⟨_, _, ⟨T216, L216, k216, n216⟩, -, X216, ⟨Lc216, hQ216, l216, y216, z216⟩, st216⟩ := Jvm.LawKit.callS X209 hx (y := (⟨"com/example/fovea/fovea/KeyOfPinLaw", "hash", "([I[I)I"⟩ : MethodName)) hown (mvT hZ (hw _ (List.mem_of_getElem? (i := 30) rfl))) (mvT hZ (hw _ (List.mem_of_getElem? (i := 31) rfl))) (mvT hZ (hw _ (List.mem_of_getElem? (i := 3) rfl))) (mvT hZ (hw _ (List.mem_of_getElem? (i := 32) rfl))) (by decide) (backOf (W := 1) (own_hash l Z a0 hw [] b41 r_o_94 k41 k_r_94 (p4 &&& (3 : Int32)) p2 p0 p1 ((((p4.toUInt32 >>> ((2 : Int32) &&& 31).toUInt32).toInt32) &&& (3 : Int32)) % (3 : Int32)) ((((p4.toUInt32 >>> ((4 : Int32) &&& 31).toUInt32).toInt32) &&& (3 : Int32)) % (3 : Int32)) ((((p4.toUInt32 >>> ((6 : Int32) &&& 31).toUInt32).toInt32) &&& (3 : Int32)) % (3 : Int32)) T178.heap n0 Zs187 Fq217 Fq218 (own_mod3 _) (own_mod3 _) (own_mod3 _)) hZ (hw _ (List.mem_of_getElem? (i := 32) rfl)) (hw _ (List.mem_of_getElem? (i := 3) rfl)) (by decide) (by decide)) (g := (mkF m 139 #[.val (.int p0), .val (.int p1), .val (.int p2), .val (.int p3), .val (.int p4), .val (.ref b3), .val (.ref b41), .val (.ref r_o_81), .val (.ref r_o_94), .val (.ref b107), .val (.ref b125), .val (.ref b125), .val (.ref b107)] [(.ref r_o_94), (.ref b41), (.int (own_of_f (p4 &&& (3 : Int32)) p2 p0 p1 ((((p4.toUInt32 >>> ((2 : Int32) &&& 31).toUInt32).toInt32) &&& (3 : Int32)) % (3 : Int32)) ((((p4.toUInt32 >>> ((4 : Int32) &&& 31).toUInt32).toInt32) &&& (3 : Int32)) % (3 : Int32)) ((((p4.toUInt32 >>> ((6 : Int32) &&& 31).toUInt32).toInt32) &&& (3 : Int32)) % (3 : Int32))))])) rfl (by rw [hml]; rfl) (argsL := [(.ref b41), (.ref r_o_94)]) (rest := [(.int (own_of_f (p4 &&& (3 : Int32)) p2 p0 p1 ((((p4.toUInt32 >>> ((2 : Int32) &&& 31).toUInt32).toInt32) &&& (3 : Int32)) % (3 : Int32)) ((((p4.toUInt32 >>> ((4 : Int32) &&& 31).toUInt32).toInt32) &&& (3 : Int32)) % (3 : Int32)) ((((p4.toUInt32 >>> ((6 : Int32) &&& 31).toUInt32).toInt32) &&& (3 : Int32)) % (3 : Int32))))]) (lenOf own_pd4 rfl) rfl (by show 2 * 0 + _ ≤ _; exact Nat.le_of_eq rfl) (hb hby at_139) (fun _ _ => ⟨rfl, eh209, (by decide : 6 + 0 ≤ _), (by decide : 22 + 0 ≤ _)⟩)
  dsimp only [Pt.U, Pt.locs, Pt.cells, Pt.slots] at X216 l216 y216 z216 st216 hQ216
  subst l216 y216 z216
  obtain ⟨rfl, Nq216, eh216⟩ := hQ216
  have N219 := Fr.app N212 Nq216
  have Fq225 : Fld Z T178.heap b125 "com/example/fovea/fovea/Memory$Key" "entry" "[I" (.ref b41) := (Pf163_1.keep K178 (ninS (Ne.symm Ne134) nin0))
  have Fq226 : Fld Z T178.heap b125 "com/example/fovea/fovea/Memory$Key" "slots" "[I" (.ref r_o_94) := (Pf163_2.keep K178 (ninS (Ne.symm Ne134) nin0))
  obtain ⟨cq224, kq224, q224a, q224b, q224c⟩ := isOf hZ eh216 Pf178_0
  obtain ⟨_, _, ⟨T224, L224, k224, n224⟩, -, X224, ⟨Lc224, hQ224, l224, y224, z224⟩, st224⟩ := X216.virtualBack hx (y := (⟨"com/example/fovea/fovea/Memory$Key", "equals", "(Ljava/lang/Object;)Z"⟩ : MethodName)) (z := (⟨"com/example/fovea/fovea/Memory$Key", "equals", "(Ljava/lang/Object;)Z"⟩ : MethodName)) hown (mvT hZ (hw _ (List.mem_of_getElem? (i := 33) rfl))) (mvT hZ (hw _ (List.mem_of_getElem? (i := 34) rfl))) (notFace_of_selects (args := #[]) (mvT hZ (hw _ (List.mem_of_getElem? (i := 36) rfl)))) (mvT hZ (hw _ (List.mem_of_getElem? (i := 36) rfl))) (mvT hZ (hw _ (List.mem_of_getElem? (i := 35) rfl))) (by decide) (backOf (W := 0) (own_eq l Z a0 hw [] b107 b125 b3 r_o_81 b41 r_o_94 k3 k_r_81 k41 k_r_94 (p3 &&& (3 : Int32)) (p4 &&& (3 : Int32)) p0 p1 p2 ((((p3.toUInt32 >>> ((2 : Int32) &&& 31).toUInt32).toInt32) &&& (3 : Int32)) % (3 : Int32)) ((((p3.toUInt32 >>> ((4 : Int32) &&& 31).toUInt32).toInt32) &&& (3 : Int32)) % (3 : Int32)) ((((p3.toUInt32 >>> ((6 : Int32) &&& 31).toUInt32).toInt32) &&& (3 : Int32)) % (3 : Int32)) p2 p0 p1 ((((p4.toUInt32 >>> ((2 : Int32) &&& 31).toUInt32).toInt32) &&& (3 : Int32)) % (3 : Int32)) ((((p4.toUInt32 >>> ((4 : Int32) &&& 31).toUInt32).toInt32) &&& (3 : Int32)) % (3 : Int32)) ((((p4.toUInt32 >>> ((6 : Int32) &&& 31).toUInt32).toInt32) &&& (3 : Int32)) % (3 : Int32)) T178.heap n0 Zs187 Fq211 Pf178_1 Pf178_2 Fq225 Fq226 Fq203 Fq204 (own_mod3 _) (own_mod3 _) (own_mod3 _) Fq217 Fq218 (own_mod3 _) (own_mod3 _) (own_mod3 _) (own_and3 _).2) hZ (hw _ (List.mem_of_getElem? (i := 37) rfl)) (hw _ (List.mem_of_getElem? (i := 7) rfl)) (by decide) (by decide)) q224a q224c (g := (mkF m 151 #[.val (.int p0), .val (.int p1), .val (.int p2), .val (.int p3), .val (.int p4), .val (.ref b3), .val (.ref b41), .val (.ref r_o_81), .val (.ref r_o_94), .val (.ref b107), .val (.ref b125), .val (.ref b125), .val (.ref b107)] [(.ref b125), (.ref b107)])) rfl (by rw [hml]; rfl) (Steps.refl _) (argsL := [(.ref b125)]) (rest := []) (lenOf own_pd5 rfl) rfl (by show 2 * 0 + _ ≤ _; exact Nat.le_of_eq rfl) (hb hby at_151) (fun _ _ => ⟨rfl, eh216, (by decide : 6 + 0 ≤ _), (by decide : 22 + 0 ≤ _)⟩)
  dsimp only [Pt.U, Pt.locs, Pt.cells, Pt.slots] at X224 l224 y224 z224 st224 hQ224
  subst l224 y224 z224
  obtain ⟨rfl, Nq224, eh224⟩ := hQ224
  have N227 := Fr.app N219 Nq224
  obtain ⟨_, _, ⟨T233, L233, k233, n233⟩, -, X233, ⟨Lc233, hQ233, l233, y233, z233⟩, st233⟩ := Jvm.LawKit.callS X224 hx (y := (⟨"com/example/fovea/fovea/KeyOfPinLaw", "same", "([I[I[I[I)Z"⟩ : MethodName)) hown (mvT hZ (hw _ (List.mem_of_getElem? (i := 40) rfl))) (mvT hZ (hw _ (List.mem_of_getElem? (i := 41) rfl))) (mvT hZ (hw _ (List.mem_of_getElem? (i := 3) rfl))) (mvT hZ (hw _ (List.mem_of_getElem? (i := 42) rfl))) (by decide) (backOf (W := 1) (own_same l Z a0 hw [] b3 r_o_81 b41 r_o_94 k3 k_r_81 k41 k_r_94 (p3 &&& (3 : Int32)) (p4 &&& (3 : Int32)) p0 p1 p2 ((((p3.toUInt32 >>> ((2 : Int32) &&& 31).toUInt32).toInt32) &&& (3 : Int32)) % (3 : Int32)) ((((p3.toUInt32 >>> ((4 : Int32) &&& 31).toUInt32).toInt32) &&& (3 : Int32)) % (3 : Int32)) ((((p3.toUInt32 >>> ((6 : Int32) &&& 31).toUInt32).toInt32) &&& (3 : Int32)) % (3 : Int32)) p2 p0 p1 ((((p4.toUInt32 >>> ((2 : Int32) &&& 31).toUInt32).toInt32) &&& (3 : Int32)) % (3 : Int32)) ((((p4.toUInt32 >>> ((4 : Int32) &&& 31).toUInt32).toInt32) &&& (3 : Int32)) % (3 : Int32)) ((((p4.toUInt32 >>> ((6 : Int32) &&& 31).toUInt32).toInt32) &&& (3 : Int32)) % (3 : Int32)) T178.heap n0 Zs187 Fq203 Fq204 (own_mod3 _) (own_mod3 _) (own_mod3 _) Fq217 Fq218 (own_mod3 _) (own_mod3 _) (own_mod3 _)) hZ (hw _ (List.mem_of_getElem? (i := 42) rfl)) (hw _ (List.mem_of_getElem? (i := 3) rfl)) (by decide) (by decide)) (g := (mkF m 162 #[.val (.int p0), .val (.int p1), .val (.int p2), .val (.int p3), .val (.int p4), .val (.ref b3), .val (.ref b41), .val (.ref r_o_81), .val (.ref r_o_94), .val (.ref b107), .val (.ref b125), .val (.ref b125), .val (.ref b107)] [(.ref r_o_94), (.ref b41), (.ref r_o_81), (.ref b3), (.int (own_eq_f (p3 &&& (3 : Int32)) (p4 &&& (3 : Int32)) p0 p1 p2 ((((p3.toUInt32 >>> ((2 : Int32) &&& 31).toUInt32).toInt32) &&& (3 : Int32)) % (3 : Int32)) ((((p3.toUInt32 >>> ((4 : Int32) &&& 31).toUInt32).toInt32) &&& (3 : Int32)) % (3 : Int32)) ((((p3.toUInt32 >>> ((6 : Int32) &&& 31).toUInt32).toInt32) &&& (3 : Int32)) % (3 : Int32)) p2 p0 p1 ((((p4.toUInt32 >>> ((2 : Int32) &&& 31).toUInt32).toInt32) &&& (3 : Int32)) % (3 : Int32)) ((((p4.toUInt32 >>> ((4 : Int32) &&& 31).toUInt32).toInt32) &&& (3 : Int32)) % (3 : Int32)) ((((p4.toUInt32 >>> ((6 : Int32) &&& 31).toUInt32).toInt32) &&& (3 : Int32)) % (3 : Int32))))])) rfl (by rw [hml]; rfl) (argsL := [(.ref b3), (.ref r_o_81), (.ref b41), (.ref r_o_94)]) (rest := [(.int (own_eq_f (p3 &&& (3 : Int32)) (p4 &&& (3 : Int32)) p0 p1 p2 ((((p3.toUInt32 >>> ((2 : Int32) &&& 31).toUInt32).toInt32) &&& (3 : Int32)) % (3 : Int32)) ((((p3.toUInt32 >>> ((4 : Int32) &&& 31).toUInt32).toInt32) &&& (3 : Int32)) % (3 : Int32)) ((((p3.toUInt32 >>> ((6 : Int32) &&& 31).toUInt32).toInt32) &&& (3 : Int32)) % (3 : Int32)) p2 p0 p1 ((((p4.toUInt32 >>> ((2 : Int32) &&& 31).toUInt32).toInt32) &&& (3 : Int32)) % (3 : Int32)) ((((p4.toUInt32 >>> ((4 : Int32) &&& 31).toUInt32).toInt32) &&& (3 : Int32)) % (3 : Int32)) ((((p4.toUInt32 >>> ((6 : Int32) &&& 31).toUInt32).toInt32) &&& (3 : Int32)) % (3 : Int32))))]) (lenOf own_pd6 rfl) rfl (by show 2 * 0 + _ ≤ _; exact Nat.le_of_eq rfl) (hb hby at_162) (fun _ _ => ⟨rfl, eh224, (by decide : 6 + 0 ≤ _), (by decide : 22 + 0 ≤ _)⟩)
  dsimp only [Pt.U, Pt.locs, Pt.cells, Pt.slots] at X233 l233 y233 z233 st233 hQ233
  subst l233 y233 z233
  obtain ⟨rfl, Nq233, eh233⟩ := hQ233
  have N234 := Fr.app N227 Nq233
  obtain ⟨fs, hr, hrun, hended, hW, hsame⟩ := X233.leave (v := some (.int (1 : Int32))) (fun h => by rw [Bd.returns] at h; cases h) (hlocks := BodyLoose.notSynchronized Bd)
  refine ⟨_, _, pre0 _ ?_, hrun, hended, _, _, rfl, ?_, ⟨_, rfl⟩, hW, hsame.mono (by decide) (by decide)⟩
  · show Steps p.tables e below (s₁.setTop (mkF m 0 #[.val (.int p0), .val (.int p1), .val (.int p2), .val (.int p3), .val (.int p4), .unset, .unset, .unset, .unset, .unset, .unset, .unset, .unset] [])) _
    refine XS.iconst X0.here hx rfl (hb hby at_0) ?_
    show Steps p.tables e below (s₁.setTop (mkF m 1 #[.val (.int p0), .val (.int p1), .val (.int p2), .val (.int p3), .val (.int p4), .unset, .unset, .unset, .unset, .unset, .unset, .unset, .unset] [(.int (3 : Int32))])) _
    refine st3 _ ?_
    show Steps p.tables e below (T3.setTop (mkF m 3 #[.val (.int p0), .val (.int p1), .val (.int p2), .val (.int p3), .val (.int p4), .unset, .unset, .unset, .unset, .unset, .unset, .unset, .unset] [(.ref b3)])) _
    refine XS.dup X3.here hx rfl (hb hby at_3) rfl rfl ?_
    show Steps p.tables e below (T3.setTop (mkF m 4 #[.val (.int p0), .val (.int p1), .val (.int p2), .val (.int p3), .val (.int p4), .unset, .unset, .unset, .unset, .unset, .unset, .unset, .unset] [(.ref b3), (.ref b3)])) _
    refine XS.iconst X3.here hx rfl (hb hby at_4) ?_
    show Steps p.tables e below (T3.setTop (mkF m 5 #[.val (.int p0), .val (.int p1), .val (.int p2), .val (.int p3), .val (.int p4), .unset, .unset, .unset, .unset, .unset, .unset, .unset, .unset] [(.int (0 : Int32)), (.ref b3), (.ref b3)])) _
    refine XS.iloadN X3.here hx rfl (hb hby at_5) rfl ?_
    show Steps p.tables e below (T3.setTop (mkF m 6 #[.val (.int p0), .val (.int p1), .val (.int p2), .val (.int p3), .val (.int p4), .unset, .unset, .unset, .unset, .unset, .unset, .unset, .unset] [(.int p0), (.int (0 : Int32)), (.ref b3), (.ref b3)])) _
    refine st13 _ ?_
    show Steps p.tables e below (T13.setTop (mkF m 7 #[.val (.int p0), .val (.int p1), .val (.int p2), .val (.int p3), .val (.int p4), .unset, .unset, .unset, .unset, .unset, .unset, .unset, .unset] [(.ref b3)])) _
    refine XS.dup X13.here hx rfl (hb hby at_7) rfl rfl ?_
    show Steps p.tables e below (T13.setTop (mkF m 8 #[.val (.int p0), .val (.int p1), .val (.int p2), .val (.int p3), .val (.int p4), .unset, .unset, .unset, .unset, .unset, .unset, .unset, .unset] [(.ref b3), (.ref b3)])) _
    refine XS.iconst X13.here hx rfl (hb hby at_8) ?_
    show Steps p.tables e below (T13.setTop (mkF m 9 #[.val (.int p0), .val (.int p1), .val (.int p2), .val (.int p3), .val (.int p4), .unset, .unset, .unset, .unset, .unset, .unset, .unset, .unset] [(.int (1 : Int32)), (.ref b3), (.ref b3)])) _
    refine XS.iloadN X13.here hx rfl (hb hby at_9) rfl ?_
    show Steps p.tables e below (T13.setTop (mkF m 10 #[.val (.int p0), .val (.int p1), .val (.int p2), .val (.int p3), .val (.int p4), .unset, .unset, .unset, .unset, .unset, .unset, .unset, .unset] [(.int p1), (.int (1 : Int32)), (.ref b3), (.ref b3)])) _
    refine st23 _ ?_
    show Steps p.tables e below (T23.setTop (mkF m 11 #[.val (.int p0), .val (.int p1), .val (.int p2), .val (.int p3), .val (.int p4), .unset, .unset, .unset, .unset, .unset, .unset, .unset, .unset] [(.ref b3)])) _
    refine XS.dup X23.here hx rfl (hb hby at_11) rfl rfl ?_
    show Steps p.tables e below (T23.setTop (mkF m 12 #[.val (.int p0), .val (.int p1), .val (.int p2), .val (.int p3), .val (.int p4), .unset, .unset, .unset, .unset, .unset, .unset, .unset, .unset] [(.ref b3), (.ref b3)])) _
    refine XS.iconst X23.here hx rfl (hb hby at_12) ?_
    show Steps p.tables e below (T23.setTop (mkF m 13 #[.val (.int p0), .val (.int p1), .val (.int p2), .val (.int p3), .val (.int p4), .unset, .unset, .unset, .unset, .unset, .unset, .unset, .unset] [(.int (2 : Int32)), (.ref b3), (.ref b3)])) _
    refine XS.iloadN X23.here hx rfl (hb hby at_13) rfl ?_
    show Steps p.tables e below (T23.setTop (mkF m 14 #[.val (.int p0), .val (.int p1), .val (.int p2), .val (.int p3), .val (.int p4), .unset, .unset, .unset, .unset, .unset, .unset, .unset, .unset] [(.int p2), (.int (2 : Int32)), (.ref b3), (.ref b3)])) _
    refine st33 _ ?_
    show Steps p.tables e below (T33.setTop (mkF m 15 #[.val (.int p0), .val (.int p1), .val (.int p2), .val (.int p3), .val (.int p4), .unset, .unset, .unset, .unset, .unset, .unset, .unset, .unset] [(.ref b3)])) _
    refine XS.astore X33.here hx rfl (hb hby at_15) rfl rfl (l' := #[.val (.int p0), .val (.int p1), .val (.int p2), .val (.int p3), .val (.int p4), .val (.ref b3), .unset, .unset, .unset, .unset, .unset, .unset, .unset]) rfl ?_
    show Steps p.tables e below (T33.setTop (mkF m 17 #[.val (.int p0), .val (.int p1), .val (.int p2), .val (.int p3), .val (.int p4), .val (.ref b3), .unset, .unset, .unset, .unset, .unset, .unset, .unset] [])) _
    refine XS.iconst X33.here hx rfl (hb hby at_17) ?_
    show Steps p.tables e below (T33.setTop (mkF m 18 #[.val (.int p0), .val (.int p1), .val (.int p2), .val (.int p3), .val (.int p4), .val (.ref b3), .unset, .unset, .unset, .unset, .unset, .unset, .unset] [(.int (3 : Int32))])) _
    refine st41 _ ?_
    show Steps p.tables e below (T41.setTop (mkF m 20 #[.val (.int p0), .val (.int p1), .val (.int p2), .val (.int p3), .val (.int p4), .val (.ref b3), .unset, .unset, .unset, .unset, .unset, .unset, .unset] [(.ref b41)])) _
    refine XS.dup X41.here hx rfl (hb hby at_20) rfl rfl ?_
    show Steps p.tables e below (T41.setTop (mkF m 21 #[.val (.int p0), .val (.int p1), .val (.int p2), .val (.int p3), .val (.int p4), .val (.ref b3), .unset, .unset, .unset, .unset, .unset, .unset, .unset] [(.ref b41), (.ref b41)])) _
    refine XS.iconst X41.here hx rfl (hb hby at_21) ?_
    show Steps p.tables e below (T41.setTop (mkF m 22 #[.val (.int p0), .val (.int p1), .val (.int p2), .val (.int p3), .val (.int p4), .val (.ref b3), .unset, .unset, .unset, .unset, .unset, .unset, .unset] [(.int (0 : Int32)), (.ref b41), (.ref b41)])) _
    refine XS.iloadN X41.here hx rfl (hb hby at_22) rfl ?_
    show Steps p.tables e below (T41.setTop (mkF m 23 #[.val (.int p0), .val (.int p1), .val (.int p2), .val (.int p3), .val (.int p4), .val (.ref b3), .unset, .unset, .unset, .unset, .unset, .unset, .unset] [(.int p2), (.int (0 : Int32)), (.ref b41), (.ref b41)])) _
    refine st53 _ ?_
    show Steps p.tables e below (T53.setTop (mkF m 24 #[.val (.int p0), .val (.int p1), .val (.int p2), .val (.int p3), .val (.int p4), .val (.ref b3), .unset, .unset, .unset, .unset, .unset, .unset, .unset] [(.ref b41)])) _
    refine XS.dup X53.here hx rfl (hb hby at_24) rfl rfl ?_
    show Steps p.tables e below (T53.setTop (mkF m 25 #[.val (.int p0), .val (.int p1), .val (.int p2), .val (.int p3), .val (.int p4), .val (.ref b3), .unset, .unset, .unset, .unset, .unset, .unset, .unset] [(.ref b41), (.ref b41)])) _
    refine XS.iconst X53.here hx rfl (hb hby at_25) ?_
    show Steps p.tables e below (T53.setTop (mkF m 26 #[.val (.int p0), .val (.int p1), .val (.int p2), .val (.int p3), .val (.int p4), .val (.ref b3), .unset, .unset, .unset, .unset, .unset, .unset, .unset] [(.int (1 : Int32)), (.ref b41), (.ref b41)])) _
    refine XS.iloadN X53.here hx rfl (hb hby at_26) rfl ?_
    show Steps p.tables e below (T53.setTop (mkF m 27 #[.val (.int p0), .val (.int p1), .val (.int p2), .val (.int p3), .val (.int p4), .val (.ref b3), .unset, .unset, .unset, .unset, .unset, .unset, .unset] [(.int p0), (.int (1 : Int32)), (.ref b41), (.ref b41)])) _
    refine st63 _ ?_
    show Steps p.tables e below (T63.setTop (mkF m 28 #[.val (.int p0), .val (.int p1), .val (.int p2), .val (.int p3), .val (.int p4), .val (.ref b3), .unset, .unset, .unset, .unset, .unset, .unset, .unset] [(.ref b41)])) _
    refine XS.dup X63.here hx rfl (hb hby at_28) rfl rfl ?_
    show Steps p.tables e below (T63.setTop (mkF m 29 #[.val (.int p0), .val (.int p1), .val (.int p2), .val (.int p3), .val (.int p4), .val (.ref b3), .unset, .unset, .unset, .unset, .unset, .unset, .unset] [(.ref b41), (.ref b41)])) _
    refine XS.iconst X63.here hx rfl (hb hby at_29) ?_
    show Steps p.tables e below (T63.setTop (mkF m 30 #[.val (.int p0), .val (.int p1), .val (.int p2), .val (.int p3), .val (.int p4), .val (.ref b3), .unset, .unset, .unset, .unset, .unset, .unset, .unset] [(.int (2 : Int32)), (.ref b41), (.ref b41)])) _
    refine XS.iloadN X63.here hx rfl (hb hby at_30) rfl ?_
    show Steps p.tables e below (T63.setTop (mkF m 31 #[.val (.int p0), .val (.int p1), .val (.int p2), .val (.int p3), .val (.int p4), .val (.ref b3), .unset, .unset, .unset, .unset, .unset, .unset, .unset] [(.int p1), (.int (2 : Int32)), (.ref b41), (.ref b41)])) _
    refine st73 _ ?_
    show Steps p.tables e below (T73.setTop (mkF m 32 #[.val (.int p0), .val (.int p1), .val (.int p2), .val (.int p3), .val (.int p4), .val (.ref b3), .unset, .unset, .unset, .unset, .unset, .unset, .unset] [(.ref b41)])) _
    refine XS.astore X73.here hx rfl (hb hby at_32) rfl rfl (l' := #[.val (.int p0), .val (.int p1), .val (.int p2), .val (.int p3), .val (.int p4), .val (.ref b3), .val (.ref b41), .unset, .unset, .unset, .unset, .unset, .unset]) rfl ?_
    show Steps p.tables e below (T73.setTop (mkF m 34 #[.val (.int p0), .val (.int p1), .val (.int p2), .val (.int p3), .val (.int p4), .val (.ref b3), .val (.ref b41), .unset, .unset, .unset, .unset, .unset, .unset] [])) _
    refine XS.iloadN X73.here hx rfl (hb hby at_34) rfl ?_
    show Steps p.tables e below (T73.setTop (mkF m 35 #[.val (.int p0), .val (.int p1), .val (.int p2), .val (.int p3), .val (.int p4), .val (.ref b3), .val (.ref b41), .unset, .unset, .unset, .unset, .unset, .unset] [(.int p3)])) _
    refine st81 _ ?_
    show Steps p.tables e below (T81.setTop (mkF m 38 #[.val (.int p0), .val (.int p1), .val (.int p2), .val (.int p3), .val (.int p4), .val (.ref b3), .val (.ref b41), .unset, .unset, .unset, .unset, .unset, .unset] [(.ref r_o_81)])) _
    refine XS.astore X81.here hx rfl (hb hby at_38) rfl rfl (l' := #[.val (.int p0), .val (.int p1), .val (.int p2), .val (.int p3), .val (.int p4), .val (.ref b3), .val (.ref b41), .val (.ref r_o_81), .unset, .unset, .unset, .unset, .unset]) rfl ?_
    show Steps p.tables e below (T81.setTop (mkF m 40 #[.val (.int p0), .val (.int p1), .val (.int p2), .val (.int p3), .val (.int p4), .val (.ref b3), .val (.ref b41), .val (.ref r_o_81), .unset, .unset, .unset, .unset, .unset] [])) _
    refine XS.iload X81.here hx rfl (hb hby at_40) rfl ?_
    show Steps p.tables e below (T81.setTop (mkF m 42 #[.val (.int p0), .val (.int p1), .val (.int p2), .val (.int p3), .val (.int p4), .val (.ref b3), .val (.ref b41), .val (.ref r_o_81), .unset, .unset, .unset, .unset, .unset] [(.int p4)])) _
    refine st94 _ ?_
    show Steps p.tables e below (T94.setTop (mkF m 45 #[.val (.int p0), .val (.int p1), .val (.int p2), .val (.int p3), .val (.int p4), .val (.ref b3), .val (.ref b41), .val (.ref r_o_81), .unset, .unset, .unset, .unset, .unset] [(.ref r_o_94)])) _
    refine XS.astore X94.here hx rfl (hb hby at_45) rfl rfl (l' := #[.val (.int p0), .val (.int p1), .val (.int p2), .val (.int p3), .val (.int p4), .val (.ref b3), .val (.ref b41), .val (.ref r_o_81), .val (.ref r_o_94), .unset, .unset, .unset, .unset]) rfl ?_
    show Steps p.tables e below (T94.setTop (mkF m 47 #[.val (.int p0), .val (.int p1), .val (.int p2), .val (.int p3), .val (.int p4), .val (.ref b3), .val (.ref b41), .val (.ref r_o_81), .val (.ref r_o_94), .unset, .unset, .unset, .unset] [])) _
    refine st107 _ ?_
    show Steps p.tables e below (T107.setTop (mkF m 50 #[.val (.int p0), .val (.int p1), .val (.int p2), .val (.int p3), .val (.int p4), .val (.ref b3), .val (.ref b41), .val (.ref r_o_81), .val (.ref r_o_94), .unset, .unset, .unset, .unset] [(.ref b107)])) _
    refine XS.dup X107.here hx rfl (hb hby at_50) rfl rfl ?_
    show Steps p.tables e below (T107.setTop (mkF m 51 #[.val (.int p0), .val (.int p1), .val (.int p2), .val (.int p3), .val (.int p4), .val (.ref b3), .val (.ref b41), .val (.ref r_o_81), .val (.ref r_o_94), .unset, .unset, .unset, .unset] [(.ref b107), (.ref b107)])) _
    refine st121.trans ?_
    show Steps p.tables e below (T121.setTop (mkF m 54 #[.val (.int p0), .val (.int p1), .val (.int p2), .val (.int p3), .val (.int p4), .val (.ref b3), .val (.ref b41), .val (.ref r_o_81), .val (.ref r_o_94), .unset, .unset, .unset, .unset] [(.ref b107)])) _
    refine XS.astore X121.here hx rfl (hb hby at_54) rfl rfl (l' := #[.val (.int p0), .val (.int p1), .val (.int p2), .val (.int p3), .val (.int p4), .val (.ref b3), .val (.ref b41), .val (.ref r_o_81), .val (.ref r_o_94), .val (.ref b107), .unset, .unset, .unset]) rfl ?_
    show Steps p.tables e below (T121.setTop (mkF m 56 #[.val (.int p0), .val (.int p1), .val (.int p2), .val (.int p3), .val (.int p4), .val (.ref b3), .val (.ref b41), .val (.ref r_o_81), .val (.ref r_o_94), .val (.ref b107), .unset, .unset, .unset] [])) _
    refine st125 _ ?_
    show Steps p.tables e below (T125.setTop (mkF m 59 #[.val (.int p0), .val (.int p1), .val (.int p2), .val (.int p3), .val (.int p4), .val (.ref b3), .val (.ref b41), .val (.ref r_o_81), .val (.ref r_o_94), .val (.ref b107), .unset, .unset, .unset] [(.ref b125)])) _
    refine XS.dup X125.here hx rfl (hb hby at_59) rfl rfl ?_
    show Steps p.tables e below (T125.setTop (mkF m 60 #[.val (.int p0), .val (.int p1), .val (.int p2), .val (.int p3), .val (.int p4), .val (.ref b3), .val (.ref b41), .val (.ref r_o_81), .val (.ref r_o_94), .val (.ref b107), .unset, .unset, .unset] [(.ref b125), (.ref b125)])) _
    refine st141.trans ?_
    show Steps p.tables e below (T141.setTop (mkF m 63 #[.val (.int p0), .val (.int p1), .val (.int p2), .val (.int p3), .val (.int p4), .val (.ref b3), .val (.ref b41), .val (.ref r_o_81), .val (.ref r_o_94), .val (.ref b107), .unset, .unset, .unset] [(.ref b125)])) _
    refine XS.astore X141.here hx rfl (hb hby at_63) rfl rfl (l' := #[.val (.int p0), .val (.int p1), .val (.int p2), .val (.int p3), .val (.int p4), .val (.ref b3), .val (.ref b41), .val (.ref r_o_81), .val (.ref r_o_94), .val (.ref b107), .val (.ref b125), .unset, .unset]) rfl ?_
    show Steps p.tables e below (T141.setTop (mkF m 65 #[.val (.int p0), .val (.int p1), .val (.int p2), .val (.int p3), .val (.int p4), .val (.ref b3), .val (.ref b41), .val (.ref r_o_81), .val (.ref r_o_94), .val (.ref b107), .val (.ref b125), .unset, .unset] [])) _
    refine XS.aload X141.here hx rfl (hb hby at_65) rfl rfl ?_
    show Steps p.tables e below (T141.setTop (mkF m 67 #[.val (.int p0), .val (.int p1), .val (.int p2), .val (.int p3), .val (.int p4), .val (.ref b3), .val (.ref b41), .val (.ref r_o_81), .val (.ref r_o_94), .val (.ref b107), .val (.ref b125), .unset, .unset] [(.ref b107)])) _
    refine XS.aload X141.here hx rfl (hb hby at_67) rfl rfl ?_
    show Steps p.tables e below (T141.setTop (mkF m 69 #[.val (.int p0), .val (.int p1), .val (.int p2), .val (.int p3), .val (.int p4), .val (.ref b3), .val (.ref b41), .val (.ref r_o_81), .val (.ref r_o_94), .val (.ref b107), .val (.ref b125), .unset, .unset] [(.ref b41), (.ref b107)])) _
    refine XS.aload X141.here hx rfl (hb hby at_69) rfl rfl ?_
    show Steps p.tables e below (T141.setTop (mkF m 71 #[.val (.int p0), .val (.int p1), .val (.int p2), .val (.int p3), .val (.int p4), .val (.ref b3), .val (.ref b41), .val (.ref r_o_81), .val (.ref r_o_94), .val (.ref b107), .val (.ref b125), .unset, .unset] [(.ref r_o_94), (.ref b41), (.ref b107)])) _
    refine st148.trans ?_
    show Steps p.tables e below (T148.setTop (mkF m 74 #[.val (.int p0), .val (.int p1), .val (.int p2), .val (.int p3), .val (.int p4), .val (.ref b3), .val (.ref b41), .val (.ref r_o_81), .val (.ref r_o_94), .val (.ref b107), .val (.ref b125), .unset, .unset] [(.ref b107)])) _
    refine XS.pop X148.here hx rfl (hb hby at_74) rfl rfl ?_
    show Steps p.tables e below (T148.setTop (mkF m 75 #[.val (.int p0), .val (.int p1), .val (.int p2), .val (.int p3), .val (.int p4), .val (.ref b3), .val (.ref b41), .val (.ref r_o_81), .val (.ref r_o_94), .val (.ref b107), .val (.ref b125), .unset, .unset] [])) _
    refine XS.aload X148.here hx rfl (hb hby at_75) rfl rfl ?_
    show Steps p.tables e below (T148.setTop (mkF m 77 #[.val (.int p0), .val (.int p1), .val (.int p2), .val (.int p3), .val (.int p4), .val (.ref b3), .val (.ref b41), .val (.ref r_o_81), .val (.ref r_o_94), .val (.ref b107), .val (.ref b125), .unset, .unset] [(.ref b125)])) _
    refine XS.aload X148.here hx rfl (hb hby at_77) rfl rfl ?_
    show Steps p.tables e below (T148.setTop (mkF m 79 #[.val (.int p0), .val (.int p1), .val (.int p2), .val (.int p3), .val (.int p4), .val (.ref b3), .val (.ref b41), .val (.ref r_o_81), .val (.ref r_o_94), .val (.ref b107), .val (.ref b125), .unset, .unset] [(.ref b41), (.ref b125)])) _
    refine XS.aload X148.here hx rfl (hb hby at_79) rfl rfl ?_
    show Steps p.tables e below (T148.setTop (mkF m 81 #[.val (.int p0), .val (.int p1), .val (.int p2), .val (.int p3), .val (.int p4), .val (.ref b3), .val (.ref b41), .val (.ref r_o_81), .val (.ref r_o_94), .val (.ref b107), .val (.ref b125), .unset, .unset] [(.ref r_o_94), (.ref b41), (.ref b125)])) _
    refine st163.trans ?_
    show Steps p.tables e below (T163.setTop (mkF m 84 #[.val (.int p0), .val (.int p1), .val (.int p2), .val (.int p3), .val (.int p4), .val (.ref b3), .val (.ref b41), .val (.ref r_o_81), .val (.ref r_o_94), .val (.ref b107), .val (.ref b125), .unset, .unset] [(.ref b125)])) _
    refine XS.astore X163.here hx rfl (hb hby at_84) rfl rfl (l' := #[.val (.int p0), .val (.int p1), .val (.int p2), .val (.int p3), .val (.int p4), .val (.ref b3), .val (.ref b41), .val (.ref r_o_81), .val (.ref r_o_94), .val (.ref b107), .val (.ref b125), .val (.ref b125), .unset]) rfl ?_
    show Steps p.tables e below (T163.setTop (mkF m 86 #[.val (.int p0), .val (.int p1), .val (.int p2), .val (.int p3), .val (.int p4), .val (.ref b3), .val (.ref b41), .val (.ref r_o_81), .val (.ref r_o_94), .val (.ref b107), .val (.ref b125), .val (.ref b125), .unset] [])) _
    refine XS.aload X163.here hx rfl (hb hby at_86) rfl rfl ?_
    show Steps p.tables e below (T163.setTop (mkF m 88 #[.val (.int p0), .val (.int p1), .val (.int p2), .val (.int p3), .val (.int p4), .val (.ref b3), .val (.ref b41), .val (.ref r_o_81), .val (.ref r_o_94), .val (.ref b107), .val (.ref b125), .val (.ref b125), .unset] [(.ref b107)])) _
    refine XS.aload X163.here hx rfl (hb hby at_88) rfl rfl ?_
    show Steps p.tables e below (T163.setTop (mkF m 90 #[.val (.int p0), .val (.int p1), .val (.int p2), .val (.int p3), .val (.int p4), .val (.ref b3), .val (.ref b41), .val (.ref r_o_81), .val (.ref r_o_94), .val (.ref b107), .val (.ref b125), .val (.ref b125), .unset] [(.ref b3), (.ref b107)])) _
    refine XS.aload X163.here hx rfl (hb hby at_90) rfl rfl ?_
    show Steps p.tables e below (T163.setTop (mkF m 92 #[.val (.int p0), .val (.int p1), .val (.int p2), .val (.int p3), .val (.int p4), .val (.ref b3), .val (.ref b41), .val (.ref r_o_81), .val (.ref r_o_94), .val (.ref b107), .val (.ref b125), .val (.ref b125), .unset] [(.ref r_o_81), (.ref b3), (.ref b107)])) _
    refine st178.trans ?_
    show Steps p.tables e below (T178.setTop (mkF m 95 #[.val (.int p0), .val (.int p1), .val (.int p2), .val (.int p3), .val (.int p4), .val (.ref b3), .val (.ref b41), .val (.ref r_o_81), .val (.ref r_o_94), .val (.ref b107), .val (.ref b125), .val (.ref b125), .unset] [(.ref b107)])) _
    refine XS.astore X178.here hx rfl (hb hby at_95) rfl rfl (l' := #[.val (.int p0), .val (.int p1), .val (.int p2), .val (.int p3), .val (.int p4), .val (.ref b3), .val (.ref b41), .val (.ref r_o_81), .val (.ref r_o_94), .val (.ref b107), .val (.ref b125), .val (.ref b125), .val (.ref b107)]) rfl ?_
    show Steps p.tables e below (T178.setTop (mkF m 97 #[.val (.int p0), .val (.int p1), .val (.int p2), .val (.int p3), .val (.int p4), .val (.ref b3), .val (.ref b41), .val (.ref r_o_81), .val (.ref r_o_94), .val (.ref b107), .val (.ref b125), .val (.ref b125), .val (.ref b107)] [])) _
    refine XS.aload X178.here hx rfl (hb hby at_97) rfl rfl ?_
    show Steps p.tables e below (T178.setTop (mkF m 99 #[.val (.int p0), .val (.int p1), .val (.int p2), .val (.int p3), .val (.int p4), .val (.ref b3), .val (.ref b41), .val (.ref r_o_81), .val (.ref r_o_94), .val (.ref b107), .val (.ref b125), .val (.ref b125), .val (.ref b107)] [(.ref b107)])) _
    refine XS.aload X178.here hx rfl (hb hby at_99) rfl rfl ?_
    show Steps p.tables e below (T178.setTop (mkF m 101 #[.val (.int p0), .val (.int p1), .val (.int p2), .val (.int p3), .val (.int p4), .val (.ref b3), .val (.ref b41), .val (.ref r_o_81), .val (.ref r_o_94), .val (.ref b107), .val (.ref b125), .val (.ref b125), .val (.ref b107)] [(.ref b107), (.ref b107)])) _
    refine Jvm.RoadKit.acmp (g := (mkF m 101 #[.val (.int p0), .val (.int p1), .val (.int p2), .val (.int p3), .val (.int p4), .val (.ref b3), .val (.ref b41), .val (.ref r_o_81), .val (.ref r_o_94), .val (.ref b107), .val (.ref b125), .val (.ref b125), .val (.ref b107)] [(.ref b107), (.ref b107)])) X178 hx rfl rfl rfl (pc0 := 101) (pc' := 104) (same := true) rfl (hb hby at_101) rfl (decide_eq_true rfl) (by decide) (by decide) ?_
    show Steps p.tables e below (T178.setTop (mkF m 104 #[.val (.int p0), .val (.int p1), .val (.int p2), .val (.int p3), .val (.int p4), .val (.ref b3), .val (.ref b41), .val (.ref r_o_81), .val (.ref r_o_94), .val (.ref b107), .val (.ref b125), .val (.ref b125), .val (.ref b107)] [])) _
    refine XS.aload X178.here hx rfl (hb hby at_104) rfl rfl ?_
    show Steps p.tables e below (T178.setTop (mkF m 106 #[.val (.int p0), .val (.int p1), .val (.int p2), .val (.int p3), .val (.int p4), .val (.ref b3), .val (.ref b41), .val (.ref r_o_81), .val (.ref r_o_94), .val (.ref b107), .val (.ref b125), .val (.ref b125), .val (.ref b107)] [(.ref b125)])) _
    refine XS.aload X178.here hx rfl (hb hby at_106) rfl rfl ?_
    show Steps p.tables e below (T178.setTop (mkF m 108 #[.val (.int p0), .val (.int p1), .val (.int p2), .val (.int p3), .val (.int p4), .val (.ref b3), .val (.ref b41), .val (.ref r_o_81), .val (.ref r_o_94), .val (.ref b107), .val (.ref b125), .val (.ref b125), .val (.ref b107)] [(.ref b125), (.ref b125)])) _
    refine Jvm.RoadKit.acmp (g := (mkF m 108 #[.val (.int p0), .val (.int p1), .val (.int p2), .val (.int p3), .val (.int p4), .val (.ref b3), .val (.ref b41), .val (.ref r_o_81), .val (.ref r_o_94), .val (.ref b107), .val (.ref b125), .val (.ref b125), .val (.ref b107)] [(.ref b125), (.ref b125)])) X178 hx rfl rfl rfl (pc0 := 108) (pc' := 113) (same := true) rfl (hb hby at_108) rfl (decide_eq_true rfl) (by decide) (by decide) ?_
    show Steps p.tables e below (T178.setTop (mkF m 113 #[.val (.int p0), .val (.int p1), .val (.int p2), .val (.int p3), .val (.int p4), .val (.ref b3), .val (.ref b41), .val (.ref r_o_81), .val (.ref r_o_94), .val (.ref b107), .val (.ref b125), .val (.ref b125), .val (.ref b107)] [])) _
    refine XS.aload X178.here hx rfl (hb hby at_113) rfl rfl ?_
    show Steps p.tables e below (T178.setTop (mkF m 115 #[.val (.int p0), .val (.int p1), .val (.int p2), .val (.int p3), .val (.int p4), .val (.ref b3), .val (.ref b41), .val (.ref r_o_81), .val (.ref r_o_94), .val (.ref b107), .val (.ref b125), .val (.ref b125), .val (.ref b107)] [(.ref b107)])) _
    refine st197.trans ?_
    show Steps p.tables e below (T197.setTop (mkF m 118 #[.val (.int p0), .val (.int p1), .val (.int p2), .val (.int p3), .val (.int p4), .val (.ref b3), .val (.ref b41), .val (.ref r_o_81), .val (.ref r_o_94), .val (.ref b107), .val (.ref b125), .val (.ref b125), .val (.ref b107)] [(.int (own_of_f (p3 &&& (3 : Int32)) p0 p1 p2 ((((p3.toUInt32 >>> ((2 : Int32) &&& 31).toUInt32).toInt32) &&& (3 : Int32)) % (3 : Int32)) ((((p3.toUInt32 >>> ((4 : Int32) &&& 31).toUInt32).toInt32) &&& (3 : Int32)) % (3 : Int32)) ((((p3.toUInt32 >>> ((6 : Int32) &&& 31).toUInt32).toInt32) &&& (3 : Int32)) % (3 : Int32))))])) _
    refine XS.aload X197.here hx rfl (hb hby at_118) rfl rfl ?_
    show Steps p.tables e below (T197.setTop (mkF m 120 #[.val (.int p0), .val (.int p1), .val (.int p2), .val (.int p3), .val (.int p4), .val (.ref b3), .val (.ref b41), .val (.ref r_o_81), .val (.ref r_o_94), .val (.ref b107), .val (.ref b125), .val (.ref b125), .val (.ref b107)] [(.ref b3), (.int (own_of_f (p3 &&& (3 : Int32)) p0 p1 p2 ((((p3.toUInt32 >>> ((2 : Int32) &&& 31).toUInt32).toInt32) &&& (3 : Int32)) % (3 : Int32)) ((((p3.toUInt32 >>> ((4 : Int32) &&& 31).toUInt32).toInt32) &&& (3 : Int32)) % (3 : Int32)) ((((p3.toUInt32 >>> ((6 : Int32) &&& 31).toUInt32).toInt32) &&& (3 : Int32)) % (3 : Int32))))])) _
    refine XS.aload X197.here hx rfl (hb hby at_120) rfl rfl ?_
    show Steps p.tables e below (T197.setTop (mkF m 122 #[.val (.int p0), .val (.int p1), .val (.int p2), .val (.int p3), .val (.int p4), .val (.ref b3), .val (.ref b41), .val (.ref r_o_81), .val (.ref r_o_94), .val (.ref b107), .val (.ref b125), .val (.ref b125), .val (.ref b107)] [(.ref r_o_81), (.ref b3), (.int (own_of_f (p3 &&& (3 : Int32)) p0 p1 p2 ((((p3.toUInt32 >>> ((2 : Int32) &&& 31).toUInt32).toInt32) &&& (3 : Int32)) % (3 : Int32)) ((((p3.toUInt32 >>> ((4 : Int32) &&& 31).toUInt32).toInt32) &&& (3 : Int32)) % (3 : Int32)) ((((p3.toUInt32 >>> ((6 : Int32) &&& 31).toUInt32).toInt32) &&& (3 : Int32)) % (3 : Int32))))])) _
    refine st202 _ ?_
    show Steps p.tables e below (T202.setTop (mkF m 125 #[.val (.int p0), .val (.int p1), .val (.int p2), .val (.int p3), .val (.int p4), .val (.ref b3), .val (.ref b41), .val (.ref r_o_81), .val (.ref r_o_94), .val (.ref b107), .val (.ref b125), .val (.ref b125), .val (.ref b107)] [(.int (own_hash_f (p3 &&& (3 : Int32)) p0 p1 p2 ((((p3.toUInt32 >>> ((2 : Int32) &&& 31).toUInt32).toInt32) &&& (3 : Int32)) % (3 : Int32)) ((((p3.toUInt32 >>> ((4 : Int32) &&& 31).toUInt32).toInt32) &&& (3 : Int32)) % (3 : Int32)) ((((p3.toUInt32 >>> ((6 : Int32) &&& 31).toUInt32).toInt32) &&& (3 : Int32)) % (3 : Int32)))), (.int (own_of_f (p3 &&& (3 : Int32)) p0 p1 p2 ((((p3.toUInt32 >>> ((2 : Int32) &&& 31).toUInt32).toInt32) &&& (3 : Int32)) % (3 : Int32)) ((((p3.toUInt32 >>> ((4 : Int32) &&& 31).toUInt32).toInt32) &&& (3 : Int32)) % (3 : Int32)) ((((p3.toUInt32 >>> ((6 : Int32) &&& 31).toUInt32).toInt32) &&& (3 : Int32)) % (3 : Int32))))])) _
    refine XS.icmpYes X202.here hx rfl (pc0 := 125) (pc' := 130) rfl (hb hby at_125) rfl (teq (own_m1 _ _ _ _ _ _ _ : (own_of_f (p3 &&& (3 : Int32)) p0 p1 p2 ((((p3.toUInt32 >>> ((2 : Int32) &&& 31).toUInt32).toInt32) &&& (3 : Int32)) % (3 : Int32)) ((((p3.toUInt32 >>> ((4 : Int32) &&& 31).toUInt32).toInt32) &&& (3 : Int32)) % (3 : Int32)) ((((p3.toUInt32 >>> ((6 : Int32) &&& 31).toUInt32).toInt32) &&& (3 : Int32)) % (3 : Int32))) = (own_hash_f (p3 &&& (3 : Int32)) p0 p1 p2 ((((p3.toUInt32 >>> ((2 : Int32) &&& 31).toUInt32).toInt32) &&& (3 : Int32)) % (3 : Int32)) ((((p3.toUInt32 >>> ((4 : Int32) &&& 31).toUInt32).toInt32) &&& (3 : Int32)) % (3 : Int32)) ((((p3.toUInt32 >>> ((6 : Int32) &&& 31).toUInt32).toInt32) &&& (3 : Int32)) % (3 : Int32))))).1 (by decide) (by decide) ?_
    show Steps p.tables e below (T202.setTop (mkF m 130 #[.val (.int p0), .val (.int p1), .val (.int p2), .val (.int p3), .val (.int p4), .val (.ref b3), .val (.ref b41), .val (.ref r_o_81), .val (.ref r_o_94), .val (.ref b107), .val (.ref b125), .val (.ref b125), .val (.ref b107)] [])) _
    refine XS.aload X202.here hx rfl (hb hby at_130) rfl rfl ?_
    show Steps p.tables e below (T202.setTop (mkF m 132 #[.val (.int p0), .val (.int p1), .val (.int p2), .val (.int p3), .val (.int p4), .val (.ref b3), .val (.ref b41), .val (.ref r_o_81), .val (.ref r_o_94), .val (.ref b107), .val (.ref b125), .val (.ref b125), .val (.ref b107)] [(.ref b125)])) _
    refine st209.trans ?_
    show Steps p.tables e below (T209.setTop (mkF m 135 #[.val (.int p0), .val (.int p1), .val (.int p2), .val (.int p3), .val (.int p4), .val (.ref b3), .val (.ref b41), .val (.ref r_o_81), .val (.ref r_o_94), .val (.ref b107), .val (.ref b125), .val (.ref b125), .val (.ref b107)] [(.int (own_of_f (p4 &&& (3 : Int32)) p2 p0 p1 ((((p4.toUInt32 >>> ((2 : Int32) &&& 31).toUInt32).toInt32) &&& (3 : Int32)) % (3 : Int32)) ((((p4.toUInt32 >>> ((4 : Int32) &&& 31).toUInt32).toInt32) &&& (3 : Int32)) % (3 : Int32)) ((((p4.toUInt32 >>> ((6 : Int32) &&& 31).toUInt32).toInt32) &&& (3 : Int32)) % (3 : Int32))))])) _
    refine XS.aload X209.here hx rfl (hb hby at_135) rfl rfl ?_
    show Steps p.tables e below (T209.setTop (mkF m 137 #[.val (.int p0), .val (.int p1), .val (.int p2), .val (.int p3), .val (.int p4), .val (.ref b3), .val (.ref b41), .val (.ref r_o_81), .val (.ref r_o_94), .val (.ref b107), .val (.ref b125), .val (.ref b125), .val (.ref b107)] [(.ref b41), (.int (own_of_f (p4 &&& (3 : Int32)) p2 p0 p1 ((((p4.toUInt32 >>> ((2 : Int32) &&& 31).toUInt32).toInt32) &&& (3 : Int32)) % (3 : Int32)) ((((p4.toUInt32 >>> ((4 : Int32) &&& 31).toUInt32).toInt32) &&& (3 : Int32)) % (3 : Int32)) ((((p4.toUInt32 >>> ((6 : Int32) &&& 31).toUInt32).toInt32) &&& (3 : Int32)) % (3 : Int32))))])) _
    refine XS.aload X209.here hx rfl (hb hby at_137) rfl rfl ?_
    show Steps p.tables e below (T209.setTop (mkF m 139 #[.val (.int p0), .val (.int p1), .val (.int p2), .val (.int p3), .val (.int p4), .val (.ref b3), .val (.ref b41), .val (.ref r_o_81), .val (.ref r_o_94), .val (.ref b107), .val (.ref b125), .val (.ref b125), .val (.ref b107)] [(.ref r_o_94), (.ref b41), (.int (own_of_f (p4 &&& (3 : Int32)) p2 p0 p1 ((((p4.toUInt32 >>> ((2 : Int32) &&& 31).toUInt32).toInt32) &&& (3 : Int32)) % (3 : Int32)) ((((p4.toUInt32 >>> ((4 : Int32) &&& 31).toUInt32).toInt32) &&& (3 : Int32)) % (3 : Int32)) ((((p4.toUInt32 >>> ((6 : Int32) &&& 31).toUInt32).toInt32) &&& (3 : Int32)) % (3 : Int32))))])) _
    refine st216 _ ?_
    show Steps p.tables e below (T216.setTop (mkF m 142 #[.val (.int p0), .val (.int p1), .val (.int p2), .val (.int p3), .val (.int p4), .val (.ref b3), .val (.ref b41), .val (.ref r_o_81), .val (.ref r_o_94), .val (.ref b107), .val (.ref b125), .val (.ref b125), .val (.ref b107)] [(.int (own_hash_f (p4 &&& (3 : Int32)) p2 p0 p1 ((((p4.toUInt32 >>> ((2 : Int32) &&& 31).toUInt32).toInt32) &&& (3 : Int32)) % (3 : Int32)) ((((p4.toUInt32 >>> ((4 : Int32) &&& 31).toUInt32).toInt32) &&& (3 : Int32)) % (3 : Int32)) ((((p4.toUInt32 >>> ((6 : Int32) &&& 31).toUInt32).toInt32) &&& (3 : Int32)) % (3 : Int32)))), (.int (own_of_f (p4 &&& (3 : Int32)) p2 p0 p1 ((((p4.toUInt32 >>> ((2 : Int32) &&& 31).toUInt32).toInt32) &&& (3 : Int32)) % (3 : Int32)) ((((p4.toUInt32 >>> ((4 : Int32) &&& 31).toUInt32).toInt32) &&& (3 : Int32)) % (3 : Int32)) ((((p4.toUInt32 >>> ((6 : Int32) &&& 31).toUInt32).toInt32) &&& (3 : Int32)) % (3 : Int32))))])) _
    refine XS.icmpYes X216.here hx rfl (pc0 := 142) (pc' := 147) rfl (hb hby at_142) rfl (teq (own_m1 _ _ _ _ _ _ _ : (own_of_f (p4 &&& (3 : Int32)) p2 p0 p1 ((((p4.toUInt32 >>> ((2 : Int32) &&& 31).toUInt32).toInt32) &&& (3 : Int32)) % (3 : Int32)) ((((p4.toUInt32 >>> ((4 : Int32) &&& 31).toUInt32).toInt32) &&& (3 : Int32)) % (3 : Int32)) ((((p4.toUInt32 >>> ((6 : Int32) &&& 31).toUInt32).toInt32) &&& (3 : Int32)) % (3 : Int32))) = (own_hash_f (p4 &&& (3 : Int32)) p2 p0 p1 ((((p4.toUInt32 >>> ((2 : Int32) &&& 31).toUInt32).toInt32) &&& (3 : Int32)) % (3 : Int32)) ((((p4.toUInt32 >>> ((4 : Int32) &&& 31).toUInt32).toInt32) &&& (3 : Int32)) % (3 : Int32)) ((((p4.toUInt32 >>> ((6 : Int32) &&& 31).toUInt32).toInt32) &&& (3 : Int32)) % (3 : Int32))))).1 (by decide) (by decide) ?_
    show Steps p.tables e below (T216.setTop (mkF m 147 #[.val (.int p0), .val (.int p1), .val (.int p2), .val (.int p3), .val (.int p4), .val (.ref b3), .val (.ref b41), .val (.ref r_o_81), .val (.ref r_o_94), .val (.ref b107), .val (.ref b125), .val (.ref b125), .val (.ref b107)] [])) _
    refine XS.aload X216.here hx rfl (hb hby at_147) rfl rfl ?_
    show Steps p.tables e below (T216.setTop (mkF m 149 #[.val (.int p0), .val (.int p1), .val (.int p2), .val (.int p3), .val (.int p4), .val (.ref b3), .val (.ref b41), .val (.ref r_o_81), .val (.ref r_o_94), .val (.ref b107), .val (.ref b125), .val (.ref b125), .val (.ref b107)] [(.ref b107)])) _
    refine XS.aload X216.here hx rfl (hb hby at_149) rfl rfl ?_
    show Steps p.tables e below (T216.setTop (mkF m 151 #[.val (.int p0), .val (.int p1), .val (.int p2), .val (.int p3), .val (.int p4), .val (.ref b3), .val (.ref b41), .val (.ref r_o_81), .val (.ref r_o_94), .val (.ref b107), .val (.ref b125), .val (.ref b125), .val (.ref b107)] [(.ref b125), (.ref b107)])) _
    refine st224.trans ?_
    show Steps p.tables e below (T224.setTop (mkF m 154 #[.val (.int p0), .val (.int p1), .val (.int p2), .val (.int p3), .val (.int p4), .val (.ref b3), .val (.ref b41), .val (.ref r_o_81), .val (.ref r_o_94), .val (.ref b107), .val (.ref b125), .val (.ref b125), .val (.ref b107)] [(.int (own_eq_f (p3 &&& (3 : Int32)) (p4 &&& (3 : Int32)) p0 p1 p2 ((((p3.toUInt32 >>> ((2 : Int32) &&& 31).toUInt32).toInt32) &&& (3 : Int32)) % (3 : Int32)) ((((p3.toUInt32 >>> ((4 : Int32) &&& 31).toUInt32).toInt32) &&& (3 : Int32)) % (3 : Int32)) ((((p3.toUInt32 >>> ((6 : Int32) &&& 31).toUInt32).toInt32) &&& (3 : Int32)) % (3 : Int32)) p2 p0 p1 ((((p4.toUInt32 >>> ((2 : Int32) &&& 31).toUInt32).toInt32) &&& (3 : Int32)) % (3 : Int32)) ((((p4.toUInt32 >>> ((4 : Int32) &&& 31).toUInt32).toInt32) &&& (3 : Int32)) % (3 : Int32)) ((((p4.toUInt32 >>> ((6 : Int32) &&& 31).toUInt32).toInt32) &&& (3 : Int32)) % (3 : Int32))))])) _
    refine XS.aload X224.here hx rfl (hb hby at_154) rfl rfl ?_
    show Steps p.tables e below (T224.setTop (mkF m 156 #[.val (.int p0), .val (.int p1), .val (.int p2), .val (.int p3), .val (.int p4), .val (.ref b3), .val (.ref b41), .val (.ref r_o_81), .val (.ref r_o_94), .val (.ref b107), .val (.ref b125), .val (.ref b125), .val (.ref b107)] [(.ref b3), (.int (own_eq_f (p3 &&& (3 : Int32)) (p4 &&& (3 : Int32)) p0 p1 p2 ((((p3.toUInt32 >>> ((2 : Int32) &&& 31).toUInt32).toInt32) &&& (3 : Int32)) % (3 : Int32)) ((((p3.toUInt32 >>> ((4 : Int32) &&& 31).toUInt32).toInt32) &&& (3 : Int32)) % (3 : Int32)) ((((p3.toUInt32 >>> ((6 : Int32) &&& 31).toUInt32).toInt32) &&& (3 : Int32)) % (3 : Int32)) p2 p0 p1 ((((p4.toUInt32 >>> ((2 : Int32) &&& 31).toUInt32).toInt32) &&& (3 : Int32)) % (3 : Int32)) ((((p4.toUInt32 >>> ((4 : Int32) &&& 31).toUInt32).toInt32) &&& (3 : Int32)) % (3 : Int32)) ((((p4.toUInt32 >>> ((6 : Int32) &&& 31).toUInt32).toInt32) &&& (3 : Int32)) % (3 : Int32))))])) _
    refine XS.aload X224.here hx rfl (hb hby at_156) rfl rfl ?_
    show Steps p.tables e below (T224.setTop (mkF m 158 #[.val (.int p0), .val (.int p1), .val (.int p2), .val (.int p3), .val (.int p4), .val (.ref b3), .val (.ref b41), .val (.ref r_o_81), .val (.ref r_o_94), .val (.ref b107), .val (.ref b125), .val (.ref b125), .val (.ref b107)] [(.ref r_o_81), (.ref b3), (.int (own_eq_f (p3 &&& (3 : Int32)) (p4 &&& (3 : Int32)) p0 p1 p2 ((((p3.toUInt32 >>> ((2 : Int32) &&& 31).toUInt32).toInt32) &&& (3 : Int32)) % (3 : Int32)) ((((p3.toUInt32 >>> ((4 : Int32) &&& 31).toUInt32).toInt32) &&& (3 : Int32)) % (3 : Int32)) ((((p3.toUInt32 >>> ((6 : Int32) &&& 31).toUInt32).toInt32) &&& (3 : Int32)) % (3 : Int32)) p2 p0 p1 ((((p4.toUInt32 >>> ((2 : Int32) &&& 31).toUInt32).toInt32) &&& (3 : Int32)) % (3 : Int32)) ((((p4.toUInt32 >>> ((4 : Int32) &&& 31).toUInt32).toInt32) &&& (3 : Int32)) % (3 : Int32)) ((((p4.toUInt32 >>> ((6 : Int32) &&& 31).toUInt32).toInt32) &&& (3 : Int32)) % (3 : Int32))))])) _
    refine XS.aload X224.here hx rfl (hb hby at_158) rfl rfl ?_
    show Steps p.tables e below (T224.setTop (mkF m 160 #[.val (.int p0), .val (.int p1), .val (.int p2), .val (.int p3), .val (.int p4), .val (.ref b3), .val (.ref b41), .val (.ref r_o_81), .val (.ref r_o_94), .val (.ref b107), .val (.ref b125), .val (.ref b125), .val (.ref b107)] [(.ref b41), (.ref r_o_81), (.ref b3), (.int (own_eq_f (p3 &&& (3 : Int32)) (p4 &&& (3 : Int32)) p0 p1 p2 ((((p3.toUInt32 >>> ((2 : Int32) &&& 31).toUInt32).toInt32) &&& (3 : Int32)) % (3 : Int32)) ((((p3.toUInt32 >>> ((4 : Int32) &&& 31).toUInt32).toInt32) &&& (3 : Int32)) % (3 : Int32)) ((((p3.toUInt32 >>> ((6 : Int32) &&& 31).toUInt32).toInt32) &&& (3 : Int32)) % (3 : Int32)) p2 p0 p1 ((((p4.toUInt32 >>> ((2 : Int32) &&& 31).toUInt32).toInt32) &&& (3 : Int32)) % (3 : Int32)) ((((p4.toUInt32 >>> ((4 : Int32) &&& 31).toUInt32).toInt32) &&& (3 : Int32)) % (3 : Int32)) ((((p4.toUInt32 >>> ((6 : Int32) &&& 31).toUInt32).toInt32) &&& (3 : Int32)) % (3 : Int32))))])) _
    refine XS.aload X224.here hx rfl (hb hby at_160) rfl rfl ?_
    show Steps p.tables e below (T224.setTop (mkF m 162 #[.val (.int p0), .val (.int p1), .val (.int p2), .val (.int p3), .val (.int p4), .val (.ref b3), .val (.ref b41), .val (.ref r_o_81), .val (.ref r_o_94), .val (.ref b107), .val (.ref b125), .val (.ref b125), .val (.ref b107)] [(.ref r_o_94), (.ref b41), (.ref r_o_81), (.ref b3), (.int (own_eq_f (p3 &&& (3 : Int32)) (p4 &&& (3 : Int32)) p0 p1 p2 ((((p3.toUInt32 >>> ((2 : Int32) &&& 31).toUInt32).toInt32) &&& (3 : Int32)) % (3 : Int32)) ((((p3.toUInt32 >>> ((4 : Int32) &&& 31).toUInt32).toInt32) &&& (3 : Int32)) % (3 : Int32)) ((((p3.toUInt32 >>> ((6 : Int32) &&& 31).toUInt32).toInt32) &&& (3 : Int32)) % (3 : Int32)) p2 p0 p1 ((((p4.toUInt32 >>> ((2 : Int32) &&& 31).toUInt32).toInt32) &&& (3 : Int32)) % (3 : Int32)) ((((p4.toUInt32 >>> ((4 : Int32) &&& 31).toUInt32).toInt32) &&& (3 : Int32)) % (3 : Int32)) ((((p4.toUInt32 >>> ((6 : Int32) &&& 31).toUInt32).toInt32) &&& (3 : Int32)) % (3 : Int32))))])) _
    refine st233 _ ?_
    show Steps p.tables e below (T233.setTop (mkF m 165 #[.val (.int p0), .val (.int p1), .val (.int p2), .val (.int p3), .val (.int p4), .val (.ref b3), .val (.ref b41), .val (.ref r_o_81), .val (.ref r_o_94), .val (.ref b107), .val (.ref b125), .val (.ref b125), .val (.ref b107)] [(.int (own_same_f (p3 &&& (3 : Int32)) (p4 &&& (3 : Int32)) p0 p1 p2 ((((p3.toUInt32 >>> ((2 : Int32) &&& 31).toUInt32).toInt32) &&& (3 : Int32)) % (3 : Int32)) ((((p3.toUInt32 >>> ((4 : Int32) &&& 31).toUInt32).toInt32) &&& (3 : Int32)) % (3 : Int32)) ((((p3.toUInt32 >>> ((6 : Int32) &&& 31).toUInt32).toInt32) &&& (3 : Int32)) % (3 : Int32)) p2 p0 p1 ((((p4.toUInt32 >>> ((2 : Int32) &&& 31).toUInt32).toInt32) &&& (3 : Int32)) % (3 : Int32)) ((((p4.toUInt32 >>> ((4 : Int32) &&& 31).toUInt32).toInt32) &&& (3 : Int32)) % (3 : Int32)) ((((p4.toUInt32 >>> ((6 : Int32) &&& 31).toUInt32).toInt32) &&& (3 : Int32)) % (3 : Int32)))), (.int (own_eq_f (p3 &&& (3 : Int32)) (p4 &&& (3 : Int32)) p0 p1 p2 ((((p3.toUInt32 >>> ((2 : Int32) &&& 31).toUInt32).toInt32) &&& (3 : Int32)) % (3 : Int32)) ((((p3.toUInt32 >>> ((4 : Int32) &&& 31).toUInt32).toInt32) &&& (3 : Int32)) % (3 : Int32)) ((((p3.toUInt32 >>> ((6 : Int32) &&& 31).toUInt32).toInt32) &&& (3 : Int32)) % (3 : Int32)) p2 p0 p1 ((((p4.toUInt32 >>> ((2 : Int32) &&& 31).toUInt32).toInt32) &&& (3 : Int32)) % (3 : Int32)) ((((p4.toUInt32 >>> ((4 : Int32) &&& 31).toUInt32).toInt32) &&& (3 : Int32)) % (3 : Int32)) ((((p4.toUInt32 >>> ((6 : Int32) &&& 31).toUInt32).toInt32) &&& (3 : Int32)) % (3 : Int32))))])) _
    refine XS.icmpNo X233.here hx rfl (hb hby at_165) rfl (teq (own_m2 _ _ _ _ _ _ _ _ _ _ _ _ _ _ : (own_eq_f (p3 &&& (3 : Int32)) (p4 &&& (3 : Int32)) p0 p1 p2 ((((p3.toUInt32 >>> ((2 : Int32) &&& 31).toUInt32).toInt32) &&& (3 : Int32)) % (3 : Int32)) ((((p3.toUInt32 >>> ((4 : Int32) &&& 31).toUInt32).toInt32) &&& (3 : Int32)) % (3 : Int32)) ((((p3.toUInt32 >>> ((6 : Int32) &&& 31).toUInt32).toInt32) &&& (3 : Int32)) % (3 : Int32)) p2 p0 p1 ((((p4.toUInt32 >>> ((2 : Int32) &&& 31).toUInt32).toInt32) &&& (3 : Int32)) % (3 : Int32)) ((((p4.toUInt32 >>> ((4 : Int32) &&& 31).toUInt32).toInt32) &&& (3 : Int32)) % (3 : Int32)) ((((p4.toUInt32 >>> ((6 : Int32) &&& 31).toUInt32).toInt32) &&& (3 : Int32)) % (3 : Int32))) = (own_same_f (p3 &&& (3 : Int32)) (p4 &&& (3 : Int32)) p0 p1 p2 ((((p3.toUInt32 >>> ((2 : Int32) &&& 31).toUInt32).toInt32) &&& (3 : Int32)) % (3 : Int32)) ((((p3.toUInt32 >>> ((4 : Int32) &&& 31).toUInt32).toInt32) &&& (3 : Int32)) % (3 : Int32)) ((((p3.toUInt32 >>> ((6 : Int32) &&& 31).toUInt32).toInt32) &&& (3 : Int32)) % (3 : Int32)) p2 p0 p1 ((((p4.toUInt32 >>> ((2 : Int32) &&& 31).toUInt32).toInt32) &&& (3 : Int32)) % (3 : Int32)) ((((p4.toUInt32 >>> ((4 : Int32) &&& 31).toUInt32).toInt32) &&& (3 : Int32)) % (3 : Int32)) ((((p4.toUInt32 >>> ((6 : Int32) &&& 31).toUInt32).toInt32) &&& (3 : Int32)) % (3 : Int32))))).2 ?_
    show Steps p.tables e below (T233.setTop (mkF m 168 #[.val (.int p0), .val (.int p1), .val (.int p2), .val (.int p3), .val (.int p4), .val (.ref b3), .val (.ref b41), .val (.ref r_o_81), .val (.ref r_o_94), .val (.ref b107), .val (.ref b125), .val (.ref b125), .val (.ref b107)] [])) _
    refine XS.iconst X233.here hx rfl (hb hby at_168) ?_
    show Steps p.tables e below (T233.setTop (mkF m 169 #[.val (.int p0), .val (.int p1), .val (.int p2), .val (.int p3), .val (.int p4), .val (.ref b3), .val (.ref b41), .val (.ref r_o_81), .val (.ref r_o_94), .val (.ref b107), .val (.ref b125), .val (.ref b125), .val (.ref b107)] [(.int (1 : Int32))])) _
    refine XS.goto X233.here hx rfl (pc0 := 169) (pc' := 173) rfl (hb hby at_169) (by decide) (by decide) ?_
    show Steps p.tables e below (T233.setTop (mkF m 173 #[.val (.int p0), .val (.int p1), .val (.int p2), .val (.int p3), .val (.int p4), .val (.ref b3), .val (.ref b41), .val (.ref r_o_81), .val (.ref r_o_94), .val (.ref b107), .val (.ref b125), .val (.ref b125), .val (.ref b107)] [(.int (1 : Int32))])) _
    exact retN X233 hx (t := .boolean) Bd.returns (by simp) (hb hby at_173) hr
  · show Qown_law Z p0 p1 p2 p3 p4 h0 n0 _ T233.heap _
    rw [eh233]
    exact ⟨rfl, N234⟩
set_option maxRecDepth 65536 in
set_option maxHeartbeats 40000000 in
theorem comes_1 {Post : Tables → Env → Array Value → State → Outcome → State → Prop} (hpost : ∀ tb e args s v u, (limb_1_1.after args s (.returned v) u = true ∧ limb_1_2.after args s (.returned v) u = true ∧ True) → FrameEnd s (.returned v) u (Jvm.fieldLocs frame_1_writes args s ++ Jvm.arrayLocs frame_1_arrays args s ++ Jvm.staticLocs frame_1_statics s) 24 128 → Post tb e args s (.returned v) u) :
    ArmFor flags0 classFile x code maxLocals ret World_1 tables_1 room_1 Calls_1 rest_1 Pre_1 Post := by
  intro l hfl _ _ p e ha hc hk s m args below hf hA hF happ hP
  obtain ⟨hcalls, hrest, hpre⟩ := hP
  obtain ⟨-, -, -, hnamed, -, -, -, hat⟩ := (Spec.applies_iff hf).mp happ
  obtain ⟨hg, hn⟩ := and_e (Cond.before_iff.mp (show (Jvm.Cond.and given_1 narrow_1).before args s = true from hpre))
  obtain ⟨gg1, gg2⟩ := and_e hg
  obtain ⟨gg3, gg4⟩ := and_e gg2
  obtain ⟨gg5, gg6⟩ := and_e gg4
  obtain ⟨gg7, gg8⟩ := and_e gg6
  obtain ⟨gg9, gg10⟩ := and_e gg8
  obtain ⟨w0, w1, w2, w3, w4, rfl⟩ : ∃ w0 w1 w2 w3 w4 : Value, args = #[w0, w1, w2, w3, w4] := by
    have hs : args.size = 5 := by simpa [Cond.value, given_1] using gg1
    obtain ⟨L⟩ := args
    match L, hs with
    | [w0, w1, w2, w3, w4], _ => exact ⟨w0, w1, w2, w3, w4, rfl⟩
  have hw := fun d (hd : d ∈ tables_1) => atoms_spec (ws := Jvm.Cond.code x code maxLocals ret :: tables_1) hat d (List.mem_cons_of_mem _ hd)
  obtain ⟨i0, ei0⟩ := is_v gg3
  obtain rfl : w0 = (.int i0) := Option.some.inj ei0
  obtain ⟨i1, ei1⟩ := is_v gg5
  obtain rfl : w1 = (.int i1) := Option.some.inj ei1
  obtain ⟨i2, ei2⟩ := is_v gg7
  obtain rfl : w2 = (.int i2) := Option.some.inj ei2
  obtain ⟨i3, ei3⟩ := is_v gg9
  obtain rfl : w3 = (.int i3) := Option.some.inj ei3
  obtain ⟨i4, ei4⟩ := is_v gg10
  obtain rfl : w4 = (.int i4) := Option.some.inj ei4
  obtain ⟨n, o, h1, h2, h3, _, L, rfl, ⟨rfl, N⟩, hq⟩ := own_law l s _ hw tables_1 i0 i1 i2 i3 i4 s.heap s.heap.size (Nat.le_refl _) p e ha hc hk s m _ below hf ((Spec.applies_iff_loose hf).mp happ).1 ⟨rfl, State.Warmed39.refl s, rfl⟩ trivial
  refine ⟨n, _, h1, h2, h3, hpost _ _ _ _ _ _ ⟨Cond.after_iff.mpr rfl, Cond.after_iff.mpr (eq_i res_at (Term.int_eval (1)) rfl), trivial⟩ ⟨hq.1, hq.2.1, (hq.2.2.sift fun y hy => Or.inr (N y hy)).mono (by decide) (by decide)⟩⟩
theorem main_1_1 : Claimed_1_1 := comes_1 fun _ _ _ _ _ _ h hF => ⟨h.1, hF⟩
theorem main_1_2 : Claimed_1_2 := comes_1 fun _ _ _ _ _ _ h hF => ⟨h.2.1, hF⟩
end Jvm.Pilot.@@N@@
namespace Jvm.Pilot.@@N@@
open Jvm Jvm.ClassFile Sem Op Lib Jvm.Free Jvm.Stand Jvm.Pilot.@@N@@.Jvm.D
/-! MADE BY PROGRAM (witnessworld.py) out of the Statement's table words and the real class files: 9 classes; the members and pool entries that the words name. The judged class is class 1, her method 4. -/
namespace start1
open Jvm.ClassFile
def u (s : String) : CpInfo := .utf8 (stringToUtf16 s)
/-- a pool by its gaps: so many unusable entries, then the entry; so many at the end -/
def gap : Nat → List CpInfo → List CpInfo
  | 0, r => r
  | n + 1, r => .unusable :: gap n r
def poolList (es : List (Nat × CpInfo)) (last : Nat) : List CpInfo := es.foldr (fun e r => gap e.1 (e.2 :: r)) (gap last [])
def pool (es : List (Nat × CpInfo)) (last : Nat) : Array CpInfo := ⟨poolList es last⟩
def fileOf (pool : Array CpInfo) (this : Nat) (attrs : Array Attribute := #[]) (ms : Array MethodInfo := #[]) (fl : Nat := 33) (sup : Nat := 0) (ifs : Array Nat := #[]) (fds : Array FieldInfo := #[]) : ClassFile where
  minorVersion := 0
  majorVersion := 65
  constantPool := pool
  accessFlags := fl
  thisClass := this
  superClass := sup
  interfaces := ifs
  fields := fds
  methods := ms
  attributes := attrs
def plain (name : String) (sup : Option ClassId) : Class where
  name := name
  kind := .ordinary
  loader := none
  accessFlags := 33
  super := sup
  interfaces := #[]
  cf := none
  fields := #[]
  methods := #[]
  instanceTypes := #[]
  staticTypes := #[]
  resolved := #[]
  callSites := []
  init := .initialized
  statics := none
  mirror := none

def pool0 : Array CpInfo := pool [(5, u "<init>"), (0, u "()V"), (1, .class_ 10), (1, u "java/lang/Object")] 113

def k0c0 : Code := { maxStack := 0, maxLocals := 1, code := object_method_1_code, exceptionTable := #[], attributes := #[] }
def k0m0 : Method := { name := "<init>", desc := "()V", sig := { parameters := [], returnType := none }, accessFlags := 1, code := some k0c0 }
/-- java/lang/Object -/
def k0 : Class := { plain "java/lang/Object" none with
  accessFlags := 33
  interfaces := #[]
  cf := some (fileOf pool0 8 #[] #[{ accessFlags := 1, nameIndex := 5, descriptorIndex := 6, attributes := #[] }] 33 0 #[] #[])
  fields := #[]
  methods := #[k0m0]
  instanceTypes := #[]
  staticTypes := #[]
  resolved := Array.replicate 124 none
  statics := none }

def pool1 : Array CpInfo := pool [(2, .class_ 4), (0, .nameAndType 5 6), (0, u "java/lang/Object"), (0, u "<init>"), (0, u "()V"), (0, .methodref 8 9), (0, .class_ 10), (0, .nameAndType 11 12), (0, u "com/example/fovea/fovea/KeyOfPinLaw"), (0, u "slots"), (0, u "(I)[I"), (0, .class_ 14), (0, u "com/example/fovea/fovea/Memory$Key"), (0, .methodref 13 3), (0, .methodref 13 17), (0, .nameAndType 18 19), (0, u "of"), (0, u "([I[I)Lcom/example/fovea/fovea/Memory$Key;"), (0, .methodref 13 21), (0, .nameAndType 22 23), (0, u "hashCode"), (0, u "()I"), (0, .methodref 8 25), (0, .nameAndType 26 27), (0, u "hash"), (0, u "([I[I)I"), (0, .methodref 13 29), (0, .nameAndType 30 31), (0, u "equals"), (0, u "(Ljava/lang/Object;)Z"), (0, .methodref 8 33), (0, .nameAndType 34 35), (0, u "same"), (0, u "([I[I[I[I)Z"), (5, u "law"), (0, u "(IIIII)Z")] 6

def k1m0 : Method := { name := "<init>", desc := "()V", sig := { parameters := [], returnType := none }, accessFlags := 1, code := none }
def k1c1 : Code := { maxStack := 4, maxLocals := 3, code := method_2_code, exceptionTable := #[], attributes := #[] }
def k1m1 : Method := { name := "slots", desc := "(I)[I", sig := { parameters := [.int], returnType := some (.array .int) }, accessFlags := 10, code := some k1c1 }
def k1c2 : Code := { maxStack := 4, maxLocals := 3, code := method_3_code, exceptionTable := #[], attributes := #[] }
def k1m2 : Method := { name := "hash", desc := "([I[I)I", sig := { parameters := [(.array .int), (.array .int)], returnType := some .int }, accessFlags := 10, code := some k1c2 }
def k1c3 : Code := { maxStack := 4, maxLocals := 5, code := method_4_code, exceptionTable := #[], attributes := #[] }
def k1m3 : Method := { name := "same", desc := "([I[I[I[I)Z", sig := { parameters := [(.array .int), (.array .int), (.array .int), (.array .int)], returnType := some .boolean }, accessFlags := 10, code := some k1c3 }
def k1c4 : Code := { maxStack := 5, maxLocals := 13, code := code, exceptionTable := #[], attributes := #[] }
def k1m4 : Method := { name := "law", desc := "(IIIII)Z", sig := { parameters := [.int, .int, .int, .int, .int], returnType := some .boolean }, accessFlags := 9, code := some k1c4 }
/-- com/example/fovea/fovea/KeyOfPinLaw -/
def k1 : Class := { plain "com/example/fovea/fovea/KeyOfPinLaw" (some 0) with
  accessFlags := 49
  interfaces := #[]
  cf := some (fileOf pool1 8 #[] #[{ accessFlags := 1, nameIndex := 5, descriptorIndex := 6, attributes := #[] }, { accessFlags := 10, nameIndex := 11, descriptorIndex := 12, attributes := #[] }, { accessFlags := 10, nameIndex := 26, descriptorIndex := 27, attributes := #[] }, { accessFlags := 10, nameIndex := 34, descriptorIndex := 35, attributes := #[] }, { accessFlags := 9, nameIndex := 41, descriptorIndex := 42, attributes := #[] }] 49 2 #[] #[])
  fields := #[]
  methods := #[k1m0, k1m1, k1m2, k1m3, k1m4]
  instanceTypes := #[]
  staticTypes := #[]
  resolved := Array.replicate 49 none
  statics := none }

def pool2 : Array CpInfo := pool [(1, .methodref 2 3), (0, .class_ 4), (0, .nameAndType 5 6), (0, u "java/lang/Object"), (0, u "<init>"), (0, u "()V"), (0, .fieldref 8 9), (0, .class_ 10), (0, .nameAndType 11 12), (0, u "com/example/fovea/fovea/Memory$Key"), (0, u "entry"), (0, u "[I"), (0, .fieldref 8 14), (0, .nameAndType 15 12), (0, u "slots"), (0, .fieldref 8 17), (0, .nameAndType 18 19), (0, u "hash"), (0, u "I"), (2, u "members"), (0, u "[Lcom/example/fovea/fovea/Memory$Held;"), (4, u "size"), (17, u "of"), (0, u "([I[I)Lcom/example/fovea/fovea/Memory$Key;"), (9, u "equals"), (0, u "(Ljava/lang/Object;)Z"), (0, u "hashCode"), (0, u "()I"), (3, .class_ 65), (0, u "com/example/fovea/fovea/Memory")] 3

def k2c0 : Code := { maxStack := 1, maxLocals := 1, code := prog_37_method_1_code, exceptionTable := #[], attributes := #[] }
def k2m0 : Method := { name := "<init>", desc := "()V", sig := { parameters := [], returnType := none }, accessFlags := 0, code := some k2c0 }
def k2c1 : Code := { maxStack := 3, maxLocals := 8, code := prog_37_method_2_code, exceptionTable := #[], attributes := #[] }
def k2m1 : Method := { name := "of", desc := "([I[I)Lcom/example/fovea/fovea/Memory$Key;", sig := { parameters := [(.array .int), (.array .int)], returnType := some (.object "com/example/fovea/fovea/Memory$Key") }, accessFlags := 0, code := some k2c1 }
def k2c2 : Code := { maxStack := 4, maxLocals := 5, code := prog_37_method_6_code, exceptionTable := #[], attributes := #[] }
def k2m2 : Method := { name := "equals", desc := "(Ljava/lang/Object;)Z", sig := { parameters := [(.object "java/lang/Object")], returnType := some .boolean }, accessFlags := 1, code := some k2c2 }
def k2c3 : Code := { maxStack := 1, maxLocals := 1, code := prog_37_method_7_code, exceptionTable := #[], attributes := #[] }
def k2m3 : Method := { name := "hashCode", desc := "()I", sig := { parameters := [], returnType := some .int }, accessFlags := 1, code := some k2c3 }
/-- com/example/fovea/fovea/Memory$Key -/
def k2 : Class := { plain "com/example/fovea/fovea/Memory$Key" (some 0) with
  accessFlags := 48
  interfaces := #[]
  cf := some (fileOf pool2 8 #[.nestHost 64] #[{ accessFlags := 0, nameIndex := 5, descriptorIndex := 6, attributes := #[] }, { accessFlags := 0, nameIndex := 46, descriptorIndex := 47, attributes := #[] }, { accessFlags := 1, nameIndex := 57, descriptorIndex := 58, attributes := #[] }, { accessFlags := 1, nameIndex := 59, descriptorIndex := 60, attributes := #[] }] 48 2 #[] #[{ accessFlags := 2, nameIndex := 11, descriptorIndex := 12, attributes := #[] }, { accessFlags := 2, nameIndex := 15, descriptorIndex := 12, attributes := #[] }, { accessFlags := 2, nameIndex := 18, descriptorIndex := 19, attributes := #[] }, { accessFlags := 2, nameIndex := 22, descriptorIndex := 23, attributes := #[] }, { accessFlags := 2, nameIndex := 28, descriptorIndex := 19, attributes := #[] }])
  fields := #[{ name := "entry", type := (.array .int), accessFlags := 2, slot := 0, constantValue := 0 }, { name := "slots", type := (.array .int), accessFlags := 2, slot := 1, constantValue := 0 }, { name := "hash", type := .int, accessFlags := 2, slot := 2, constantValue := 0 }, { name := "members", type := (.array (.object "com/example/fovea/fovea/Memory$Held")), accessFlags := 2, slot := 3, constantValue := 0 }, { name := "size", type := .int, accessFlags := 2, slot := 4, constantValue := 0 }]
  methods := #[k2m0, k2m1, k2m2, k2m3]
  instanceTypes := #[(.array .int), (.array .int), .int, (.array (.object "com/example/fovea/fovea/Memory$Held")), .int]
  staticTypes := #[]
  resolved := Array.replicate 69 none
  statics := none }

def pool3 : Array CpInfo := pool [(1, u "java/lang/Cloneable"), (0, .class_ 1), (0, u "java/lang/Object"), (0, .class_ 3)] 3

/-- java/lang/Cloneable -/
def k3 : Class := { plain "java/lang/Cloneable" (some 0) with
  accessFlags := 1537
  interfaces := #[]
  cf := some (fileOf pool3 2 #[] #[] 1537 4 #[] #[])
  fields := #[]
  methods := #[]
  instanceTypes := #[]
  staticTypes := #[]
  resolved := Array.replicate 8 none
  statics := none }

def pool4 : Array CpInfo := pool [(1, u "java/io/Serializable"), (0, .class_ 1), (0, u "java/lang/Object"), (0, .class_ 3)] 3

/-- java/io/Serializable -/
def k4 : Class := { plain "java/io/Serializable" (some 0) with
  accessFlags := 1537
  interfaces := #[]
  cf := some (fileOf pool4 2 #[] #[] 1537 4 #[] #[])
  fields := #[]
  methods := #[]
  instanceTypes := #[]
  staticTypes := #[]
  resolved := Array.replicate 8 none
  statics := none }

/-- the primitive byte -/
def k5 : Class := { plain "byte" none with kind := .primitive 'B', accessFlags := 0x411 }
/-- [B -/
def k6 : Class := { plain "[B" (some 0) with kind := .array 5 .byte, interfaces := #[3, 4], accessFlags := 1041 }

/-- the primitive int -/
def k7 : Class := { plain "int" none with kind := .primitive 'I', accessFlags := 0x411 }
/-- [I -/
def k8 : Class := { plain "[I" (some 0) with kind := .array 7 .int, interfaces := #[3, 4], accessFlags := 1041 }

def heap : Heap := #[]
def classes : Array Class := #[k0, k1, k2, k3, k4, k5, k6, k7, k8]
def interned : List (Array UInt16 × Addr) := []
def slotsUsed : Nat := 0
def theMethod : MethodId := ⟨1, 4⟩
def args0 : Array Value := #[.int 5, .int 7, .int 3, .int 1, .int 1]
def aboutOver (below : List Frame) : State where
  vm := { classes := classes, interned := interned.toArray }
  heap := heap
  slotsUsed := slotsUsed
  threads := #[{ frames := .invoking theMethod args0 :: below }]
def below0 : List Frame := [.native { method := ⟨0, 0⟩, args := #[] }]
def about1 : State := aboutOver below0
def p0 : Program := .bare "" "" ""
def e0 : Env := launch0.env 0 0 0
theorem w_frames : about1.frames = Frame.invoking theMethod args0 :: below0 := rfl
set_option maxRecDepth 65536 in
theorem w_args : argsFit about1.vm theMethod args0 = true := by decide +kernel
set_option maxRecDepth 65536 in
theorem w_heap : heapFits about1 = true := by decide +kernel
set_option maxRecDepth 65536 in
theorem w_runnable : about1.curStatus? = some .runnable := by decide +kernel
set_option maxRecDepth 65536 in
theorem w_alone : about1.alone = true := by decide +kernel
set_option maxRecDepth 65536 in
theorem w_named : about1.methodNamed? x = some theMethod := by decide +kernel
set_option maxRecDepth 65536 in
theorem w_hears : about1.hears theMethod below0 = true := by decide +kernel
set_option maxRecDepth 65536 in
theorem w_ripe : about1.ripe theMethod args0 below0 = true := by decide +kernel
theorem w_running : about1.status = .running := rfl
set_option maxRecDepth 65536 in
theorem w_room : about1.hasRoom e0.platform room_1 = true :=
  launch0.hasRoom_least _ room_1 (by decide +kernel) (by decide +kernel) (by decide +kernel) (by decide +kernel) (by decide +kernel) (by decide +kernel)
theorem allAtoms_all (ts : List Jvm.Cond) (a : Array Jvm.Value) (st : Jvm.State) : (allAtoms ts).before a st = ts.all (fun c => c.before a st) := by
  induction ts with
  | nil => rfl
  | cons c t ih =>
    show (Jvm.Cond.and c (allAtoms t)).before a st = _
    rw [Jvm.Cond.before_and, ih, List.all_cons]
def words1 : List Jvm.Cond := Jvm.Cond.code x code maxLocals ret :: tables_1
/-- a 'code' word, met by the world's own term for the bytes: nothing is compared byte by byte -/
theorem code_word {y : MethodName} {bytes : ByteArray} {mx : Nat} {rt : Option FieldType} {a : Array Value} {s : State} {m : MethodId} {meth : Method} {c : Code} (h1 : s.methodNamed? y = some m) (h2 : s.vm.method? m = some meth) (h3 : meth.code = some c) (h4 : c.code = bytes)
    (h5 : (c.maxLocals == mx && c.exceptionTable.isEmpty && decide (c.maxStack ≤ mostOperands) && decide (meth.sig.returnType = rt) && !meth.locks && decide (parseMethodDescriptor y.desc = some meth.sig)) = true) : (Jvm.Cond.code y bytes mx rt).before a s = true := by
  simp only [Bool.and_eq_true, beq_iff_eq, Bool.not_eq_true', decide_eq_true_eq] at h5
  obtain ⟨⟨⟨⟨⟨g1, g2⟩, g3⟩, g4⟩, g5⟩, g6⟩ := h5
  simp [Cond.before, Cond.holds, Cond.value, h1, h2, h3, h4, g1, g2, g3, g4, g5, g6]
def isCode : Jvm.Cond → Bool
  | .code _ _ _ _ => true
  | _ => false
theorem all_split {L : List Jvm.Cond} {P : Jvm.Cond → Bool} (h1 : L.all (fun c => isCode c || P c) = true) (h2 : ∀ c ∈ L.filter isCode, P c = true) : L.all P = true := by
  refine List.all_eq_true.mpr fun c hc => ?_
  have h := List.all_eq_true.mp h1 c hc
  rcases Bool.eq_false_or_eq_true (isCode c) with hi | hi
  · exact h2 c (List.mem_filter.mpr ⟨hc, hi⟩)
  · simpa [hi] using h
set_option maxRecDepth 65536 in
theorem w_c0 : (Jvm.Cond.code x code maxLocals ret).before args0 about1 = true := code_word (m := ⟨1, 4⟩) (meth := k1m4) (c := k1c4) (by decide +kernel) rfl rfl rfl (by decide +kernel)
set_option maxRecDepth 65536 in
theorem w_c1 : (Jvm.Cond.code ({ cls := "com/example/fovea/fovea/KeyOfPinLaw", name := "slots", desc := "(I)[I" } : Jvm.MethodName) method_2_code (3 : Nat) (Option.some (Jvm.ClassFile.FieldType.array Jvm.ClassFile.FieldType.int))).before args0 about1 = true := code_word (m := ⟨1, 1⟩) (meth := k1m1) (c := k1c1) (by decide +kernel) rfl rfl rfl (by decide +kernel)
set_option maxRecDepth 65536 in
theorem w_c2 : (Jvm.Cond.code ({ cls := "com/example/fovea/fovea/Memory$Key", name := "<init>", desc := "()V" } : Jvm.MethodName) prog_37_method_1_code (1 : Nat) (Option.none : Option Jvm.ClassFile.FieldType)).before args0 about1 = true := code_word (m := ⟨2, 0⟩) (meth := k2m0) (c := k2c0) (by decide +kernel) rfl rfl rfl (by decide +kernel)
set_option maxRecDepth 65536 in
theorem w_c3 : (Jvm.Cond.code ({ cls := "java/lang/Object", name := "<init>", desc := "()V" } : Jvm.MethodName) object_method_1_code (1 : Nat) (Option.none : Option Jvm.ClassFile.FieldType)).before args0 about1 = true := code_word (m := ⟨0, 0⟩) (meth := k0m0) (c := k0c0) (by decide +kernel) rfl rfl rfl (by decide +kernel)
set_option maxRecDepth 65536 in
theorem w_c4 : (Jvm.Cond.code ({ cls := "com/example/fovea/fovea/Memory$Key", name := "of", desc := "([I[I)Lcom/example/fovea/fovea/Memory$Key;" } : Jvm.MethodName) prog_37_method_2_code (8 : Nat) (Option.some (Jvm.ClassFile.FieldType.object "com/example/fovea/fovea/Memory$Key"))).before args0 about1 = true := code_word (m := ⟨2, 1⟩) (meth := k2m1) (c := k2c1) (by decide +kernel) rfl rfl rfl (by decide +kernel)
set_option maxRecDepth 65536 in
theorem w_c5 : (Jvm.Cond.code ({ cls := "com/example/fovea/fovea/Memory$Key", name := "hashCode", desc := "()I" } : Jvm.MethodName) prog_37_method_7_code (1 : Nat) (Option.some Jvm.ClassFile.FieldType.int)).before args0 about1 = true := code_word (m := ⟨2, 3⟩) (meth := k2m3) (c := k2c3) (by decide +kernel) rfl rfl rfl (by decide +kernel)
set_option maxRecDepth 65536 in
theorem w_c6 : (Jvm.Cond.code ({ cls := "com/example/fovea/fovea/KeyOfPinLaw", name := "hash", desc := "([I[I)I" } : Jvm.MethodName) method_3_code (3 : Nat) (Option.some Jvm.ClassFile.FieldType.int)).before args0 about1 = true := code_word (m := ⟨1, 2⟩) (meth := k1m2) (c := k1c2) (by decide +kernel) rfl rfl rfl (by decide +kernel)
set_option maxRecDepth 65536 in
theorem w_c7 : (Jvm.Cond.code ({ cls := "com/example/fovea/fovea/Memory$Key", name := "equals", desc := "(Ljava/lang/Object;)Z" } : Jvm.MethodName) prog_37_method_6_code (5 : Nat) (Option.some Jvm.ClassFile.FieldType.boolean)).before args0 about1 = true := code_word (m := ⟨2, 2⟩) (meth := k2m2) (c := k2c2) (by decide +kernel) rfl rfl rfl (by decide +kernel)
set_option maxRecDepth 65536 in
theorem w_c8 : (Jvm.Cond.code ({ cls := "com/example/fovea/fovea/KeyOfPinLaw", name := "same", desc := "([I[I[I[I)Z" } : Jvm.MethodName) method_4_code (5 : Nat) (Option.some Jvm.ClassFile.FieldType.boolean)).before args0 about1 = true := code_word (m := ⟨1, 3⟩) (meth := k1m3) (c := k1c3) (by decide +kernel) rfl rfl rfl (by decide +kernel)
def codes1 : List Jvm.Cond := [Jvm.Cond.code x code maxLocals ret, Jvm.Cond.code ({ cls := "com/example/fovea/fovea/KeyOfPinLaw", name := "slots", desc := "(I)[I" } : Jvm.MethodName) method_2_code (3 : Nat) (Option.some (Jvm.ClassFile.FieldType.array Jvm.ClassFile.FieldType.int)), Jvm.Cond.code ({ cls := "com/example/fovea/fovea/Memory$Key", name := "<init>", desc := "()V" } : Jvm.MethodName) prog_37_method_1_code (1 : Nat) (Option.none : Option Jvm.ClassFile.FieldType), Jvm.Cond.code ({ cls := "java/lang/Object", name := "<init>", desc := "()V" } : Jvm.MethodName) object_method_1_code (1 : Nat) (Option.none : Option Jvm.ClassFile.FieldType), Jvm.Cond.code ({ cls := "com/example/fovea/fovea/Memory$Key", name := "of", desc := "([I[I)Lcom/example/fovea/fovea/Memory$Key;" } : Jvm.MethodName) prog_37_method_2_code (8 : Nat) (Option.some (Jvm.ClassFile.FieldType.object "com/example/fovea/fovea/Memory$Key")), Jvm.Cond.code ({ cls := "com/example/fovea/fovea/Memory$Key", name := "hashCode", desc := "()I" } : Jvm.MethodName) prog_37_method_7_code (1 : Nat) (Option.some Jvm.ClassFile.FieldType.int), Jvm.Cond.code ({ cls := "com/example/fovea/fovea/KeyOfPinLaw", name := "hash", desc := "([I[I)I" } : Jvm.MethodName) method_3_code (3 : Nat) (Option.some Jvm.ClassFile.FieldType.int), Jvm.Cond.code ({ cls := "com/example/fovea/fovea/Memory$Key", name := "equals", desc := "(Ljava/lang/Object;)Z" } : Jvm.MethodName) prog_37_method_6_code (5 : Nat) (Option.some Jvm.ClassFile.FieldType.boolean), Jvm.Cond.code ({ cls := "com/example/fovea/fovea/KeyOfPinLaw", name := "same", desc := "([I[I[I[I)Z" } : Jvm.MethodName) method_4_code (5 : Nat) (Option.some Jvm.ClassFile.FieldType.boolean)]
set_option maxRecDepth 65536 in
theorem codes_eq : words1.filter isCode = codes1 := rfl
theorem w_codes : ∀ c ∈ words1.filter isCode, c.before args0 about1 = true := by
  rw [codes_eq]
  intro c hc
  simp only [codes1, List.mem_cons, List.not_mem_nil, or_false] at hc
  rcases hc with rfl | rfl | rfl | rfl | rfl | rfl | rfl | rfl | rfl
  · exact w_c0
  · exact w_c1
  · exact w_c2
  · exact w_c3
  · exact w_c4
  · exact w_c5
  · exact w_c6
  · exact w_c7
  · exact w_c8
set_option maxRecDepth 65536 in
theorem w_t1 : (words1.take 24).all (fun c => isCode c || c.before args0 about1) = true := by decide +kernel
set_option maxRecDepth 65536 in
theorem w_t2 : (words1.drop 24).all (fun c => isCode c || c.before args0 about1) = true := by decide +kernel
theorem w_tables : (allAtoms (Jvm.Cond.code x code maxLocals ret :: tables_1)).before args0 about1 = true := by
  rw [allAtoms_all]
  show words1.all (fun c => c.before args0 about1) = true
  refine all_split ?_ w_codes
  rw [← List.take_append_drop 24 words1, List.all_append, w_t1, w_t2]
  rfl
set_option maxRecDepth 65536 in
theorem w_case : (Jvm.Cond.and given_1 narrow_1).before args0 about1 = true := by decide +kernel
theorem w_applies : (headSpec (Jvm.Cond.code x code maxLocals ret :: tables_1) room_1).applies x e0.platform about1 = true :=
  (Spec.applies_iff w_frames).mpr ⟨w_running, w_runnable, w_alone, w_named, w_hears, w_ripe, w_room, w_tables⟩
theorem atStart : AtStart classFile x code maxLocals ret World_1 tables_1 room_1 Calls_1 rest_1 Pre_1 launch0 p0 e0 about1 theMethod args0 below0 :=
  ⟨lists_1, trivial, launch0.admits_env _ _ _, launch0.least_env, fairChoices_fair.cas, fairChoices_fair.clock, w_frames, w_args, w_heap, w_applies, trivial, trivial, w_case⟩
end start1
theorem witness_1 : WitnessClaimed_1 := ⟨start1.p0, start1.e0, start1.about1, start1.theMethod, start1.args0, start1.below0, start1.atStart⟩
end Jvm.Pilot.@@N@@
