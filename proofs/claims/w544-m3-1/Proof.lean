import JvmDerived
import JvmDerived.Pilot.@@N@@Statement
import JvmDerived.Pilot.@@N@@Code
set_option linter.unusedVariables false
set_option linter.unusedSimpArgs false
@@BLOCK:NumsL.lean.txt@@
namespace Jvm.RoadKit
open Sem ClassFile Op Lib Jvm.Stand Jvm.Free Jvm.LawKit
section New
variable {p : Program} {l : Launch} {e : Env} {R : Room} {s : State} {m : MethodId} {args : Array Value} {below : List Frame} {meth : Method} {c : Code} {T : State} {locs : List Loc} {cells slots : Nat}
theorem retI (X : Stand p l e R s m args below meth c T locs cells slots) (hx : p.tables.exec = Jvm.exec) {pc : Nat} {Ls : Array Slot} {z : Int32} {rest : List Value} (hret : meth.sig.returnType = some .int) (hd : decode c.code pc = .ok (.ireturn, 1)) {fs : List Frame}
    (hl : ∀ (f : JFrame) (acts : List Action), f.method = m → f.locked = none → f.entered = [] → (doReturn e (T.setTop f) acts (some (.int z))).1 = T.setFrames fs) : Steps p.tables e below (T.setTop (mkF m pc Ls (.int z :: rest))) (T.setFrames fs) := by
  have hm' : T.vm.method? m = some meth := X.method'
  have hn : narrow .int (.int z) = .int z := rfl
  show Steps p.tables e below (T.setTop { method := m, pc := pc, locals := Ls, stack := _ :: rest, locked := none }) _
  jvm_step X.here [X.here.top, hx, hd, hm', hret, hn]
  first | (intro acts; rw [hl _ acts rfl rfl rfl]) | rw [hl _ _ rfl rfl rfl]
  exact Steps.refl _
end New
end Jvm.RoadKit
namespace Jvm.Pilot.@@N@@
open Jvm Jvm.ClassFile Sem Op Lib Jvm.Free Jvm.Stand Jvm.LawKit Jvm.RoadKit Bundle Jvm.Pilot.@@N@@.Jvm.D
theorem own_lcLt {x y : Int64} : lcmpW x y < 0 ↔ x < y := by rw [lcW]; exact lc_lt x y
theorem own_lcGt {x y : Int64} : 0 < lcmpW x y ↔ y < x := by rw [lcW]; exact lc_gt x y
theorem own_lcEq {x y : Int64} : lcmpW x y = 0 ↔ x = y := by rw [lcW]; exact lc_eq x y
theorem own_pn0 : plainName "com/example/change_gatherer/changegatherer/service/HarvestReport" = true := by first | (simp [plainName, overriddenIn]; done) | decide +kernel
theorem own_ef_own_rmI (m : MethodId) (a_o : Addr) (x_1 : Int32) (x_2 : Int32) (x_3 : Int32) : entryFrame m #[(.ref a_o), (.int x_1), (.int x_2), (.int x_3)] 4 = mkF m 0 #[.val (.ref a_o), .val (.int x_1), .val (.int x_2), .val (.int x_3)] [] := by first | (simp [entryFrame, mkF, argsToLocals, Value.category]; done) | rfl
theorem own_d1_0 : decode prog_27_method_1_code 0 = .ok (.aload_n 0, 1) := by decide +kernel
theorem own_d1_1 : decode prog_27_method_1_code 1 = .ok (.invokespecial 1, 3) := by decide +kernel
theorem own_d1_4 : decode prog_27_method_1_code 4 = .ok (.aload_n 0, 1) := by decide +kernel
theorem own_d1_5 : decode prog_27_method_1_code 5 = .ok (.iload_n 1, 1) := by decide +kernel
theorem own_d1_6 : decode prog_27_method_1_code 6 = .ok (.putfield 7, 3) := by decide +kernel
theorem own_d1_9 : decode prog_27_method_1_code 9 = .ok (.aload_n 0, 1) := by decide +kernel
theorem own_d1_10 : decode prog_27_method_1_code 10 = .ok (.iload_n 2, 1) := by decide +kernel
theorem own_d1_11 : decode prog_27_method_1_code 11 = .ok (.putfield 13, 3) := by decide +kernel
theorem own_d1_14 : decode prog_27_method_1_code 14 = .ok (.aload_n 0, 1) := by decide +kernel
theorem own_d1_15 : decode prog_27_method_1_code 15 = .ok (.iload_n 3, 1) := by decide +kernel
theorem own_d1_16 : decode prog_27_method_1_code 16 = .ok (.putfield 16, 3) := by decide +kernel
theorem own_d1_19 : decode prog_27_method_1_code 19 = .ok (.return_, 1) := by decide +kernel
def Qown_rmI (Z : State) (a_o : Addr) (x_1 : Int32) (x_2 : Int32) (x_3 : Int32) (h0 : Heap) (n0 : Nat) (v : Option Value) (h : Heap) (L : List Loc) : Prop := v = none ∧ Fr n0 L ∧ Keep h0 h [a_o] ∧ Exa Z h a_o "com/example/change_gatherer/changegatherer/service/HarvestReport" ∧ Fld Z h a_o "com/example/change_gatherer/changegatherer/service/HarvestReport" "pages" "I" (.int x_1) ∧ Fld Z h a_o "com/example/change_gatherer/changegatherer/service/HarvestReport" "included" "I" (.int x_2) ∧ Fld Z h a_o "com/example/change_gatherer/changegatherer/service/HarvestReport" "removed" "I" (.int x_3)
set_option maxRecDepth 65536 in
set_option maxHeartbeats 40000000 in
theorem own_rmI (l : Launch) (Z : State) (a0 : Array Value) (hw : ∀ d ∈ tables_1, d.before a0 Z = true) (ws : List Jvm.Cond) (a_o : Addr) (x_1 : Int32) (x_2 : Int32) (x_3 : Int32) (h0 : Heap) (n0 : Nat) (Z0 : n0 ≤ h0.size) (Eo : Exa Z h0 a_o "com/example/change_gatherer/changegatherer/service/HarvestReport") (F_pages : Fld Z h0 a_o "com/example/change_gatherer/changegatherer/service/HarvestReport" "pages" "I" (.int (0 : Int32))) (F_included : Fld Z h0 a_o "com/example/change_gatherer/changegatherer/service/HarvestReport" "included" "I" (.int (0 : Int32))) (F_removed : Fld Z h0 a_o "com/example/change_gatherer/changegatherer/service/HarvestReport" "removed" "I" (.int (0 : Int32))) (ga : n0 ≤ a_o) :
    MetFree l (⟨"com/example/change_gatherer/changegatherer/service/HarvestReport", "<init>", "(III)V"⟩ : MethodName) (head1 (Jvm.Cond.code (⟨"com/example/change_gatherer/changegatherer/service/HarvestReport", "<init>", "(III)V"⟩ : MethodName) prog_27_method_1_code 4 none :: ws) ({ frames := 1, cells := 0, slots := 0, locals := 12 } : Room)) (fun a U => a = #[(.ref a_o), (.int x_1), (.int x_2), (.int x_3)] ∧ Z.Warmed39 U.vm ∧ U.heap = h0) (fun _ _ _ _ _ => True) (fun _ U o U' => ∃ v L, o = .returned v ∧ Qown_rmI Z a_o x_1 x_2 x_3 h0 n0 v U'.heap L ∧ FrameEnd U o U' L ({ frames := 1, cells := 0, slots := 0, locals := 12 } : Room).cells ({ frames := 1, cells := 0, slots := 0, locals := 12 } : Room).slots) := by
  refine MetFree.of_bodySF (plainFor_of_name own_pn0) hisR ?_
  intro p e s m args below meth c s₁ Bd hml0 hP hK
  obtain ⟨rfl, hZ, hh⟩ := hP
  have hx := Bd.exec
  have hby := Bd.bytes
  have hml : c.maxLocals = 4 := hml0
  have hown : s.vm.findClass "com/example/change_gatherer/changegatherer/service/HarvestReport" = some m.cls := findClass_of_methodNamed Bd.named
  have hnm := (name_of_methodNamed Bd.named Bd.method).1
  have X0 : Stand p l e ({ frames := 1, cells := 0, slots := 0, locals := 12 } : Room) s m #[(.ref a_o), (.int x_1), (.int x_2), (.int x_3)] below meth c s₁ [] 0 0 := Stand.of_body Bd
  have e0 : s₁.heap = h0 := by rw [← hh, Bd.state]; rfl
  have N0 := Fr.nil n0
  have pre0 : ∀ t, Steps p.tables e below (s₁.setTop (mkF m 0 #[.val (.ref a_o), .val (.int x_1), .val (.int x_2), .val (.int x_3)] [])) t → Steps p.tables e below (s₁.setTop (entryFrame m #[(.ref a_o), (.int x_1), (.int x_2), (.int x_3)] 4)) t := fun t k => castTop (own_ef_own_rmI m a_o x_1 x_2 x_3) k
  obtain ⟨T3, X3, e3, st3⟩ := initO X0 hx hZ hown (hw _ (List.mem_of_getElem? (i := 6) rfl)) (hw _ (List.mem_of_getElem? (i := 7) rfl)) (hw _ (List.mem_of_getElem? (i := 8) rfl)) e0 (g := (mkF m 1 #[.val (.ref a_o), .val (.int x_1), .val (.int x_2), .val (.int x_3)] [(.ref a_o)])) rfl (by rw [hml]; rfl) rfl (hb hby own_d1_1) (by decide) (W := 0) (by show 2 * 0 + _ ≤ _; exact Nat.le_of_eq rfl) (by decide)
  obtain ⟨T7, h7, X7, e7, W7, st7⟩ := putF X3 hx hZ hown (host := "") (Or.inl (hw _ (List.mem_of_getElem? (i := 9) rfl))) Via.refl e3 F_pages Eo (Or.inr ⟨(hw _ (List.mem_of_getElem? (i := 10) rfl)), rfl, hnm⟩) (hw _ (List.mem_of_getElem? (i := 1) rfl)) (ty := .int) (by decide) rfl rfl (g := (mkF m 6 #[.val (.ref a_o), .val (.int x_1), .val (.int x_2), .val (.int x_3)] [(.int x_1), (.ref a_o)])) rfl rfl (hb hby own_d1_6)
  have Kc8 : Keep h0 h7 [a_o] := (Keep.refl h0 [a_o]).wr W7 (Or.inl (List.mem_of_getElem? (i := 0) rfl))
  have Zs9 : n0 ≤ h7.size := Nat.le_trans Z0 (Keep.of_wr W7).1
  have N10 := Fr.snoc X7 N0 ga
  have Fw7 : Fld Z h7 a_o "com/example/change_gatherer/changegatherer/service/HarvestReport" "pages" "I" (.int x_1) := F_pages.same W7
  have Fq14 : Exa Z h7 a_o "com/example/change_gatherer/changegatherer/service/HarvestReport" := (Eo.wr W7)
  have Fq15 : Fld Z h7 a_o "com/example/change_gatherer/changegatherer/service/HarvestReport" "included" "I" (.int (0 : Int32)) := (F_included.other W7 (Or.inr (slot_ne (Or.inr (hw _ (List.mem_of_getElem? (i := 12) rfl))) (Or.inr (hw _ (List.mem_of_getElem? (i := 10) rfl))) (by decide) (t := .int) (t' := .int) (by decide) (by decide))))
  obtain ⟨T16, h16, X16, e16, W16, st16⟩ := putF X7 hx hZ hown (host := "") (Or.inl (hw _ (List.mem_of_getElem? (i := 11) rfl))) Via.refl e7 Fq15 Fq14 (Or.inr ⟨(hw _ (List.mem_of_getElem? (i := 12) rfl)), rfl, hnm⟩) (hw _ (List.mem_of_getElem? (i := 1) rfl)) (ty := .int) (by decide) rfl rfl (g := (mkF m 11 #[.val (.ref a_o), .val (.int x_1), .val (.int x_2), .val (.int x_3)] [(.int x_2), (.ref a_o)])) rfl rfl (hb hby own_d1_11)
  have Kc17 : Keep h0 h16 [a_o] := Kc8.wr W16 (Or.inl (List.mem_of_getElem? (i := 0) rfl))
  have Zs18 : n0 ≤ h16.size := Nat.le_trans Zs9 (Keep.of_wr W16).1
  have N19 := Fr.snoc X16 N10 ga
  have Fw16 : Fld Z h16 a_o "com/example/change_gatherer/changegatherer/service/HarvestReport" "included" "I" (.int x_2) := Fq15.same W16
  have Fq23 : Exa Z h16 a_o "com/example/change_gatherer/changegatherer/service/HarvestReport" := (Fq14.wr W16)
  have Fq24 : Fld Z h16 a_o "com/example/change_gatherer/changegatherer/service/HarvestReport" "removed" "I" (.int (0 : Int32)) := ((F_removed.other W7 (Or.inr (slot_ne (Or.inr (hw _ (List.mem_of_getElem? (i := 14) rfl))) (Or.inr (hw _ (List.mem_of_getElem? (i := 10) rfl))) (by decide) (t := .int) (t' := .int) (by decide) (by decide)))).other W16 (Or.inr (slot_ne (Or.inr (hw _ (List.mem_of_getElem? (i := 14) rfl))) (Or.inr (hw _ (List.mem_of_getElem? (i := 12) rfl))) (by decide) (t := .int) (t' := .int) (by decide) (by decide))))
  obtain ⟨T25, h25, X25, e25, W25, st25⟩ := putF X16 hx hZ hown (host := "") (Or.inl (hw _ (List.mem_of_getElem? (i := 13) rfl))) Via.refl e16 Fq24 Fq23 (Or.inr ⟨(hw _ (List.mem_of_getElem? (i := 14) rfl)), rfl, hnm⟩) (hw _ (List.mem_of_getElem? (i := 1) rfl)) (ty := .int) (by decide) rfl rfl (g := (mkF m 16 #[.val (.ref a_o), .val (.int x_1), .val (.int x_2), .val (.int x_3)] [(.int x_3), (.ref a_o)])) rfl rfl (hb hby own_d1_16)
  have Kc26 : Keep h0 h25 [a_o] := Kc17.wr W25 (Or.inl (List.mem_of_getElem? (i := 0) rfl))
  have Zs27 : n0 ≤ h25.size := Nat.le_trans Zs18 (Keep.of_wr W25).1
  have N28 := Fr.snoc X25 N19 ga
  have Fw25 : Fld Z h25 a_o "com/example/change_gatherer/changegatherer/service/HarvestReport" "removed" "I" (.int x_3) := Fq24.same W25
  obtain ⟨fs, hr, hrun, hended, hW, hsame⟩ := X25.leave (v := none) (fun _ => rfl)
  refine ⟨_, _, pre0 _ ?_, hrun, hended, _, _, rfl, ?_, ⟨_, rfl⟩, hW, hsame.mono (by decide) (by decide)⟩
  · show Steps p.tables e below (s₁.setTop (mkF m 0 #[.val (.ref a_o), .val (.int x_1), .val (.int x_2), .val (.int x_3)] [])) _
    refine XS.aloadN X0.here hx rfl (hb hby own_d1_0) rfl rfl ?_
    show Steps p.tables e below (s₁.setTop (mkF m 1 #[.val (.ref a_o), .val (.int x_1), .val (.int x_2), .val (.int x_3)] [(.ref a_o)])) _
    refine st3 _ ?_
    show Steps p.tables e below (T3.setTop (mkF m 4 #[.val (.ref a_o), .val (.int x_1), .val (.int x_2), .val (.int x_3)] [])) _
    refine XS.aloadN X3.here hx rfl (hb hby own_d1_4) rfl rfl ?_
    show Steps p.tables e below (T3.setTop (mkF m 5 #[.val (.ref a_o), .val (.int x_1), .val (.int x_2), .val (.int x_3)] [(.ref a_o)])) _
    refine XS.iloadN X3.here hx rfl (hb hby own_d1_5) rfl ?_
    show Steps p.tables e below (T3.setTop (mkF m 6 #[.val (.ref a_o), .val (.int x_1), .val (.int x_2), .val (.int x_3)] [(.int x_1), (.ref a_o)])) _
    refine st7 _ ?_
    show Steps p.tables e below (T7.setTop (mkF m 9 #[.val (.ref a_o), .val (.int x_1), .val (.int x_2), .val (.int x_3)] [])) _
    refine XS.aloadN X7.here hx rfl (hb hby own_d1_9) rfl rfl ?_
    show Steps p.tables e below (T7.setTop (mkF m 10 #[.val (.ref a_o), .val (.int x_1), .val (.int x_2), .val (.int x_3)] [(.ref a_o)])) _
    refine XS.iloadN X7.here hx rfl (hb hby own_d1_10) rfl ?_
    show Steps p.tables e below (T7.setTop (mkF m 11 #[.val (.ref a_o), .val (.int x_1), .val (.int x_2), .val (.int x_3)] [(.int x_2), (.ref a_o)])) _
    refine st16 _ ?_
    show Steps p.tables e below (T16.setTop (mkF m 14 #[.val (.ref a_o), .val (.int x_1), .val (.int x_2), .val (.int x_3)] [])) _
    refine XS.aloadN X16.here hx rfl (hb hby own_d1_14) rfl rfl ?_
    show Steps p.tables e below (T16.setTop (mkF m 15 #[.val (.ref a_o), .val (.int x_1), .val (.int x_2), .val (.int x_3)] [(.ref a_o)])) _
    refine XS.iloadN X16.here hx rfl (hb hby own_d1_15) rfl ?_
    show Steps p.tables e below (T16.setTop (mkF m 16 #[.val (.ref a_o), .val (.int x_1), .val (.int x_2), .val (.int x_3)] [(.int x_3), (.ref a_o)])) _
    refine st25 _ ?_
    show Steps p.tables e below (T25.setTop (mkF m 19 #[.val (.ref a_o), .val (.int x_1), .val (.int x_2), .val (.int x_3)] [])) _
    exact X25.returnOut hx Bd.returns (hb hby own_d1_19) hr
  · show Qown_rmI Z a_o x_1 x_2 x_3 h0 n0 _ T25.heap _
    rw [e25]
    have Fq30 : Exa Z h25 a_o "com/example/change_gatherer/changegatherer/service/HarvestReport" := (Fq23.wr W25)
    have Fq31 : Fld Z h25 a_o "com/example/change_gatherer/changegatherer/service/HarvestReport" "pages" "I" (.int x_1) := ((Fw7.other W16 (Or.inr (slot_ne (Or.inr (hw _ (List.mem_of_getElem? (i := 10) rfl))) (Or.inr (hw _ (List.mem_of_getElem? (i := 12) rfl))) (by decide) (t := .int) (t' := .int) (by decide) (by decide)))).other W25 (Or.inr (slot_ne (Or.inr (hw _ (List.mem_of_getElem? (i := 10) rfl))) (Or.inr (hw _ (List.mem_of_getElem? (i := 14) rfl))) (by decide) (t := .int) (t' := .int) (by decide) (by decide))))
    have Fq32 : Fld Z h25 a_o "com/example/change_gatherer/changegatherer/service/HarvestReport" "included" "I" (.int x_2) := (Fw16.other W25 (Or.inr (slot_ne (Or.inr (hw _ (List.mem_of_getElem? (i := 12) rfl))) (Or.inr (hw _ (List.mem_of_getElem? (i := 14) rfl))) (by decide) (t := .int) (t' := .int) (by decide) (by decide))))
    exact ⟨rfl, N28, Kc26, Fq30, Fq31, Fq32, Fw25⟩
theorem own_ef_own_rmP (m : MethodId) (a_o : Addr) (b_o : Addr) : entryFrame m #[(.ref a_o), (.ref b_o)] 2 = mkF m 0 #[.val (.ref a_o), .val (.ref b_o)] [] := by first | (simp [entryFrame, mkF, argsToLocals, Value.category]; done) | rfl
theorem own_pd0 : parseMethodDescriptor "(III)V" = some ⟨[.int, .int, .int], none⟩ := by decide +kernel
theorem own_d3_0 : decode prog_27_method_5_code 0 = .ok (.new 8, 3) := by decide +kernel
theorem own_d3_3 : decode prog_27_method_5_code 3 = .ok (.dup, 1) := by decide +kernel
theorem own_d3_4 : decode prog_27_method_5_code 4 = .ok (.aload_n 0, 1) := by decide +kernel
theorem own_d3_5 : decode prog_27_method_5_code 5 = .ok (.getfield 7, 3) := by decide +kernel
theorem own_d3_8 : decode prog_27_method_5_code 8 = .ok (.aload_n 1, 1) := by decide +kernel
theorem own_d3_9 : decode prog_27_method_5_code 9 = .ok (.getfield 7, 3) := by decide +kernel
theorem own_d3_12 : decode prog_27_method_5_code 12 = .ok (.iadd, 1) := by decide +kernel
theorem own_d3_13 : decode prog_27_method_5_code 13 = .ok (.aload_n 0, 1) := by decide +kernel
theorem own_d3_14 : decode prog_27_method_5_code 14 = .ok (.getfield 13, 3) := by decide +kernel
theorem own_d3_17 : decode prog_27_method_5_code 17 = .ok (.aload_n 1, 1) := by decide +kernel
theorem own_d3_18 : decode prog_27_method_5_code 18 = .ok (.getfield 13, 3) := by decide +kernel
theorem own_d3_21 : decode prog_27_method_5_code 21 = .ok (.iadd, 1) := by decide +kernel
theorem own_d3_22 : decode prog_27_method_5_code 22 = .ok (.aload_n 0, 1) := by decide +kernel
theorem own_d3_23 : decode prog_27_method_5_code 23 = .ok (.getfield 16, 3) := by decide +kernel
theorem own_d3_26 : decode prog_27_method_5_code 26 = .ok (.aload_n 1, 1) := by decide +kernel
theorem own_d3_27 : decode prog_27_method_5_code 27 = .ok (.getfield 16, 3) := by decide +kernel
theorem own_d3_30 : decode prog_27_method_5_code 30 = .ok (.iadd, 1) := by decide +kernel
theorem own_d3_31 : decode prog_27_method_5_code 31 = .ok (.invokespecial 19, 3) := by decide +kernel
theorem own_d3_34 : decode prog_27_method_5_code 34 = .ok (.areturn, 1) := by decide +kernel
def Qown_rmP (Z : State) (a_o : Addr) (b_o : Addr) (x_1 : Int32) (x_2 : Int32) (x_3 : Int32) (y_1 : Int32) (y_2 : Int32) (y_3 : Int32) (h0 : Heap) (n0 : Nat) (v : Option Value) (h : Heap) (L : List Loc) : Prop := ∃ r_o : Addr, v = some (.ref r_o) ∧ Fr n0 L ∧ h0.size ≤ r_o ∧ Keep h0 h [] ∧ Exa Z h r_o "com/example/change_gatherer/changegatherer/service/HarvestReport" ∧ Fld Z h r_o "com/example/change_gatherer/changegatherer/service/HarvestReport" "pages" "I" (.int (x_1 + y_1)) ∧ Fld Z h r_o "com/example/change_gatherer/changegatherer/service/HarvestReport" "included" "I" (.int (x_2 + y_2)) ∧ Fld Z h r_o "com/example/change_gatherer/changegatherer/service/HarvestReport" "removed" "I" (.int (x_3 + y_3))
set_option maxRecDepth 65536 in
set_option maxHeartbeats 40000000 in
theorem own_rmP (l : Launch) (Z : State) (a0 : Array Value) (hw : ∀ d ∈ tables_1, d.before a0 Z = true) (ws : List Jvm.Cond) (a_o : Addr) (b_o : Addr) (x_1 : Int32) (x_2 : Int32) (x_3 : Int32) (y_1 : Int32) (y_2 : Int32) (y_3 : Int32) (h0 : Heap) (n0 : Nat) (Z0 : n0 ≤ h0.size) (F_pages : Fld Z h0 a_o "com/example/change_gatherer/changegatherer/service/HarvestReport" "pages" "I" (.int x_1)) (F_included : Fld Z h0 a_o "com/example/change_gatherer/changegatherer/service/HarvestReport" "included" "I" (.int x_2)) (F_removed : Fld Z h0 a_o "com/example/change_gatherer/changegatherer/service/HarvestReport" "removed" "I" (.int x_3)) (G_pages : Fld Z h0 b_o "com/example/change_gatherer/changegatherer/service/HarvestReport" "pages" "I" (.int y_1)) (G_included : Fld Z h0 b_o "com/example/change_gatherer/changegatherer/service/HarvestReport" "included" "I" (.int y_2)) (G_removed : Fld Z h0 b_o "com/example/change_gatherer/changegatherer/service/HarvestReport" "removed" "I" (.int y_3)) :
    MetFree l (⟨"com/example/change_gatherer/changegatherer/service/HarvestReport", "plus", "(Lcom/example/change_gatherer/changegatherer/service/HarvestReport;)Lcom/example/change_gatherer/changegatherer/service/HarvestReport;"⟩ : MethodName) (head1 (Jvm.Cond.code (⟨"com/example/change_gatherer/changegatherer/service/HarvestReport", "plus", "(Lcom/example/change_gatherer/changegatherer/service/HarvestReport;)Lcom/example/change_gatherer/changegatherer/service/HarvestReport;"⟩ : MethodName) prog_27_method_5_code 2 (some (.object "com/example/change_gatherer/changegatherer/service/HarvestReport")) :: ws) ({ frames := 2, cells := 1, slots := 3, locals := 28 } : Room)) (fun a U => a = #[(.ref a_o), (.ref b_o)] ∧ Z.Warmed39 U.vm ∧ U.heap = h0) (fun _ _ _ _ _ => True) (fun _ U o U' => ∃ v L, o = .returned v ∧ Qown_rmP Z a_o b_o x_1 x_2 x_3 y_1 y_2 y_3 h0 n0 v U'.heap L ∧ FrameEnd U o U' L ({ frames := 2, cells := 1, slots := 3, locals := 28 } : Room).cells ({ frames := 2, cells := 1, slots := 3, locals := 28 } : Room).slots) := by
  refine MetFree.of_bodySF (plainFor_of_name own_pn0) hisR ?_
  intro p e s m args below meth c s₁ Bd hml0 hP hK
  obtain ⟨rfl, hZ, hh⟩ := hP
  have hx := Bd.exec
  have hby := Bd.bytes
  have hml : c.maxLocals = 2 := hml0
  have hown : s.vm.findClass "com/example/change_gatherer/changegatherer/service/HarvestReport" = some m.cls := findClass_of_methodNamed Bd.named
  have hnm := (name_of_methodNamed Bd.named Bd.method).1
  have X0 : Stand p l e ({ frames := 2, cells := 1, slots := 3, locals := 28 } : Room) s m #[(.ref a_o), (.ref b_o)] below meth c s₁ [] 0 0 := Stand.of_body Bd
  have e0 : s₁.heap = h0 := by rw [← hh, Bd.state]; rfl
  have N0 := Fr.nil n0
  have pre0 : ∀ t, Steps p.tables e below (s₁.setTop (mkF m 0 #[.val (.ref a_o), .val (.ref b_o)] [])) t → Steps p.tables e below (s₁.setTop (entryFrame m #[(.ref a_o), (.ref b_o)] 2)) t := fun t k => castTop (own_ef_own_rmP m a_o b_o) k
  obtain ⟨T2, h2, X2, e2, E2, A2, D2, -, st2⟩ := newO X0 hx hZ hown (hw _ (List.mem_of_getElem? (i := 20) rfl)) (hw _ (List.mem_of_getElem? (i := 1) rfl)) (hw _ (List.mem_of_getElem? (i := 2) rfl)) e0 (g := (mkF m 0 #[.val (.ref a_o), .val (.ref b_o)] [])) rfl (hb hby own_d3_0) (by decide) (by decide)
  obtain ⟨b2, g2⟩ : ∃ z, z = h0.size := ⟨_, rfl⟩
  rw [← g2] at A2 D2 st2
  have Ne3 : a_o ≠ b2 := Nat.ne_of_lt (Nat.lt_of_lt_of_le F_pages.lt (Nat.le_of_eq g2.symm))
  have Ne4 : b_o ≠ b2 := Nat.ne_of_lt (Nat.lt_of_lt_of_le G_pages.lt (Nat.le_of_eq g2.symm))
  have Ge5 : n0 ≤ b2 := Nat.le_trans Z0 (Nat.le_of_eq g2.symm)
  have Sz6 : h0.size ≤ b2 := Nat.le_trans (Keep.refl h0 []).1 (Nat.le_of_eq g2.symm)
  have Kc7 : Keep h0 h2 [] := (Keep.refl h0 []).ext E2
  have Zs8 : n0 ≤ h2.size := (Nat.le_trans Z0 E2.1)
  have F2_pages : Fld Z h2 b2 "com/example/change_gatherer/changegatherer/service/HarvestReport" "pages" "I" (.int (0 : Int32)) := D2 (Or.inr (hw _ (List.mem_of_getElem? (i := 10) rfl))) (ty := .int) (by decide)
  have F2_included : Fld Z h2 b2 "com/example/change_gatherer/changegatherer/service/HarvestReport" "included" "I" (.int (0 : Int32)) := D2 (Or.inr (hw _ (List.mem_of_getElem? (i := 12) rfl))) (ty := .int) (by decide)
  have F2_removed : Fld Z h2 b2 "com/example/change_gatherer/changegatherer/service/HarvestReport" "removed" "I" (.int (0 : Int32)) := D2 (Or.inr (hw _ (List.mem_of_getElem? (i := 14) rfl))) (ty := .int) (by decide)
  have Fq12 : Fld Z h2 a_o "com/example/change_gatherer/changegatherer/service/HarvestReport" "pages" "I" (.int x_1) := (F_pages.ext E2)
  obtain ⟨T13, X13, e13, st13⟩ := getF X2 hx hZ hown (host := "") (Or.inl (hw _ (List.mem_of_getElem? (i := 9) rfl))) Via.refl e2 Fq12 (g := (mkF m 5 #[.val (.ref a_o), .val (.ref b_o)] [(.ref a_o), (.ref b2), (.ref b2)])) rfl rfl (hb hby own_d3_5)
  have Fq16 : Fld Z h2 b_o "com/example/change_gatherer/changegatherer/service/HarvestReport" "pages" "I" (.int y_1) := (G_pages.ext E2)
  obtain ⟨T17, X17, e17, st17⟩ := getF X13 hx hZ hown (host := "") (Or.inl (hw _ (List.mem_of_getElem? (i := 9) rfl))) Via.refl e13 Fq16 (g := (mkF m 9 #[.val (.ref a_o), .val (.ref b_o)] [(.ref b_o), (.int x_1), (.ref b2), (.ref b2)])) rfl rfl (hb hby own_d3_9)
  have Fq21 : Fld Z h2 a_o "com/example/change_gatherer/changegatherer/service/HarvestReport" "included" "I" (.int x_2) := (F_included.ext E2)
  obtain ⟨T22, X22, e22, st22⟩ := getF X17 hx hZ hown (host := "") (Or.inl (hw _ (List.mem_of_getElem? (i := 11) rfl))) Via.refl e17 Fq21 (g := (mkF m 14 #[.val (.ref a_o), .val (.ref b_o)] [(.ref a_o), (.int (x_1 + y_1)), (.ref b2), (.ref b2)])) rfl rfl (hb hby own_d3_14)
  have Fq25 : Fld Z h2 b_o "com/example/change_gatherer/changegatherer/service/HarvestReport" "included" "I" (.int y_2) := (G_included.ext E2)
  obtain ⟨T26, X26, e26, st26⟩ := getF X22 hx hZ hown (host := "") (Or.inl (hw _ (List.mem_of_getElem? (i := 11) rfl))) Via.refl e22 Fq25 (g := (mkF m 18 #[.val (.ref a_o), .val (.ref b_o)] [(.ref b_o), (.int x_2), (.int (x_1 + y_1)), (.ref b2), (.ref b2)])) rfl rfl (hb hby own_d3_18)
  have Fq30 : Fld Z h2 a_o "com/example/change_gatherer/changegatherer/service/HarvestReport" "removed" "I" (.int x_3) := (F_removed.ext E2)
  obtain ⟨T31, X31, e31, st31⟩ := getF X26 hx hZ hown (host := "") (Or.inl (hw _ (List.mem_of_getElem? (i := 13) rfl))) Via.refl e26 Fq30 (g := (mkF m 23 #[.val (.ref a_o), .val (.ref b_o)] [(.ref a_o), (.int (x_2 + y_2)), (.int (x_1 + y_1)), (.ref b2), (.ref b2)])) rfl rfl (hb hby own_d3_23)
  have Fq34 : Fld Z h2 b_o "com/example/change_gatherer/changegatherer/service/HarvestReport" "removed" "I" (.int y_3) := (G_removed.ext E2)
  obtain ⟨T35, X35, e35, st35⟩ := getF X31 hx hZ hown (host := "") (Or.inl (hw _ (List.mem_of_getElem? (i := 13) rfl))) Via.refl e31 Fq34 (g := (mkF m 27 #[.val (.ref a_o), .val (.ref b_o)] [(.ref b_o), (.int x_3), (.int (x_2 + y_2)), (.int (x_1 + y_1)), (.ref b2), (.ref b2)])) rfl rfl (hb hby own_d3_27)
  obtain ⟨_, _, ⟨T38, L38, k38, n38⟩, -, X38, ⟨Lc38, hQ38, l38, y38, z38⟩, st38⟩ := X35.specialBack hx (y := (⟨"com/example/change_gatherer/changegatherer/service/HarvestReport", "<init>", "(III)V"⟩ : MethodName)) rfl hown (mvT hZ (hw _ (List.mem_of_getElem? (i := 21) rfl))) (mvT hZ (hw _ (List.mem_of_getElem? (i := 4) rfl))) (mvT hZ (hw _ (List.mem_of_getElem? (i := 5) rfl))) (by decide) (backOf (W := 1) (own_rmI l Z a0 hw [] b2 (x_1 + y_1) (x_2 + y_2) (x_3 + y_3) h2 n0 Zs8 A2 F2_pages F2_included F2_removed Ge5) hZ (hw _ (List.mem_of_getElem? (i := 5) rfl)) (hw _ (List.mem_of_getElem? (i := 2) rfl)) (by decide) (by decide)) (g := (mkF m 31 #[.val (.ref a_o), .val (.ref b_o)] [(.int (x_3 + y_3)), (.int (x_2 + y_2)), (.int (x_1 + y_1)), (.ref b2), (.ref b2)])) rfl (by rw [hml]; rfl) (Steps.refl _) (a := b2) (argsL := [(.int (x_1 + y_1)), (.int (x_2 + y_2)), (.int (x_3 + y_3))]) (rest := [(.ref b2)]) (lenOf own_pd0 rfl) rfl (by show 2 * 0 + _ ≤ _; exact Nat.le_of_eq rfl) (hb hby own_d3_31) (fun _ _ => ⟨rfl, e35, (by decide : 1 + 0 ≤ _), (by decide : 3 + 0 ≤ _)⟩)
  dsimp only [Pt.U, Pt.locs, Pt.cells, Pt.slots] at X38 l38 y38 z38 st38 hQ38
  subst l38 y38 z38
  obtain ⟨rfl, Nq38, K38, Pf38_0, Pf38_1, Pf38_2, Pf38_3⟩ := hQ38
  have N39 := Fr.app N0 Nq38
  have Kc40 : Keep h0 T38.heap [] := Kc7.trans K38 (allS (Or.inr Sz6) all0)
  have Zs41 : n0 ≤ T38.heap.size := Nat.le_trans Zs8 K38.1
  obtain ⟨fs, hr, hrun, hended, hW, hsame⟩ := X38.leave (v := some (.ref b2)) (fun h => by rw [Bd.returns] at h; cases h)
  refine ⟨_, _, pre0 _ ?_, hrun, hended, _, _, rfl, ?_, ⟨_, rfl⟩, hW, hsame.mono (by decide) (by decide)⟩
  · show Steps p.tables e below (s₁.setTop (mkF m 0 #[.val (.ref a_o), .val (.ref b_o)] [])) _
    refine st2 _ ?_
    show Steps p.tables e below (T2.setTop (mkF m 3 #[.val (.ref a_o), .val (.ref b_o)] [(.ref b2)])) _
    refine XS.dup X2.here hx rfl (hb hby own_d3_3) rfl rfl ?_
    show Steps p.tables e below (T2.setTop (mkF m 4 #[.val (.ref a_o), .val (.ref b_o)] [(.ref b2), (.ref b2)])) _
    refine XS.aloadN X2.here hx rfl (hb hby own_d3_4) rfl rfl ?_
    show Steps p.tables e below (T2.setTop (mkF m 5 #[.val (.ref a_o), .val (.ref b_o)] [(.ref a_o), (.ref b2), (.ref b2)])) _
    refine st13 _ ?_
    show Steps p.tables e below (T13.setTop (mkF m 8 #[.val (.ref a_o), .val (.ref b_o)] [(.int x_1), (.ref b2), (.ref b2)])) _
    refine XS.aloadN X13.here hx rfl (hb hby own_d3_8) rfl rfl ?_
    show Steps p.tables e below (T13.setTop (mkF m 9 #[.val (.ref a_o), .val (.ref b_o)] [(.ref b_o), (.int x_1), (.ref b2), (.ref b2)])) _
    refine st17 _ ?_
    show Steps p.tables e below (T17.setTop (mkF m 12 #[.val (.ref a_o), .val (.ref b_o)] [(.int y_1), (.int x_1), (.ref b2), (.ref b2)])) _
    refine XS.iadd X17.here hx rfl (hb hby own_d3_12) rfl ?_
    show Steps p.tables e below (T17.setTop (mkF m 13 #[.val (.ref a_o), .val (.ref b_o)] [(.int (x_1 + y_1)), (.ref b2), (.ref b2)])) _
    refine XS.aloadN X17.here hx rfl (hb hby own_d3_13) rfl rfl ?_
    show Steps p.tables e below (T17.setTop (mkF m 14 #[.val (.ref a_o), .val (.ref b_o)] [(.ref a_o), (.int (x_1 + y_1)), (.ref b2), (.ref b2)])) _
    refine st22 _ ?_
    show Steps p.tables e below (T22.setTop (mkF m 17 #[.val (.ref a_o), .val (.ref b_o)] [(.int x_2), (.int (x_1 + y_1)), (.ref b2), (.ref b2)])) _
    refine XS.aloadN X22.here hx rfl (hb hby own_d3_17) rfl rfl ?_
    show Steps p.tables e below (T22.setTop (mkF m 18 #[.val (.ref a_o), .val (.ref b_o)] [(.ref b_o), (.int x_2), (.int (x_1 + y_1)), (.ref b2), (.ref b2)])) _
    refine st26 _ ?_
    show Steps p.tables e below (T26.setTop (mkF m 21 #[.val (.ref a_o), .val (.ref b_o)] [(.int y_2), (.int x_2), (.int (x_1 + y_1)), (.ref b2), (.ref b2)])) _
    refine XS.iadd X26.here hx rfl (hb hby own_d3_21) rfl ?_
    show Steps p.tables e below (T26.setTop (mkF m 22 #[.val (.ref a_o), .val (.ref b_o)] [(.int (x_2 + y_2)), (.int (x_1 + y_1)), (.ref b2), (.ref b2)])) _
    refine XS.aloadN X26.here hx rfl (hb hby own_d3_22) rfl rfl ?_
    show Steps p.tables e below (T26.setTop (mkF m 23 #[.val (.ref a_o), .val (.ref b_o)] [(.ref a_o), (.int (x_2 + y_2)), (.int (x_1 + y_1)), (.ref b2), (.ref b2)])) _
    refine st31 _ ?_
    show Steps p.tables e below (T31.setTop (mkF m 26 #[.val (.ref a_o), .val (.ref b_o)] [(.int x_3), (.int (x_2 + y_2)), (.int (x_1 + y_1)), (.ref b2), (.ref b2)])) _
    refine XS.aloadN X31.here hx rfl (hb hby own_d3_26) rfl rfl ?_
    show Steps p.tables e below (T31.setTop (mkF m 27 #[.val (.ref a_o), .val (.ref b_o)] [(.ref b_o), (.int x_3), (.int (x_2 + y_2)), (.int (x_1 + y_1)), (.ref b2), (.ref b2)])) _
    refine st35 _ ?_
    show Steps p.tables e below (T35.setTop (mkF m 30 #[.val (.ref a_o), .val (.ref b_o)] [(.int y_3), (.int x_3), (.int (x_2 + y_2)), (.int (x_1 + y_1)), (.ref b2), (.ref b2)])) _
    refine XS.iadd X35.here hx rfl (hb hby own_d3_30) rfl ?_
    show Steps p.tables e below (T35.setTop (mkF m 31 #[.val (.ref a_o), .val (.ref b_o)] [(.int (x_3 + y_3)), (.int (x_2 + y_2)), (.int (x_1 + y_1)), (.ref b2), (.ref b2)])) _
    refine st38.trans ?_
    show Steps p.tables e below (T38.setTop (mkF m 34 #[.val (.ref a_o), .val (.ref b_o)] [(.ref b2)])) _
    jvm_step X38.here [X38.here.top, hx, (hb hby own_d3_34), X38.method', Bd.returns, Value.isRef, FieldType.isReference]
    first | (intro acts; rw [hr _ acts rfl rfl rfl]) | rw [hr _ _ rfl rfl rfl]
    exact Steps.refl _
  · show Qown_rmP Z a_o b_o x_1 x_2 x_3 y_1 y_2 y_3 h0 n0 _ T38.heap _
    exact ⟨b2, rfl, N39, Sz6, Kc40, Pf38_0, Pf38_1, Pf38_2, Pf38_3⟩
theorem own_ef_own_rm_getPages (m : MethodId) (a_o : Addr) : entryFrame m #[(.ref a_o)] 1 = mkF m 0 #[.val (.ref a_o)] [] := by first | (simp [entryFrame, mkF, argsToLocals, Value.category]; done) | rfl
theorem own_d4_0 : decode prog_27_method_2_code 0 = .ok (.aload_n 0, 1) := by decide +kernel
theorem own_d4_1 : decode prog_27_method_2_code 1 = .ok (.getfield 7, 3) := by decide +kernel
theorem own_d4_4 : decode prog_27_method_2_code 4 = .ok (.ireturn, 1) := by decide +kernel
def Qown_rm_getPages (Z : State) (a_o : Addr) (x_1 : Int32) (h0 : Heap) (n0 : Nat) (v : Option Value) (h : Heap) (L : List Loc) : Prop := v = some (.int x_1) ∧ Fr n0 L ∧ h = h0
set_option maxRecDepth 65536 in
set_option maxHeartbeats 40000000 in
theorem own_rm_getPages (l : Launch) (Z : State) (a0 : Array Value) (hw : ∀ d ∈ tables_1, d.before a0 Z = true) (ws : List Jvm.Cond) (a_o : Addr) (x_1 : Int32) (h0 : Heap) (n0 : Nat) (Z0 : n0 ≤ h0.size) (F_f : Fld Z h0 a_o "com/example/change_gatherer/changegatherer/service/HarvestReport" "pages" "I" (.int x_1)) :
    MetFree l (⟨"com/example/change_gatherer/changegatherer/service/HarvestReport", "getPages", "()I"⟩ : MethodName) (head1 (Jvm.Cond.code (⟨"com/example/change_gatherer/changegatherer/service/HarvestReport", "getPages", "()I"⟩ : MethodName) prog_27_method_2_code 1 (some .int) :: ws) ({ frames := 0, cells := 0, slots := 0, locals := 0 } : Room)) (fun a U => a = #[(.ref a_o)] ∧ Z.Warmed39 U.vm ∧ U.heap = h0) (fun _ _ _ _ _ => True) (fun _ U o U' => ∃ v L, o = .returned v ∧ Qown_rm_getPages Z a_o x_1 h0 n0 v U'.heap L ∧ FrameEnd U o U' L ({ frames := 0, cells := 0, slots := 0, locals := 0 } : Room).cells ({ frames := 0, cells := 0, slots := 0, locals := 0 } : Room).slots) := by
  refine MetFree.of_bodySF (plainFor_of_name own_pn0) hisR ?_
  intro p e s m args below meth c s₁ Bd hml0 hP hK
  obtain ⟨rfl, hZ, hh⟩ := hP
  have hx := Bd.exec
  have hby := Bd.bytes
  have hml : c.maxLocals = 1 := hml0
  have hown : s.vm.findClass "com/example/change_gatherer/changegatherer/service/HarvestReport" = some m.cls := findClass_of_methodNamed Bd.named
  have hnm := (name_of_methodNamed Bd.named Bd.method).1
  have X0 : Stand p l e ({ frames := 0, cells := 0, slots := 0, locals := 0 } : Room) s m #[(.ref a_o)] below meth c s₁ [] 0 0 := Stand.of_body Bd
  have e0 : s₁.heap = h0 := by rw [← hh, Bd.state]; rfl
  have N0 := Fr.nil n0
  have pre0 : ∀ t, Steps p.tables e below (s₁.setTop (mkF m 0 #[.val (.ref a_o)] [])) t → Steps p.tables e below (s₁.setTop (entryFrame m #[(.ref a_o)] 1)) t := fun t k => castTop (own_ef_own_rm_getPages m a_o) k
  obtain ⟨T3, X3, e3, st3⟩ := getF X0 hx hZ hown (host := "") (Or.inl (hw _ (List.mem_of_getElem? (i := 9) rfl))) Via.refl e0 F_f (g := (mkF m 1 #[.val (.ref a_o)] [(.ref a_o)])) rfl rfl (hb hby own_d4_1)
  obtain ⟨fs, hr, hrun, hended, hW, hsame⟩ := X3.leave (v := some (.int x_1)) (fun h => by rw [Bd.returns] at h; cases h)
  refine ⟨_, _, pre0 _ ?_, hrun, hended, _, _, rfl, ?_, ⟨_, rfl⟩, hW, hsame.mono (by decide) (by decide)⟩
  · show Steps p.tables e below (s₁.setTop (mkF m 0 #[.val (.ref a_o)] [])) _
    refine XS.aloadN X0.here hx rfl (hb hby own_d4_0) rfl rfl ?_
    show Steps p.tables e below (s₁.setTop (mkF m 1 #[.val (.ref a_o)] [(.ref a_o)])) _
    refine st3 _ ?_
    show Steps p.tables e below (T3.setTop (mkF m 4 #[.val (.ref a_o)] [(.int x_1)])) _
    exact retI X3 hx Bd.returns (hb hby own_d4_4) hr
  · show Qown_rm_getPages Z a_o x_1 h0 n0 _ T3.heap _
    rw [e3]
    exact ⟨rfl, N0, rfl⟩
theorem own_ef_own_rm_getIncluded (m : MethodId) (a_o : Addr) : entryFrame m #[(.ref a_o)] 1 = mkF m 0 #[.val (.ref a_o)] [] := by first | (simp [entryFrame, mkF, argsToLocals, Value.category]; done) | rfl
theorem own_d5_0 : decode prog_27_method_3_code 0 = .ok (.aload_n 0, 1) := by decide +kernel
theorem own_d5_1 : decode prog_27_method_3_code 1 = .ok (.getfield 13, 3) := by decide +kernel
theorem own_d5_4 : decode prog_27_method_3_code 4 = .ok (.ireturn, 1) := by decide +kernel
def Qown_rm_getIncluded (Z : State) (a_o : Addr) (x_1 : Int32) (h0 : Heap) (n0 : Nat) (v : Option Value) (h : Heap) (L : List Loc) : Prop := v = some (.int x_1) ∧ Fr n0 L ∧ h = h0
set_option maxRecDepth 65536 in
set_option maxHeartbeats 40000000 in
theorem own_rm_getIncluded (l : Launch) (Z : State) (a0 : Array Value) (hw : ∀ d ∈ tables_1, d.before a0 Z = true) (ws : List Jvm.Cond) (a_o : Addr) (x_1 : Int32) (h0 : Heap) (n0 : Nat) (Z0 : n0 ≤ h0.size) (F_f : Fld Z h0 a_o "com/example/change_gatherer/changegatherer/service/HarvestReport" "included" "I" (.int x_1)) :
    MetFree l (⟨"com/example/change_gatherer/changegatherer/service/HarvestReport", "getIncluded", "()I"⟩ : MethodName) (head1 (Jvm.Cond.code (⟨"com/example/change_gatherer/changegatherer/service/HarvestReport", "getIncluded", "()I"⟩ : MethodName) prog_27_method_3_code 1 (some .int) :: ws) ({ frames := 0, cells := 0, slots := 0, locals := 0 } : Room)) (fun a U => a = #[(.ref a_o)] ∧ Z.Warmed39 U.vm ∧ U.heap = h0) (fun _ _ _ _ _ => True) (fun _ U o U' => ∃ v L, o = .returned v ∧ Qown_rm_getIncluded Z a_o x_1 h0 n0 v U'.heap L ∧ FrameEnd U o U' L ({ frames := 0, cells := 0, slots := 0, locals := 0 } : Room).cells ({ frames := 0, cells := 0, slots := 0, locals := 0 } : Room).slots) := by
  refine MetFree.of_bodySF (plainFor_of_name own_pn0) hisR ?_
  intro p e s m args below meth c s₁ Bd hml0 hP hK
  obtain ⟨rfl, hZ, hh⟩ := hP
  have hx := Bd.exec
  have hby := Bd.bytes
  have hml : c.maxLocals = 1 := hml0
  have hown : s.vm.findClass "com/example/change_gatherer/changegatherer/service/HarvestReport" = some m.cls := findClass_of_methodNamed Bd.named
  have hnm := (name_of_methodNamed Bd.named Bd.method).1
  have X0 : Stand p l e ({ frames := 0, cells := 0, slots := 0, locals := 0 } : Room) s m #[(.ref a_o)] below meth c s₁ [] 0 0 := Stand.of_body Bd
  have e0 : s₁.heap = h0 := by rw [← hh, Bd.state]; rfl
  have N0 := Fr.nil n0
  have pre0 : ∀ t, Steps p.tables e below (s₁.setTop (mkF m 0 #[.val (.ref a_o)] [])) t → Steps p.tables e below (s₁.setTop (entryFrame m #[(.ref a_o)] 1)) t := fun t k => castTop (own_ef_own_rm_getIncluded m a_o) k
  obtain ⟨T3, X3, e3, st3⟩ := getF X0 hx hZ hown (host := "") (Or.inl (hw _ (List.mem_of_getElem? (i := 11) rfl))) Via.refl e0 F_f (g := (mkF m 1 #[.val (.ref a_o)] [(.ref a_o)])) rfl rfl (hb hby own_d5_1)
  obtain ⟨fs, hr, hrun, hended, hW, hsame⟩ := X3.leave (v := some (.int x_1)) (fun h => by rw [Bd.returns] at h; cases h)
  refine ⟨_, _, pre0 _ ?_, hrun, hended, _, _, rfl, ?_, ⟨_, rfl⟩, hW, hsame.mono (by decide) (by decide)⟩
  · show Steps p.tables e below (s₁.setTop (mkF m 0 #[.val (.ref a_o)] [])) _
    refine XS.aloadN X0.here hx rfl (hb hby own_d5_0) rfl rfl ?_
    show Steps p.tables e below (s₁.setTop (mkF m 1 #[.val (.ref a_o)] [(.ref a_o)])) _
    refine st3 _ ?_
    show Steps p.tables e below (T3.setTop (mkF m 4 #[.val (.ref a_o)] [(.int x_1)])) _
    exact retI X3 hx Bd.returns (hb hby own_d5_4) hr
  · show Qown_rm_getIncluded Z a_o x_1 h0 n0 _ T3.heap _
    rw [e3]
    exact ⟨rfl, N0, rfl⟩
theorem own_ef_own_rm_getRemoved (m : MethodId) (a_o : Addr) : entryFrame m #[(.ref a_o)] 1 = mkF m 0 #[.val (.ref a_o)] [] := by first | (simp [entryFrame, mkF, argsToLocals, Value.category]; done) | rfl
theorem own_d6_0 : decode prog_27_method_4_code 0 = .ok (.aload_n 0, 1) := by decide +kernel
theorem own_d6_1 : decode prog_27_method_4_code 1 = .ok (.getfield 16, 3) := by decide +kernel
theorem own_d6_4 : decode prog_27_method_4_code 4 = .ok (.ireturn, 1) := by decide +kernel
def Qown_rm_getRemoved (Z : State) (a_o : Addr) (x_1 : Int32) (h0 : Heap) (n0 : Nat) (v : Option Value) (h : Heap) (L : List Loc) : Prop := v = some (.int x_1) ∧ Fr n0 L ∧ h = h0
set_option maxRecDepth 65536 in
set_option maxHeartbeats 40000000 in
theorem own_rm_getRemoved (l : Launch) (Z : State) (a0 : Array Value) (hw : ∀ d ∈ tables_1, d.before a0 Z = true) (ws : List Jvm.Cond) (a_o : Addr) (x_1 : Int32) (h0 : Heap) (n0 : Nat) (Z0 : n0 ≤ h0.size) (F_f : Fld Z h0 a_o "com/example/change_gatherer/changegatherer/service/HarvestReport" "removed" "I" (.int x_1)) :
    MetFree l (⟨"com/example/change_gatherer/changegatherer/service/HarvestReport", "getRemoved", "()I"⟩ : MethodName) (head1 (Jvm.Cond.code (⟨"com/example/change_gatherer/changegatherer/service/HarvestReport", "getRemoved", "()I"⟩ : MethodName) prog_27_method_4_code 1 (some .int) :: ws) ({ frames := 0, cells := 0, slots := 0, locals := 0 } : Room)) (fun a U => a = #[(.ref a_o)] ∧ Z.Warmed39 U.vm ∧ U.heap = h0) (fun _ _ _ _ _ => True) (fun _ U o U' => ∃ v L, o = .returned v ∧ Qown_rm_getRemoved Z a_o x_1 h0 n0 v U'.heap L ∧ FrameEnd U o U' L ({ frames := 0, cells := 0, slots := 0, locals := 0 } : Room).cells ({ frames := 0, cells := 0, slots := 0, locals := 0 } : Room).slots) := by
  refine MetFree.of_bodySF (plainFor_of_name own_pn0) hisR ?_
  intro p e s m args below meth c s₁ Bd hml0 hP hK
  obtain ⟨rfl, hZ, hh⟩ := hP
  have hx := Bd.exec
  have hby := Bd.bytes
  have hml : c.maxLocals = 1 := hml0
  have hown : s.vm.findClass "com/example/change_gatherer/changegatherer/service/HarvestReport" = some m.cls := findClass_of_methodNamed Bd.named
  have hnm := (name_of_methodNamed Bd.named Bd.method).1
  have X0 : Stand p l e ({ frames := 0, cells := 0, slots := 0, locals := 0 } : Room) s m #[(.ref a_o)] below meth c s₁ [] 0 0 := Stand.of_body Bd
  have e0 : s₁.heap = h0 := by rw [← hh, Bd.state]; rfl
  have N0 := Fr.nil n0
  have pre0 : ∀ t, Steps p.tables e below (s₁.setTop (mkF m 0 #[.val (.ref a_o)] [])) t → Steps p.tables e below (s₁.setTop (entryFrame m #[(.ref a_o)] 1)) t := fun t k => castTop (own_ef_own_rm_getRemoved m a_o) k
  obtain ⟨T3, X3, e3, st3⟩ := getF X0 hx hZ hown (host := "") (Or.inl (hw _ (List.mem_of_getElem? (i := 13) rfl))) Via.refl e0 F_f (g := (mkF m 1 #[.val (.ref a_o)] [(.ref a_o)])) rfl rfl (hb hby own_d6_1)
  obtain ⟨fs, hr, hrun, hended, hW, hsame⟩ := X3.leave (v := some (.int x_1)) (fun h => by rw [Bd.returns] at h; cases h)
  refine ⟨_, _, pre0 _ ?_, hrun, hended, _, _, rfl, ?_, ⟨_, rfl⟩, hW, hsame.mono (by decide) (by decide)⟩
  · show Steps p.tables e below (s₁.setTop (mkF m 0 #[.val (.ref a_o)] [])) _
    refine XS.aloadN X0.here hx rfl (hb hby own_d6_0) rfl rfl ?_
    show Steps p.tables e below (s₁.setTop (mkF m 1 #[.val (.ref a_o)] [(.ref a_o)])) _
    refine st3 _ ?_
    show Steps p.tables e below (T3.setTop (mkF m 4 #[.val (.ref a_o)] [(.int x_1)])) _
    exact retI X3 hx Bd.returns (hb hby own_d6_4) hr
  · show Qown_rm_getRemoved Z a_o x_1 h0 n0 _ T3.heap _
    rw [e3]
    exact ⟨rfl, N0, rfl⟩
theorem own_pn1 : plainName "com/example/change_gatherer/changegatherer/service/HarvestReportPlusPinLaw" = true := by first | (simp [plainName, overriddenIn]; done) | decide +kernel
theorem own_ef_own_law (m : MethodId) (p0 : Int32) (p1 : Int32) (p2 : Int32) (p3 : Int32) (p4 : Int32) (p5 : Int32) : entryFrame m #[(.int p0), (.int p1), (.int p2), (.int p3), (.int p4), (.int p5)] maxLocals = mkF m 0 #[.val (.int p0), .val (.int p1), .val (.int p2), .val (.int p3), .val (.int p4), .val (.int p5), .unset, .unset, .unset, .unset, .unset, .unset, .unset, .unset, .unset] [] := by first | (simp [entryFrame, mkF, argsToLocals, Value.category, maxLocals]; done) | rfl
theorem own_pd1 : parseMethodDescriptor "(Lcom/example/change_gatherer/changegatherer/service/HarvestReport;)Lcom/example/change_gatherer/changegatherer/service/HarvestReport;" = some ⟨[(.object "com/example/change_gatherer/changegatherer/service/HarvestReport")], some (.object "com/example/change_gatherer/changegatherer/service/HarvestReport")⟩ := by decide +kernel
theorem own_pd2 : parseMethodDescriptor "()I" = some ⟨[], some .int⟩ := by decide +kernel
def Qown_law (Z : State) (p0 : Int32) (p1 : Int32) (p2 : Int32) (p3 : Int32) (p4 : Int32) (p5 : Int32) (h0 : Heap) (n0 : Nat) (v : Option Value) (h : Heap) (L : List Loc) : Prop := v = some (.int (1 : Int32)) ∧ Fr n0 L
set_option maxRecDepth 65536 in
set_option maxHeartbeats 40000000 in
theorem own_law (l : Launch) (Z : State) (a0 : Array Value) (hw : ∀ d ∈ tables_1, d.before a0 Z = true) (ws : List Jvm.Cond) (p0 : Int32) (p1 : Int32) (p2 : Int32) (p3 : Int32) (p4 : Int32) (p5 : Int32) (h0 : Heap) (n0 : Nat) (Z0 : n0 ≤ h0.size) :
    MetFree l x (head1 (Jvm.Cond.code x code maxLocals ret :: ws) room_1) (fun a U => a = #[(.int p0), (.int p1), (.int p2), (.int p3), (.int p4), (.int p5)] ∧ Z.Warmed39 U.vm ∧ U.heap = h0) (fun _ _ _ _ _ => True) (fun _ U o U' => ∃ v L, o = .returned v ∧ Qown_law Z p0 p1 p2 p3 p4 p5 h0 n0 v U'.heap L ∧ FrameEnd U o U' L room_1.cells room_1.slots) := by
  refine MetFree.of_bodySF (plainFor_of_name own_pn1) hisR ?_
  intro p e s m args below meth c s₁ Bd hml0 hP hK
  obtain ⟨rfl, hZ, hh⟩ := hP
  have hx := Bd.exec
  have hby := Bd.bytes
  have hml : c.maxLocals = 15 := hml0
  have hown : s.vm.findClass "com/example/change_gatherer/changegatherer/service/HarvestReportPlusPinLaw" = some m.cls := findClass_of_methodNamed Bd.named
  have hnm := (name_of_methodNamed Bd.named Bd.method).1
  have X0 : Stand p l e room_1 s m #[(.int p0), (.int p1), (.int p2), (.int p3), (.int p4), (.int p5)] below meth c s₁ [] 0 0 := Stand.of_body Bd
  have e0 : s₁.heap = h0 := by rw [← hh, Bd.state]; rfl
  have N0 := Fr.nil n0
  have pre0 : ∀ t, Steps p.tables e below (s₁.setTop (mkF m 0 #[.val (.int p0), .val (.int p1), .val (.int p2), .val (.int p3), .val (.int p4), .val (.int p5), .unset, .unset, .unset, .unset, .unset, .unset, .unset, .unset, .unset] [])) t → Steps p.tables e below (s₁.setTop (entryFrame m #[(.int p0), (.int p1), (.int p2), (.int p3), (.int p4), (.int p5)] maxLocals)) t := fun t k => castTop (own_ef_own_law m p0 p1 p2 p3 p4 p5) k
  obtain ⟨T2, h2, X2, e2, E2, A2, D2, -, st2⟩ := newO X0 hx hZ hown (hw _ (List.mem_of_getElem? (i := 0) rfl)) (hw _ (List.mem_of_getElem? (i := 1) rfl)) (hw _ (List.mem_of_getElem? (i := 2) rfl)) e0 (g := (mkF m 0 #[.val (.int p0), .val (.int p1), .val (.int p2), .val (.int p3), .val (.int p4), .val (.int p5), .unset, .unset, .unset, .unset, .unset, .unset, .unset, .unset, .unset] [])) rfl (hb hby at_0) (by decide) (by decide)
  obtain ⟨b2, g2⟩ : ∃ z, z = h0.size := ⟨_, rfl⟩
  rw [← g2] at A2 D2 st2
  have Ge3 : n0 ≤ b2 := Nat.le_trans Z0 (Nat.le_of_eq g2.symm)
  have Sz4 : h0.size ≤ b2 := Nat.le_trans (Keep.refl h0 []).1 (Nat.le_of_eq g2.symm)
  have Kc5 : Keep h0 h2 [] := (Keep.refl h0 []).ext E2
  have Zs6 : n0 ≤ h2.size := (Nat.le_trans Z0 E2.1)
  have F2_pages : Fld Z h2 b2 "com/example/change_gatherer/changegatherer/service/HarvestReport" "pages" "I" (.int (0 : Int32)) := D2 (Or.inr (hw _ (List.mem_of_getElem? (i := 10) rfl))) (ty := .int) (by decide)
  have F2_included : Fld Z h2 b2 "com/example/change_gatherer/changegatherer/service/HarvestReport" "included" "I" (.int (0 : Int32)) := D2 (Or.inr (hw _ (List.mem_of_getElem? (i := 12) rfl))) (ty := .int) (by decide)
  have F2_removed : Fld Z h2 b2 "com/example/change_gatherer/changegatherer/service/HarvestReport" "removed" "I" (.int (0 : Int32)) := D2 (Or.inr (hw _ (List.mem_of_getElem? (i := 14) rfl))) (ty := .int) (by decide)
  obtain ⟨_, _, ⟨T12, L12, k12, n12⟩, -, X12, ⟨Lc12, hQ12, l12, y12, z12⟩, st12⟩ := X2.specialBack hx (y := (⟨"com/example/change_gatherer/changegatherer/service/HarvestReport", "<init>", "(III)V"⟩ : MethodName)) rfl hown (mvT hZ (hw _ (List.mem_of_getElem? (i := 3) rfl))) (mvT hZ (hw _ (List.mem_of_getElem? (i := 4) rfl))) (mvT hZ (hw _ (List.mem_of_getElem? (i := 5) rfl))) (by decide) (backOf (W := 1) (own_rmI l Z a0 hw [] b2 p0 p1 p2 h2 n0 Zs6 A2 F2_pages F2_included F2_removed Ge3) hZ (hw _ (List.mem_of_getElem? (i := 5) rfl)) (hw _ (List.mem_of_getElem? (i := 2) rfl)) (by decide) (by decide)) (g := (mkF m 7 #[.val (.int p0), .val (.int p1), .val (.int p2), .val (.int p3), .val (.int p4), .val (.int p5), .unset, .unset, .unset, .unset, .unset, .unset, .unset, .unset, .unset] [(.int p2), (.int p1), (.int p0), (.ref b2), (.ref b2)])) rfl (by rw [hml]; rfl) (Steps.refl _) (a := b2) (argsL := [(.int p0), (.int p1), (.int p2)]) (rest := [(.ref b2)]) (lenOf own_pd0 rfl) rfl (by show 2 * 0 + _ ≤ _; exact Nat.le_of_eq rfl) (hb hby at_7) (fun _ _ => ⟨rfl, e2, (by decide : 1 + 0 ≤ _), (by decide : 3 + 0 ≤ _)⟩)
  dsimp only [Pt.U, Pt.locs, Pt.cells, Pt.slots] at X12 l12 y12 z12 st12 hQ12
  subst l12 y12 z12
  obtain ⟨rfl, Nq12, K12, Pf12_0, Pf12_1, Pf12_2, Pf12_3⟩ := hQ12
  have N13 := Fr.app N0 Nq12
  have Kc14 : Keep h0 T12.heap [] := Kc5.trans K12 (allS (Or.inr Sz4) all0)
  have Zs15 : n0 ≤ T12.heap.size := Nat.le_trans Zs6 K12.1
  obtain ⟨T18, h18, X18, e18, E18, A18, D18, -, st18⟩ := newO X12 hx hZ hown (hw _ (List.mem_of_getElem? (i := 0) rfl)) (hw _ (List.mem_of_getElem? (i := 1) rfl)) (hw _ (List.mem_of_getElem? (i := 2) rfl)) rfl (g := (mkF m 12 #[.val (.int p0), .val (.int p1), .val (.int p2), .val (.int p3), .val (.int p4), .val (.int p5), .val (.ref b2), .unset, .unset, .unset, .unset, .unset, .unset, .unset, .unset] [])) rfl (hb hby at_12) (by decide) (by decide)
  obtain ⟨b18, g18⟩ : ∃ z, z = T12.heap.size := ⟨_, rfl⟩
  rw [← g18] at A18 D18 st18
  have Ne19 : b2 ≠ b18 := Nat.ne_of_lt (Nat.lt_of_lt_of_le Pf12_0.lt (Nat.le_of_eq g18.symm))
  have Ge20 : n0 ≤ b18 := Nat.le_trans Zs15 (Nat.le_of_eq g18.symm)
  have Sz21 : h0.size ≤ b18 := Nat.le_trans Kc14.1 (Nat.le_of_eq g18.symm)
  have Kc22 : Keep h0 h18 [] := Kc14.ext E18
  have Zs23 : n0 ≤ h18.size := (Nat.le_trans Zs15 E18.1)
  have F18_pages : Fld Z h18 b18 "com/example/change_gatherer/changegatherer/service/HarvestReport" "pages" "I" (.int (0 : Int32)) := D18 (Or.inr (hw _ (List.mem_of_getElem? (i := 10) rfl))) (ty := .int) (by decide)
  have F18_included : Fld Z h18 b18 "com/example/change_gatherer/changegatherer/service/HarvestReport" "included" "I" (.int (0 : Int32)) := D18 (Or.inr (hw _ (List.mem_of_getElem? (i := 12) rfl))) (ty := .int) (by decide)
  have F18_removed : Fld Z h18 b18 "com/example/change_gatherer/changegatherer/service/HarvestReport" "removed" "I" (.int (0 : Int32)) := D18 (Or.inr (hw _ (List.mem_of_getElem? (i := 14) rfl))) (ty := .int) (by decide)
  obtain ⟨_, _, ⟨T29, L29, k29, n29⟩, -, X29, ⟨Lc29, hQ29, l29, y29, z29⟩, st29⟩ := X18.specialBack hx (y := (⟨"com/example/change_gatherer/changegatherer/service/HarvestReport", "<init>", "(III)V"⟩ : MethodName)) rfl hown (mvT hZ (hw _ (List.mem_of_getElem? (i := 3) rfl))) (mvT hZ (hw _ (List.mem_of_getElem? (i := 4) rfl))) (mvT hZ (hw _ (List.mem_of_getElem? (i := 5) rfl))) (by decide) (backOf (W := 1) (own_rmI l Z a0 hw [] b18 p3 p4 p5 h18 n0 Zs23 A18 F18_pages F18_included F18_removed Ge20) hZ (hw _ (List.mem_of_getElem? (i := 5) rfl)) (hw _ (List.mem_of_getElem? (i := 2) rfl)) (by decide) (by decide)) (g := (mkF m 21 #[.val (.int p0), .val (.int p1), .val (.int p2), .val (.int p3), .val (.int p4), .val (.int p5), .val (.ref b2), .unset, .unset, .unset, .unset, .unset, .unset, .unset, .unset] [(.int p5), (.int p4), (.int p3), (.ref b18), (.ref b18)])) rfl (by rw [hml]; rfl) (Steps.refl _) (a := b18) (argsL := [(.int p3), (.int p4), (.int p5)]) (rest := [(.ref b18)]) (lenOf own_pd0 rfl) rfl (by show 2 * 0 + _ ≤ _; exact Nat.le_of_eq rfl) (hb hby at_21) (fun _ _ => ⟨rfl, e18, (by decide : 2 + 0 ≤ _), (by decide : 6 + 0 ≤ _)⟩)
  dsimp only [Pt.U, Pt.locs, Pt.cells, Pt.slots] at X29 l29 y29 z29 st29 hQ29
  subst l29 y29 z29
  obtain ⟨rfl, Nq29, K29, Pf29_0, Pf29_1, Pf29_2, Pf29_3⟩ := hQ29
  have N30 := Fr.app N13 Nq29
  have Kc31 : Keep h0 T29.heap [] := Kc22.trans K29 (allS (Or.inr Sz21) all0)
  have Zs32 : n0 ≤ T29.heap.size := Nat.le_trans Zs23 K29.1
  have Fq38 : Fld Z T29.heap b2 "com/example/change_gatherer/changegatherer/service/HarvestReport" "pages" "I" (.int p0) := ((Pf12_1.ext E18).keep K29 (ninS Ne19 nin0))
  have Fq39 : Fld Z T29.heap b2 "com/example/change_gatherer/changegatherer/service/HarvestReport" "included" "I" (.int p1) := ((Pf12_2.ext E18).keep K29 (ninS Ne19 nin0))
  have Fq40 : Fld Z T29.heap b2 "com/example/change_gatherer/changegatherer/service/HarvestReport" "removed" "I" (.int p2) := ((Pf12_3.ext E18).keep K29 (ninS Ne19 nin0))
  have Fq41 : Exa Z T29.heap b2 "com/example/change_gatherer/changegatherer/service/HarvestReport" := ((Pf12_0.ext E18).keep K29)
  obtain ⟨cq37, kq37, q37a, q37b, q37c⟩ := isOf hZ rfl Fq41
  obtain ⟨_, _, ⟨T37, L37, k37, n37⟩, -, X37, ⟨Lc37, hQ37, l37, y37, z37⟩, st37⟩ := X29.virtualBack hx (y := (⟨"com/example/change_gatherer/changegatherer/service/HarvestReport", "plus", "(Lcom/example/change_gatherer/changegatherer/service/HarvestReport;)Lcom/example/change_gatherer/changegatherer/service/HarvestReport;"⟩ : MethodName)) (z := (⟨"com/example/change_gatherer/changegatherer/service/HarvestReport", "plus", "(Lcom/example/change_gatherer/changegatherer/service/HarvestReport;)Lcom/example/change_gatherer/changegatherer/service/HarvestReport;"⟩ : MethodName)) hown (mvT hZ (hw _ (List.mem_of_getElem? (i := 15) rfl))) (mvT hZ (hw _ (List.mem_of_getElem? (i := 16) rfl))) (notFace_of_selects (args := #[]) (mvT hZ (hw _ (List.mem_of_getElem? (i := 18) rfl)))) (mvT hZ (hw _ (List.mem_of_getElem? (i := 18) rfl))) (mvT hZ (hw _ (List.mem_of_getElem? (i := 17) rfl))) (by decide) (backOf (W := 0) (own_rmP l Z a0 hw [] b2 b18 p0 p1 p2 p3 p4 p5 T29.heap n0 Zs32 Fq38 Fq39 Fq40 Pf29_1 Pf29_2 Pf29_3) hZ (hw _ (List.mem_of_getElem? (i := 19) rfl)) (hw _ (List.mem_of_getElem? (i := 2) rfl)) (by decide) (by decide)) q37a q37c (g := (mkF m 30 #[.val (.int p0), .val (.int p1), .val (.int p2), .val (.int p3), .val (.int p4), .val (.int p5), .val (.ref b2), .val (.ref b18), .unset, .unset, .unset, .unset, .unset, .unset, .unset] [(.ref b18), (.ref b2)])) rfl (by rw [hml]; rfl) (Steps.refl _) (argsL := [(.ref b18)]) (rest := []) (lenOf own_pd1 rfl) rfl (by show 2 * 0 + _ ≤ _; exact Nat.le_of_eq rfl) (hb hby at_30) (fun _ _ => ⟨rfl, rfl, (by decide : 2 + 1 ≤ _), (by decide : 6 + 3 ≤ _)⟩)
  dsimp only [Pt.U, Pt.locs, Pt.cells, Pt.slots] at X37 l37 y37 z37 st37 hQ37
  subst l37 y37 z37
  obtain ⟨r_o_37, rfl, Nq37, sz37_r_o, K37, Pf37_0, Pf37_1, Pf37_2, Pf37_3⟩ := hQ37
  have N42 := Fr.app N30 Nq37
  have Ne43 : b2 ≠ r_o_37 := Nat.ne_of_lt (Nat.lt_of_lt_of_le Fq41.lt sz37_r_o)
  have Ne44 : b18 ≠ r_o_37 := Nat.ne_of_lt (Nat.lt_of_lt_of_le Pf29_0.lt sz37_r_o)
  have Ge45 : n0 ≤ r_o_37 := Nat.le_trans Zs32 sz37_r_o
  have Sz46 : h0.size ≤ r_o_37 := Nat.le_trans Kc31.1 sz37_r_o
  have Kc47 : Keep h0 T37.heap [] := Kc31.trans K37 all0
  have Zs48 : n0 ≤ T37.heap.size := Nat.le_trans Zs32 K37.1
  have Fq54 : Fld Z T37.heap b18 "com/example/change_gatherer/changegatherer/service/HarvestReport" "pages" "I" (.int p3) := (Pf29_1.keep K37 nin0)
  have Fq55 : Fld Z T37.heap b18 "com/example/change_gatherer/changegatherer/service/HarvestReport" "included" "I" (.int p4) := (Pf29_2.keep K37 nin0)
  have Fq56 : Fld Z T37.heap b18 "com/example/change_gatherer/changegatherer/service/HarvestReport" "removed" "I" (.int p5) := (Pf29_3.keep K37 nin0)
  have Fq57 : Fld Z T37.heap b2 "com/example/change_gatherer/changegatherer/service/HarvestReport" "pages" "I" (.int p0) := (Fq38.keep K37 nin0)
  have Fq58 : Fld Z T37.heap b2 "com/example/change_gatherer/changegatherer/service/HarvestReport" "included" "I" (.int p1) := (Fq39.keep K37 nin0)
  have Fq59 : Fld Z T37.heap b2 "com/example/change_gatherer/changegatherer/service/HarvestReport" "removed" "I" (.int p2) := (Fq40.keep K37 nin0)
  have Fq60 : Exa Z T37.heap b18 "com/example/change_gatherer/changegatherer/service/HarvestReport" := (Pf29_0.keep K37)
  obtain ⟨cq53, kq53, q53a, q53b, q53c⟩ := isOf hZ rfl Fq60
  obtain ⟨_, _, ⟨T53, L53, k53, n53⟩, -, X53, ⟨Lc53, hQ53, l53, y53, z53⟩, st53⟩ := X37.virtualBack hx (y := (⟨"com/example/change_gatherer/changegatherer/service/HarvestReport", "plus", "(Lcom/example/change_gatherer/changegatherer/service/HarvestReport;)Lcom/example/change_gatherer/changegatherer/service/HarvestReport;"⟩ : MethodName)) (z := (⟨"com/example/change_gatherer/changegatherer/service/HarvestReport", "plus", "(Lcom/example/change_gatherer/changegatherer/service/HarvestReport;)Lcom/example/change_gatherer/changegatherer/service/HarvestReport;"⟩ : MethodName)) hown (mvT hZ (hw _ (List.mem_of_getElem? (i := 15) rfl))) (mvT hZ (hw _ (List.mem_of_getElem? (i := 16) rfl))) (notFace_of_selects (args := #[]) (mvT hZ (hw _ (List.mem_of_getElem? (i := 18) rfl)))) (mvT hZ (hw _ (List.mem_of_getElem? (i := 18) rfl))) (mvT hZ (hw _ (List.mem_of_getElem? (i := 17) rfl))) (by decide) (backOf (W := 0) (own_rmP l Z a0 hw [] b18 b2 p3 p4 p5 p0 p1 p2 T37.heap n0 Zs48 Fq54 Fq55 Fq56 Fq57 Fq58 Fq59) hZ (hw _ (List.mem_of_getElem? (i := 19) rfl)) (hw _ (List.mem_of_getElem? (i := 2) rfl)) (by decide) (by decide)) q53a q53c (g := (mkF m 39 #[.val (.int p0), .val (.int p1), .val (.int p2), .val (.int p3), .val (.int p4), .val (.int p5), .val (.ref b2), .val (.ref b18), .val (.ref r_o_37), .unset, .unset, .unset, .unset, .unset, .unset] [(.ref b2), (.ref b18)])) rfl (by rw [hml]; rfl) (Steps.refl _) (argsL := [(.ref b2)]) (rest := []) (lenOf own_pd1 rfl) rfl (by show 2 * 0 + _ ≤ _; exact Nat.le_of_eq rfl) (hb hby at_39) (fun _ _ => ⟨rfl, rfl, (by decide : 3 + 1 ≤ _), (by decide : 9 + 3 ≤ _)⟩)
  dsimp only [Pt.U, Pt.locs, Pt.cells, Pt.slots] at X53 l53 y53 z53 st53 hQ53
  subst l53 y53 z53
  obtain ⟨r_o_53, rfl, Nq53, sz53_r_o, K53, Pf53_0, Pf53_1, Pf53_2, Pf53_3⟩ := hQ53
  have N61 := Fr.app N42 Nq53
  have Fq63 : Exa Z T37.heap b2 "com/example/change_gatherer/changegatherer/service/HarvestReport" := (Fq41.keep K37)
  have Ne62 : b2 ≠ r_o_53 := Nat.ne_of_lt (Nat.lt_of_lt_of_le Fq63.lt sz53_r_o)
  have Ne64 : b18 ≠ r_o_53 := Nat.ne_of_lt (Nat.lt_of_lt_of_le Fq60.lt sz53_r_o)
  have Ne65 : r_o_37 ≠ r_o_53 := Nat.ne_of_lt (Nat.lt_of_lt_of_le Pf37_0.lt sz53_r_o)
  have Ge66 : n0 ≤ r_o_53 := Nat.le_trans Zs48 sz53_r_o
  have Sz67 : h0.size ≤ r_o_53 := Nat.le_trans Kc47.1 sz53_r_o
  have Kc68 : Keep h0 T53.heap [] := Kc47.trans K53 all0
  have Zs69 : n0 ≤ T53.heap.size := Nat.le_trans Zs48 K53.1
  have Fq86 : Fld Z T53.heap r_o_37 "com/example/change_gatherer/changegatherer/service/HarvestReport" "pages" "I" (.int (p0 + p3)) := (Pf37_1.keep K53 nin0)
  have Fq87 : Exa Z T53.heap r_o_37 "com/example/change_gatherer/changegatherer/service/HarvestReport" := (Pf37_0.keep K53)
  obtain ⟨cq85, kq85, q85a, q85b, q85c⟩ := isOf hZ rfl Fq87
  obtain ⟨_, _, ⟨T85, L85, k85, n85⟩, -, X85, ⟨Lc85, hQ85, l85, y85, z85⟩, st85⟩ := X53.virtualBack hx (y := (⟨"com/example/change_gatherer/changegatherer/service/HarvestReport", "getPages", "()I"⟩ : MethodName)) (z := (⟨"com/example/change_gatherer/changegatherer/service/HarvestReport", "getPages", "()I"⟩ : MethodName)) hown (mvT hZ (hw _ (List.mem_of_getElem? (i := 22) rfl))) (mvT hZ (hw _ (List.mem_of_getElem? (i := 23) rfl))) (notFace_of_selects (args := #[]) (mvT hZ (hw _ (List.mem_of_getElem? (i := 25) rfl)))) (mvT hZ (hw _ (List.mem_of_getElem? (i := 25) rfl))) (mvT hZ (hw _ (List.mem_of_getElem? (i := 24) rfl))) (by decide) (backOf (W := 0) (own_rm_getPages l Z a0 hw [] r_o_37 (p0 + p3) T53.heap n0 Zs69 Fq86) hZ (hw _ (List.mem_of_getElem? (i := 26) rfl)) (hw _ (List.mem_of_getElem? (i := 2) rfl)) (by decide) (by decide)) q85a q85c (g := (mkF m 63 #[.val (.int p0), .val (.int p1), .val (.int p2), .val (.int p3), .val (.int p4), .val (.int p5), .val (.ref b2), .val (.ref b18), .val (.ref r_o_37), .val (.ref r_o_53), .val (.int (p0 + p3)), .val (.int (p1 + p4)), .val (.int (p2 + p5)), .unset, .unset] [(.ref r_o_37)])) rfl (by rw [hml]; rfl) (Steps.refl _) (argsL := []) (rest := []) (lenOf own_pd2 rfl) rfl (by show 2 * 0 + _ ≤ _; exact Nat.le_of_eq rfl) (hb hby at_63) (fun _ _ => ⟨rfl, rfl, (by decide : 4 + 0 ≤ _), (by decide : 12 + 0 ≤ _)⟩)
  dsimp only [Pt.U, Pt.locs, Pt.cells, Pt.slots] at X85 l85 y85 z85 st85 hQ85
  subst l85 y85 z85
  obtain ⟨rfl, Nq85, eh85⟩ := hQ85
  have N88 := Fr.app N61 Nq85
  have Fq94 : Fld Z T53.heap r_o_37 "com/example/change_gatherer/changegatherer/service/HarvestReport" "included" "I" (.int (p1 + p4)) := (Pf37_2.keep K53 nin0)
  obtain ⟨cq93, kq93, q93a, q93b, q93c⟩ := isOf hZ eh85 Fq87
  obtain ⟨_, _, ⟨T93, L93, k93, n93⟩, -, X93, ⟨Lc93, hQ93, l93, y93, z93⟩, st93⟩ := X85.virtualBack hx (y := (⟨"com/example/change_gatherer/changegatherer/service/HarvestReport", "getIncluded", "()I"⟩ : MethodName)) (z := (⟨"com/example/change_gatherer/changegatherer/service/HarvestReport", "getIncluded", "()I"⟩ : MethodName)) hown (mvT hZ (hw _ (List.mem_of_getElem? (i := 27) rfl))) (mvT hZ (hw _ (List.mem_of_getElem? (i := 28) rfl))) (notFace_of_selects (args := #[]) (mvT hZ (hw _ (List.mem_of_getElem? (i := 30) rfl)))) (mvT hZ (hw _ (List.mem_of_getElem? (i := 30) rfl))) (mvT hZ (hw _ (List.mem_of_getElem? (i := 29) rfl))) (by decide) (backOf (W := 0) (own_rm_getIncluded l Z a0 hw [] r_o_37 (p1 + p4) T53.heap n0 Zs69 Fq94) hZ (hw _ (List.mem_of_getElem? (i := 31) rfl)) (hw _ (List.mem_of_getElem? (i := 2) rfl)) (by decide) (by decide)) q93a q93c (g := (mkF m 73 #[.val (.int p0), .val (.int p1), .val (.int p2), .val (.int p3), .val (.int p4), .val (.int p5), .val (.ref b2), .val (.ref b18), .val (.ref r_o_37), .val (.ref r_o_53), .val (.int (p0 + p3)), .val (.int (p1 + p4)), .val (.int (p2 + p5)), .unset, .unset] [(.ref r_o_37)])) rfl (by rw [hml]; rfl) (Steps.refl _) (argsL := []) (rest := []) (lenOf own_pd2 rfl) rfl (by show 2 * 0 + _ ≤ _; exact Nat.le_of_eq rfl) (hb hby at_73) (fun _ _ => ⟨rfl, eh85, (by decide : 4 + 0 ≤ _), (by decide : 12 + 0 ≤ _)⟩)
  dsimp only [Pt.U, Pt.locs, Pt.cells, Pt.slots] at X93 l93 y93 z93 st93 hQ93
  subst l93 y93 z93
  obtain ⟨rfl, Nq93, eh93⟩ := hQ93
  have N95 := Fr.app N88 Nq93
  have Fq101 : Fld Z T53.heap r_o_37 "com/example/change_gatherer/changegatherer/service/HarvestReport" "removed" "I" (.int (p2 + p5)) := (Pf37_3.keep K53 nin0)
  obtain ⟨cq100, kq100, q100a, q100b, q100c⟩ := isOf hZ eh93 Fq87
  obtain ⟨_, _, ⟨T100, L100, k100, n100⟩, -, X100, ⟨Lc100, hQ100, l100, y100, z100⟩, st100⟩ := X93.virtualBack hx (y := (⟨"com/example/change_gatherer/changegatherer/service/HarvestReport", "getRemoved", "()I"⟩ : MethodName)) (z := (⟨"com/example/change_gatherer/changegatherer/service/HarvestReport", "getRemoved", "()I"⟩ : MethodName)) hown (mvT hZ (hw _ (List.mem_of_getElem? (i := 32) rfl))) (mvT hZ (hw _ (List.mem_of_getElem? (i := 33) rfl))) (notFace_of_selects (args := #[]) (mvT hZ (hw _ (List.mem_of_getElem? (i := 35) rfl)))) (mvT hZ (hw _ (List.mem_of_getElem? (i := 35) rfl))) (mvT hZ (hw _ (List.mem_of_getElem? (i := 34) rfl))) (by decide) (backOf (W := 0) (own_rm_getRemoved l Z a0 hw [] r_o_37 (p2 + p5) T53.heap n0 Zs69 Fq101) hZ (hw _ (List.mem_of_getElem? (i := 36) rfl)) (hw _ (List.mem_of_getElem? (i := 2) rfl)) (by decide) (by decide)) q100a q100c (g := (mkF m 83 #[.val (.int p0), .val (.int p1), .val (.int p2), .val (.int p3), .val (.int p4), .val (.int p5), .val (.ref b2), .val (.ref b18), .val (.ref r_o_37), .val (.ref r_o_53), .val (.int (p0 + p3)), .val (.int (p1 + p4)), .val (.int (p2 + p5)), .unset, .unset] [(.ref r_o_37)])) rfl (by rw [hml]; rfl) (Steps.refl _) (argsL := []) (rest := []) (lenOf own_pd2 rfl) rfl (by show 2 * 0 + _ ≤ _; exact Nat.le_of_eq rfl) (hb hby at_83) (fun _ _ => ⟨rfl, eh93, (by decide : 4 + 0 ≤ _), (by decide : 12 + 0 ≤ _)⟩)
  dsimp only [Pt.U, Pt.locs, Pt.cells, Pt.slots] at X100 l100 y100 z100 st100 hQ100
  subst l100 y100 z100
  obtain ⟨rfl, Nq100, eh100⟩ := hQ100
  have N102 := Fr.app N95 Nq100
  obtain ⟨cq110, kq110, q110a, q110b, q110c⟩ := isOf hZ eh100 Pf53_0
  obtain ⟨_, _, ⟨T110, L110, k110, n110⟩, -, X110, ⟨Lc110, hQ110, l110, y110, z110⟩, st110⟩ := X100.virtualBack hx (y := (⟨"com/example/change_gatherer/changegatherer/service/HarvestReport", "getPages", "()I"⟩ : MethodName)) (z := (⟨"com/example/change_gatherer/changegatherer/service/HarvestReport", "getPages", "()I"⟩ : MethodName)) hown (mvT hZ (hw _ (List.mem_of_getElem? (i := 22) rfl))) (mvT hZ (hw _ (List.mem_of_getElem? (i := 23) rfl))) (notFace_of_selects (args := #[]) (mvT hZ (hw _ (List.mem_of_getElem? (i := 25) rfl)))) (mvT hZ (hw _ (List.mem_of_getElem? (i := 25) rfl))) (mvT hZ (hw _ (List.mem_of_getElem? (i := 24) rfl))) (by decide) (backOf (W := 0) (own_rm_getPages l Z a0 hw [] r_o_53 (p3 + p0) T53.heap n0 Zs69 Pf53_1) hZ (hw _ (List.mem_of_getElem? (i := 26) rfl)) (hw _ (List.mem_of_getElem? (i := 2) rfl)) (by decide) (by decide)) q110a q110c (g := (mkF m 100 #[.val (.int p0), .val (.int p1), .val (.int p2), .val (.int p3), .val (.int p4), .val (.int p5), .val (.ref b2), .val (.ref b18), .val (.ref r_o_37), .val (.ref r_o_53), .val (.int (p0 + p3)), .val (.int (p1 + p4)), .val (.int (p2 + p5)), .val (.int (1 : Int32)), .unset] [(.ref r_o_53)])) rfl (by rw [hml]; rfl) (Steps.refl _) (argsL := []) (rest := []) (lenOf own_pd2 rfl) rfl (by show 2 * 0 + _ ≤ _; exact Nat.le_of_eq rfl) (hb hby at_100) (fun _ _ => ⟨rfl, eh100, (by decide : 4 + 0 ≤ _), (by decide : 12 + 0 ≤ _)⟩)
  dsimp only [Pt.U, Pt.locs, Pt.cells, Pt.slots] at X110 l110 y110 z110 st110 hQ110
  subst l110 y110 z110
  obtain ⟨rfl, Nq110, eh110⟩ := hQ110
  have N111 := Fr.app N102 Nq110
  obtain ⟨cq116, kq116, q116a, q116b, q116c⟩ := isOf hZ eh110 Pf53_0
  obtain ⟨_, _, ⟨T116, L116, k116, n116⟩, -, X116, ⟨Lc116, hQ116, l116, y116, z116⟩, st116⟩ := X110.virtualBack hx (y := (⟨"com/example/change_gatherer/changegatherer/service/HarvestReport", "getIncluded", "()I"⟩ : MethodName)) (z := (⟨"com/example/change_gatherer/changegatherer/service/HarvestReport", "getIncluded", "()I"⟩ : MethodName)) hown (mvT hZ (hw _ (List.mem_of_getElem? (i := 27) rfl))) (mvT hZ (hw _ (List.mem_of_getElem? (i := 28) rfl))) (notFace_of_selects (args := #[]) (mvT hZ (hw _ (List.mem_of_getElem? (i := 30) rfl)))) (mvT hZ (hw _ (List.mem_of_getElem? (i := 30) rfl))) (mvT hZ (hw _ (List.mem_of_getElem? (i := 29) rfl))) (by decide) (backOf (W := 0) (own_rm_getIncluded l Z a0 hw [] r_o_53 (p4 + p1) T53.heap n0 Zs69 Pf53_2) hZ (hw _ (List.mem_of_getElem? (i := 31) rfl)) (hw _ (List.mem_of_getElem? (i := 2) rfl)) (by decide) (by decide)) q116a q116c (g := (mkF m 110 #[.val (.int p0), .val (.int p1), .val (.int p2), .val (.int p3), .val (.int p4), .val (.int p5), .val (.ref b2), .val (.ref b18), .val (.ref r_o_37), .val (.ref r_o_53), .val (.int (p0 + p3)), .val (.int (p1 + p4)), .val (.int (p2 + p5)), .val (.int (1 : Int32)), .unset] [(.ref r_o_53)])) rfl (by rw [hml]; rfl) (Steps.refl _) (argsL := []) (rest := []) (lenOf own_pd2 rfl) rfl (by show 2 * 0 + _ ≤ _; exact Nat.le_of_eq rfl) (hb hby at_110) (fun _ _ => ⟨rfl, eh110, (by decide : 4 + 0 ≤ _), (by decide : 12 + 0 ≤ _)⟩)
  dsimp only [Pt.U, Pt.locs, Pt.cells, Pt.slots] at X116 l116 y116 z116 st116 hQ116
  subst l116 y116 z116
  obtain ⟨rfl, Nq116, eh116⟩ := hQ116
  have N117 := Fr.app N111 Nq116
  obtain ⟨cq122, kq122, q122a, q122b, q122c⟩ := isOf hZ eh116 Pf53_0
  obtain ⟨_, _, ⟨T122, L122, k122, n122⟩, -, X122, ⟨Lc122, hQ122, l122, y122, z122⟩, st122⟩ := X116.virtualBack hx (y := (⟨"com/example/change_gatherer/changegatherer/service/HarvestReport", "getRemoved", "()I"⟩ : MethodName)) (z := (⟨"com/example/change_gatherer/changegatherer/service/HarvestReport", "getRemoved", "()I"⟩ : MethodName)) hown (mvT hZ (hw _ (List.mem_of_getElem? (i := 32) rfl))) (mvT hZ (hw _ (List.mem_of_getElem? (i := 33) rfl))) (notFace_of_selects (args := #[]) (mvT hZ (hw _ (List.mem_of_getElem? (i := 35) rfl)))) (mvT hZ (hw _ (List.mem_of_getElem? (i := 35) rfl))) (mvT hZ (hw _ (List.mem_of_getElem? (i := 34) rfl))) (by decide) (backOf (W := 0) (own_rm_getRemoved l Z a0 hw [] r_o_53 (p5 + p2) T53.heap n0 Zs69 Pf53_3) hZ (hw _ (List.mem_of_getElem? (i := 36) rfl)) (hw _ (List.mem_of_getElem? (i := 2) rfl)) (by decide) (by decide)) q122a q122c (g := (mkF m 120 #[.val (.int p0), .val (.int p1), .val (.int p2), .val (.int p3), .val (.int p4), .val (.int p5), .val (.ref b2), .val (.ref b18), .val (.ref r_o_37), .val (.ref r_o_53), .val (.int (p0 + p3)), .val (.int (p1 + p4)), .val (.int (p2 + p5)), .val (.int (1 : Int32)), .unset] [(.ref r_o_53)])) rfl (by rw [hml]; rfl) (Steps.refl _) (argsL := []) (rest := []) (lenOf own_pd2 rfl) rfl (by show 2 * 0 + _ ≤ _; exact Nat.le_of_eq rfl) (hb hby at_120) (fun _ _ => ⟨rfl, eh116, (by decide : 4 + 0 ≤ _), (by decide : 12 + 0 ≤ _)⟩)
  dsimp only [Pt.U, Pt.locs, Pt.cells, Pt.slots] at X122 l122 y122 z122 st122 hQ122
  subst l122 y122 z122
  obtain ⟨rfl, Nq122, eh122⟩ := hQ122
  have N123 := Fr.app N117 Nq122
  obtain ⟨fs, hr, hrun, hended, hW, hsame⟩ := X122.leave (v := some (.int (1 : Int32))) (fun h => by rw [Bd.returns] at h; cases h)
  refine ⟨_, _, pre0 _ ?_, hrun, hended, _, _, rfl, ?_, ⟨_, rfl⟩, hW, hsame.mono (by decide) (by decide)⟩
  · show Steps p.tables e below (s₁.setTop (mkF m 0 #[.val (.int p0), .val (.int p1), .val (.int p2), .val (.int p3), .val (.int p4), .val (.int p5), .unset, .unset, .unset, .unset, .unset, .unset, .unset, .unset, .unset] [])) _
    refine st2 _ ?_
    show Steps p.tables e below (T2.setTop (mkF m 3 #[.val (.int p0), .val (.int p1), .val (.int p2), .val (.int p3), .val (.int p4), .val (.int p5), .unset, .unset, .unset, .unset, .unset, .unset, .unset, .unset, .unset] [(.ref b2)])) _
    refine XS.dup X2.here hx rfl (hb hby at_3) rfl rfl ?_
    show Steps p.tables e below (T2.setTop (mkF m 4 #[.val (.int p0), .val (.int p1), .val (.int p2), .val (.int p3), .val (.int p4), .val (.int p5), .unset, .unset, .unset, .unset, .unset, .unset, .unset, .unset, .unset] [(.ref b2), (.ref b2)])) _
    refine XS.iloadN X2.here hx rfl (hb hby at_4) rfl ?_
    show Steps p.tables e below (T2.setTop (mkF m 5 #[.val (.int p0), .val (.int p1), .val (.int p2), .val (.int p3), .val (.int p4), .val (.int p5), .unset, .unset, .unset, .unset, .unset, .unset, .unset, .unset, .unset] [(.int p0), (.ref b2), (.ref b2)])) _
    refine XS.iloadN X2.here hx rfl (hb hby at_5) rfl ?_
    show Steps p.tables e below (T2.setTop (mkF m 6 #[.val (.int p0), .val (.int p1), .val (.int p2), .val (.int p3), .val (.int p4), .val (.int p5), .unset, .unset, .unset, .unset, .unset, .unset, .unset, .unset, .unset] [(.int p1), (.int p0), (.ref b2), (.ref b2)])) _
    refine XS.iloadN X2.here hx rfl (hb hby at_6) rfl ?_
    show Steps p.tables e below (T2.setTop (mkF m 7 #[.val (.int p0), .val (.int p1), .val (.int p2), .val (.int p3), .val (.int p4), .val (.int p5), .unset, .unset, .unset, .unset, .unset, .unset, .unset, .unset, .unset] [(.int p2), (.int p1), (.int p0), (.ref b2), (.ref b2)])) _
    refine st12.trans ?_
    show Steps p.tables e below (T12.setTop (mkF m 10 #[.val (.int p0), .val (.int p1), .val (.int p2), .val (.int p3), .val (.int p4), .val (.int p5), .unset, .unset, .unset, .unset, .unset, .unset, .unset, .unset, .unset] [(.ref b2)])) _
    refine XS.astore X12.here hx rfl (hb hby at_10) rfl rfl (l' := #[.val (.int p0), .val (.int p1), .val (.int p2), .val (.int p3), .val (.int p4), .val (.int p5), .val (.ref b2), .unset, .unset, .unset, .unset, .unset, .unset, .unset, .unset]) rfl ?_
    show Steps p.tables e below (T12.setTop (mkF m 12 #[.val (.int p0), .val (.int p1), .val (.int p2), .val (.int p3), .val (.int p4), .val (.int p5), .val (.ref b2), .unset, .unset, .unset, .unset, .unset, .unset, .unset, .unset] [])) _
    refine st18 _ ?_
    show Steps p.tables e below (T18.setTop (mkF m 15 #[.val (.int p0), .val (.int p1), .val (.int p2), .val (.int p3), .val (.int p4), .val (.int p5), .val (.ref b2), .unset, .unset, .unset, .unset, .unset, .unset, .unset, .unset] [(.ref b18)])) _
    refine XS.dup X18.here hx rfl (hb hby at_15) rfl rfl ?_
    show Steps p.tables e below (T18.setTop (mkF m 16 #[.val (.int p0), .val (.int p1), .val (.int p2), .val (.int p3), .val (.int p4), .val (.int p5), .val (.ref b2), .unset, .unset, .unset, .unset, .unset, .unset, .unset, .unset] [(.ref b18), (.ref b18)])) _
    refine XS.iloadN X18.here hx rfl (hb hby at_16) rfl ?_
    show Steps p.tables e below (T18.setTop (mkF m 17 #[.val (.int p0), .val (.int p1), .val (.int p2), .val (.int p3), .val (.int p4), .val (.int p5), .val (.ref b2), .unset, .unset, .unset, .unset, .unset, .unset, .unset, .unset] [(.int p3), (.ref b18), (.ref b18)])) _
    refine XS.iload X18.here hx rfl (hb hby at_17) rfl ?_
    show Steps p.tables e below (T18.setTop (mkF m 19 #[.val (.int p0), .val (.int p1), .val (.int p2), .val (.int p3), .val (.int p4), .val (.int p5), .val (.ref b2), .unset, .unset, .unset, .unset, .unset, .unset, .unset, .unset] [(.int p4), (.int p3), (.ref b18), (.ref b18)])) _
    refine XS.iload X18.here hx rfl (hb hby at_19) rfl ?_
    show Steps p.tables e below (T18.setTop (mkF m 21 #[.val (.int p0), .val (.int p1), .val (.int p2), .val (.int p3), .val (.int p4), .val (.int p5), .val (.ref b2), .unset, .unset, .unset, .unset, .unset, .unset, .unset, .unset] [(.int p5), (.int p4), (.int p3), (.ref b18), (.ref b18)])) _
    refine st29.trans ?_
    show Steps p.tables e below (T29.setTop (mkF m 24 #[.val (.int p0), .val (.int p1), .val (.int p2), .val (.int p3), .val (.int p4), .val (.int p5), .val (.ref b2), .unset, .unset, .unset, .unset, .unset, .unset, .unset, .unset] [(.ref b18)])) _
    refine XS.astore X29.here hx rfl (hb hby at_24) rfl rfl (l' := #[.val (.int p0), .val (.int p1), .val (.int p2), .val (.int p3), .val (.int p4), .val (.int p5), .val (.ref b2), .val (.ref b18), .unset, .unset, .unset, .unset, .unset, .unset, .unset]) rfl ?_
    show Steps p.tables e below (T29.setTop (mkF m 26 #[.val (.int p0), .val (.int p1), .val (.int p2), .val (.int p3), .val (.int p4), .val (.int p5), .val (.ref b2), .val (.ref b18), .unset, .unset, .unset, .unset, .unset, .unset, .unset] [])) _
    refine XS.aload X29.here hx rfl (hb hby at_26) rfl rfl ?_
    show Steps p.tables e below (T29.setTop (mkF m 28 #[.val (.int p0), .val (.int p1), .val (.int p2), .val (.int p3), .val (.int p4), .val (.int p5), .val (.ref b2), .val (.ref b18), .unset, .unset, .unset, .unset, .unset, .unset, .unset] [(.ref b2)])) _
    refine XS.aload X29.here hx rfl (hb hby at_28) rfl rfl ?_
    show Steps p.tables e below (T29.setTop (mkF m 30 #[.val (.int p0), .val (.int p1), .val (.int p2), .val (.int p3), .val (.int p4), .val (.int p5), .val (.ref b2), .val (.ref b18), .unset, .unset, .unset, .unset, .unset, .unset, .unset] [(.ref b18), (.ref b2)])) _
    refine st37.trans ?_
    show Steps p.tables e below (T37.setTop (mkF m 33 #[.val (.int p0), .val (.int p1), .val (.int p2), .val (.int p3), .val (.int p4), .val (.int p5), .val (.ref b2), .val (.ref b18), .unset, .unset, .unset, .unset, .unset, .unset, .unset] [(.ref r_o_37)])) _
    refine XS.astore X37.here hx rfl (hb hby at_33) rfl rfl (l' := #[.val (.int p0), .val (.int p1), .val (.int p2), .val (.int p3), .val (.int p4), .val (.int p5), .val (.ref b2), .val (.ref b18), .val (.ref r_o_37), .unset, .unset, .unset, .unset, .unset, .unset]) rfl ?_
    show Steps p.tables e below (T37.setTop (mkF m 35 #[.val (.int p0), .val (.int p1), .val (.int p2), .val (.int p3), .val (.int p4), .val (.int p5), .val (.ref b2), .val (.ref b18), .val (.ref r_o_37), .unset, .unset, .unset, .unset, .unset, .unset] [])) _
    refine XS.aload X37.here hx rfl (hb hby at_35) rfl rfl ?_
    show Steps p.tables e below (T37.setTop (mkF m 37 #[.val (.int p0), .val (.int p1), .val (.int p2), .val (.int p3), .val (.int p4), .val (.int p5), .val (.ref b2), .val (.ref b18), .val (.ref r_o_37), .unset, .unset, .unset, .unset, .unset, .unset] [(.ref b18)])) _
    refine XS.aload X37.here hx rfl (hb hby at_37) rfl rfl ?_
    show Steps p.tables e below (T37.setTop (mkF m 39 #[.val (.int p0), .val (.int p1), .val (.int p2), .val (.int p3), .val (.int p4), .val (.int p5), .val (.ref b2), .val (.ref b18), .val (.ref r_o_37), .unset, .unset, .unset, .unset, .unset, .unset] [(.ref b2), (.ref b18)])) _
    refine st53.trans ?_
    show Steps p.tables e below (T53.setTop (mkF m 42 #[.val (.int p0), .val (.int p1), .val (.int p2), .val (.int p3), .val (.int p4), .val (.int p5), .val (.ref b2), .val (.ref b18), .val (.ref r_o_37), .unset, .unset, .unset, .unset, .unset, .unset] [(.ref r_o_53)])) _
    refine XS.astore X53.here hx rfl (hb hby at_42) rfl rfl (l' := #[.val (.int p0), .val (.int p1), .val (.int p2), .val (.int p3), .val (.int p4), .val (.int p5), .val (.ref b2), .val (.ref b18), .val (.ref r_o_37), .val (.ref r_o_53), .unset, .unset, .unset, .unset, .unset]) rfl ?_
    show Steps p.tables e below (T53.setTop (mkF m 44 #[.val (.int p0), .val (.int p1), .val (.int p2), .val (.int p3), .val (.int p4), .val (.int p5), .val (.ref b2), .val (.ref b18), .val (.ref r_o_37), .val (.ref r_o_53), .unset, .unset, .unset, .unset, .unset] [])) _
    refine XS.iloadN X53.here hx rfl (hb hby at_44) rfl ?_
    show Steps p.tables e below (T53.setTop (mkF m 45 #[.val (.int p0), .val (.int p1), .val (.int p2), .val (.int p3), .val (.int p4), .val (.int p5), .val (.ref b2), .val (.ref b18), .val (.ref r_o_37), .val (.ref r_o_53), .unset, .unset, .unset, .unset, .unset] [(.int p0)])) _
    refine XS.iloadN X53.here hx rfl (hb hby at_45) rfl ?_
    show Steps p.tables e below (T53.setTop (mkF m 46 #[.val (.int p0), .val (.int p1), .val (.int p2), .val (.int p3), .val (.int p4), .val (.int p5), .val (.ref b2), .val (.ref b18), .val (.ref r_o_37), .val (.ref r_o_53), .unset, .unset, .unset, .unset, .unset] [(.int p3), (.int p0)])) _
    refine XS.iadd X53.here hx rfl (hb hby at_46) rfl ?_
    show Steps p.tables e below (T53.setTop (mkF m 47 #[.val (.int p0), .val (.int p1), .val (.int p2), .val (.int p3), .val (.int p4), .val (.int p5), .val (.ref b2), .val (.ref b18), .val (.ref r_o_37), .val (.ref r_o_53), .unset, .unset, .unset, .unset, .unset] [(.int (p0 + p3))])) _
    refine XS.istore X53.here hx rfl (hb hby at_47) rfl (l' := #[.val (.int p0), .val (.int p1), .val (.int p2), .val (.int p3), .val (.int p4), .val (.int p5), .val (.ref b2), .val (.ref b18), .val (.ref r_o_37), .val (.ref r_o_53), .val (.int (p0 + p3)), .unset, .unset, .unset, .unset]) rfl ?_
    show Steps p.tables e below (T53.setTop (mkF m 49 #[.val (.int p0), .val (.int p1), .val (.int p2), .val (.int p3), .val (.int p4), .val (.int p5), .val (.ref b2), .val (.ref b18), .val (.ref r_o_37), .val (.ref r_o_53), .val (.int (p0 + p3)), .unset, .unset, .unset, .unset] [])) _
    refine XS.iloadN X53.here hx rfl (hb hby at_49) rfl ?_
    show Steps p.tables e below (T53.setTop (mkF m 50 #[.val (.int p0), .val (.int p1), .val (.int p2), .val (.int p3), .val (.int p4), .val (.int p5), .val (.ref b2), .val (.ref b18), .val (.ref r_o_37), .val (.ref r_o_53), .val (.int (p0 + p3)), .unset, .unset, .unset, .unset] [(.int p1)])) _
    refine XS.iload X53.here hx rfl (hb hby at_50) rfl ?_
    show Steps p.tables e below (T53.setTop (mkF m 52 #[.val (.int p0), .val (.int p1), .val (.int p2), .val (.int p3), .val (.int p4), .val (.int p5), .val (.ref b2), .val (.ref b18), .val (.ref r_o_37), .val (.ref r_o_53), .val (.int (p0 + p3)), .unset, .unset, .unset, .unset] [(.int p4), (.int p1)])) _
    refine XS.iadd X53.here hx rfl (hb hby at_52) rfl ?_
    show Steps p.tables e below (T53.setTop (mkF m 53 #[.val (.int p0), .val (.int p1), .val (.int p2), .val (.int p3), .val (.int p4), .val (.int p5), .val (.ref b2), .val (.ref b18), .val (.ref r_o_37), .val (.ref r_o_53), .val (.int (p0 + p3)), .unset, .unset, .unset, .unset] [(.int (p1 + p4))])) _
    refine XS.istore X53.here hx rfl (hb hby at_53) rfl (l' := #[.val (.int p0), .val (.int p1), .val (.int p2), .val (.int p3), .val (.int p4), .val (.int p5), .val (.ref b2), .val (.ref b18), .val (.ref r_o_37), .val (.ref r_o_53), .val (.int (p0 + p3)), .val (.int (p1 + p4)), .unset, .unset, .unset]) rfl ?_
    show Steps p.tables e below (T53.setTop (mkF m 55 #[.val (.int p0), .val (.int p1), .val (.int p2), .val (.int p3), .val (.int p4), .val (.int p5), .val (.ref b2), .val (.ref b18), .val (.ref r_o_37), .val (.ref r_o_53), .val (.int (p0 + p3)), .val (.int (p1 + p4)), .unset, .unset, .unset] [])) _
    refine XS.iloadN X53.here hx rfl (hb hby at_55) rfl ?_
    show Steps p.tables e below (T53.setTop (mkF m 56 #[.val (.int p0), .val (.int p1), .val (.int p2), .val (.int p3), .val (.int p4), .val (.int p5), .val (.ref b2), .val (.ref b18), .val (.ref r_o_37), .val (.ref r_o_53), .val (.int (p0 + p3)), .val (.int (p1 + p4)), .unset, .unset, .unset] [(.int p2)])) _
    refine XS.iload X53.here hx rfl (hb hby at_56) rfl ?_
    show Steps p.tables e below (T53.setTop (mkF m 58 #[.val (.int p0), .val (.int p1), .val (.int p2), .val (.int p3), .val (.int p4), .val (.int p5), .val (.ref b2), .val (.ref b18), .val (.ref r_o_37), .val (.ref r_o_53), .val (.int (p0 + p3)), .val (.int (p1 + p4)), .unset, .unset, .unset] [(.int p5), (.int p2)])) _
    refine XS.iadd X53.here hx rfl (hb hby at_58) rfl ?_
    show Steps p.tables e below (T53.setTop (mkF m 59 #[.val (.int p0), .val (.int p1), .val (.int p2), .val (.int p3), .val (.int p4), .val (.int p5), .val (.ref b2), .val (.ref b18), .val (.ref r_o_37), .val (.ref r_o_53), .val (.int (p0 + p3)), .val (.int (p1 + p4)), .unset, .unset, .unset] [(.int (p2 + p5))])) _
    refine XS.istore X53.here hx rfl (hb hby at_59) rfl (l' := #[.val (.int p0), .val (.int p1), .val (.int p2), .val (.int p3), .val (.int p4), .val (.int p5), .val (.ref b2), .val (.ref b18), .val (.ref r_o_37), .val (.ref r_o_53), .val (.int (p0 + p3)), .val (.int (p1 + p4)), .val (.int (p2 + p5)), .unset, .unset]) rfl ?_
    show Steps p.tables e below (T53.setTop (mkF m 61 #[.val (.int p0), .val (.int p1), .val (.int p2), .val (.int p3), .val (.int p4), .val (.int p5), .val (.ref b2), .val (.ref b18), .val (.ref r_o_37), .val (.ref r_o_53), .val (.int (p0 + p3)), .val (.int (p1 + p4)), .val (.int (p2 + p5)), .unset, .unset] [])) _
    refine XS.aload X53.here hx rfl (hb hby at_61) rfl rfl ?_
    show Steps p.tables e below (T53.setTop (mkF m 63 #[.val (.int p0), .val (.int p1), .val (.int p2), .val (.int p3), .val (.int p4), .val (.int p5), .val (.ref b2), .val (.ref b18), .val (.ref r_o_37), .val (.ref r_o_53), .val (.int (p0 + p3)), .val (.int (p1 + p4)), .val (.int (p2 + p5)), .unset, .unset] [(.ref r_o_37)])) _
    refine st85.trans ?_
    show Steps p.tables e below (T85.setTop (mkF m 66 #[.val (.int p0), .val (.int p1), .val (.int p2), .val (.int p3), .val (.int p4), .val (.int p5), .val (.ref b2), .val (.ref b18), .val (.ref r_o_37), .val (.ref r_o_53), .val (.int (p0 + p3)), .val (.int (p1 + p4)), .val (.int (p2 + p5)), .unset, .unset] [(.int (p0 + p3))])) _
    refine XS.iload X85.here hx rfl (hb hby at_66) rfl ?_
    show Steps p.tables e below (T85.setTop (mkF m 68 #[.val (.int p0), .val (.int p1), .val (.int p2), .val (.int p3), .val (.int p4), .val (.int p5), .val (.ref b2), .val (.ref b18), .val (.ref r_o_37), .val (.ref r_o_53), .val (.int (p0 + p3)), .val (.int (p1 + p4)), .val (.int (p2 + p5)), .unset, .unset] [(.int (p0 + p3)), (.int (p0 + p3))])) _
    refine XS.icmpNo X85.here hx rfl (hb hby at_68) rfl (teq (rfl : (p0 + p3) = (p0 + p3))).2 ?_
    show Steps p.tables e below (T85.setTop (mkF m 71 #[.val (.int p0), .val (.int p1), .val (.int p2), .val (.int p3), .val (.int p4), .val (.int p5), .val (.ref b2), .val (.ref b18), .val (.ref r_o_37), .val (.ref r_o_53), .val (.int (p0 + p3)), .val (.int (p1 + p4)), .val (.int (p2 + p5)), .unset, .unset] [])) _
    refine XS.aload X85.here hx rfl (hb hby at_71) rfl rfl ?_
    show Steps p.tables e below (T85.setTop (mkF m 73 #[.val (.int p0), .val (.int p1), .val (.int p2), .val (.int p3), .val (.int p4), .val (.int p5), .val (.ref b2), .val (.ref b18), .val (.ref r_o_37), .val (.ref r_o_53), .val (.int (p0 + p3)), .val (.int (p1 + p4)), .val (.int (p2 + p5)), .unset, .unset] [(.ref r_o_37)])) _
    refine st93.trans ?_
    show Steps p.tables e below (T93.setTop (mkF m 76 #[.val (.int p0), .val (.int p1), .val (.int p2), .val (.int p3), .val (.int p4), .val (.int p5), .val (.ref b2), .val (.ref b18), .val (.ref r_o_37), .val (.ref r_o_53), .val (.int (p0 + p3)), .val (.int (p1 + p4)), .val (.int (p2 + p5)), .unset, .unset] [(.int (p1 + p4))])) _
    refine XS.iload X93.here hx rfl (hb hby at_76) rfl ?_
    show Steps p.tables e below (T93.setTop (mkF m 78 #[.val (.int p0), .val (.int p1), .val (.int p2), .val (.int p3), .val (.int p4), .val (.int p5), .val (.ref b2), .val (.ref b18), .val (.ref r_o_37), .val (.ref r_o_53), .val (.int (p0 + p3)), .val (.int (p1 + p4)), .val (.int (p2 + p5)), .unset, .unset] [(.int (p1 + p4)), (.int (p1 + p4))])) _
    refine XS.icmpNo X93.here hx rfl (hb hby at_78) rfl (teq (rfl : (p1 + p4) = (p1 + p4))).2 ?_
    show Steps p.tables e below (T93.setTop (mkF m 81 #[.val (.int p0), .val (.int p1), .val (.int p2), .val (.int p3), .val (.int p4), .val (.int p5), .val (.ref b2), .val (.ref b18), .val (.ref r_o_37), .val (.ref r_o_53), .val (.int (p0 + p3)), .val (.int (p1 + p4)), .val (.int (p2 + p5)), .unset, .unset] [])) _
    refine XS.aload X93.here hx rfl (hb hby at_81) rfl rfl ?_
    show Steps p.tables e below (T93.setTop (mkF m 83 #[.val (.int p0), .val (.int p1), .val (.int p2), .val (.int p3), .val (.int p4), .val (.int p5), .val (.ref b2), .val (.ref b18), .val (.ref r_o_37), .val (.ref r_o_53), .val (.int (p0 + p3)), .val (.int (p1 + p4)), .val (.int (p2 + p5)), .unset, .unset] [(.ref r_o_37)])) _
    refine st100.trans ?_
    show Steps p.tables e below (T100.setTop (mkF m 86 #[.val (.int p0), .val (.int p1), .val (.int p2), .val (.int p3), .val (.int p4), .val (.int p5), .val (.ref b2), .val (.ref b18), .val (.ref r_o_37), .val (.ref r_o_53), .val (.int (p0 + p3)), .val (.int (p1 + p4)), .val (.int (p2 + p5)), .unset, .unset] [(.int (p2 + p5))])) _
    refine XS.iload X100.here hx rfl (hb hby at_86) rfl ?_
    show Steps p.tables e below (T100.setTop (mkF m 88 #[.val (.int p0), .val (.int p1), .val (.int p2), .val (.int p3), .val (.int p4), .val (.int p5), .val (.ref b2), .val (.ref b18), .val (.ref r_o_37), .val (.ref r_o_53), .val (.int (p0 + p3)), .val (.int (p1 + p4)), .val (.int (p2 + p5)), .unset, .unset] [(.int (p2 + p5)), (.int (p2 + p5))])) _
    refine XS.icmpNo X100.here hx rfl (hb hby at_88) rfl (teq (rfl : (p2 + p5) = (p2 + p5))).2 ?_
    show Steps p.tables e below (T100.setTop (mkF m 91 #[.val (.int p0), .val (.int p1), .val (.int p2), .val (.int p3), .val (.int p4), .val (.int p5), .val (.ref b2), .val (.ref b18), .val (.ref r_o_37), .val (.ref r_o_53), .val (.int (p0 + p3)), .val (.int (p1 + p4)), .val (.int (p2 + p5)), .unset, .unset] [])) _
    refine XS.iconst X100.here hx rfl (hb hby at_91) ?_
    show Steps p.tables e below (T100.setTop (mkF m 92 #[.val (.int p0), .val (.int p1), .val (.int p2), .val (.int p3), .val (.int p4), .val (.int p5), .val (.ref b2), .val (.ref b18), .val (.ref r_o_37), .val (.ref r_o_53), .val (.int (p0 + p3)), .val (.int (p1 + p4)), .val (.int (p2 + p5)), .unset, .unset] [(.int (1 : Int32))])) _
    refine XS.goto X100.here hx rfl (pc0 := 92) (pc' := 96) rfl (hb hby at_92) (by decide) (by decide) ?_
    show Steps p.tables e below (T100.setTop (mkF m 96 #[.val (.int p0), .val (.int p1), .val (.int p2), .val (.int p3), .val (.int p4), .val (.int p5), .val (.ref b2), .val (.ref b18), .val (.ref r_o_37), .val (.ref r_o_53), .val (.int (p0 + p3)), .val (.int (p1 + p4)), .val (.int (p2 + p5)), .unset, .unset] [(.int (1 : Int32))])) _
    refine XS.istore X100.here hx rfl (hb hby at_96) rfl (l' := #[.val (.int p0), .val (.int p1), .val (.int p2), .val (.int p3), .val (.int p4), .val (.int p5), .val (.ref b2), .val (.ref b18), .val (.ref r_o_37), .val (.ref r_o_53), .val (.int (p0 + p3)), .val (.int (p1 + p4)), .val (.int (p2 + p5)), .val (.int (1 : Int32)), .unset]) rfl ?_
    show Steps p.tables e below (T100.setTop (mkF m 98 #[.val (.int p0), .val (.int p1), .val (.int p2), .val (.int p3), .val (.int p4), .val (.int p5), .val (.ref b2), .val (.ref b18), .val (.ref r_o_37), .val (.ref r_o_53), .val (.int (p0 + p3)), .val (.int (p1 + p4)), .val (.int (p2 + p5)), .val (.int (1 : Int32)), .unset] [])) _
    refine XS.aload X100.here hx rfl (hb hby at_98) rfl rfl ?_
    show Steps p.tables e below (T100.setTop (mkF m 100 #[.val (.int p0), .val (.int p1), .val (.int p2), .val (.int p3), .val (.int p4), .val (.int p5), .val (.ref b2), .val (.ref b18), .val (.ref r_o_37), .val (.ref r_o_53), .val (.int (p0 + p3)), .val (.int (p1 + p4)), .val (.int (p2 + p5)), .val (.int (1 : Int32)), .unset] [(.ref r_o_53)])) _
    refine st110.trans ?_
    show Steps p.tables e below (T110.setTop (mkF m 103 #[.val (.int p0), .val (.int p1), .val (.int p2), .val (.int p3), .val (.int p4), .val (.int p5), .val (.ref b2), .val (.ref b18), .val (.ref r_o_37), .val (.ref r_o_53), .val (.int (p0 + p3)), .val (.int (p1 + p4)), .val (.int (p2 + p5)), .val (.int (1 : Int32)), .unset] [(.int (p3 + p0))])) _
    refine XS.iload X110.here hx rfl (hb hby at_103) rfl ?_
    show Steps p.tables e below (T110.setTop (mkF m 105 #[.val (.int p0), .val (.int p1), .val (.int p2), .val (.int p3), .val (.int p4), .val (.int p5), .val (.ref b2), .val (.ref b18), .val (.ref r_o_37), .val (.ref r_o_53), .val (.int (p0 + p3)), .val (.int (p1 + p4)), .val (.int (p2 + p5)), .val (.int (1 : Int32)), .unset] [(.int (p0 + p3)), (.int (p3 + p0))])) _
    refine XS.icmpNo X110.here hx rfl (hb hby at_105) rfl (teq (Int32.add_comm _ _ : (p3 + p0) = (p0 + p3))).2 ?_
    show Steps p.tables e below (T110.setTop (mkF m 108 #[.val (.int p0), .val (.int p1), .val (.int p2), .val (.int p3), .val (.int p4), .val (.int p5), .val (.ref b2), .val (.ref b18), .val (.ref r_o_37), .val (.ref r_o_53), .val (.int (p0 + p3)), .val (.int (p1 + p4)), .val (.int (p2 + p5)), .val (.int (1 : Int32)), .unset] [])) _
    refine XS.aload X110.here hx rfl (hb hby at_108) rfl rfl ?_
    show Steps p.tables e below (T110.setTop (mkF m 110 #[.val (.int p0), .val (.int p1), .val (.int p2), .val (.int p3), .val (.int p4), .val (.int p5), .val (.ref b2), .val (.ref b18), .val (.ref r_o_37), .val (.ref r_o_53), .val (.int (p0 + p3)), .val (.int (p1 + p4)), .val (.int (p2 + p5)), .val (.int (1 : Int32)), .unset] [(.ref r_o_53)])) _
    refine st116.trans ?_
    show Steps p.tables e below (T116.setTop (mkF m 113 #[.val (.int p0), .val (.int p1), .val (.int p2), .val (.int p3), .val (.int p4), .val (.int p5), .val (.ref b2), .val (.ref b18), .val (.ref r_o_37), .val (.ref r_o_53), .val (.int (p0 + p3)), .val (.int (p1 + p4)), .val (.int (p2 + p5)), .val (.int (1 : Int32)), .unset] [(.int (p4 + p1))])) _
    refine XS.iload X116.here hx rfl (hb hby at_113) rfl ?_
    show Steps p.tables e below (T116.setTop (mkF m 115 #[.val (.int p0), .val (.int p1), .val (.int p2), .val (.int p3), .val (.int p4), .val (.int p5), .val (.ref b2), .val (.ref b18), .val (.ref r_o_37), .val (.ref r_o_53), .val (.int (p0 + p3)), .val (.int (p1 + p4)), .val (.int (p2 + p5)), .val (.int (1 : Int32)), .unset] [(.int (p1 + p4)), (.int (p4 + p1))])) _
    refine XS.icmpNo X116.here hx rfl (hb hby at_115) rfl (teq (Int32.add_comm _ _ : (p4 + p1) = (p1 + p4))).2 ?_
    show Steps p.tables e below (T116.setTop (mkF m 118 #[.val (.int p0), .val (.int p1), .val (.int p2), .val (.int p3), .val (.int p4), .val (.int p5), .val (.ref b2), .val (.ref b18), .val (.ref r_o_37), .val (.ref r_o_53), .val (.int (p0 + p3)), .val (.int (p1 + p4)), .val (.int (p2 + p5)), .val (.int (1 : Int32)), .unset] [])) _
    refine XS.aload X116.here hx rfl (hb hby at_118) rfl rfl ?_
    show Steps p.tables e below (T116.setTop (mkF m 120 #[.val (.int p0), .val (.int p1), .val (.int p2), .val (.int p3), .val (.int p4), .val (.int p5), .val (.ref b2), .val (.ref b18), .val (.ref r_o_37), .val (.ref r_o_53), .val (.int (p0 + p3)), .val (.int (p1 + p4)), .val (.int (p2 + p5)), .val (.int (1 : Int32)), .unset] [(.ref r_o_53)])) _
    refine st122.trans ?_
    show Steps p.tables e below (T122.setTop (mkF m 123 #[.val (.int p0), .val (.int p1), .val (.int p2), .val (.int p3), .val (.int p4), .val (.int p5), .val (.ref b2), .val (.ref b18), .val (.ref r_o_37), .val (.ref r_o_53), .val (.int (p0 + p3)), .val (.int (p1 + p4)), .val (.int (p2 + p5)), .val (.int (1 : Int32)), .unset] [(.int (p5 + p2))])) _
    refine XS.iload X122.here hx rfl (hb hby at_123) rfl ?_
    show Steps p.tables e below (T122.setTop (mkF m 125 #[.val (.int p0), .val (.int p1), .val (.int p2), .val (.int p3), .val (.int p4), .val (.int p5), .val (.ref b2), .val (.ref b18), .val (.ref r_o_37), .val (.ref r_o_53), .val (.int (p0 + p3)), .val (.int (p1 + p4)), .val (.int (p2 + p5)), .val (.int (1 : Int32)), .unset] [(.int (p2 + p5)), (.int (p5 + p2))])) _
    refine XS.icmpNo X122.here hx rfl (hb hby at_125) rfl (teq (Int32.add_comm _ _ : (p5 + p2) = (p2 + p5))).2 ?_
    show Steps p.tables e below (T122.setTop (mkF m 128 #[.val (.int p0), .val (.int p1), .val (.int p2), .val (.int p3), .val (.int p4), .val (.int p5), .val (.ref b2), .val (.ref b18), .val (.ref r_o_37), .val (.ref r_o_53), .val (.int (p0 + p3)), .val (.int (p1 + p4)), .val (.int (p2 + p5)), .val (.int (1 : Int32)), .unset] [])) _
    refine XS.iconst X122.here hx rfl (hb hby at_128) ?_
    show Steps p.tables e below (T122.setTop (mkF m 129 #[.val (.int p0), .val (.int p1), .val (.int p2), .val (.int p3), .val (.int p4), .val (.int p5), .val (.ref b2), .val (.ref b18), .val (.ref r_o_37), .val (.ref r_o_53), .val (.int (p0 + p3)), .val (.int (p1 + p4)), .val (.int (p2 + p5)), .val (.int (1 : Int32)), .unset] [(.int (1 : Int32))])) _
    refine XS.goto X122.here hx rfl (pc0 := 129) (pc' := 133) rfl (hb hby at_129) (by decide) (by decide) ?_
    show Steps p.tables e below (T122.setTop (mkF m 133 #[.val (.int p0), .val (.int p1), .val (.int p2), .val (.int p3), .val (.int p4), .val (.int p5), .val (.ref b2), .val (.ref b18), .val (.ref r_o_37), .val (.ref r_o_53), .val (.int (p0 + p3)), .val (.int (p1 + p4)), .val (.int (p2 + p5)), .val (.int (1 : Int32)), .unset] [(.int (1 : Int32))])) _
    refine XS.istore X122.here hx rfl (hb hby at_133) rfl (l' := #[.val (.int p0), .val (.int p1), .val (.int p2), .val (.int p3), .val (.int p4), .val (.int p5), .val (.ref b2), .val (.ref b18), .val (.ref r_o_37), .val (.ref r_o_53), .val (.int (p0 + p3)), .val (.int (p1 + p4)), .val (.int (p2 + p5)), .val (.int (1 : Int32)), .val (.int (1 : Int32))]) rfl ?_
    show Steps p.tables e below (T122.setTop (mkF m 135 #[.val (.int p0), .val (.int p1), .val (.int p2), .val (.int p3), .val (.int p4), .val (.int p5), .val (.ref b2), .val (.ref b18), .val (.ref r_o_37), .val (.ref r_o_53), .val (.int (p0 + p3)), .val (.int (p1 + p4)), .val (.int (p2 + p5)), .val (.int (1 : Int32)), .val (.int (1 : Int32))] [])) _
    refine XS.iload X122.here hx rfl (hb hby at_135) rfl ?_
    show Steps p.tables e below (T122.setTop (mkF m 137 #[.val (.int p0), .val (.int p1), .val (.int p2), .val (.int p3), .val (.int p4), .val (.int p5), .val (.ref b2), .val (.ref b18), .val (.ref r_o_37), .val (.ref r_o_53), .val (.int (p0 + p3)), .val (.int (p1 + p4)), .val (.int (p2 + p5)), .val (.int (1 : Int32)), .val (.int (1 : Int32))] [(.int (1 : Int32))])) _
    refine XS.ifNo X122.here hx rfl (hb hby at_137) rfl ((if0 _ _).trans (feq ((by decide) : ¬ ((1 : Int32) = (0 : Int32)))).1) ?_
    show Steps p.tables e below (T122.setTop (mkF m 140 #[.val (.int p0), .val (.int p1), .val (.int p2), .val (.int p3), .val (.int p4), .val (.int p5), .val (.ref b2), .val (.ref b18), .val (.ref r_o_37), .val (.ref r_o_53), .val (.int (p0 + p3)), .val (.int (p1 + p4)), .val (.int (p2 + p5)), .val (.int (1 : Int32)), .val (.int (1 : Int32))] [])) _
    refine XS.iload X122.here hx rfl (hb hby at_140) rfl ?_
    show Steps p.tables e below (T122.setTop (mkF m 142 #[.val (.int p0), .val (.int p1), .val (.int p2), .val (.int p3), .val (.int p4), .val (.int p5), .val (.ref b2), .val (.ref b18), .val (.ref r_o_37), .val (.ref r_o_53), .val (.int (p0 + p3)), .val (.int (p1 + p4)), .val (.int (p2 + p5)), .val (.int (1 : Int32)), .val (.int (1 : Int32))] [(.int (1 : Int32))])) _
    refine XS.ifNo X122.here hx rfl (hb hby at_142) rfl ((if0 _ _).trans (feq ((by decide) : ¬ ((1 : Int32) = (0 : Int32)))).1) ?_
    show Steps p.tables e below (T122.setTop (mkF m 145 #[.val (.int p0), .val (.int p1), .val (.int p2), .val (.int p3), .val (.int p4), .val (.int p5), .val (.ref b2), .val (.ref b18), .val (.ref r_o_37), .val (.ref r_o_53), .val (.int (p0 + p3)), .val (.int (p1 + p4)), .val (.int (p2 + p5)), .val (.int (1 : Int32)), .val (.int (1 : Int32))] [])) _
    refine XS.iconst X122.here hx rfl (hb hby at_145) ?_
    show Steps p.tables e below (T122.setTop (mkF m 146 #[.val (.int p0), .val (.int p1), .val (.int p2), .val (.int p3), .val (.int p4), .val (.int p5), .val (.ref b2), .val (.ref b18), .val (.ref r_o_37), .val (.ref r_o_53), .val (.int (p0 + p3)), .val (.int (p1 + p4)), .val (.int (p2 + p5)), .val (.int (1 : Int32)), .val (.int (1 : Int32))] [(.int (1 : Int32))])) _
    refine XS.goto X122.here hx rfl (pc0 := 146) (pc' := 150) rfl (hb hby at_146) (by decide) (by decide) ?_
    show Steps p.tables e below (T122.setTop (mkF m 150 #[.val (.int p0), .val (.int p1), .val (.int p2), .val (.int p3), .val (.int p4), .val (.int p5), .val (.ref b2), .val (.ref b18), .val (.ref r_o_37), .val (.ref r_o_53), .val (.int (p0 + p3)), .val (.int (p1 + p4)), .val (.int (p2 + p5)), .val (.int (1 : Int32)), .val (.int (1 : Int32))] [(.int (1 : Int32))])) _
    exact retN X122 hx (t := .boolean) Bd.returns (by simp) (hb hby at_150) hr
  · show Qown_law Z p0 p1 p2 p3 p4 p5 h0 n0 _ T122.heap _
    rw [eh122]
    exact ⟨rfl, N123⟩
set_option maxRecDepth 65536 in
set_option maxHeartbeats 40000000 in
theorem comes_1 {Post : Tables → Env → Array Value → State → Outcome → State → Prop} (hpost : ∀ tb e args s v u, (limb_1_1.after args s (.returned v) u = true ∧ limb_1_2.after args s (.returned v) u = true ∧ True) → FrameEnd s (.returned v) u (Jvm.fieldLocs frame_1_writes args s ++ Jvm.arrayLocs frame_1_arrays args s ++ Jvm.staticLocs frame_1_statics s) 16 128 → Post tb e args s (.returned v) u) :
    ArmFor flags0 classFile x code maxLocals ret World_1 tables_1 room_1 Calls_1 rest_1 Pre_1 Post := by
  intro l hfl _ _ p e ha hc hk s m args below hf hA hF happ hP
  obtain ⟨hcalls, hrest, hpre⟩ := hP
  obtain ⟨-, -, -, hnamed, -, -, -, hat⟩ := (Spec.applies_iff hf).mp happ
  obtain ⟨hg, hn⟩ := and_e (Cond.before_iff.mp (show (Jvm.Cond.and given_1 narrow_1).before args s = true from hpre))
  obtain ⟨gg1, gg2⟩ := and_e hg
  obtain ⟨gg3, gg4⟩ := and_e gg2
  obtain ⟨gg5, gg6⟩ := and_e gg4
  obtain ⟨gg7, gg8⟩ := and_e gg6
  obtain ⟨gg9, gg10⟩ := and_e gg8
  obtain ⟨gg11, gg12⟩ := and_e gg10
  obtain ⟨w0, w1, w2, w3, w4, w5, rfl⟩ : ∃ w0 w1 w2 w3 w4 w5 : Value, args = #[w0, w1, w2, w3, w4, w5] := by
    have hs : args.size = 6 := by simpa [Cond.value, given_1] using gg1
    obtain ⟨L⟩ := args
    match L, hs with
    | [w0, w1, w2, w3, w4, w5], _ => exact ⟨w0, w1, w2, w3, w4, w5, rfl⟩
  have hw := fun d (hd : d ∈ tables_1) => atoms_spec (ws := Jvm.Cond.code x code maxLocals ret :: tables_1) hat d (List.mem_cons_of_mem _ hd)
  obtain ⟨i0, ei0⟩ := is_v gg3
  obtain rfl : w0 = (.int i0) := Option.some.inj ei0
  obtain ⟨i1, ei1⟩ := is_v gg5
  obtain rfl : w1 = (.int i1) := Option.some.inj ei1
  obtain ⟨i2, ei2⟩ := is_v gg7
  obtain rfl : w2 = (.int i2) := Option.some.inj ei2
  obtain ⟨i3, ei3⟩ := is_v gg9
  obtain rfl : w3 = (.int i3) := Option.some.inj ei3
  obtain ⟨i4, ei4⟩ := is_v gg11
  obtain rfl : w4 = (.int i4) := Option.some.inj ei4
  obtain ⟨i5, ei5⟩ := is_v gg12
  obtain rfl : w5 = (.int i5) := Option.some.inj ei5
  obtain ⟨n, o, h1, h2, h3, _, L, rfl, ⟨rfl, N⟩, hq⟩ := own_law l s _ hw tables_1 i0 i1 i2 i3 i4 i5 s.heap s.heap.size (Nat.le_refl _) p e ha hc hk s m _ below hf ((Spec.applies_iff_loose hf).mp happ).1 ⟨rfl, State.Warmed39.refl s, rfl⟩ trivial
  refine ⟨n, _, h1, h2, h3, hpost _ _ _ _ _ _ ⟨Cond.after_iff.mpr rfl, Cond.after_iff.mpr (eq_i res_at (Term.int_eval (1)) rfl), trivial⟩ ⟨hq.1, hq.2.1, (hq.2.2.sift fun y hy => Or.inr (N y hy)).mono (by decide) (by decide)⟩⟩
theorem main_1_1 : Claimed_1_1 := comes_1 fun _ _ _ _ _ _ h hF => ⟨h.1, hF⟩
theorem main_1_2 : Claimed_1_2 := comes_1 fun _ _ _ _ _ _ h hF => ⟨h.2.1, hF⟩
end Jvm.Pilot.@@N@@
namespace Jvm.Pilot.@@N@@
open Jvm Jvm.ClassFile Sem Op Lib Jvm.Free Jvm.Stand Jvm.Pilot.@@N@@.Jvm.D
/-! MADE BY PROGRAM (witnessworld.py) out of the Statement's table words and the real class files: 9 classes; the members and pool entries that the words name. The judged class is class 1, her method 1. -/
namespace start1
open Jvm.ClassFile
def u (s : String) : CpInfo := .utf8 (stringToUtf16 s)
/-- a pool by its gaps: so many unusable entries, then the entry; so many at the end -/
def gap : Nat → List CpInfo → List CpInfo
  | 0, r => r
  | n + 1, r => .unusable :: gap n r
def poolList (es : List (Nat × CpInfo)) (last : Nat) : List CpInfo := es.foldr (fun e r => gap e.1 (e.2 :: r)) (gap last [])
def pool (es : List (Nat × CpInfo)) (last : Nat) : Array CpInfo := ⟨poolList es last⟩
def fileOf (pool : Array CpInfo) (this : Nat) (attrs : Array Attribute := #[]) (ms : Array MethodInfo := #[]) (fl : Nat := 33) (sup : Nat := 0) (ifs : Array Nat := #[]) (fds : Array FieldInfo := #[]) : ClassFile where
  minorVersion := 0
  majorVersion := 65
  constantPool := pool
  accessFlags := fl
  thisClass := this
  superClass := sup
  interfaces := ifs
  fields := fds
  methods := ms
  attributes := attrs
def plain (name : String) (sup : Option ClassId) : Class where
  name := name
  kind := .ordinary
  loader := none
  accessFlags := 33
  super := sup
  interfaces := #[]
  cf := none
  fields := #[]
  methods := #[]
  instanceTypes := #[]
  staticTypes := #[]
  resolved := #[]
  callSites := []
  init := .initialized
  statics := none
  mirror := none

def pool0 : Array CpInfo := pool [(5, u "<init>"), (0, u "()V"), (1, .class_ 10), (1, u "java/lang/Object")] 113

def k0c0 : Code := { maxStack := 0, maxLocals := 1, code := object_method_1_code, exceptionTable := #[], attributes := #[] }
def k0m0 : Method := { name := "<init>", desc := "()V", sig := { parameters := [], returnType := none }, accessFlags := 1, code := some k0c0 }
/-- java/lang/Object -/
def k0 : Class := { plain "java/lang/Object" none with
  accessFlags := 33
  interfaces := #[]
  cf := some (fileOf pool0 8 #[] #[{ accessFlags := 1, nameIndex := 5, descriptorIndex := 6, attributes := #[] }] 33 0 #[] #[])
  fields := #[]
  methods := #[k0m0]
  instanceTypes := #[]
  staticTypes := #[]
  resolved := Array.replicate 124 none
  statics := none }

def pool1 : Array CpInfo := pool [(2, .class_ 4), (1, u "java/lang/Object"), (0, u "<init>"), (0, u "()V"), (0, .class_ 8), (0, u "com/example/change_gatherer/changegatherer/service/HarvestReport"), (0, .methodref 7 10), (0, .nameAndType 5 11), (0, u "(III)V"), (0, .methodref 7 13), (0, .nameAndType 14 15), (0, u "plus"), (0, u "(Lcom/example/change_gatherer/changegatherer/service/HarvestReport;)Lcom/example/change_gatherer/changegatherer/service/HarvestReport;"), (0, .methodref 7 17), (0, .nameAndType 18 19), (0, u "getPages"), (0, u "()I"), (0, .methodref 7 21), (0, .nameAndType 22 19), (0, u "getIncluded"), (0, .methodref 7 24), (0, .nameAndType 25 19), (0, u "getRemoved"), (0, .class_ 27), (0, u "com/example/change_gatherer/changegatherer/service/HarvestReportPlusPinLaw"), (2, u "law"), (0, u "(IIIIII)Z")] 3

def k1m0 : Method := { name := "<init>", desc := "()V", sig := { parameters := [], returnType := none }, accessFlags := 1, code := none }
def k1c1 : Code := { maxStack := 5, maxLocals := 15, code := code, exceptionTable := #[], attributes := #[] }
def k1m1 : Method := { name := "law", desc := "(IIIIII)Z", sig := { parameters := [.int, .int, .int, .int, .int, .int], returnType := some .boolean }, accessFlags := 9, code := some k1c1 }
/-- com/example/change_gatherer/changegatherer/service/HarvestReportPlusPinLaw -/
def k1 : Class := { plain "com/example/change_gatherer/changegatherer/service/HarvestReportPlusPinLaw" (some 0) with
  accessFlags := 49
  interfaces := #[]
  cf := some (fileOf pool1 26 #[] #[{ accessFlags := 1, nameIndex := 5, descriptorIndex := 6, attributes := #[] }, { accessFlags := 9, nameIndex := 30, descriptorIndex := 31, attributes := #[] }] 49 2 #[] #[])
  fields := #[]
  methods := #[k1m0, k1m1]
  instanceTypes := #[]
  staticTypes := #[]
  resolved := Array.replicate 35 none
  statics := none }

def pool2 : Array CpInfo := pool [(1, .methodref 2 3), (0, .class_ 4), (0, .nameAndType 5 6), (0, u "java/lang/Object"), (0, u "<init>"), (0, u "()V"), (0, .fieldref 8 9), (0, .class_ 10), (0, .nameAndType 11 12), (0, u "com/example/change_gatherer/changegatherer/service/HarvestReport"), (0, u "pages"), (0, u "I"), (0, .fieldref 8 14), (0, .nameAndType 15 12), (0, u "included"), (0, .fieldref 8 17), (0, .nameAndType 18 12), (0, u "removed"), (0, .methodref 8 20), (0, .nameAndType 5 21), (0, u "(III)V"), (2, u "getPages"), (0, u "()I"), (0, u "getIncluded"), (0, u "getRemoved"), (0, u "plus"), (0, u "(Lcom/example/change_gatherer/changegatherer/service/HarvestReport;)Lcom/example/change_gatherer/changegatherer/service/HarvestReport;")] 2

def k2c0 : Code := { maxStack := 2, maxLocals := 4, code := prog_27_method_1_code, exceptionTable := #[], attributes := #[] }
def k2m0 : Method := { name := "<init>", desc := "(III)V", sig := { parameters := [.int, .int, .int], returnType := none }, accessFlags := 1, code := some k2c0 }
def k2c1 : Code := { maxStack := 1, maxLocals := 1, code := prog_27_method_2_code, exceptionTable := #[], attributes := #[] }
def k2m1 : Method := { name := "getPages", desc := "()I", sig := { parameters := [], returnType := some .int }, accessFlags := 1, code := some k2c1 }
def k2c2 : Code := { maxStack := 1, maxLocals := 1, code := prog_27_method_3_code, exceptionTable := #[], attributes := #[] }
def k2m2 : Method := { name := "getIncluded", desc := "()I", sig := { parameters := [], returnType := some .int }, accessFlags := 1, code := some k2c2 }
def k2c3 : Code := { maxStack := 1, maxLocals := 1, code := prog_27_method_4_code, exceptionTable := #[], attributes := #[] }
def k2m3 : Method := { name := "getRemoved", desc := "()I", sig := { parameters := [], returnType := some .int }, accessFlags := 1, code := some k2c3 }
def k2c4 : Code := { maxStack := 6, maxLocals := 2, code := prog_27_method_5_code, exceptionTable := #[], attributes := #[] }
def k2m4 : Method := { name := "plus", desc := "(Lcom/example/change_gatherer/changegatherer/service/HarvestReport;)Lcom/example/change_gatherer/changegatherer/service/HarvestReport;", sig := { parameters := [(.object "com/example/change_gatherer/changegatherer/service/HarvestReport")], returnType := some (.object "com/example/change_gatherer/changegatherer/service/HarvestReport") }, accessFlags := 0, code := some k2c4 }
/-- com/example/change_gatherer/changegatherer/service/HarvestReport -/
def k2 : Class := { plain "com/example/change_gatherer/changegatherer/service/HarvestReport" (some 0) with
  accessFlags := 49
  interfaces := #[]
  cf := some (fileOf pool2 8 #[] #[{ accessFlags := 1, nameIndex := 5, descriptorIndex := 21, attributes := #[] }, { accessFlags := 1, nameIndex := 24, descriptorIndex := 25, attributes := #[] }, { accessFlags := 1, nameIndex := 26, descriptorIndex := 25, attributes := #[] }, { accessFlags := 1, nameIndex := 27, descriptorIndex := 25, attributes := #[] }, { accessFlags := 0, nameIndex := 28, descriptorIndex := 29, attributes := #[] }] 49 2 #[] #[{ accessFlags := 18, nameIndex := 11, descriptorIndex := 12, attributes := #[] }, { accessFlags := 18, nameIndex := 15, descriptorIndex := 12, attributes := #[] }, { accessFlags := 18, nameIndex := 18, descriptorIndex := 12, attributes := #[] }])
  fields := #[{ name := "pages", type := .int, accessFlags := 18, slot := 0, constantValue := 0 }, { name := "included", type := .int, accessFlags := 18, slot := 1, constantValue := 0 }, { name := "removed", type := .int, accessFlags := 18, slot := 2, constantValue := 0 }]
  methods := #[k2m0, k2m1, k2m2, k2m3, k2m4]
  instanceTypes := #[.int, .int, .int]
  staticTypes := #[]
  resolved := Array.replicate 32 none
  statics := none }

def pool3 : Array CpInfo := pool [(1, u "java/lang/Cloneable"), (0, .class_ 1), (0, u "java/lang/Object"), (0, .class_ 3)] 3

/-- java/lang/Cloneable -/
def k3 : Class := { plain "java/lang/Cloneable" (some 0) with
  accessFlags := 1537
  interfaces := #[]
  cf := some (fileOf pool3 2 #[] #[] 1537 4 #[] #[])
  fields := #[]
  methods := #[]
  instanceTypes := #[]
  staticTypes := #[]
  resolved := Array.replicate 8 none
  statics := none }

def pool4 : Array CpInfo := pool [(1, u "java/io/Serializable"), (0, .class_ 1), (0, u "java/lang/Object"), (0, .class_ 3)] 3

/-- java/io/Serializable -/
def k4 : Class := { plain "java/io/Serializable" (some 0) with
  accessFlags := 1537
  interfaces := #[]
  cf := some (fileOf pool4 2 #[] #[] 1537 4 #[] #[])
  fields := #[]
  methods := #[]
  instanceTypes := #[]
  staticTypes := #[]
  resolved := Array.replicate 8 none
  statics := none }

/-- the primitive byte -/
def k5 : Class := { plain "byte" none with kind := .primitive 'B', accessFlags := 0x411 }
/-- [B -/
def k6 : Class := { plain "[B" (some 0) with kind := .array 5 .byte, interfaces := #[3, 4], accessFlags := 1041 }

/-- the primitive int -/
def k7 : Class := { plain "int" none with kind := .primitive 'I', accessFlags := 0x411 }
/-- [I -/
def k8 : Class := { plain "[I" (some 0) with kind := .array 7 .int, interfaces := #[3, 4], accessFlags := 1041 }

def heap : Heap := #[]
def classes : Array Class := #[k0, k1, k2, k3, k4, k5, k6, k7, k8]
def interned : List (Array UInt16 × Addr) := []
def slotsUsed : Nat := 0
def theMethod : MethodId := ⟨1, 1⟩
def args0 : Array Value := #[.int 1, .int 2, .int 3, .int 4, .int 5, .int 6]
def aboutOver (below : List Frame) : State where
  vm := { classes := classes, interned := interned.toArray }
  heap := heap
  slotsUsed := slotsUsed
  threads := #[{ frames := .invoking theMethod args0 :: below }]
def below0 : List Frame := [.native { method := ⟨0, 0⟩, args := #[] }]
def about1 : State := aboutOver below0
def p0 : Program := .bare "" "" ""
def e0 : Env := launch0.env 0 0 0
theorem w_frames : about1.frames = Frame.invoking theMethod args0 :: below0 := rfl
set_option maxRecDepth 65536 in
theorem w_args : argsFit about1.vm theMethod args0 = true := by decide +kernel
set_option maxRecDepth 65536 in
theorem w_heap : heapFits about1 = true := by decide +kernel
set_option maxRecDepth 65536 in
theorem w_runnable : about1.curStatus? = some .runnable := by decide +kernel
set_option maxRecDepth 65536 in
theorem w_alone : about1.alone = true := by decide +kernel
set_option maxRecDepth 65536 in
theorem w_named : about1.methodNamed? x = some theMethod := by decide +kernel
set_option maxRecDepth 65536 in
theorem w_hears : about1.hears theMethod below0 = true := by decide +kernel
set_option maxRecDepth 65536 in
theorem w_ripe : about1.ripe theMethod args0 below0 = true := by decide +kernel
theorem w_running : about1.status = .running := rfl
set_option maxRecDepth 65536 in
theorem w_room : about1.hasRoom e0.platform room_1 = true :=
  launch0.hasRoom_least _ room_1 (by decide +kernel) (by decide +kernel) (by decide +kernel) (by decide +kernel) (by decide +kernel) (by decide +kernel)
theorem allAtoms_all (ts : List Jvm.Cond) (a : Array Jvm.Value) (st : Jvm.State) : (allAtoms ts).before a st = ts.all (fun c => c.before a st) := by
  induction ts with
  | nil => rfl
  | cons c t ih =>
    show (Jvm.Cond.and c (allAtoms t)).before a st = _
    rw [Jvm.Cond.before_and, ih, List.all_cons]
def words1 : List Jvm.Cond := Jvm.Cond.code x code maxLocals ret :: tables_1
/-- a 'code' word, met by the world's own term for the bytes: nothing is compared byte by byte -/
theorem code_word {y : MethodName} {bytes : ByteArray} {mx : Nat} {rt : Option FieldType} {a : Array Value} {s : State} {m : MethodId} {meth : Method} {c : Code} (h1 : s.methodNamed? y = some m) (h2 : s.vm.method? m = some meth) (h3 : meth.code = some c) (h4 : c.code = bytes)
    (h5 : (c.maxLocals == mx && c.exceptionTable.isEmpty && decide (c.maxStack ≤ mostOperands) && decide (meth.sig.returnType = rt) && !meth.locks && decide (parseMethodDescriptor y.desc = some meth.sig)) = true) : (Jvm.Cond.code y bytes mx rt).before a s = true := by
  simp only [Bool.and_eq_true, beq_iff_eq, Bool.not_eq_true', decide_eq_true_eq] at h5
  obtain ⟨⟨⟨⟨⟨g1, g2⟩, g3⟩, g4⟩, g5⟩, g6⟩ := h5
  simp [Cond.before, Cond.holds, Cond.value, h1, h2, h3, h4, g1, g2, g3, g4, g5, g6]
def isCode : Jvm.Cond → Bool
  | .code _ _ _ _ => true
  | _ => false
theorem all_split {L : List Jvm.Cond} {P : Jvm.Cond → Bool} (h1 : L.all (fun c => isCode c || P c) = true) (h2 : ∀ c ∈ L.filter isCode, P c = true) : L.all P = true := by
  refine List.all_eq_true.mpr fun c hc => ?_
  have h := List.all_eq_true.mp h1 c hc
  rcases Bool.eq_false_or_eq_true (isCode c) with hi | hi
  · exact h2 c (List.mem_filter.mpr ⟨hc, hi⟩)
  · simpa [hi] using h
set_option maxRecDepth 65536 in
theorem w_c0 : (Jvm.Cond.code x code maxLocals ret).before args0 about1 = true := code_word (m := ⟨1, 1⟩) (meth := k1m1) (c := k1c1) (by decide +kernel) rfl rfl rfl (by decide +kernel)
set_option maxRecDepth 65536 in
theorem w_c1 : (Jvm.Cond.code ({ cls := "com/example/change_gatherer/changegatherer/service/HarvestReport", name := "<init>", desc := "(III)V" } : Jvm.MethodName) prog_27_method_1_code (4 : Nat) (Option.none : Option Jvm.ClassFile.FieldType)).before args0 about1 = true := code_word (m := ⟨2, 0⟩) (meth := k2m0) (c := k2c0) (by decide +kernel) rfl rfl rfl (by decide +kernel)
set_option maxRecDepth 65536 in
theorem w_c2 : (Jvm.Cond.code ({ cls := "java/lang/Object", name := "<init>", desc := "()V" } : Jvm.MethodName) object_method_1_code (1 : Nat) (Option.none : Option Jvm.ClassFile.FieldType)).before args0 about1 = true := code_word (m := ⟨0, 0⟩) (meth := k0m0) (c := k0c0) (by decide +kernel) rfl rfl rfl (by decide +kernel)
set_option maxRecDepth 65536 in
theorem w_c3 : (Jvm.Cond.code ({ cls := "com/example/change_gatherer/changegatherer/service/HarvestReport", name := "plus", desc := "(Lcom/example/change_gatherer/changegatherer/service/HarvestReport;)Lcom/example/change_gatherer/changegatherer/service/HarvestReport;" } : Jvm.MethodName) prog_27_method_5_code (2 : Nat) (Option.some (Jvm.ClassFile.FieldType.object "com/example/change_gatherer/changegatherer/service/HarvestReport"))).before args0 about1 = true := code_word (m := ⟨2, 4⟩) (meth := k2m4) (c := k2c4) (by decide +kernel) rfl rfl rfl (by decide +kernel)
set_option maxRecDepth 65536 in
theorem w_c4 : (Jvm.Cond.code ({ cls := "com/example/change_gatherer/changegatherer/service/HarvestReport", name := "getPages", desc := "()I" } : Jvm.MethodName) prog_27_method_2_code (1 : Nat) (Option.some Jvm.ClassFile.FieldType.int)).before args0 about1 = true := code_word (m := ⟨2, 1⟩) (meth := k2m1) (c := k2c1) (by decide +kernel) rfl rfl rfl (by decide +kernel)
set_option maxRecDepth 65536 in
theorem w_c5 : (Jvm.Cond.code ({ cls := "com/example/change_gatherer/changegatherer/service/HarvestReport", name := "getIncluded", desc := "()I" } : Jvm.MethodName) prog_27_method_3_code (1 : Nat) (Option.some Jvm.ClassFile.FieldType.int)).before args0 about1 = true := code_word (m := ⟨2, 2⟩) (meth := k2m2) (c := k2c2) (by decide +kernel) rfl rfl rfl (by decide +kernel)
set_option maxRecDepth 65536 in
theorem w_c6 : (Jvm.Cond.code ({ cls := "com/example/change_gatherer/changegatherer/service/HarvestReport", name := "getRemoved", desc := "()I" } : Jvm.MethodName) prog_27_method_4_code (1 : Nat) (Option.some Jvm.ClassFile.FieldType.int)).before args0 about1 = true := code_word (m := ⟨2, 3⟩) (meth := k2m3) (c := k2c3) (by decide +kernel) rfl rfl rfl (by decide +kernel)
def codes1 : List Jvm.Cond := [Jvm.Cond.code x code maxLocals ret, Jvm.Cond.code ({ cls := "com/example/change_gatherer/changegatherer/service/HarvestReport", name := "<init>", desc := "(III)V" } : Jvm.MethodName) prog_27_method_1_code (4 : Nat) (Option.none : Option Jvm.ClassFile.FieldType), Jvm.Cond.code ({ cls := "java/lang/Object", name := "<init>", desc := "()V" } : Jvm.MethodName) object_method_1_code (1 : Nat) (Option.none : Option Jvm.ClassFile.FieldType), Jvm.Cond.code ({ cls := "com/example/change_gatherer/changegatherer/service/HarvestReport", name := "plus", desc := "(Lcom/example/change_gatherer/changegatherer/service/HarvestReport;)Lcom/example/change_gatherer/changegatherer/service/HarvestReport;" } : Jvm.MethodName) prog_27_method_5_code (2 : Nat) (Option.some (Jvm.ClassFile.FieldType.object "com/example/change_gatherer/changegatherer/service/HarvestReport")), Jvm.Cond.code ({ cls := "com/example/change_gatherer/changegatherer/service/HarvestReport", name := "getPages", desc := "()I" } : Jvm.MethodName) prog_27_method_2_code (1 : Nat) (Option.some Jvm.ClassFile.FieldType.int), Jvm.Cond.code ({ cls := "com/example/change_gatherer/changegatherer/service/HarvestReport", name := "getIncluded", desc := "()I" } : Jvm.MethodName) prog_27_method_3_code (1 : Nat) (Option.some Jvm.ClassFile.FieldType.int), Jvm.Cond.code ({ cls := "com/example/change_gatherer/changegatherer/service/HarvestReport", name := "getRemoved", desc := "()I" } : Jvm.MethodName) prog_27_method_4_code (1 : Nat) (Option.some Jvm.ClassFile.FieldType.int)]
set_option maxRecDepth 65536 in
theorem codes_eq : words1.filter isCode = codes1 := rfl
theorem w_codes : ∀ c ∈ words1.filter isCode, c.before args0 about1 = true := by
  rw [codes_eq]
  intro c hc
  simp only [codes1, List.mem_cons, List.not_mem_nil, or_false] at hc
  rcases hc with rfl | rfl | rfl | rfl | rfl | rfl | rfl
  · exact w_c0
  · exact w_c1
  · exact w_c2
  · exact w_c3
  · exact w_c4
  · exact w_c5
  · exact w_c6
set_option maxRecDepth 65536 in
theorem w_t1 : (words1.take 24).all (fun c => isCode c || c.before args0 about1) = true := by decide +kernel
set_option maxRecDepth 65536 in
theorem w_t2 : (words1.drop 24).all (fun c => isCode c || c.before args0 about1) = true := by decide +kernel
theorem w_tables : (allAtoms (Jvm.Cond.code x code maxLocals ret :: tables_1)).before args0 about1 = true := by
  rw [allAtoms_all]
  show words1.all (fun c => c.before args0 about1) = true
  refine all_split ?_ w_codes
  rw [← List.take_append_drop 24 words1, List.all_append, w_t1, w_t2]
  rfl
set_option maxRecDepth 65536 in
theorem w_case : (Jvm.Cond.and given_1 narrow_1).before args0 about1 = true := by decide +kernel
theorem w_applies : (headSpec (Jvm.Cond.code x code maxLocals ret :: tables_1) room_1).applies x e0.platform about1 = true :=
  (Spec.applies_iff w_frames).mpr ⟨w_running, w_runnable, w_alone, w_named, w_hears, w_ripe, w_room, w_tables⟩
theorem atStart : AtStart classFile x code maxLocals ret World_1 tables_1 room_1 Calls_1 rest_1 Pre_1 launch0 p0 e0 about1 theMethod args0 below0 :=
  ⟨lists_1, trivial, launch0.admits_env _ _ _, launch0.least_env, fairChoices_fair.cas, fairChoices_fair.clock, w_frames, w_args, w_heap, w_applies, trivial, trivial, w_case⟩
end start1
theorem witness_1 : WitnessClaimed_1 := ⟨start1.p0, start1.e0, start1.about1, start1.theMethod, start1.args0, start1.below0, start1.atStart⟩
end Jvm.Pilot.@@N@@
