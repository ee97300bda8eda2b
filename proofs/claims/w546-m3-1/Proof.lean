import JvmDerived
import JvmDerived.Pilot.@@N@@Statement
import JvmDerived.Pilot.@@N@@Code
set_option linter.unusedVariables false
set_option linter.unusedSimpArgs false
@@BLOCK:NumsL.lean.txt@@
namespace Jvm.RoadKit
open Sem ClassFile Op Lib Jvm.Stand Jvm.Free Jvm.LawKit
section New
variable {p : Program} {l : Launch} {e : Env} {R : Room} {s : State} {m : MethodId} {args : Array Value} {below : List Frame} {meth : Method} {c : Code} {T : State} {locs : List Loc} {cells slots : Nat}
theorem retI (X : Stand p l e R s m args below meth c T locs cells slots) (hx : p.tables.exec = Jvm.exec) {pc : Nat} {Ls : Array Slot} {z : Int32} {rest : List Value} (hret : meth.sig.returnType = some .int) (hd : decode c.code pc = .ok (.ireturn, 1)) {fs : List Frame}
    (hl : ∀ (f : JFrame) (acts : List Action), f.method = m → f.locked = none → f.entered = [] → (doReturn e (T.setTop f) acts (some (.int z))).1 = T.setFrames fs) : Steps p.tables e below (T.setTop (mkF m pc Ls (.int z :: rest))) (T.setFrames fs) := by
  have hm' : T.vm.method? m = some meth := X.method'
  have hn : narrow .int (.int z) = .int z := rfl
  show Steps p.tables e below (T.setTop { method := m, pc := pc, locals := Ls, stack := _ :: rest, locked := none }) _
  jvm_step X.here [X.here.top, hx, hd, hm', hret, hn]
  first | (intro acts; rw [hl _ acts rfl rfl rfl]) | rw [hl _ _ rfl rfl rfl]
  exact Steps.refl _
end New
end Jvm.RoadKit
namespace Jvm.Pilot.@@N@@
open Jvm Jvm.ClassFile Sem Op Lib Jvm.Free Jvm.Stand Jvm.LawKit Jvm.RoadKit Bundle Jvm.Pilot.@@N@@.Jvm.D
theorem own_lcLt {x y : Int64} : lcmpW x y < 0 ↔ x < y := by rw [lcW]; exact lc_lt x y
theorem own_lcGt {x y : Int64} : 0 < lcmpW x y ↔ y < x := by rw [lcW]; exact lc_gt x y
theorem own_lcEq {x y : Int64} : lcmpW x y = 0 ↔ x = y := by rw [lcW]; exact lc_eq x y
section OwnRef
variable {p : Program} {l : Launch} {e : Env} {R : Room} {s : State} {m : MethodId} {args : Array Value} {below : List Frame} {meth : Method} {c : Code} {T : State} {locs : List Loc} {cells slots : Nat}
theorem own_selP {Z : State} {a0 : Array Value} {y : MethodName} {n : Nat} (hZ : Z.Warmed39 s.vm) (wi : (Cond.instantiable y.cls n).before a0 Z = true) (wp : (Cond.privateMethod y).before a0 Z = true) (wm : (Cond.instanceMethod y).before a0 Z = true)
    (hy : y.cls ≠ "java/lang/invoke/MethodHandle" ∧ y.cls ≠ "java/lang/invoke/VarHandle") : (Cond.selects y.cls y y).before args s = true := by
  obtain ⟨cy, ky, hcy, hky, -, hni0, -⟩ := Cond.instantiable_spec (show (Cond.instantiable y.cls n).before args s = true from mvT hZ wi)
  simp only [Bool.or_eq_false_iff] at hni0
  exact Jvm.Stand.selects_self_of_private hcy hky hni0.1 (Cond.privateMethod_at (mvP hZ wp (args := args))) (mvT hZ wm) hy
theorem own_refBack {Z : State} {a0 : Array Value} (X : Stand p l e R s m args below meth c T locs cells slots) (hexec : p.tables.exec = Jvm.exec) (hZ : Z.Warmed39 s.vm) {own : String} {index n : Nat} {y : MethodName} {bytes : ByteArray} {maxL : Nat} {ret : Option FieldType}
    (hown : s.vm.findClass own = some m.cls) (href : (Cond.methodRef own index y).before a0 Z = true) (hinst : (Cond.instanceMethod y).before a0 Z = true) (hpr : (Cond.privateMethod y).before a0 Z = true) (wi : (Cond.instantiable y.cls n).before a0 Z = true)
    (hcode : (Cond.code y bytes maxL ret).before a0 Z = true) (hy : y.cls ≠ "java/lang/invoke/MethodHandle" ∧ y.cls ≠ "java/lang/invoke/VarHandle")
    {W : Nat} {Pre : Pt → Array Value → Prop} {Post : Pt → Array Value → Option Value → Pt → Prop} (hK : Back l R p e below s args y 3 W Pre Post)
    {g : JFrame} (hg : g.method = m) (hsize : g.locals.size = c.maxLocals) {s₀ : State} (hcome : Steps p.tables e below s₀ (T.setTop g)) {a : Addr} {cell : Cell} (hcell : T.heap[a]? = some cell) (hobj : ∀ q, cell.vm ≠ .statics q)
    {argsL rest : List Value} (hlen : ∀ sig, parseMethodDescriptor y.desc = some sig → argsL.length = sig.parameters.length)
    (hstack : g.stack = argsL.reverse ++ .ref a :: rest) (hW : 2 * g.monitorRoom + (rest.map fun v => v.category).sum ≤ W) (hdg : decode c.code g.pc = .ok (.invokevirtual index, 3))
    (hpre : Pre ⟨T, locs, cells, slots⟩ (.ref a :: argsL).toArray) :
    ∃ (v : Option Value) (B : Pt), Stand p l e R s m args below meth c B.U B.locs B.cells B.slots ∧ Post ⟨T, locs, cells, slots⟩ (.ref a :: argsL).toArray v B ∧
      Steps p.tables e below s₀ (B.U.setTop { g with pc := g.pc + 3, stack := v.toList ++ rest }) := by
  have hinst' : (Cond.instanceMethod y).before args s = true := mvT hZ hinst
  obtain ⟨mk, methM, hnamed, hmethM, hstM, habM⟩ := Cond.instanceMethod_spec hinst'
  have hcode' : (Cond.code y bytes maxL ret).before args s = true := mvT hZ hcode
  obtain ⟨methM', cM, hmethM', -, -, -, -, -, -, hsigM⟩ := Cond.code_spec hnamed hcode'
  cases hmethM.symm.trans hmethM'
  have hpriv := Cond.privateMethod_at (mvP hZ hpr (args := args))
  obtain ⟨cy, ky, hcy, hky, -, hni0, -⟩ := Cond.instantiable_spec (show (Cond.instantiable y.cls n).before args s = true from mvT hZ wi)
  simp only [Bool.or_eq_false_iff] at hni0
  cases hcy.symm.trans (findClass_of_methodNamed hnamed)
  have hselP : selectMethod e.platform s.vm cell.cls mk = .method mk := selectMethod_private hmethM (hpriv mk methM hnamed hmethM)
  obtain ⟨mZ, methZ, hnZ, -⟩ := Cond.instanceMethod_spec hinst
  have hZT : Z.Warmed39 T.vm := wtrans hZ X.warmed
  have hal := X.warmed.alike
  have hrefT := Cond.methodRef_warmed39 hZT hnZ hy href
  have hownT : (Z.setVm T.vm).vm.findClass own = some m.cls := by
    show T.vm.findClass own = some m.cls
    rw [hal.findClass]; exact hown
  obtain ⟨m', c', hfound, hready, hfind, hres⟩ := Cond.methodRef_named e hownT hrefT
  have hnT : (Z.setVm T.vm).methodNamed? y = some mk := by
    have q : T.methodNamed? y = some mk := X.named hnamed
    exact q
  cases (State.methodFound?_of_named hnT hy).symm.trans hfound
  have hcT : (Z.setVm T.vm).vm.findClass y.cls = some mk.cls := findClass_of_methodNamed hnT
  cases hcT.symm.trans hfind
  obtain ⟨k2, hk2, he2⟩ := hal.2.2 _ _ hky
  obtain ⟨kx, hkx, hnx⟩ := className_of_methodNamed hnT
  have hpoly : signaturePolymorphic k2 methM = false := by
    have e1 : k2 = kx := Option.some.inj (hk2.symm.trans hkx)
    rw [e1]
    simp [signaturePolymorphic, hnx, hy.1, hy.2]
  have hni2 : k2.isInterface = false := by rw [he2]; exact hni0.1
  have hmT : T.vm.method? mk = some methM := by rw [hal.method?]; exact hmethM
  have hsT : selectMethod e.platform T.vm cell.cls mk = .method mk := by rw [hal.selectMethod]; exact hselP
  obtain ⟨v, B, X', hpost, hsteps⟩ := hK m meth c ⟨T, locs, cells, slots⟩ { g with stack := rest } (.invokevirtual index) mk (.ref a :: argsL).toArray X hg hsize hdg hW (X.named hnamed) hpre
  refine ⟨v, B, X', hpost, (hcome.trans ?_).trans hsteps⟩
  subst hg
  have go : ∀ target, (∀ acts, Steps p.tables e below (doInvoke e (T.setTop { g with stack := rest }) acts mk (.ref a :: argsL).toArray).1 target) → Steps p.tables e below (T.setTop g) target := fun target hrest => by
    jvm_step X.here [hexec, hdg, invokevirtual.wp_named (e := e) (s := T) (f := g) (r := mk) (m := mk) (c' := mk.cls) (k := k2) (k' := k2) (mk := k2) (rmeth := methM) (meth := methM) (a := a) (args := argsL) (rest := rest) (cell := cell)
      X.here.top hres hk2 hni2 hready hk2 hmT hpoly hstM (hlen _ hsigM) hstack hcell hobj hsT hmT habM hk2 hni2]
    exact hrest
  exact go _ fun acts => by rw [doInvoke_state]; exact Steps.refl _
end OwnRef
theorem own_since (s : State) (n : Nat) : s.Since s.vm n := ⟨State.Warmed39.refl s, fun j p hj hp => by rw [Array.getElem?_eq_none hj] at hp; cases hp⟩
theorem own_satoms {a0 : Array Value} {Z : State} (hw : ∀ d ∈ tables_1, d.before a0 Z = true) : ∀ a ∈ Bundle.stringAtoms, a.before a0 Z = true := fun d hd => by
  simp only [Bundle.stringAtoms, List.mem_cons, List.not_mem_nil, or_false] at hd
  rcases hd with rfl | rfl | rfl | rfl | rfl | rfl | rfl
  · exact hw _ (List.mem_of_getElem? (i := 6) rfl)
  · exact hw _ (List.mem_of_getElem? (i := 7) rfl)
  · exact hw _ (List.mem_of_getElem? (i := 0) rfl)
  · exact hw _ (List.mem_of_getElem? (i := 8) rfl)
  · exact hw _ (List.mem_of_getElem? (i := 9) rfl)
  · exact hw _ (List.mem_of_getElem? (i := 10) rfl)
  · exact hw _ (List.mem_of_getElem? (i := 11) rfl)
theorem own_cut {Z : State} {h : Heap} {a : Addr} {k : ClassId} {ty : FieldType} {z : Int32} {d : Value} {vs ws : List Value} (F : Arv Z h a k ty z ws d) (q : ∀ i, i < z.toNatClampNeg → vs.getD i d = ws.getD i d) : Arv Z h a k ty z vs d := by
  obtain ⟨c, A, r1, r2, r3, H, G⟩ := F
  exact ⟨c, A, r1, r2, r3, fun i hi => by rw [q i (r2 ▸ hi)]; exact H i hi, fun i hi => by rw [q i (r2 ▸ hi)]; exact G i hi⟩
def own_vl1 (y : Int32) : Int64 := (0 : Int64) ||| ((y &&& (127 : Int32)).toInt64 <<< ((0 : Int32) &&& 0x3f).toInt64)
def own_vl5 (a b c d e : Int32) : Int64 := (((((0 : Int64) ||| ((a &&& (127 : Int32)).toInt64 <<< ((0 : Int32) &&& 0x3f).toInt64)) ||| ((b &&& (127 : Int32)).toInt64 <<< ((7 : Int32) &&& 0x3f).toInt64)) ||| ((c &&& (127 : Int32)).toInt64 <<< ((14 : Int32) &&& 0x3f).toInt64)) ||| ((d &&& (127 : Int32)).toInt64 <<< ((21 : Int32) &&& 0x3f).toInt64)) ||| ((e &&& (127 : Int32)).toInt64 <<< ((28 : Int32) &&& 0x3f).toInt64)
def own_by0 (x : Int64) : Int32 := nar .byte (x.toInt32.toInt8.toInt32)
def own_by1 (x : Int64) : Int32 := nar .byte (((x.toUInt64 >>> ((8 : Int32) &&& 0x3f).toInt64.toUInt64).toInt64).toInt32.toInt8.toInt32)
def own_by2 (x : Int64) : Int32 := nar .byte (((x.toUInt64 >>> ((16 : Int32) &&& 0x3f).toInt64.toUInt64).toInt64).toInt32.toInt8.toInt32)
def own_by3 (x : Int64) : Int32 := nar .byte (((x.toUInt64 >>> ((24 : Int32) &&& 0x3f).toInt64.toUInt64).toInt64).toInt32.toInt8.toInt32)
def own_by4 (x : Int64) : Int32 := nar .byte (((x.toUInt64 >>> ((32 : Int32) &&& 0x3f).toInt64.toUInt64).toInt64).toInt32.toInt8.toInt32)
def own_by5 (x : Int64) : Int32 := nar .byte (((x.toUInt64 >>> ((40 : Int32) &&& 0x3f).toInt64.toUInt64).toInt64).toInt32.toInt8.toInt32)
def own_by6 (x : Int64) : Int32 := nar .byte (((x.toUInt64 >>> ((48 : Int32) &&& 0x3f).toInt64.toUInt64).toInt64).toInt32.toInt8.toInt32)
def own_by7 (x : Int64) : Int32 := nar .byte (((x.toUInt64 >>> ((56 : Int32) &&& 0x3f).toInt64.toUInt64).toInt64).toInt32.toInt8.toInt32)
theorem own_pn0 : plainName "fieldstone/ByteReader" = true := by first | (simp [plainName, overriddenIn]; done) | decide +kernel
theorem own_ef_own_reset (m : MethodId) (a_o : Addr) (b_o : Addr) (x_2 : Int32) (x_3 : Int32) (f_o : Addr) : entryFrame m #[(.ref a_o), (.ref b_o), (.int x_2), (.int x_3), (.ref f_o)] 5 = mkF m 0 #[.val (.ref a_o), .val (.ref b_o), .val (.int x_2), .val (.int x_3), .val (.ref f_o)] [] := by first | (simp [entryFrame, mkF, argsToLocals, Value.category]; done) | rfl
theorem own_d3_0 : decode prog_2_method_2_code 0 = .ok (.aload_n 0, 1) := by decide +kernel
theorem own_d3_1 : decode prog_2_method_2_code 1 = .ok (.aload_n 1, 1) := by decide +kernel
theorem own_d3_2 : decode prog_2_method_2_code 2 = .ok (.putfield 13, 3) := by decide +kernel
theorem own_d3_5 : decode prog_2_method_2_code 5 = .ok (.aload_n 0, 1) := by decide +kernel
theorem own_d3_6 : decode prog_2_method_2_code 6 = .ok (.iload_n 2, 1) := by decide +kernel
theorem own_d3_7 : decode prog_2_method_2_code 7 = .ok (.putfield 17, 3) := by decide +kernel
theorem own_d3_10 : decode prog_2_method_2_code 10 = .ok (.aload_n 0, 1) := by decide +kernel
theorem own_d3_11 : decode prog_2_method_2_code 11 = .ok (.iload_n 3, 1) := by decide +kernel
theorem own_d3_12 : decode prog_2_method_2_code 12 = .ok (.putfield 21, 3) := by decide +kernel
theorem own_d3_15 : decode prog_2_method_2_code 15 = .ok (.aload_n 0, 1) := by decide +kernel
theorem own_d3_16 : decode prog_2_method_2_code 16 = .ok (.aload 4, 2) := by decide +kernel
theorem own_d3_18 : decode prog_2_method_2_code 18 = .ok (.putfield 24, 3) := by decide +kernel
theorem own_d3_21 : decode prog_2_method_2_code 21 = .ok (.aload_n 0, 1) := by decide +kernel
theorem own_d3_22 : decode prog_2_method_2_code 22 = .ok (.areturn, 1) := by decide +kernel
def Qown_reset (Z : State) (a_o : Addr) (b_o : Addr) (x_2 : Int32) (x_3 : Int32) (f_o : Addr) (h0 : Heap) (n0 : Nat) (v : Option Value) (h : Heap) (L : List Loc) : Prop := v = some (.ref a_o) ∧ Fr n0 L ∧ Keep h0 h [a_o] ∧ Exa Z h a_o "fieldstone/ByteReader" ∧ Fld Z h a_o "fieldstone/ByteReader" "bytes" "[B" (.ref b_o) ∧ Fld Z h a_o "fieldstone/ByteReader" "pos" "I" (.int x_2) ∧ Fld Z h a_o "fieldstone/ByteReader" "limit" "I" (.int x_3)
set_option maxRecDepth 65536 in
set_option maxHeartbeats 40000000 in
theorem own_reset (l : Launch) (Z : State) (a0 : Array Value) (hw : ∀ d ∈ tables_1, d.before a0 Z = true) (ws : List Jvm.Cond) (a_o : Addr) (b_o : Addr) (x_2 : Int32) (x_3 : Int32) (f_o : Addr) (h0 : Heap) (n0 : Nat) (Z0 : n0 ≤ h0.size) (Eo : Exa Z h0 a_o "fieldstone/ByteReader") (F_bytes : Fld Z h0 a_o "fieldstone/ByteReader" "bytes" "[B" .null) (F_pos : Fld Z h0 a_o "fieldstone/ByteReader" "pos" "I" (.int (0 : Int32))) (F_limit : Fld Z h0 a_o "fieldstone/ByteReader" "limit" "I" (.int (0 : Int32))) (F_file : Fld Z h0 a_o "fieldstone/ByteReader" "file" "Ljava/lang/String;" .null) (ga : n0 ≤ a_o) :
    MetFree l (⟨"fieldstone/ByteReader", "reset", "([BIILjava/lang/String;)Lfieldstone/ByteReader;"⟩ : MethodName) (head1 (Jvm.Cond.code (⟨"fieldstone/ByteReader", "reset", "([BIILjava/lang/String;)Lfieldstone/ByteReader;"⟩ : MethodName) prog_2_method_2_code 5 (some (.object "fieldstone/ByteReader")) :: ws) ({ frames := 0, cells := 0, slots := 0, locals := 0 } : Room)) (fun a U => a = #[(.ref a_o), (.ref b_o), (.int x_2), (.int x_3), (.ref f_o)] ∧ Z.Warmed39 U.vm ∧ U.heap = h0) (fun _ _ _ _ _ => True) (fun _ U o U' => ∃ v L, o = .returned v ∧ Qown_reset Z a_o b_o x_2 x_3 f_o h0 n0 v U'.heap L ∧ FrameEnd U o U' L ({ frames := 0, cells := 0, slots := 0, locals := 0 } : Room).cells ({ frames := 0, cells := 0, slots := 0, locals := 0 } : Room).slots) := by
  refine MetFree.of_bodySF (plainFor_of_name own_pn0) hisR ?_
  intro p e s m args below meth c s₁ Bd hml0 hP hK
  obtain ⟨rfl, hZ, hh⟩ := hP
  have hx := Bd.exec
  have hby := Bd.bytes
  have hml : c.maxLocals = 5 := hml0
  have hown : s.vm.findClass "fieldstone/ByteReader" = some m.cls := findClass_of_methodNamed Bd.named
  have hnm := (name_of_methodNamed Bd.named Bd.method).1
  have X0 : Stand p l e ({ frames := 0, cells := 0, slots := 0, locals := 0 } : Room) s m #[(.ref a_o), (.ref b_o), (.int x_2), (.int x_3), (.ref f_o)] below meth c s₁ [] 0 0 := Stand.of_body Bd
  have e0 : s₁.heap = h0 := by rw [← hh, Bd.state]; rfl
  have N0 := Fr.nil n0
  have pre0 : ∀ t, Steps p.tables e below (s₁.setTop (mkF m 0 #[.val (.ref a_o), .val (.ref b_o), .val (.int x_2), .val (.int x_3), .val (.ref f_o)] [])) t → Steps p.tables e below (s₁.setTop (entryFrame m #[(.ref a_o), (.ref b_o), (.int x_2), (.int x_3), (.ref f_o)] 5)) t := fun t k => castTop (own_ef_own_reset m a_o b_o x_2 x_3 f_o) k
  obtain ⟨T4, h4, X4, e4, W4, st4⟩ := putF X0 hx hZ hown (host := "") (Or.inl (hw _ (List.mem_of_getElem? (i := 23) rfl))) Via.refl e0 F_bytes Eo (Or.inl (hw _ (List.mem_of_getElem? (i := 24) rfl))) (hw _ (List.mem_of_getElem? (i := 3) rfl)) (ty := (.array .byte)) (by decide) rfl rfl (g := (mkF m 2 #[.val (.ref a_o), .val (.ref b_o), .val (.int x_2), .val (.int x_3), .val (.ref f_o)] [(.ref b_o), (.ref a_o)])) rfl rfl (hb hby own_d3_2)
  have Kc5 : Keep h0 h4 [a_o] := (Keep.refl h0 [a_o]).wr W4 (Or.inl (List.mem_of_getElem? (i := 0) rfl))
  have Zs6 : n0 ≤ h4.size := Nat.le_trans Z0 (Keep.of_wr W4).1
  have N7 := Fr.snoc X4 N0 ga
  have Fw4 : Fld Z h4 a_o "fieldstone/ByteReader" "bytes" "[B" (.ref b_o) := F_bytes.same W4
  have Fq11 : Exa Z h4 a_o "fieldstone/ByteReader" := (Eo.wr W4)
  have Fq12 : Fld Z h4 a_o "fieldstone/ByteReader" "pos" "I" (.int (0 : Int32)) := (F_pos.other W4 (Or.inr (slot_ne (Or.inl (hw _ (List.mem_of_getElem? (i := 26) rfl))) (Or.inl (hw _ (List.mem_of_getElem? (i := 24) rfl))) (by decide) (t := .int) (t' := (.array .byte)) (by decide) (by decide))))
  obtain ⟨T13, h13, X13, e13, W13, st13⟩ := putF X4 hx hZ hown (host := "") (Or.inl (hw _ (List.mem_of_getElem? (i := 25) rfl))) Via.refl e4 Fq12 Fq11 (Or.inl (hw _ (List.mem_of_getElem? (i := 26) rfl))) (hw _ (List.mem_of_getElem? (i := 3) rfl)) (ty := .int) (by decide) rfl rfl (g := (mkF m 7 #[.val (.ref a_o), .val (.ref b_o), .val (.int x_2), .val (.int x_3), .val (.ref f_o)] [(.int x_2), (.ref a_o)])) rfl rfl (hb hby own_d3_7)
  have Kc14 : Keep h0 h13 [a_o] := Kc5.wr W13 (Or.inl (List.mem_of_getElem? (i := 0) rfl))
  have Zs15 : n0 ≤ h13.size := Nat.le_trans Zs6 (Keep.of_wr W13).1
  have N16 := Fr.snoc X13 N7 ga
  have Fw13 : Fld Z h13 a_o "fieldstone/ByteReader" "pos" "I" (.int x_2) := Fq12.same W13
  have Fq20 : Exa Z h13 a_o "fieldstone/ByteReader" := (Fq11.wr W13)
  have Fq21 : Fld Z h13 a_o "fieldstone/ByteReader" "limit" "I" (.int (0 : Int32)) := ((F_limit.other W4 (Or.inr (slot_ne (Or.inl (hw _ (List.mem_of_getElem? (i := 28) rfl))) (Or.inl (hw _ (List.mem_of_getElem? (i := 24) rfl))) (by decide) (t := .int) (t' := (.array .byte)) (by decide) (by decide)))).other W13 (Or.inr (slot_ne (Or.inl (hw _ (List.mem_of_getElem? (i := 28) rfl))) (Or.inl (hw _ (List.mem_of_getElem? (i := 26) rfl))) (by decide) (t := .int) (t' := .int) (by decide) (by decide))))
  obtain ⟨T22, h22, X22, e22, W22, st22⟩ := putF X13 hx hZ hown (host := "") (Or.inl (hw _ (List.mem_of_getElem? (i := 27) rfl))) Via.refl e13 Fq21 Fq20 (Or.inl (hw _ (List.mem_of_getElem? (i := 28) rfl))) (hw _ (List.mem_of_getElem? (i := 3) rfl)) (ty := .int) (by decide) rfl rfl (g := (mkF m 12 #[.val (.ref a_o), .val (.ref b_o), .val (.int x_2), .val (.int x_3), .val (.ref f_o)] [(.int x_3), (.ref a_o)])) rfl rfl (hb hby own_d3_12)
  have Kc23 : Keep h0 h22 [a_o] := Kc14.wr W22 (Or.inl (List.mem_of_getElem? (i := 0) rfl))
  have Zs24 : n0 ≤ h22.size := Nat.le_trans Zs15 (Keep.of_wr W22).1
  have N25 := Fr.snoc X22 N16 ga
  have Fw22 : Fld Z h22 a_o "fieldstone/ByteReader" "limit" "I" (.int x_3) := Fq21.same W22
  have Fq29 : Exa Z h22 a_o "fieldstone/ByteReader" := (Fq20.wr W22)
  have Fq30 : Fld Z h22 a_o "fieldstone/ByteReader" "file" "Ljava/lang/String;" .null := (((F_file.other W4 (Or.inr (slot_ne (Or.inl (hw _ (List.mem_of_getElem? (i := 30) rfl))) (Or.inl (hw _ (List.mem_of_getElem? (i := 24) rfl))) (by decide) (t := (.object "java/lang/String")) (t' := (.array .byte)) (by decide) (by decide)))).other W13 (Or.inr (slot_ne (Or.inl (hw _ (List.mem_of_getElem? (i := 30) rfl))) (Or.inl (hw _ (List.mem_of_getElem? (i := 26) rfl))) (by decide) (t := (.object "java/lang/String")) (t' := .int) (by decide) (by decide)))).other W22 (Or.inr (slot_ne (Or.inl (hw _ (List.mem_of_getElem? (i := 30) rfl))) (Or.inl (hw _ (List.mem_of_getElem? (i := 28) rfl))) (by decide) (t := (.object "java/lang/String")) (t' := .int) (by decide) (by decide))))
  obtain ⟨T31, h31, X31, e31, W31, st31⟩ := putF X22 hx hZ hown (host := "") (Or.inl (hw _ (List.mem_of_getElem? (i := 29) rfl))) Via.refl e22 Fq30 Fq29 (Or.inl (hw _ (List.mem_of_getElem? (i := 30) rfl))) (hw _ (List.mem_of_getElem? (i := 3) rfl)) (ty := (.object "java/lang/String")) (by decide) rfl rfl (g := (mkF m 18 #[.val (.ref a_o), .val (.ref b_o), .val (.int x_2), .val (.int x_3), .val (.ref f_o)] [(.ref f_o), (.ref a_o)])) rfl rfl (hb hby own_d3_18)
  have Kc32 : Keep h0 h31 [a_o] := Kc23.wr W31 (Or.inl (List.mem_of_getElem? (i := 0) rfl))
  have Zs33 : n0 ≤ h31.size := Nat.le_trans Zs24 (Keep.of_wr W31).1
  have N34 := Fr.snoc X31 N25 ga
  have Fw31 : Fld Z h31 a_o "fieldstone/ByteReader" "file" "Ljava/lang/String;" (.ref f_o) := Fq30.same W31
  obtain ⟨fs, hr, hrun, hended, hW, hsame⟩ := X31.leave (v := some (.ref a_o)) (fun h => by rw [Bd.returns] at h; cases h) (hlocks := BodyLoose.notSynchronized Bd)
  refine ⟨_, _, pre0 _ ?_, hrun, hended, _, _, rfl, ?_, ⟨_, rfl⟩, hW, hsame.mono (by decide) (by decide)⟩
  · show Steps p.tables e below (s₁.setTop (mkF m 0 #[.val (.ref a_o), .val (.ref b_o), .val (.int x_2), .val (.int x_3), .val (.ref f_o)] [])) _
    refine XS.aloadN X0.here hx rfl (hb hby own_d3_0) rfl rfl ?_
    show Steps p.tables e below (s₁.setTop (mkF m 1 #[.val (.ref a_o), .val (.ref b_o), .val (.int x_2), .val (.int x_3), .val (.ref f_o)] [(.ref a_o)])) _
    refine XS.aloadN X0.here hx rfl (hb hby own_d3_1) rfl rfl ?_
    show Steps p.tables e below (s₁.setTop (mkF m 2 #[.val (.ref a_o), .val (.ref b_o), .val (.int x_2), .val (.int x_3), .val (.ref f_o)] [(.ref b_o), (.ref a_o)])) _
    refine st4 _ ?_
    show Steps p.tables e below (T4.setTop (mkF m 5 #[.val (.ref a_o), .val (.ref b_o), .val (.int x_2), .val (.int x_3), .val (.ref f_o)] [])) _
    refine XS.aloadN X4.here hx rfl (hb hby own_d3_5) rfl rfl ?_
    show Steps p.tables e below (T4.setTop (mkF m 6 #[.val (.ref a_o), .val (.ref b_o), .val (.int x_2), .val (.int x_3), .val (.ref f_o)] [(.ref a_o)])) _
    refine XS.iloadN X4.here hx rfl (hb hby own_d3_6) rfl ?_
    show Steps p.tables e below (T4.setTop (mkF m 7 #[.val (.ref a_o), .val (.ref b_o), .val (.int x_2), .val (.int x_3), .val (.ref f_o)] [(.int x_2), (.ref a_o)])) _
    refine st13 _ ?_
    show Steps p.tables e below (T13.setTop (mkF m 10 #[.val (.ref a_o), .val (.ref b_o), .val (.int x_2), .val (.int x_3), .val (.ref f_o)] [])) _
    refine XS.aloadN X13.here hx rfl (hb hby own_d3_10) rfl rfl ?_
    show Steps p.tables e below (T13.setTop (mkF m 11 #[.val (.ref a_o), .val (.ref b_o), .val (.int x_2), .val (.int x_3), .val (.ref f_o)] [(.ref a_o)])) _
    refine XS.iloadN X13.here hx rfl (hb hby own_d3_11) rfl ?_
    show Steps p.tables e below (T13.setTop (mkF m 12 #[.val (.ref a_o), .val (.ref b_o), .val (.int x_2), .val (.int x_3), .val (.ref f_o)] [(.int x_3), (.ref a_o)])) _
    refine st22 _ ?_
    show Steps p.tables e below (T22.setTop (mkF m 15 #[.val (.ref a_o), .val (.ref b_o), .val (.int x_2), .val (.int x_3), .val (.ref f_o)] [])) _
    refine XS.aloadN X22.here hx rfl (hb hby own_d3_15) rfl rfl ?_
    show Steps p.tables e below (T22.setTop (mkF m 16 #[.val (.ref a_o), .val (.ref b_o), .val (.int x_2), .val (.int x_3), .val (.ref f_o)] [(.ref a_o)])) _
    refine XS.aload X22.here hx rfl (hb hby own_d3_16) rfl rfl ?_
    show Steps p.tables e below (T22.setTop (mkF m 18 #[.val (.ref a_o), .val (.ref b_o), .val (.int x_2), .val (.int x_3), .val (.ref f_o)] [(.ref f_o), (.ref a_o)])) _
    refine st31 _ ?_
    show Steps p.tables e below (T31.setTop (mkF m 21 #[.val (.ref a_o), .val (.ref b_o), .val (.int x_2), .val (.int x_3), .val (.ref f_o)] [])) _
    refine XS.aloadN X31.here hx rfl (hb hby own_d3_21) rfl rfl ?_
    show Steps p.tables e below (T31.setTop (mkF m 22 #[.val (.ref a_o), .val (.ref b_o), .val (.int x_2), .val (.int x_3), .val (.ref f_o)] [(.ref a_o)])) _
    jvm_step X31.here [X31.here.top, hx, (hb hby own_d3_22), X31.method', Bd.returns, Value.isRef, FieldType.isReference]
    first | (intro acts; rw [hr _ acts rfl rfl rfl]) | rw [hr _ _ rfl rfl rfl]
    exact Steps.refl _
  · show Qown_reset Z a_o b_o x_2 x_3 f_o h0 n0 _ T31.heap _
    rw [e31]
    have Fq37 : Exa Z h31 a_o "fieldstone/ByteReader" := (Fq29.wr W31)
    have Fq38 : Fld Z h31 a_o "fieldstone/ByteReader" "bytes" "[B" (.ref b_o) := (((Fw4.other W13 (Or.inr (slot_ne (Or.inl (hw _ (List.mem_of_getElem? (i := 24) rfl))) (Or.inl (hw _ (List.mem_of_getElem? (i := 26) rfl))) (by decide) (t := (.array .byte)) (t' := .int) (by decide) (by decide)))).other W22 (Or.inr (slot_ne (Or.inl (hw _ (List.mem_of_getElem? (i := 24) rfl))) (Or.inl (hw _ (List.mem_of_getElem? (i := 28) rfl))) (by decide) (t := (.array .byte)) (t' := .int) (by decide) (by decide)))).other W31 (Or.inr (slot_ne (Or.inl (hw _ (List.mem_of_getElem? (i := 24) rfl))) (Or.inl (hw _ (List.mem_of_getElem? (i := 30) rfl))) (by decide) (t := (.array .byte)) (t' := (.object "java/lang/String")) (by decide) (by decide))))
    have Fq39 : Fld Z h31 a_o "fieldstone/ByteReader" "pos" "I" (.int x_2) := ((Fw13.other W22 (Or.inr (slot_ne (Or.inl (hw _ (List.mem_of_getElem? (i := 26) rfl))) (Or.inl (hw _ (List.mem_of_getElem? (i := 28) rfl))) (by decide) (t := .int) (t' := .int) (by decide) (by decide)))).other W31 (Or.inr (slot_ne (Or.inl (hw _ (List.mem_of_getElem? (i := 26) rfl))) (Or.inl (hw _ (List.mem_of_getElem? (i := 30) rfl))) (by decide) (t := .int) (t' := (.object "java/lang/String")) (by decide) (by decide))))
    have Fq40 : Fld Z h31 a_o "fieldstone/ByteReader" "limit" "I" (.int x_3) := (Fw22.other W31 (Or.inr (slot_ne (Or.inl (hw _ (List.mem_of_getElem? (i := 28) rfl))) (Or.inl (hw _ (List.mem_of_getElem? (i := 30) rfl))) (by decide) (t := .int) (t' := (.object "java/lang/String")) (by decide) (by decide))))
    exact ⟨rfl, N34, Kc32, Fq37, Fq38, Fq39, Fq40⟩
theorem own_ef_own_bri (m : MethodId) (a_o : Addr) (b_o : Addr) (x_2 : Int32) (x_3 : Int32) (f_o : Addr) : entryFrame m #[(.ref a_o), (.ref b_o), (.int x_2), (.int x_3), (.ref f_o)] 5 = mkF m 0 #[.val (.ref a_o), .val (.ref b_o), .val (.int x_2), .val (.int x_3), .val (.ref f_o)] [] := by first | (simp [entryFrame, mkF, argsToLocals, Value.category]; done) | rfl
theorem own_pd0 : parseMethodDescriptor "([BIILjava/lang/String;)Lfieldstone/ByteReader;" = some ⟨[(.array .byte), .int, .int, (.object "java/lang/String")], some (.object "fieldstone/ByteReader")⟩ := by decide +kernel
theorem own_d1_0 : decode prog_2_method_1_code 0 = .ok (.aload_n 0, 1) := by decide +kernel
theorem own_d1_1 : decode prog_2_method_1_code 1 = .ok (.invokespecial 1, 3) := by decide +kernel
theorem own_d1_4 : decode prog_2_method_1_code 4 = .ok (.aload_n 0, 1) := by decide +kernel
theorem own_d1_5 : decode prog_2_method_1_code 5 = .ok (.aload_n 1, 1) := by decide +kernel
theorem own_d1_6 : decode prog_2_method_1_code 6 = .ok (.iload_n 2, 1) := by decide +kernel
theorem own_d1_7 : decode prog_2_method_1_code 7 = .ok (.iload_n 3, 1) := by decide +kernel
theorem own_d1_8 : decode prog_2_method_1_code 8 = .ok (.aload 4, 2) := by decide +kernel
theorem own_d1_10 : decode prog_2_method_1_code 10 = .ok (.invokevirtual 7, 3) := by decide +kernel
theorem own_d1_13 : decode prog_2_method_1_code 13 = .ok (.pop, 1) := by decide +kernel
theorem own_d1_14 : decode prog_2_method_1_code 14 = .ok (.return_, 1) := by decide +kernel
def Qown_bri (Z : State) (a_o : Addr) (b_o : Addr) (x_2 : Int32) (x_3 : Int32) (f_o : Addr) (h0 : Heap) (n0 : Nat) (v : Option Value) (h : Heap) (L : List Loc) : Prop := v = none ∧ Fr n0 L ∧ Keep h0 h [a_o] ∧ Exa Z h a_o "fieldstone/ByteReader" ∧ Fld Z h a_o "fieldstone/ByteReader" "bytes" "[B" (.ref b_o) ∧ Fld Z h a_o "fieldstone/ByteReader" "pos" "I" (.int x_2) ∧ Fld Z h a_o "fieldstone/ByteReader" "limit" "I" (.int x_3)
set_option maxRecDepth 65536 in
set_option maxHeartbeats 40000000 in
theorem own_bri (l : Launch) (Z : State) (a0 : Array Value) (hw : ∀ d ∈ tables_1, d.before a0 Z = true) (ws : List Jvm.Cond) (a_o : Addr) (b_o : Addr) (x_2 : Int32) (x_3 : Int32) (f_o : Addr) (h0 : Heap) (n0 : Nat) (Z0 : n0 ≤ h0.size) (Eo : Exa Z h0 a_o "fieldstone/ByteReader") (F_bytes : Fld Z h0 a_o "fieldstone/ByteReader" "bytes" "[B" .null) (F_pos : Fld Z h0 a_o "fieldstone/ByteReader" "pos" "I" (.int (0 : Int32))) (F_limit : Fld Z h0 a_o "fieldstone/ByteReader" "limit" "I" (.int (0 : Int32))) (F_file : Fld Z h0 a_o "fieldstone/ByteReader" "file" "Ljava/lang/String;" .null) (ga : n0 ≤ a_o) :
    MetFree l (⟨"fieldstone/ByteReader", "<init>", "([BIILjava/lang/String;)V"⟩ : MethodName) (head1 (Jvm.Cond.code (⟨"fieldstone/ByteReader", "<init>", "([BIILjava/lang/String;)V"⟩ : MethodName) prog_2_method_1_code 5 none :: ws) ({ frames := 1, cells := 0, slots := 0, locals := 16 } : Room)) (fun a U => a = #[(.ref a_o), (.ref b_o), (.int x_2), (.int x_3), (.ref f_o)] ∧ Z.Warmed39 U.vm ∧ U.heap = h0) (fun _ _ _ _ _ => True) (fun _ U o U' => ∃ v L, o = .returned v ∧ Qown_bri Z a_o b_o x_2 x_3 f_o h0 n0 v U'.heap L ∧ FrameEnd U o U' L ({ frames := 1, cells := 0, slots := 0, locals := 16 } : Room).cells ({ frames := 1, cells := 0, slots := 0, locals := 16 } : Room).slots) := by
  refine MetFree.of_bodySF (plainFor_of_name own_pn0) hisR ?_
  intro p e s m args below meth c s₁ Bd hml0 hP hK
  obtain ⟨rfl, hZ, hh⟩ := hP
  have hx := Bd.exec
  have hby := Bd.bytes
  have hml : c.maxLocals = 5 := hml0
  have hown : s.vm.findClass "fieldstone/ByteReader" = some m.cls := findClass_of_methodNamed Bd.named
  have hnm := (name_of_methodNamed Bd.named Bd.method).1
  have X0 : Stand p l e ({ frames := 1, cells := 0, slots := 0, locals := 16 } : Room) s m #[(.ref a_o), (.ref b_o), (.int x_2), (.int x_3), (.ref f_o)] below meth c s₁ [] 0 0 := Stand.of_body Bd
  have e0 : s₁.heap = h0 := by rw [← hh, Bd.state]; rfl
  have N0 := Fr.nil n0
  have pre0 : ∀ t, Steps p.tables e below (s₁.setTop (mkF m 0 #[.val (.ref a_o), .val (.ref b_o), .val (.int x_2), .val (.int x_3), .val (.ref f_o)] [])) t → Steps p.tables e below (s₁.setTop (entryFrame m #[(.ref a_o), (.ref b_o), (.int x_2), (.int x_3), (.ref f_o)] 5)) t := fun t k => castTop (own_ef_own_bri m a_o b_o x_2 x_3 f_o) k
  obtain ⟨T3, X3, e3, st3⟩ := initO X0 hx hZ hown (hw _ (List.mem_of_getElem? (i := 15) rfl)) (hw _ (List.mem_of_getElem? (i := 16) rfl)) (hw _ (List.mem_of_getElem? (i := 17) rfl)) e0 (g := (mkF m 1 #[.val (.ref a_o), .val (.ref b_o), .val (.int x_2), .val (.int x_3), .val (.ref f_o)] [(.ref a_o)])) rfl (by rw [hml]; rfl) rfl (hb hby own_d1_1) (by decide) (W := 0) (by show 2 * 0 + _ ≤ _; exact Nat.le_of_eq rfl) (by decide)
  obtain ⟨cq10, kq10, q10a, q10b, q10c⟩ := isOf hZ e3 Eo
  obtain ⟨_, _, ⟨T10, L10, k10, n10⟩, -, X10, ⟨Lc10, hQ10, l10, y10, z10⟩, st10⟩ := X3.virtualBack hx (y := (⟨"fieldstone/ByteReader", "reset", "([BIILjava/lang/String;)Lfieldstone/ByteReader;"⟩ : MethodName)) (z := (⟨"fieldstone/ByteReader", "reset", "([BIILjava/lang/String;)Lfieldstone/ByteReader;"⟩ : MethodName)) hown (mvT hZ (hw _ (List.mem_of_getElem? (i := 18) rfl))) (mvT hZ (hw _ (List.mem_of_getElem? (i := 19) rfl))) (notFace_of_selects (args := #[]) (mvT hZ (hw _ (List.mem_of_getElem? (i := 21) rfl)))) (mvT hZ (hw _ (List.mem_of_getElem? (i := 21) rfl))) (mvT hZ (hw _ (List.mem_of_getElem? (i := 20) rfl))) (by decide) (backOf (W := 0) (own_reset l Z a0 hw [] a_o b_o x_2 x_3 f_o h0 n0 Z0 Eo F_bytes F_pos F_limit F_file ga) hZ (hw _ (List.mem_of_getElem? (i := 22) rfl)) (hw _ (List.mem_of_getElem? (i := 4) rfl)) (by decide) (by decide)) q10a q10c (g := (mkF m 10 #[.val (.ref a_o), .val (.ref b_o), .val (.int x_2), .val (.int x_3), .val (.ref f_o)] [(.ref f_o), (.int x_3), (.int x_2), (.ref b_o), (.ref a_o)])) rfl (by rw [hml]; rfl) (Steps.refl _) (argsL := [(.ref b_o), (.int x_2), (.int x_3), (.ref f_o)]) (rest := []) (lenOf own_pd0 rfl) rfl (by show 2 * 0 + _ ≤ _; exact Nat.le_of_eq rfl) (hb hby own_d1_10) (fun _ _ => ⟨rfl, e3, (by decide : 0 + 0 ≤ _), (by decide : 0 + 0 ≤ _)⟩)
  dsimp only [Pt.U, Pt.locs, Pt.cells, Pt.slots] at X10 l10 y10 z10 st10 hQ10
  rw [l10, y10, z10] at X10
  obtain ⟨rfl, Nq10, K10, Pf10_0, Pf10_1, Pf10_2, Pf10_3⟩ := hQ10
  have N11 := Fr.app N0 Nq10
  have Kc12 : Keep h0 T10.heap [a_o] := (Keep.refl h0 [a_o]).trans K10 (allS (Or.inl (List.mem_of_getElem? (i := 0) rfl)) all0)
  have Zs13 : n0 ≤ T10.heap.size := Nat.le_trans Z0 K10.1
  obtain ⟨fs, hr, hrun, hended, hW, hsame⟩ := X10.leave (v := none) (fun _ => rfl) (hlocks := BodyLoose.notSynchronized Bd)
  refine ⟨_, _, pre0 _ ?_, hrun, hended, _, _, rfl, ?_, ⟨_, rfl⟩, hW, hsame.mono (by decide) (by decide)⟩
  · show Steps p.tables e below (s₁.setTop (mkF m 0 #[.val (.ref a_o), .val (.ref b_o), .val (.int x_2), .val (.int x_3), .val (.ref f_o)] [])) _
    refine XS.aloadN X0.here hx rfl (hb hby own_d1_0) rfl rfl ?_
    show Steps p.tables e below (s₁.setTop (mkF m 1 #[.val (.ref a_o), .val (.ref b_o), .val (.int x_2), .val (.int x_3), .val (.ref f_o)] [(.ref a_o)])) _
    refine st3 _ ?_
    show Steps p.tables e below (T3.setTop (mkF m 4 #[.val (.ref a_o), .val (.ref b_o), .val (.int x_2), .val (.int x_3), .val (.ref f_o)] [])) _
    refine XS.aloadN X3.here hx rfl (hb hby own_d1_4) rfl rfl ?_
    show Steps p.tables e below (T3.setTop (mkF m 5 #[.val (.ref a_o), .val (.ref b_o), .val (.int x_2), .val (.int x_3), .val (.ref f_o)] [(.ref a_o)])) _
    refine XS.aloadN X3.here hx rfl (hb hby own_d1_5) rfl rfl ?_
    show Steps p.tables e below (T3.setTop (mkF m 6 #[.val (.ref a_o), .val (.ref b_o), .val (.int x_2), .val (.int x_3), .val (.ref f_o)] [(.ref b_o), (.ref a_o)])) _
    refine XS.iloadN X3.here hx rfl (hb hby own_d1_6) rfl ?_
    show Steps p.tables e below (T3.setTop (mkF m 7 #[.val (.ref a_o), .val (.ref b_o), .val (.int x_2), .val (.int x_3), .val (.ref f_o)] [(.int x_2), (.ref b_o), (.ref a_o)])) _
    refine XS.iloadN X3.here hx rfl (hb hby own_d1_7) rfl ?_
    show Steps p.tables e below (T3.setTop (mkF m 8 #[.val (.ref a_o), .val (.ref b_o), .val (.int x_2), .val (.int x_3), .val (.ref f_o)] [(.int x_3), (.int x_2), (.ref b_o), (.ref a_o)])) _
    refine XS.aload X3.here hx rfl (hb hby own_d1_8) rfl rfl ?_
    show Steps p.tables e below (T3.setTop (mkF m 10 #[.val (.ref a_o), .val (.ref b_o), .val (.int x_2), .val (.int x_3), .val (.ref f_o)] [(.ref f_o), (.int x_3), (.int x_2), (.ref b_o), (.ref a_o)])) _
    refine st10.trans ?_
    show Steps p.tables e below (T10.setTop (mkF m 13 #[.val (.ref a_o), .val (.ref b_o), .val (.int x_2), .val (.int x_3), .val (.ref f_o)] [(.ref a_o)])) _
    refine XS.pop X10.here hx rfl (hb hby own_d1_13) rfl rfl ?_
    show Steps p.tables e below (T10.setTop (mkF m 14 #[.val (.ref a_o), .val (.ref b_o), .val (.int x_2), .val (.int x_3), .val (.ref f_o)] [])) _
    exact X10.returnOut hx Bd.returns (hb hby own_d1_14) hr
  · show Qown_bri Z a_o b_o x_2 x_3 f_o h0 n0 _ T10.heap _
    exact ⟨rfl, N11, Kc12, Pf10_0, Pf10_1, Pf10_2, Pf10_3⟩
theorem own_pn1 : plainName "fieldstone/ByteReader$PackedInts" = true := by first | (simp [plainName, overriddenIn]; done) | decide +kernel
theorem own_ef_own_pii (m : MethodId) (p_o : Addr) : entryFrame m #[(.ref p_o)] 1 = mkF m 0 #[.val (.ref p_o)] [] := by first | (simp [entryFrame, mkF, argsToLocals, Value.category]; done) | rfl
theorem own_d4_0 : decode prog_3_method_1_code 0 = .ok (.aload_n 0, 1) := by decide +kernel
theorem own_d4_1 : decode prog_3_method_1_code 1 = .ok (.invokespecial 1, 3) := by decide +kernel
theorem own_d4_4 : decode prog_3_method_1_code 4 = .ok (.aload_n 0, 1) := by decide +kernel
theorem own_d4_5 : decode prog_3_method_1_code 5 = .ok (.iconst 0, 1) := by decide +kernel
theorem own_d4_6 : decode prog_3_method_1_code 6 = .ok (.newarray .byte, 2) := by decide +kernel
theorem own_d4_8 : decode prog_3_method_1_code 8 = .ok (.putfield 7, 3) := by decide +kernel
theorem own_d4_11 : decode prog_3_method_1_code 11 = .ok (.return_, 1) := by decide +kernel
def Qown_pii (Z : State) (p_o : Addr) (h0 : Heap) (n0 : Nat) (v : Option Value) (h : Heap) (L : List Loc) : Prop := ∃ q_o : Addr, ∃ k_q : ClassId, v = none ∧ Fr n0 L ∧ h0.size ≤ q_o ∧ Keep h0 h [p_o] ∧ Exa Z h p_o "fieldstone/ByteReader$PackedInts" ∧ Fld Z h p_o "fieldstone/ByteReader$PackedInts" "packed" "[B" (.ref q_o) ∧ Fld Z h p_o "fieldstone/ByteReader$PackedInts" "bits" "I" (.int (0 : Int32)) ∧ Fld Z h p_o "fieldstone/ByteReader$PackedInts" "alike" "I" (.int (0 : Int32)) ∧ Arv Z h q_o k_q .byte (0 : Int32) [] (.int (0 : Int32))
set_option maxRecDepth 65536 in
set_option maxHeartbeats 40000000 in
theorem own_pii (l : Launch) (Z : State) (a0 : Array Value) (hw : ∀ d ∈ tables_1, d.before a0 Z = true) (ws : List Jvm.Cond) (p_o : Addr) (h0 : Heap) (n0 : Nat) (Z0 : n0 ≤ h0.size) (Eo : Exa Z h0 p_o "fieldstone/ByteReader$PackedInts") (F_p : Fld Z h0 p_o "fieldstone/ByteReader$PackedInts" "packed" "[B" .null) (F_b : Fld Z h0 p_o "fieldstone/ByteReader$PackedInts" "bits" "I" (.int (0 : Int32))) (F_a : Fld Z h0 p_o "fieldstone/ByteReader$PackedInts" "alike" "I" (.int (0 : Int32))) (ga : n0 ≤ p_o) :
    MetFree l (⟨"fieldstone/ByteReader$PackedInts", "<init>", "()V"⟩ : MethodName) (head1 (Jvm.Cond.code (⟨"fieldstone/ByteReader$PackedInts", "<init>", "()V"⟩ : MethodName) prog_3_method_1_code 1 none :: ws) ({ frames := 1, cells := 1, slots := 0, locals := 12 } : Room)) (fun a U => a = #[(.ref p_o)] ∧ Z.Warmed39 U.vm ∧ U.heap = h0) (fun _ _ _ _ _ => True) (fun _ U o U' => ∃ v L, o = .returned v ∧ Qown_pii Z p_o h0 n0 v U'.heap L ∧ FrameEnd U o U' L ({ frames := 1, cells := 1, slots := 0, locals := 12 } : Room).cells ({ frames := 1, cells := 1, slots := 0, locals := 12 } : Room).slots) := by
  refine MetFree.of_bodySF (plainFor_of_name own_pn1) hisR ?_
  intro p e s m args below meth c s₁ Bd hml0 hP hK
  obtain ⟨rfl, hZ, hh⟩ := hP
  have hx := Bd.exec
  have hby := Bd.bytes
  have hml : c.maxLocals = 1 := hml0
  have hown : s.vm.findClass "fieldstone/ByteReader$PackedInts" = some m.cls := findClass_of_methodNamed Bd.named
  have hnm := (name_of_methodNamed Bd.named Bd.method).1
  have X0 : Stand p l e ({ frames := 1, cells := 1, slots := 0, locals := 12 } : Room) s m #[(.ref p_o)] below meth c s₁ [] 0 0 := Stand.of_body Bd
  have e0 : s₁.heap = h0 := by rw [← hh, Bd.state]; rfl
  have N0 := Fr.nil n0
  have pre0 : ∀ t, Steps p.tables e below (s₁.setTop (mkF m 0 #[.val (.ref p_o)] [])) t → Steps p.tables e below (s₁.setTop (entryFrame m #[(.ref p_o)] 1)) t := fun t k => castTop (own_ef_own_pii m p_o) k
  obtain ⟨T3, X3, e3, st3⟩ := initO X0 hx hZ hown (hw _ (List.mem_of_getElem? (i := 37) rfl)) (hw _ (List.mem_of_getElem? (i := 16) rfl)) (hw _ (List.mem_of_getElem? (i := 17) rfl)) e0 (g := (mkF m 1 #[.val (.ref p_o)] [(.ref p_o)])) rfl (by rw [hml]; rfl) rfl (hb hby own_d4_1) (by decide) (W := 0) (by show 2 * 0 + _ ≤ _; exact Nat.le_of_eq rfl) (by decide)
  obtain ⟨T7, h7, k7, X7, e7, E7, A7, Y7, st7⟩ := newPE X3 hx hZ (hw _ (List.mem_of_getElem? (i := 0) rfl)) e3 (g := (mkF m 6 #[.val (.ref p_o)] [(.int (0 : Int32)), (.ref p_o)])) rfl (hb hby own_d4_6) rfl (by decide) (cap := 0) (by decide) (by decide) (by decide) (by decide) (ad := "[B") (by first | rfl | decide)
  obtain ⟨b7, g7⟩ : ∃ z, z = h0.size := ⟨_, rfl⟩
  rw [← g7] at A7 Y7 st7
  have Ne8 : p_o ≠ b7 := Nat.ne_of_lt (Nat.lt_of_lt_of_le Eo.lt (Nat.le_of_eq g7.symm))
  have Ge9 : n0 ≤ b7 := Nat.le_trans Z0 (Nat.le_of_eq g7.symm)
  have Sz10 : h0.size ≤ b7 := Nat.le_trans (Keep.refl h0 [p_o]).1 (Nat.le_of_eq g7.symm)
  have Kc11 : Keep h0 h7 [p_o] := (Keep.refl h0 [p_o]).ext E7
  have Zs12 : n0 ≤ h7.size := (Nat.le_trans Z0 E7.1)
  have V7 : Arv Z h7 b7 k7 .byte (0 : Int32) [] (.int (0 : Int32)) := (Arv.new A7 (by decide)).pad (pad_rep [] (.int (0 : Int32)) 0)
  have Fq14 : Exa Z h7 p_o "fieldstone/ByteReader$PackedInts" := (Eo.ext E7)
  have Fq15 : Fld Z h7 p_o "fieldstone/ByteReader$PackedInts" "packed" "[B" .null := (F_p.ext E7)
  obtain ⟨T16, h16, X16, e16, W16, st16⟩ := putF X7 hx hZ hown (host := "") (Or.inl (hw _ (List.mem_of_getElem? (i := 38) rfl))) Via.refl e7 Fq15 Fq14 (Or.inl (hw _ (List.mem_of_getElem? (i := 39) rfl))) (hw _ (List.mem_of_getElem? (i := 32) rfl)) (ty := (.array .byte)) (by decide) rfl rfl (g := (mkF m 8 #[.val (.ref p_o)] [(.ref b7), (.ref p_o)])) rfl rfl (hb hby own_d4_8)
  have Kc17 : Keep h0 h16 [p_o] := Kc11.wr W16 (Or.inl (List.mem_of_getElem? (i := 0) rfl))
  have Zs18 : n0 ≤ h16.size := Nat.le_trans Zs12 (Keep.of_wr W16).1
  have N19 := Fr.snoc X16 N0 ga
  have Fw16 : Fld Z h16 p_o "fieldstone/ByteReader$PackedInts" "packed" "[B" (.ref b7) := Fq15.same W16
  obtain ⟨fs, hr, hrun, hended, hW, hsame⟩ := X16.leave (v := none) (fun _ => rfl) (hlocks := BodyLoose.notSynchronized Bd)
  refine ⟨_, _, pre0 _ ?_, hrun, hended, _, _, rfl, ?_, ⟨_, rfl⟩, hW, hsame.mono (by decide) (by decide)⟩
  · show Steps p.tables e below (s₁.setTop (mkF m 0 #[.val (.ref p_o)] [])) _
    refine XS.aloadN X0.here hx rfl (hb hby own_d4_0) rfl rfl ?_
    show Steps p.tables e below (s₁.setTop (mkF m 1 #[.val (.ref p_o)] [(.ref p_o)])) _
    refine st3 _ ?_
    show Steps p.tables e below (T3.setTop (mkF m 4 #[.val (.ref p_o)] [])) _
    refine XS.aloadN X3.here hx rfl (hb hby own_d4_4) rfl rfl ?_
    show Steps p.tables e below (T3.setTop (mkF m 5 #[.val (.ref p_o)] [(.ref p_o)])) _
    refine XS.iconst X3.here hx rfl (hb hby own_d4_5) ?_
    show Steps p.tables e below (T3.setTop (mkF m 6 #[.val (.ref p_o)] [(.int (0 : Int32)), (.ref p_o)])) _
    refine st7 _ ?_
    show Steps p.tables e below (T7.setTop (mkF m 8 #[.val (.ref p_o)] [(.ref b7), (.ref p_o)])) _
    refine st16 _ ?_
    show Steps p.tables e below (T16.setTop (mkF m 11 #[.val (.ref p_o)] [])) _
    exact X16.returnOut hx Bd.returns (hb hby own_d4_11) hr
  · show Qown_pii Z p_o h0 n0 _ T16.heap _
    rw [e16]
    have Fq21 : Exa Z h16 p_o "fieldstone/ByteReader$PackedInts" := (Fq14.wr W16)
    have Fq22 : Fld Z h16 p_o "fieldstone/ByteReader$PackedInts" "bits" "I" (.int (0 : Int32)) := ((F_b.ext E7).other W16 (Or.inr (slot_ne (Or.inl (hw _ (List.mem_of_getElem? (i := 61) rfl))) (Or.inl (hw _ (List.mem_of_getElem? (i := 39) rfl))) (by decide) (t := .int) (t' := (.array .byte)) (by decide) (by decide))))
    have Fq23 : Fld Z h16 p_o "fieldstone/ByteReader$PackedInts" "alike" "I" (.int (0 : Int32)) := ((F_a.ext E7).other W16 (Or.inr (slot_ne (Or.inl (hw _ (List.mem_of_getElem? (i := 63) rfl))) (Or.inl (hw _ (List.mem_of_getElem? (i := 39) rfl))) (by decide) (t := .int) (t' := (.array .byte)) (by decide) (by decide))))
    have Fq24 : Arv Z h16 b7 k7 .byte (0 : Int32) [] (.int (0 : Int32)) := (V7.other W16 (Ne.symm Ne8))
    exact ⟨b7, k7, rfl, N19, Sz10, Kc17, Fq21, Fw16, Fq22, Fq23, Fq24⟩
theorem own_ef_own_rl1 (m : MethodId) (a_o : Addr) : entryFrame m #[(.ref a_o)] 5 = mkF m 0 #[.val (.ref a_o), .unset, .unset, .unset, .unset] [] := by first | (simp [entryFrame, mkF, argsToLocals, Value.category]; done) | rfl
theorem own_d7_0 : decode prog_2_method_11_code 0 = .ok (.lconst 0, 1) := by decide +kernel
theorem own_d7_1 : decode prog_2_method_11_code 1 = .ok (.lstore_n 1, 1) := by decide +kernel
theorem own_d7_2 : decode prog_2_method_11_code 2 = .ok (.iconst 0, 1) := by decide +kernel
theorem own_d7_3 : decode prog_2_method_11_code 3 = .ok (.istore_n 3, 1) := by decide +kernel
theorem own_d7_4 : decode prog_2_method_11_code 4 = .ok (.iload_n 3, 1) := by decide +kernel
theorem own_d7_5 : decode prog_2_method_11_code 5 = .ok (.bipush 64, 2) := by decide +kernel
theorem own_d7_7 : decode prog_2_method_11_code 7 = .ok (.if_icmp .ge 67, 3) := by decide +kernel
theorem own_d7_10 : decode prog_2_method_11_code 10 = .ok (.aload_n 0, 1) := by decide +kernel
theorem own_d7_11 : decode prog_2_method_11_code 11 = .ok (.getfield 17, 3) := by decide +kernel
theorem own_d7_14 : decode prog_2_method_11_code 14 = .ok (.aload_n 0, 1) := by decide +kernel
theorem own_d7_15 : decode prog_2_method_11_code 15 = .ok (.getfield 21, 3) := by decide +kernel
theorem own_d7_18 : decode prog_2_method_11_code 18 = .ok (.if_icmp .ne 10, 3) := by decide +kernel
theorem own_d7_28 : decode prog_2_method_11_code 28 = .ok (.aload_n 0, 1) := by decide +kernel
theorem own_d7_29 : decode prog_2_method_11_code 29 = .ok (.getfield 13, 3) := by decide +kernel
theorem own_d7_32 : decode prog_2_method_11_code 32 = .ok (.aload_n 0, 1) := by decide +kernel
theorem own_d7_33 : decode prog_2_method_11_code 33 = .ok (.dup, 1) := by decide +kernel
theorem own_d7_34 : decode prog_2_method_11_code 34 = .ok (.getfield 17, 3) := by decide +kernel
theorem own_d7_37 : decode prog_2_method_11_code 37 = .ok (.dup_x1, 1) := by decide +kernel
theorem own_d7_38 : decode prog_2_method_11_code 38 = .ok (.iconst 1, 1) := by decide +kernel
theorem own_d7_39 : decode prog_2_method_11_code 39 = .ok (.iadd, 1) := by decide +kernel
theorem own_d7_40 : decode prog_2_method_11_code 40 = .ok (.putfield 17, 3) := by decide +kernel
theorem own_d7_43 : decode prog_2_method_11_code 43 = .ok (.baload, 1) := by decide +kernel
theorem own_d7_44 : decode prog_2_method_11_code 44 = .ok (.istore 4, 2) := by decide +kernel
theorem own_d7_46 : decode prog_2_method_11_code 46 = .ok (.lload_n 1, 1) := by decide +kernel
theorem own_d7_47 : decode prog_2_method_11_code 47 = .ok (.iload 4, 2) := by decide +kernel
theorem own_d7_49 : decode prog_2_method_11_code 49 = .ok (.bipush 127, 2) := by decide +kernel
theorem own_d7_51 : decode prog_2_method_11_code 51 = .ok (.iand, 1) := by decide +kernel
theorem own_d7_52 : decode prog_2_method_11_code 52 = .ok (.i2l, 1) := by decide +kernel
theorem own_d7_53 : decode prog_2_method_11_code 53 = .ok (.iload_n 3, 1) := by decide +kernel
theorem own_d7_54 : decode prog_2_method_11_code 54 = .ok (.lshl, 1) := by decide +kernel
theorem own_d7_55 : decode prog_2_method_11_code 55 = .ok (.lor, 1) := by decide +kernel
theorem own_d7_56 : decode prog_2_method_11_code 56 = .ok (.lstore_n 1, 1) := by decide +kernel
theorem own_d7_57 : decode prog_2_method_11_code 57 = .ok (.iload 4, 2) := by decide +kernel
theorem own_d7_59 : decode prog_2_method_11_code 59 = .ok (.sipush 128, 3) := by decide +kernel
theorem own_d7_62 : decode prog_2_method_11_code 62 = .ok (.iand, 1) := by decide +kernel
theorem own_d7_63 : decode prog_2_method_11_code 63 = .ok (.ifCond .ne 5, 3) := by decide +kernel
theorem own_d7_66 : decode prog_2_method_11_code 66 = .ok (.lload_n 1, 1) := by decide +kernel
theorem own_d7_67 : decode prog_2_method_11_code 67 = .ok (.lreturn, 1) := by decide +kernel
def Qown_rl1 (Z : State) (a_o : Addr) (b_o : Addr) (k_b : ClassId) (y_0 : Int32) (v_1 : Value) (v_2 : Value) (v_3 : Value) (v_4 : Value) (v_5 : Value) (v_6 : Value) (v_7 : Value) (v_8 : Value) (v_9 : Value) (v_10 : Value) (v_11 : Value) (v_12 : Value) (v_13 : Value) (v_14 : Value) (v_15 : Value) (v_16 : Value) (h0 : Heap) (n0 : Nat) (v : Option Value) (h : Heap) (L : List Loc) : Prop := v = some (.long (own_vl1 y_0)) ∧ Fr n0 L ∧ Keep h0 h [a_o] ∧ Exa Z h a_o "fieldstone/ByteReader" ∧ Fld Z h a_o "fieldstone/ByteReader" "bytes" "[B" (.ref b_o) ∧ Fld Z h a_o "fieldstone/ByteReader" "pos" "I" (.int (1 : Int32)) ∧ Fld Z h a_o "fieldstone/ByteReader" "limit" "I" (.int (17 : Int32))
set_option maxRecDepth 65536 in
set_option maxHeartbeats 40000000 in
theorem own_rl1 (l : Launch) (Z : State) (a0 : Array Value) (hw : ∀ d ∈ tables_1, d.before a0 Z = true) (ws : List Jvm.Cond) (a_o : Addr) (b_o : Addr) (k_b : ClassId) (y_0 : Int32) (v_1 : Value) (v_2 : Value) (v_3 : Value) (v_4 : Value) (v_5 : Value) (v_6 : Value) (v_7 : Value) (v_8 : Value) (v_9 : Value) (v_10 : Value) (v_11 : Value) (v_12 : Value) (v_13 : Value) (v_14 : Value) (v_15 : Value) (v_16 : Value) (h0 : Heap) (n0 : Nat) (Z0 : n0 ≤ h0.size) (Eo : Exa Z h0 a_o "fieldstone/ByteReader") (F_b : Fld Z h0 a_o "fieldstone/ByteReader" "bytes" "[B" (.ref b_o)) (F_p : Fld Z h0 a_o "fieldstone/ByteReader" "pos" "I" (.int (0 : Int32))) (F_l : Fld Z h0 a_o "fieldstone/ByteReader" "limit" "I" (.int (17 : Int32))) (V_b : Arv Z h0 b_o k_b .byte (17 : Int32) [(.int y_0), v_1, v_2, v_3, v_4, v_5, v_6, v_7, v_8, v_9, v_10, v_11, v_12, v_13, v_14, v_15, v_16] (.int (0 : Int32))) (ga : n0 ≤ a_o) (en1 : b_o ≠ a_o) (hy0 : (y_0 &&& (128 : Int32)) = (0 : Int32)) :
    MetFree l (⟨"fieldstone/ByteReader", "readVarLong", "()J"⟩ : MethodName) (head1 (Jvm.Cond.code (⟨"fieldstone/ByteReader", "readVarLong", "()J"⟩ : MethodName) prog_2_method_11_code 5 (some .long) :: ws) ({ frames := 0, cells := 0, slots := 0, locals := 0 } : Room)) (fun a U => a = #[(.ref a_o)] ∧ Z.Warmed39 U.vm ∧ U.heap = h0) (fun _ _ _ _ _ => True) (fun _ U o U' => ∃ v L, o = .returned v ∧ Qown_rl1 Z a_o b_o k_b y_0 v_1 v_2 v_3 v_4 v_5 v_6 v_7 v_8 v_9 v_10 v_11 v_12 v_13 v_14 v_15 v_16 h0 n0 v U'.heap L ∧ FrameEnd U o U' L ({ frames := 0, cells := 0, slots := 0, locals := 0 } : Room).cells ({ frames := 0, cells := 0, slots := 0, locals := 0 } : Room).slots) := by
  refine MetFree.of_bodySF (plainFor_of_name own_pn0) hisR ?_
  intro p e s m args below meth c s₁ Bd hml0 hP hK
  obtain ⟨rfl, hZ, hh⟩ := hP
  have hx := Bd.exec
  have hby := Bd.bytes
  have hml : c.maxLocals = 5 := hml0
  have hown : s.vm.findClass "fieldstone/ByteReader" = some m.cls := findClass_of_methodNamed Bd.named
  have hnm := (name_of_methodNamed Bd.named Bd.method).1
  have X0 : Stand p l e ({ frames := 0, cells := 0, slots := 0, locals := 0 } : Room) s m #[(.ref a_o)] below meth c s₁ [] 0 0 := Stand.of_body Bd
  have e0 : s₁.heap = h0 := by rw [← hh, Bd.state]; rfl
  have N0 := Fr.nil n0
  have pre0 : ∀ t, Steps p.tables e below (s₁.setTop (mkF m 0 #[.val (.ref a_o), .unset, .unset, .unset, .unset] [])) t → Steps p.tables e below (s₁.setTop (entryFrame m #[(.ref a_o)] 5)) t := fun t k => castTop (own_ef_own_rl1 m a_o) k
  obtain ⟨T10, X10, e10, st10⟩ := getF X0 hx hZ hown (host := "") (Or.inl (hw _ (List.mem_of_getElem? (i := 25) rfl))) Via.refl e0 F_p (g := (mkF m 11 #[.val (.ref a_o), .val (.long (0 : Int64)), .second, .val (.int (0 : Int32)), .unset] [(.ref a_o)])) rfl rfl (hb hby own_d7_11)
  obtain ⟨T13, X13, e13, st13⟩ := getF X10 hx hZ hown (host := "") (Or.inl (hw _ (List.mem_of_getElem? (i := 27) rfl))) Via.refl e10 F_l (g := (mkF m 15 #[.val (.ref a_o), .val (.long (0 : Int64)), .second, .val (.int (0 : Int32)), .unset] [(.ref a_o), (.int (0 : Int32))])) rfl rfl (hb hby own_d7_15)
  obtain ⟨T17, X17, e17, st17⟩ := getF X13 hx hZ hown (host := "") (Or.inl (hw _ (List.mem_of_getElem? (i := 23) rfl))) Via.refl e13 F_b (g := (mkF m 29 #[.val (.ref a_o), .val (.long (0 : Int64)), .second, .val (.int (0 : Int32)), .unset] [(.ref a_o)])) rfl rfl (hb hby own_d7_29)
  obtain ⟨T21, X21, e21, st21⟩ := getF X17 hx hZ hown (host := "") (Or.inl (hw _ (List.mem_of_getElem? (i := 25) rfl))) Via.refl e17 F_p (g := (mkF m 34 #[.val (.ref a_o), .val (.long (0 : Int64)), .second, .val (.int (0 : Int32)), .unset] [(.ref a_o), (.ref a_o), (.ref b_o)])) rfl rfl (hb hby own_d7_34)
  obtain ⟨T26, h26, X26, e26, W26, st26⟩ := putF X21 hx hZ hown (host := "") (Or.inl (hw _ (List.mem_of_getElem? (i := 25) rfl))) Via.refl e21 F_p Eo (Or.inl (hw _ (List.mem_of_getElem? (i := 26) rfl))) (hw _ (List.mem_of_getElem? (i := 3) rfl)) (ty := .int) (by decide) rfl rfl (g := (mkF m 40 #[.val (.ref a_o), .val (.long (0 : Int64)), .second, .val (.int (0 : Int32)), .unset] [(.int (1 : Int32)), (.ref a_o), (.int (0 : Int32)), (.ref b_o)])) rfl rfl (hb hby own_d7_40)
  have Kc27 : Keep h0 h26 [a_o] := (Keep.refl h0 [a_o]).wr W26 (Or.inl (List.mem_of_getElem? (i := 0) rfl))
  have Zs28 : n0 ≤ h26.size := Nat.le_trans Z0 (Keep.of_wr W26).1
  have N29 := Fr.snoc X26 N0 ga
  have Fw26 : Fld Z h26 a_o "fieldstone/ByteReader" "pos" "I" (.int (1 : Int32)) := F_p.same W26
  have Fq31 : Arv Z h26 b_o k_b .byte (17 : Int32) [(.int y_0), v_1, v_2, v_3, v_4, v_5, v_6, v_7, v_8, v_9, v_10, v_11, v_12, v_13, v_14, v_15, v_16] (.int (0 : Int32)) := (V_b.other W26 en1)
  obtain ⟨cl32, Ar32, q32, S32, M32, H32, G32⟩ := id Fq31
  have hin32 : ¬ ((0 : Int32) < 0 ∨ cl32.slots.size ≤ ((0 : Int32)).toNatClampNeg) := inb_of S32 ⟨by decide, by decide⟩
  have hat32 : cl32.slots[((0 : Int32)).toNatClampNeg]? = some (.int y_0) := H32.at hin32 rfl
  obtain ⟨fs, hr, hrun, hended, hW, hsame⟩ := X26.leave (v := some (.long ((0 : Int64) ||| (((y_0 &&& (127 : Int32)).toInt64) <<< ((0 : Int32) &&& 0x3f).toInt64)))) (fun h => by rw [Bd.returns] at h; cases h) (hlocks := BodyLoose.notSynchronized Bd)
  refine ⟨_, _, pre0 _ ?_, hrun, hended, _, _, rfl, ?_, ⟨_, rfl⟩, hW, hsame.mono (by decide) (by decide)⟩
  · show Steps p.tables e below (s₁.setTop (mkF m 0 #[.val (.ref a_o), .unset, .unset, .unset, .unset] [])) _
    refine XS.lconst X0.here hx rfl (hb hby own_d7_0) ?_
    show Steps p.tables e below (s₁.setTop (mkF m 1 #[.val (.ref a_o), .unset, .unset, .unset, .unset] [(.long (0 : Int64))])) _
    refine XS.lstoreN X0.here hx rfl (hb hby own_d7_1) rfl (l' := #[.val (.ref a_o), .val (.long (0 : Int64)), .second, .unset, .unset]) rfl ?_
    show Steps p.tables e below (s₁.setTop (mkF m 2 #[.val (.ref a_o), .val (.long (0 : Int64)), .second, .unset, .unset] [])) _
    refine XS.iconst X0.here hx rfl (hb hby own_d7_2) ?_
    show Steps p.tables e below (s₁.setTop (mkF m 3 #[.val (.ref a_o), .val (.long (0 : Int64)), .second, .unset, .unset] [(.int (0 : Int32))])) _
    refine XS.istoreN X0.here hx rfl (hb hby own_d7_3) rfl (l' := #[.val (.ref a_o), .val (.long (0 : Int64)), .second, .val (.int (0 : Int32)), .unset]) rfl ?_
    show Steps p.tables e below (s₁.setTop (mkF m 4 #[.val (.ref a_o), .val (.long (0 : Int64)), .second, .val (.int (0 : Int32)), .unset] [])) _
    refine XS.iloadN X0.here hx rfl (hb hby own_d7_4) rfl ?_
    show Steps p.tables e below (s₁.setTop (mkF m 5 #[.val (.ref a_o), .val (.long (0 : Int64)), .second, .val (.int (0 : Int32)), .unset] [(.int (0 : Int32))])) _
    refine XS.bipush X0.here hx rfl (hb hby own_d7_5) ?_
    show Steps p.tables e below (s₁.setTop (mkF m 7 #[.val (.ref a_o), .val (.long (0 : Int64)), .second, .val (.int (0 : Int32)), .unset] [(.int (64 : Int32)), (.int (0 : Int32))])) _
    refine XS.icmpNo X0.here hx rfl (hb hby own_d7_7) rfl (tlt ((by decide) : (0 : Int32) < (64 : Int32))).2.1 ?_
    show Steps p.tables e below (s₁.setTop (mkF m 10 #[.val (.ref a_o), .val (.long (0 : Int64)), .second, .val (.int (0 : Int32)), .unset] [])) _
    refine XS.aloadN X0.here hx rfl (hb hby own_d7_10) rfl rfl ?_
    show Steps p.tables e below (s₁.setTop (mkF m 11 #[.val (.ref a_o), .val (.long (0 : Int64)), .second, .val (.int (0 : Int32)), .unset] [(.ref a_o)])) _
    refine st10 _ ?_
    show Steps p.tables e below (T10.setTop (mkF m 14 #[.val (.ref a_o), .val (.long (0 : Int64)), .second, .val (.int (0 : Int32)), .unset] [(.int (0 : Int32))])) _
    refine XS.aloadN X10.here hx rfl (hb hby own_d7_14) rfl rfl ?_
    show Steps p.tables e below (T10.setTop (mkF m 15 #[.val (.ref a_o), .val (.long (0 : Int64)), .second, .val (.int (0 : Int32)), .unset] [(.ref a_o), (.int (0 : Int32))])) _
    refine st13 _ ?_
    show Steps p.tables e below (T13.setTop (mkF m 18 #[.val (.ref a_o), .val (.long (0 : Int64)), .second, .val (.int (0 : Int32)), .unset] [(.int (17 : Int32)), (.int (0 : Int32))])) _
    refine XS.icmpYes X13.here hx rfl (pc0 := 18) (pc' := 28) rfl (hb hby own_d7_18) rfl (feq ((by decide) : ¬ ((0 : Int32) = (17 : Int32)))).2 (by decide) (by decide) ?_
    show Steps p.tables e below (T13.setTop (mkF m 28 #[.val (.ref a_o), .val (.long (0 : Int64)), .second, .val (.int (0 : Int32)), .unset] [])) _
    refine XS.aloadN X13.here hx rfl (hb hby own_d7_28) rfl rfl ?_
    show Steps p.tables e below (T13.setTop (mkF m 29 #[.val (.ref a_o), .val (.long (0 : Int64)), .second, .val (.int (0 : Int32)), .unset] [(.ref a_o)])) _
    refine st17 _ ?_
    show Steps p.tables e below (T17.setTop (mkF m 32 #[.val (.ref a_o), .val (.long (0 : Int64)), .second, .val (.int (0 : Int32)), .unset] [(.ref b_o)])) _
    refine XS.aloadN X17.here hx rfl (hb hby own_d7_32) rfl rfl ?_
    show Steps p.tables e below (T17.setTop (mkF m 33 #[.val (.ref a_o), .val (.long (0 : Int64)), .second, .val (.int (0 : Int32)), .unset] [(.ref a_o), (.ref b_o)])) _
    refine XS.dup X17.here hx rfl (hb hby own_d7_33) rfl rfl ?_
    show Steps p.tables e below (T17.setTop (mkF m 34 #[.val (.ref a_o), .val (.long (0 : Int64)), .second, .val (.int (0 : Int32)), .unset] [(.ref a_o), (.ref a_o), (.ref b_o)])) _
    refine st21 _ ?_
    show Steps p.tables e below (T21.setTop (mkF m 37 #[.val (.ref a_o), .val (.long (0 : Int64)), .second, .val (.int (0 : Int32)), .unset] [(.int (0 : Int32)), (.ref a_o), (.ref b_o)])) _
    refine XS.dupX1 X21.here hx rfl (hb hby own_d7_37) rfl rfl rfl ?_
    show Steps p.tables e below (T21.setTop (mkF m 38 #[.val (.ref a_o), .val (.long (0 : Int64)), .second, .val (.int (0 : Int32)), .unset] [(.int (0 : Int32)), (.ref a_o), (.int (0 : Int32)), (.ref b_o)])) _
    refine XS.iconst X21.here hx rfl (hb hby own_d7_38) ?_
    show Steps p.tables e below (T21.setTop (mkF m 39 #[.val (.ref a_o), .val (.long (0 : Int64)), .second, .val (.int (0 : Int32)), .unset] [(.int (1 : Int32)), (.int (0 : Int32)), (.ref a_o), (.int (0 : Int32)), (.ref b_o)])) _
    refine XS.iadd X21.here hx rfl (hb hby own_d7_39) rfl ?_
    show Steps p.tables e below (T21.setTop (mkF m 40 #[.val (.ref a_o), .val (.long (0 : Int64)), .second, .val (.int (0 : Int32)), .unset] [(.int (1 : Int32)), (.ref a_o), (.int (0 : Int32)), (.ref b_o)])) _
    refine st26 _ ?_
    show Steps p.tables e below (T26.setTop (mkF m 43 #[.val (.ref a_o), .val (.long (0 : Int64)), .second, .val (.int (0 : Int32)), .unset] [(.int (0 : Int32)), (.ref b_o)])) _
    refine X26.baloadBytes hx (j := (0 : Int32)) (v := (.int y_0)) (by rw [e26]; exact Ar32.1) (State.isArrayOf_alike hZ.alike Ar32.2.1) Ar32.2.2 hin32 hat32 (g := (mkF m 43 #[.val (.ref a_o), .val (.long (0 : Int64)), .second, .val (.int (0 : Int32)), .unset] [(.int (0 : Int32)), (.ref b_o)])) rfl rfl (hb hby own_d7_43) _ ?_
    show Steps p.tables e below (T26.setTop (mkF m 44 #[.val (.ref a_o), .val (.long (0 : Int64)), .second, .val (.int (0 : Int32)), .unset] [(.int y_0)])) _
    refine XS.istore X26.here hx rfl (hb hby own_d7_44) rfl (l' := #[.val (.ref a_o), .val (.long (0 : Int64)), .second, .val (.int (0 : Int32)), .val (.int y_0)]) rfl ?_
    show Steps p.tables e below (T26.setTop (mkF m 46 #[.val (.ref a_o), .val (.long (0 : Int64)), .second, .val (.int (0 : Int32)), .val (.int y_0)] [])) _
    refine XS.lloadN X26.here hx rfl (hb hby own_d7_46) rfl ?_
    show Steps p.tables e below (T26.setTop (mkF m 47 #[.val (.ref a_o), .val (.long (0 : Int64)), .second, .val (.int (0 : Int32)), .val (.int y_0)] [(.long (0 : Int64))])) _
    refine XS.iload X26.here hx rfl (hb hby own_d7_47) rfl ?_
    show Steps p.tables e below (T26.setTop (mkF m 49 #[.val (.ref a_o), .val (.long (0 : Int64)), .second, .val (.int (0 : Int32)), .val (.int y_0)] [(.int y_0), (.long (0 : Int64))])) _
    refine XS.bipush X26.here hx rfl (hb hby own_d7_49) ?_
    show Steps p.tables e below (T26.setTop (mkF m 51 #[.val (.ref a_o), .val (.long (0 : Int64)), .second, .val (.int (0 : Int32)), .val (.int y_0)] [(.int (127 : Int32)), (.int y_0), (.long (0 : Int64))])) _
    refine XS.iand X26.here hx rfl (hb hby own_d7_51) rfl ?_
    show Steps p.tables e below (T26.setTop (mkF m 52 #[.val (.ref a_o), .val (.long (0 : Int64)), .second, .val (.int (0 : Int32)), .val (.int y_0)] [(.int (y_0 &&& (127 : Int32))), (.long (0 : Int64))])) _
    refine XS.i2l X26.here hx rfl (hb hby own_d7_52) rfl ?_
    show Steps p.tables e below (T26.setTop (mkF m 53 #[.val (.ref a_o), .val (.long (0 : Int64)), .second, .val (.int (0 : Int32)), .val (.int y_0)] [(.long ((y_0 &&& (127 : Int32)).toInt64)), (.long (0 : Int64))])) _
    refine XS.iloadN X26.here hx rfl (hb hby own_d7_53) rfl ?_
    show Steps p.tables e below (T26.setTop (mkF m 54 #[.val (.ref a_o), .val (.long (0 : Int64)), .second, .val (.int (0 : Int32)), .val (.int y_0)] [(.int (0 : Int32)), (.long ((y_0 &&& (127 : Int32)).toInt64)), (.long (0 : Int64))])) _
    refine XS.lshl X26.here hx rfl (hb hby own_d7_54) rfl ?_
    show Steps p.tables e below (T26.setTop (mkF m 55 #[.val (.ref a_o), .val (.long (0 : Int64)), .second, .val (.int (0 : Int32)), .val (.int y_0)] [(.long (((y_0 &&& (127 : Int32)).toInt64) <<< ((0 : Int32) &&& 0x3f).toInt64)), (.long (0 : Int64))])) _
    refine XS.lor X26.here hx rfl (hb hby own_d7_55) rfl ?_
    show Steps p.tables e below (T26.setTop (mkF m 56 #[.val (.ref a_o), .val (.long (0 : Int64)), .second, .val (.int (0 : Int32)), .val (.int y_0)] [(.long ((0 : Int64) ||| (((y_0 &&& (127 : Int32)).toInt64) <<< ((0 : Int32) &&& 0x3f).toInt64)))])) _
    refine XS.lstoreN X26.here hx rfl (hb hby own_d7_56) rfl (l' := #[.val (.ref a_o), .val (.long ((0 : Int64) ||| (((y_0 &&& (127 : Int32)).toInt64) <<< ((0 : Int32) &&& 0x3f).toInt64))), .second, .val (.int (0 : Int32)), .val (.int y_0)]) rfl ?_
    show Steps p.tables e below (T26.setTop (mkF m 57 #[.val (.ref a_o), .val (.long ((0 : Int64) ||| (((y_0 &&& (127 : Int32)).toInt64) <<< ((0 : Int32) &&& 0x3f).toInt64))), .second, .val (.int (0 : Int32)), .val (.int y_0)] [])) _
    refine XS.iload X26.here hx rfl (hb hby own_d7_57) rfl ?_
    show Steps p.tables e below (T26.setTop (mkF m 59 #[.val (.ref a_o), .val (.long ((0 : Int64) ||| (((y_0 &&& (127 : Int32)).toInt64) <<< ((0 : Int32) &&& 0x3f).toInt64))), .second, .val (.int (0 : Int32)), .val (.int y_0)] [(.int y_0)])) _
    refine XS.sipush X26.here hx rfl (hb hby own_d7_59) ?_
    show Steps p.tables e below (T26.setTop (mkF m 62 #[.val (.ref a_o), .val (.long ((0 : Int64) ||| (((y_0 &&& (127 : Int32)).toInt64) <<< ((0 : Int32) &&& 0x3f).toInt64))), .second, .val (.int (0 : Int32)), .val (.int y_0)] [(.int (128 : Int32)), (.int y_0)])) _
    refine XS.iand X26.here hx rfl (hb hby own_d7_62) rfl ?_
    show Steps p.tables e below (T26.setTop (mkF m 63 #[.val (.ref a_o), .val (.long ((0 : Int64) ||| (((y_0 &&& (127 : Int32)).toInt64) <<< ((0 : Int32) &&& 0x3f).toInt64))), .second, .val (.int (0 : Int32)), .val (.int y_0)] [(.int (y_0 &&& (128 : Int32)))])) _
    refine XS.ifNo X26.here hx rfl (hb hby own_d7_63) rfl ((if0 _ _).trans (teq (hy0 : (y_0 &&& (128 : Int32)) = (0 : Int32))).2) ?_
    show Steps p.tables e below (T26.setTop (mkF m 66 #[.val (.ref a_o), .val (.long ((0 : Int64) ||| (((y_0 &&& (127 : Int32)).toInt64) <<< ((0 : Int32) &&& 0x3f).toInt64))), .second, .val (.int (0 : Int32)), .val (.int y_0)] [])) _
    refine XS.lloadN X26.here hx rfl (hb hby own_d7_66) rfl ?_
    show Steps p.tables e below (T26.setTop (mkF m 67 #[.val (.ref a_o), .val (.long ((0 : Int64) ||| (((y_0 &&& (127 : Int32)).toInt64) <<< ((0 : Int32) &&& 0x3f).toInt64))), .second, .val (.int (0 : Int32)), .val (.int y_0)] [(.long ((0 : Int64) ||| (((y_0 &&& (127 : Int32)).toInt64) <<< ((0 : Int32) &&& 0x3f).toInt64)))])) _
    exact X26.lreturnOut hx Bd.returns (hb hby own_d7_67) hr
  · show Qown_rl1 Z a_o b_o k_b y_0 v_1 v_2 v_3 v_4 v_5 v_6 v_7 v_8 v_9 v_10 v_11 v_12 v_13 v_14 v_15 v_16 h0 n0 _ T26.heap _
    rw [e26]
    have Fq49 : Exa Z h26 a_o "fieldstone/ByteReader" := (Eo.wr W26)
    have Fq50 : Fld Z h26 a_o "fieldstone/ByteReader" "bytes" "[B" (.ref b_o) := (F_b.other W26 (Or.inr (slot_ne (Or.inl (hw _ (List.mem_of_getElem? (i := 24) rfl))) (Or.inl (hw _ (List.mem_of_getElem? (i := 26) rfl))) (by decide) (t := (.array .byte)) (t' := .int) (by decide) (by decide))))
    have Fq51 : Fld Z h26 a_o "fieldstone/ByteReader" "limit" "I" (.int (17 : Int32)) := (F_l.other W26 (Or.inr (slot_ne (Or.inl (hw _ (List.mem_of_getElem? (i := 28) rfl))) (Or.inl (hw _ (List.mem_of_getElem? (i := 26) rfl))) (by decide) (t := .int) (t' := .int) (by decide) (by decide))))
    exact ⟨rfl, N29, Kc27, Fq49, Fq50, Fw26, Fq51⟩
theorem own_ef_own_rl5 (m : MethodId) (a_o : Addr) : entryFrame m #[(.ref a_o)] 5 = mkF m 0 #[.val (.ref a_o), .unset, .unset, .unset, .unset] [] := by first | (simp [entryFrame, mkF, argsToLocals, Value.category]; done) | rfl
theorem own_d7_68 : decode prog_2_method_11_code 68 = .ok (.iinc 3 7, 3) := by decide +kernel
theorem own_d7_71 : decode prog_2_method_11_code 71 = .ok (.goto (-67), 3) := by decide +kernel
def Qown_rl5 (Z : State) (a_o : Addr) (b_o : Addr) (k_b : ClassId) (v_0 : Value) (y_1 : Int32) (y_2 : Int32) (y_3 : Int32) (y_4 : Int32) (y_5 : Int32) (v_6 : Value) (v_7 : Value) (v_8 : Value) (v_9 : Value) (v_10 : Value) (v_11 : Value) (v_12 : Value) (v_13 : Value) (v_14 : Value) (v_15 : Value) (v_16 : Value) (h0 : Heap) (n0 : Nat) (v : Option Value) (h : Heap) (L : List Loc) : Prop := v = some (.long (own_vl5 y_1 y_2 y_3 y_4 y_5)) ∧ Fr n0 L ∧ Keep h0 h [a_o] ∧ Exa Z h a_o "fieldstone/ByteReader" ∧ Fld Z h a_o "fieldstone/ByteReader" "bytes" "[B" (.ref b_o) ∧ Fld Z h a_o "fieldstone/ByteReader" "pos" "I" (.int (6 : Int32)) ∧ Fld Z h a_o "fieldstone/ByteReader" "limit" "I" (.int (17 : Int32))
set_option maxRecDepth 65536 in
set_option maxHeartbeats 40000000 in
theorem own_rl5 (l : Launch) (Z : State) (a0 : Array Value) (hw : ∀ d ∈ tables_1, d.before a0 Z = true) (ws : List Jvm.Cond) (a_o : Addr) (b_o : Addr) (k_b : ClassId) (v_0 : Value) (y_1 : Int32) (y_2 : Int32) (y_3 : Int32) (y_4 : Int32) (y_5 : Int32) (v_6 : Value) (v_7 : Value) (v_8 : Value) (v_9 : Value) (v_10 : Value) (v_11 : Value) (v_12 : Value) (v_13 : Value) (v_14 : Value) (v_15 : Value) (v_16 : Value) (h0 : Heap) (n0 : Nat) (Z0 : n0 ≤ h0.size) (Eo : Exa Z h0 a_o "fieldstone/ByteReader") (F_b : Fld Z h0 a_o "fieldstone/ByteReader" "bytes" "[B" (.ref b_o)) (F_p : Fld Z h0 a_o "fieldstone/ByteReader" "pos" "I" (.int (1 : Int32))) (F_l : Fld Z h0 a_o "fieldstone/ByteReader" "limit" "I" (.int (17 : Int32))) (V_b : Arv Z h0 b_o k_b .byte (17 : Int32) [v_0, (.int y_1), (.int y_2), (.int y_3), (.int y_4), (.int y_5), v_6, v_7, v_8, v_9, v_10, v_11, v_12, v_13, v_14, v_15, v_16] (.int (0 : Int32))) (ga : n0 ≤ a_o) (en1 : b_o ≠ a_o) (hy1 : ¬ ((y_1 &&& (128 : Int32)) = (0 : Int32))) (hy2 : ¬ ((y_2 &&& (128 : Int32)) = (0 : Int32))) (hy3 : ¬ ((y_3 &&& (128 : Int32)) = (0 : Int32))) (hy4 : ¬ ((y_4 &&& (128 : Int32)) = (0 : Int32))) (hy5 : (y_5 &&& (128 : Int32)) = (0 : Int32)) :
    MetFree l (⟨"fieldstone/ByteReader", "readVarLong", "()J"⟩ : MethodName) (head1 (Jvm.Cond.code (⟨"fieldstone/ByteReader", "readVarLong", "()J"⟩ : MethodName) prog_2_method_11_code 5 (some .long) :: ws) ({ frames := 0, cells := 0, slots := 0, locals := 0 } : Room)) (fun a U => a = #[(.ref a_o)] ∧ Z.Warmed39 U.vm ∧ U.heap = h0) (fun _ _ _ _ _ => True) (fun _ U o U' => ∃ v L, o = .returned v ∧ Qown_rl5 Z a_o b_o k_b v_0 y_1 y_2 y_3 y_4 y_5 v_6 v_7 v_8 v_9 v_10 v_11 v_12 v_13 v_14 v_15 v_16 h0 n0 v U'.heap L ∧ FrameEnd U o U' L ({ frames := 0, cells := 0, slots := 0, locals := 0 } : Room).cells ({ frames := 0, cells := 0, slots := 0, locals := 0 } : Room).slots) := by
  refine MetFree.of_bodySF (plainFor_of_name own_pn0) hisR ?_
  intro p e s m args below meth c s₁ Bd hml0 hP hK
  obtain ⟨rfl, hZ, hh⟩ := hP
  have hx := Bd.exec
  have hby := Bd.bytes
  have hml : c.maxLocals = 5 := hml0
  have hown : s.vm.findClass "fieldstone/ByteReader" = some m.cls := findClass_of_methodNamed Bd.named
  have hnm := (name_of_methodNamed Bd.named Bd.method).1
  have X0 : Stand p l e ({ frames := 0, cells := 0, slots := 0, locals := 0 } : Room) s m #[(.ref a_o)] below meth c s₁ [] 0 0 := Stand.of_body Bd
  have e0 : s₁.heap = h0 := by rw [← hh, Bd.state]; rfl
  have N0 := Fr.nil n0
  have pre0 : ∀ t, Steps p.tables e below (s₁.setTop (mkF m 0 #[.val (.ref a_o), .unset, .unset, .unset, .unset] [])) t → Steps p.tables e below (s₁.setTop (entryFrame m #[(.ref a_o)] 5)) t := fun t k => castTop (own_ef_own_rl5 m a_o) k
  obtain ⟨T10, X10, e10, st10⟩ := getF X0 hx hZ hown (host := "") (Or.inl (hw _ (List.mem_of_getElem? (i := 25) rfl))) Via.refl e0 F_p (g := (mkF m 11 #[.val (.ref a_o), .val (.long (0 : Int64)), .second, .val (.int (0 : Int32)), .unset] [(.ref a_o)])) rfl rfl (hb hby own_d7_11)
  obtain ⟨T13, X13, e13, st13⟩ := getF X10 hx hZ hown (host := "") (Or.inl (hw _ (List.mem_of_getElem? (i := 27) rfl))) Via.refl e10 F_l (g := (mkF m 15 #[.val (.ref a_o), .val (.long (0 : Int64)), .second, .val (.int (0 : Int32)), .unset] [(.ref a_o), (.int (1 : Int32))])) rfl rfl (hb hby own_d7_15)
  obtain ⟨T17, X17, e17, st17⟩ := getF X13 hx hZ hown (host := "") (Or.inl (hw _ (List.mem_of_getElem? (i := 23) rfl))) Via.refl e13 F_b (g := (mkF m 29 #[.val (.ref a_o), .val (.long (0 : Int64)), .second, .val (.int (0 : Int32)), .unset] [(.ref a_o)])) rfl rfl (hb hby own_d7_29)
  obtain ⟨T21, X21, e21, st21⟩ := getF X17 hx hZ hown (host := "") (Or.inl (hw _ (List.mem_of_getElem? (i := 25) rfl))) Via.refl e17 F_p (g := (mkF m 34 #[.val (.ref a_o), .val (.long (0 : Int64)), .second, .val (.int (0 : Int32)), .unset] [(.ref a_o), (.ref a_o), (.ref b_o)])) rfl rfl (hb hby own_d7_34)
  obtain ⟨T26, h26, X26, e26, W26, st26⟩ := putF X21 hx hZ hown (host := "") (Or.inl (hw _ (List.mem_of_getElem? (i := 25) rfl))) Via.refl e21 F_p Eo (Or.inl (hw _ (List.mem_of_getElem? (i := 26) rfl))) (hw _ (List.mem_of_getElem? (i := 3) rfl)) (ty := .int) (by decide) rfl rfl (g := (mkF m 40 #[.val (.ref a_o), .val (.long (0 : Int64)), .second, .val (.int (0 : Int32)), .unset] [(.int (2 : Int32)), (.ref a_o), (.int (1 : Int32)), (.ref b_o)])) rfl rfl (hb hby own_d7_40)
  have Kc27 : Keep h0 h26 [a_o] := (Keep.refl h0 [a_o]).wr W26 (Or.inl (List.mem_of_getElem? (i := 0) rfl))
  have Zs28 : n0 ≤ h26.size := Nat.le_trans Z0 (Keep.of_wr W26).1
  have N29 := Fr.snoc X26 N0 ga
  have Fw26 : Fld Z h26 a_o "fieldstone/ByteReader" "pos" "I" (.int (2 : Int32)) := F_p.same W26
  have Fq31 : Arv Z h26 b_o k_b .byte (17 : Int32) [v_0, (.int y_1), (.int y_2), (.int y_3), (.int y_4), (.int y_5), v_6, v_7, v_8, v_9, v_10, v_11, v_12, v_13, v_14, v_15, v_16] (.int (0 : Int32)) := (V_b.other W26 en1)
  obtain ⟨cl32, Ar32, q32, S32, M32, H32, G32⟩ := id Fq31
  have hin32 : ¬ ((1 : Int32) < 0 ∨ cl32.slots.size ≤ ((1 : Int32)).toNatClampNeg) := inb_of S32 ⟨by decide, by decide⟩
  have hat32 : cl32.slots[((1 : Int32)).toNatClampNeg]? = some (.int y_1) := H32.at hin32 rfl
  obtain ⟨T54, X54, e54, st54⟩ := getF X26 hx hZ hown (host := "") (Or.inl (hw _ (List.mem_of_getElem? (i := 25) rfl))) Via.refl e26 Fw26 (g := (mkF m 11 #[.val (.ref a_o), .val (.long ((0 : Int64) ||| (((y_1 &&& (127 : Int32)).toInt64) <<< ((0 : Int32) &&& 0x3f).toInt64))), .second, .val (.int (7 : Int32)), .val (.int y_1)] [(.ref a_o)])) rfl rfl (hb hby own_d7_11)
  have Fq57 : Fld Z h26 a_o "fieldstone/ByteReader" "limit" "I" (.int (17 : Int32)) := (F_l.other W26 (Or.inr (slot_ne (Or.inl (hw _ (List.mem_of_getElem? (i := 28) rfl))) (Or.inl (hw _ (List.mem_of_getElem? (i := 26) rfl))) (by decide) (t := .int) (t' := .int) (by decide) (by decide))))
  obtain ⟨T58, X58, e58, st58⟩ := getF X54 hx hZ hown (host := "") (Or.inl (hw _ (List.mem_of_getElem? (i := 27) rfl))) Via.refl e54 Fq57 (g := (mkF m 15 #[.val (.ref a_o), .val (.long ((0 : Int64) ||| (((y_1 &&& (127 : Int32)).toInt64) <<< ((0 : Int32) &&& 0x3f).toInt64))), .second, .val (.int (7 : Int32)), .val (.int y_1)] [(.ref a_o), (.int (2 : Int32))])) rfl rfl (hb hby own_d7_15)
  have Fq62 : Fld Z h26 a_o "fieldstone/ByteReader" "bytes" "[B" (.ref b_o) := (F_b.other W26 (Or.inr (slot_ne (Or.inl (hw _ (List.mem_of_getElem? (i := 24) rfl))) (Or.inl (hw _ (List.mem_of_getElem? (i := 26) rfl))) (by decide) (t := (.array .byte)) (t' := .int) (by decide) (by decide))))
  obtain ⟨T63, X63, e63, st63⟩ := getF X58 hx hZ hown (host := "") (Or.inl (hw _ (List.mem_of_getElem? (i := 23) rfl))) Via.refl e58 Fq62 (g := (mkF m 29 #[.val (.ref a_o), .val (.long ((0 : Int64) ||| (((y_1 &&& (127 : Int32)).toInt64) <<< ((0 : Int32) &&& 0x3f).toInt64))), .second, .val (.int (7 : Int32)), .val (.int y_1)] [(.ref a_o)])) rfl rfl (hb hby own_d7_29)
  obtain ⟨T67, X67, e67, st67⟩ := getF X63 hx hZ hown (host := "") (Or.inl (hw _ (List.mem_of_getElem? (i := 25) rfl))) Via.refl e63 Fw26 (g := (mkF m 34 #[.val (.ref a_o), .val (.long ((0 : Int64) ||| (((y_1 &&& (127 : Int32)).toInt64) <<< ((0 : Int32) &&& 0x3f).toInt64))), .second, .val (.int (7 : Int32)), .val (.int y_1)] [(.ref a_o), (.ref a_o), (.ref b_o)])) rfl rfl (hb hby own_d7_34)
  have Fq72 : Exa Z h26 a_o "fieldstone/ByteReader" := (Eo.wr W26)
  obtain ⟨T73, h73, X73, e73, W73, st73⟩ := putF X67 hx hZ hown (host := "") (Or.inl (hw _ (List.mem_of_getElem? (i := 25) rfl))) Via.refl e67 Fw26 Fq72 (Or.inl (hw _ (List.mem_of_getElem? (i := 26) rfl))) (hw _ (List.mem_of_getElem? (i := 3) rfl)) (ty := .int) (by decide) rfl rfl (g := (mkF m 40 #[.val (.ref a_o), .val (.long ((0 : Int64) ||| (((y_1 &&& (127 : Int32)).toInt64) <<< ((0 : Int32) &&& 0x3f).toInt64))), .second, .val (.int (7 : Int32)), .val (.int y_1)] [(.int (3 : Int32)), (.ref a_o), (.int (2 : Int32)), (.ref b_o)])) rfl rfl (hb hby own_d7_40)
  have Kc74 : Keep h0 h73 [a_o] := Kc27.wr W73 (Or.inl (List.mem_of_getElem? (i := 0) rfl))
  have Zs75 : n0 ≤ h73.size := Nat.le_trans Zs28 (Keep.of_wr W73).1
  have N76 := Fr.snoc X73 N29 ga
  have Fw73 : Fld Z h73 a_o "fieldstone/ByteReader" "pos" "I" (.int (3 : Int32)) := Fw26.same W73
  have Fq78 : Arv Z h73 b_o k_b .byte (17 : Int32) [v_0, (.int y_1), (.int y_2), (.int y_3), (.int y_4), (.int y_5), v_6, v_7, v_8, v_9, v_10, v_11, v_12, v_13, v_14, v_15, v_16] (.int (0 : Int32)) := (Fq31.other W73 en1)
  obtain ⟨cl79, Ar79, q79, S79, M79, H79, G79⟩ := id Fq78
  have hin79 : ¬ ((2 : Int32) < 0 ∨ cl79.slots.size ≤ ((2 : Int32)).toNatClampNeg) := inb_of S79 ⟨by decide, by decide⟩
  have hat79 : cl79.slots[((2 : Int32)).toNatClampNeg]? = some (.int y_2) := H79.at hin79 rfl
  obtain ⟨T101, X101, e101, st101⟩ := getF X73 hx hZ hown (host := "") (Or.inl (hw _ (List.mem_of_getElem? (i := 25) rfl))) Via.refl e73 Fw73 (g := (mkF m 11 #[.val (.ref a_o), .val (.long (((0 : Int64) ||| (((y_1 &&& (127 : Int32)).toInt64) <<< ((0 : Int32) &&& 0x3f).toInt64)) ||| (((y_2 &&& (127 : Int32)).toInt64) <<< ((7 : Int32) &&& 0x3f).toInt64))), .second, .val (.int (14 : Int32)), .val (.int y_2)] [(.ref a_o)])) rfl rfl (hb hby own_d7_11)
  have Fq104 : Fld Z h73 a_o "fieldstone/ByteReader" "limit" "I" (.int (17 : Int32)) := (Fq57.other W73 (Or.inr (slot_ne (Or.inl (hw _ (List.mem_of_getElem? (i := 28) rfl))) (Or.inl (hw _ (List.mem_of_getElem? (i := 26) rfl))) (by decide) (t := .int) (t' := .int) (by decide) (by decide))))
  obtain ⟨T105, X105, e105, st105⟩ := getF X101 hx hZ hown (host := "") (Or.inl (hw _ (List.mem_of_getElem? (i := 27) rfl))) Via.refl e101 Fq104 (g := (mkF m 15 #[.val (.ref a_o), .val (.long (((0 : Int64) ||| (((y_1 &&& (127 : Int32)).toInt64) <<< ((0 : Int32) &&& 0x3f).toInt64)) ||| (((y_2 &&& (127 : Int32)).toInt64) <<< ((7 : Int32) &&& 0x3f).toInt64))), .second, .val (.int (14 : Int32)), .val (.int y_2)] [(.ref a_o), (.int (3 : Int32))])) rfl rfl (hb hby own_d7_15)
  have Fq109 : Fld Z h73 a_o "fieldstone/ByteReader" "bytes" "[B" (.ref b_o) := (Fq62.other W73 (Or.inr (slot_ne (Or.inl (hw _ (List.mem_of_getElem? (i := 24) rfl))) (Or.inl (hw _ (List.mem_of_getElem? (i := 26) rfl))) (by decide) (t := (.array .byte)) (t' := .int) (by decide) (by decide))))
  obtain ⟨T110, X110, e110, st110⟩ := getF X105 hx hZ hown (host := "") (Or.inl (hw _ (List.mem_of_getElem? (i := 23) rfl))) Via.refl e105 Fq109 (g := (mkF m 29 #[.val (.ref a_o), .val (.long (((0 : Int64) ||| (((y_1 &&& (127 : Int32)).toInt64) <<< ((0 : Int32) &&& 0x3f).toInt64)) ||| (((y_2 &&& (127 : Int32)).toInt64) <<< ((7 : Int32) &&& 0x3f).toInt64))), .second, .val (.int (14 : Int32)), .val (.int y_2)] [(.ref a_o)])) rfl rfl (hb hby own_d7_29)
  obtain ⟨T114, X114, e114, st114⟩ := getF X110 hx hZ hown (host := "") (Or.inl (hw _ (List.mem_of_getElem? (i := 25) rfl))) Via.refl e110 Fw73 (g := (mkF m 34 #[.val (.ref a_o), .val (.long (((0 : Int64) ||| (((y_1 &&& (127 : Int32)).toInt64) <<< ((0 : Int32) &&& 0x3f).toInt64)) ||| (((y_2 &&& (127 : Int32)).toInt64) <<< ((7 : Int32) &&& 0x3f).toInt64))), .second, .val (.int (14 : Int32)), .val (.int y_2)] [(.ref a_o), (.ref a_o), (.ref b_o)])) rfl rfl (hb hby own_d7_34)
  have Fq119 : Exa Z h73 a_o "fieldstone/ByteReader" := (Fq72.wr W73)
  obtain ⟨T120, h120, X120, e120, W120, st120⟩ := putF X114 hx hZ hown (host := "") (Or.inl (hw _ (List.mem_of_getElem? (i := 25) rfl))) Via.refl e114 Fw73 Fq119 (Or.inl (hw _ (List.mem_of_getElem? (i := 26) rfl))) (hw _ (List.mem_of_getElem? (i := 3) rfl)) (ty := .int) (by decide) rfl rfl (g := (mkF m 40 #[.val (.ref a_o), .val (.long (((0 : Int64) ||| (((y_1 &&& (127 : Int32)).toInt64) <<< ((0 : Int32) &&& 0x3f).toInt64)) ||| (((y_2 &&& (127 : Int32)).toInt64) <<< ((7 : Int32) &&& 0x3f).toInt64))), .second, .val (.int (14 : Int32)), .val (.int y_2)] [(.int (4 : Int32)), (.ref a_o), (.int (3 : Int32)), (.ref b_o)])) rfl rfl (hb hby own_d7_40)
  have Kc121 : Keep h0 h120 [a_o] := Kc74.wr W120 (Or.inl (List.mem_of_getElem? (i := 0) rfl))
  have Zs122 : n0 ≤ h120.size := Nat.le_trans Zs75 (Keep.of_wr W120).1
  have N123 := Fr.snoc X120 N76 ga
  have Fw120 : Fld Z h120 a_o "fieldstone/ByteReader" "pos" "I" (.int (4 : Int32)) := Fw73.same W120
  have Fq125 : Arv Z h120 b_o k_b .byte (17 : Int32) [v_0, (.int y_1), (.int y_2), (.int y_3), (.int y_4), (.int y_5), v_6, v_7, v_8, v_9, v_10, v_11, v_12, v_13, v_14, v_15, v_16] (.int (0 : Int32)) := (Fq78.other W120 en1)
  obtain ⟨cl126, Ar126, q126, S126, M126, H126, G126⟩ := id Fq125
  have hin126 : ¬ ((3 : Int32) < 0 ∨ cl126.slots.size ≤ ((3 : Int32)).toNatClampNeg) := inb_of S126 ⟨by decide, by decide⟩
  have hat126 : cl126.slots[((3 : Int32)).toNatClampNeg]? = some (.int y_3) := H126.at hin126 rfl
  obtain ⟨T148, X148, e148, st148⟩ := getF X120 hx hZ hown (host := "") (Or.inl (hw _ (List.mem_of_getElem? (i := 25) rfl))) Via.refl e120 Fw120 (g := (mkF m 11 #[.val (.ref a_o), .val (.long ((((0 : Int64) ||| (((y_1 &&& (127 : Int32)).toInt64) <<< ((0 : Int32) &&& 0x3f).toInt64)) ||| (((y_2 &&& (127 : Int32)).toInt64) <<< ((7 : Int32) &&& 0x3f).toInt64)) ||| (((y_3 &&& (127 : Int32)).toInt64) <<< ((14 : Int32) &&& 0x3f).toInt64))), .second, .val (.int (21 : Int32)), .val (.int y_3)] [(.ref a_o)])) rfl rfl (hb hby own_d7_11)
  have Fq151 : Fld Z h120 a_o "fieldstone/ByteReader" "limit" "I" (.int (17 : Int32)) := (Fq104.other W120 (Or.inr (slot_ne (Or.inl (hw _ (List.mem_of_getElem? (i := 28) rfl))) (Or.inl (hw _ (List.mem_of_getElem? (i := 26) rfl))) (by decide) (t := .int) (t' := .int) (by decide) (by decide))))
  obtain ⟨T152, X152, e152, st152⟩ := getF X148 hx hZ hown (host := "") (Or.inl (hw _ (List.mem_of_getElem? (i := 27) rfl))) Via.refl e148 Fq151 (g := (mkF m 15 #[.val (.ref a_o), .val (.long ((((0 : Int64) ||| (((y_1 &&& (127 : Int32)).toInt64) <<< ((0 : Int32) &&& 0x3f).toInt64)) ||| (((y_2 &&& (127 : Int32)).toInt64) <<< ((7 : Int32) &&& 0x3f).toInt64)) ||| (((y_3 &&& (127 : Int32)).toInt64) <<< ((14 : Int32) &&& 0x3f).toInt64))), .second, .val (.int (21 : Int32)), .val (.int y_3)] [(.ref a_o), (.int (4 : Int32))])) rfl rfl (hb hby own_d7_15)
  have Fq156 : Fld Z h120 a_o "fieldstone/ByteReader" "bytes" "[B" (.ref b_o) := (Fq109.other W120 (Or.inr (slot_ne (Or.inl (hw _ (List.mem_of_getElem? (i := 24) rfl))) (Or.inl (hw _ (List.mem_of_getElem? (i := 26) rfl))) (by decide) (t := (.array .byte)) (t' := .int) (by decide) (by decide))))
  obtain ⟨T157, X157, e157, st157⟩ := getF X152 hx hZ hown (host := "") (Or.inl (hw _ (List.mem_of_getElem? (i := 23) rfl))) Via.refl e152 Fq156 (g := (mkF m 29 #[.val (.ref a_o), .val (.long ((((0 : Int64) ||| (((y_1 &&& (127 : Int32)).toInt64) <<< ((0 : Int32) &&& 0x3f).toInt64)) ||| (((y_2 &&& (127 : Int32)).toInt64) <<< ((7 : Int32) &&& 0x3f).toInt64)) ||| (((y_3 &&& (127 : Int32)).toInt64) <<< ((14 : Int32) &&& 0x3f).toInt64))), .second, .val (.int (21 : Int32)), .val (.int y_3)] [(.ref a_o)])) rfl rfl (hb hby own_d7_29)
  obtain ⟨T161, X161, e161, st161⟩ := getF X157 hx hZ hown (host := "") (Or.inl (hw _ (List.mem_of_getElem? (i := 25) rfl))) Via.refl e157 Fw120 (g := (mkF m 34 #[.val (.ref a_o), .val (.long ((((0 : Int64) ||| (((y_1 &&& (127 : Int32)).toInt64) <<< ((0 : Int32) &&& 0x3f).toInt64)) ||| (((y_2 &&& (127 : Int32)).toInt64) <<< ((7 : Int32) &&& 0x3f).toInt64)) ||| (((y_3 &&& (127 : Int32)).toInt64) <<< ((14 : Int32) &&& 0x3f).toInt64))), .second, .val (.int (21 : Int32)), .val (.int y_3)] [(.ref a_o), (.ref a_o), (.ref b_o)])) rfl rfl (hb hby own_d7_34)
  have Fq166 : Exa Z h120 a_o "fieldstone/ByteReader" := (Fq119.wr W120)
  obtain ⟨T167, h167, X167, e167, W167, st167⟩ := putF X161 hx hZ hown (host := "") (Or.inl (hw _ (List.mem_of_getElem? (i := 25) rfl))) Via.refl e161 Fw120 Fq166 (Or.inl (hw _ (List.mem_of_getElem? (i := 26) rfl))) (hw _ (List.mem_of_getElem? (i := 3) rfl)) (ty := .int) (by decide) rfl rfl (g := (mkF m 40 #[.val (.ref a_o), .val (.long ((((0 : Int64) ||| (((y_1 &&& (127 : Int32)).toInt64) <<< ((0 : Int32) &&& 0x3f).toInt64)) ||| (((y_2 &&& (127 : Int32)).toInt64) <<< ((7 : Int32) &&& 0x3f).toInt64)) ||| (((y_3 &&& (127 : Int32)).toInt64) <<< ((14 : Int32) &&& 0x3f).toInt64))), .second, .val (.int (21 : Int32)), .val (.int y_3)] [(.int (5 : Int32)), (.ref a_o), (.int (4 : Int32)), (.ref b_o)])) rfl rfl (hb hby own_d7_40)
  have Kc168 : Keep h0 h167 [a_o] := Kc121.wr W167 (Or.inl (List.mem_of_getElem? (i := 0) rfl))
  have Zs169 : n0 ≤ h167.size := Nat.le_trans Zs122 (Keep.of_wr W167).1
  have N170 := Fr.snoc X167 N123 ga
  have Fw167 : Fld Z h167 a_o "fieldstone/ByteReader" "pos" "I" (.int (5 : Int32)) := Fw120.same W167
  have Fq172 : Arv Z h167 b_o k_b .byte (17 : Int32) [v_0, (.int y_1), (.int y_2), (.int y_3), (.int y_4), (.int y_5), v_6, v_7, v_8, v_9, v_10, v_11, v_12, v_13, v_14, v_15, v_16] (.int (0 : Int32)) := (Fq125.other W167 en1)
  obtain ⟨cl173, Ar173, q173, S173, M173, H173, G173⟩ := id Fq172
  have hin173 : ¬ ((4 : Int32) < 0 ∨ cl173.slots.size ≤ ((4 : Int32)).toNatClampNeg) := inb_of S173 ⟨by decide, by decide⟩
  have hat173 : cl173.slots[((4 : Int32)).toNatClampNeg]? = some (.int y_4) := H173.at hin173 rfl
  obtain ⟨T195, X195, e195, st195⟩ := getF X167 hx hZ hown (host := "") (Or.inl (hw _ (List.mem_of_getElem? (i := 25) rfl))) Via.refl e167 Fw167 (g := (mkF m 11 #[.val (.ref a_o), .val (.long (((((0 : Int64) ||| (((y_1 &&& (127 : Int32)).toInt64) <<< ((0 : Int32) &&& 0x3f).toInt64)) ||| (((y_2 &&& (127 : Int32)).toInt64) <<< ((7 : Int32) &&& 0x3f).toInt64)) ||| (((y_3 &&& (127 : Int32)).toInt64) <<< ((14 : Int32) &&& 0x3f).toInt64)) ||| (((y_4 &&& (127 : Int32)).toInt64) <<< ((21 : Int32) &&& 0x3f).toInt64))), .second, .val (.int (28 : Int32)), .val (.int y_4)] [(.ref a_o)])) rfl rfl (hb hby own_d7_11)
  have Fq198 : Fld Z h167 a_o "fieldstone/ByteReader" "limit" "I" (.int (17 : Int32)) := (Fq151.other W167 (Or.inr (slot_ne (Or.inl (hw _ (List.mem_of_getElem? (i := 28) rfl))) (Or.inl (hw _ (List.mem_of_getElem? (i := 26) rfl))) (by decide) (t := .int) (t' := .int) (by decide) (by decide))))
  obtain ⟨T199, X199, e199, st199⟩ := getF X195 hx hZ hown (host := "") (Or.inl (hw _ (List.mem_of_getElem? (i := 27) rfl))) Via.refl e195 Fq198 (g := (mkF m 15 #[.val (.ref a_o), .val (.long (((((0 : Int64) ||| (((y_1 &&& (127 : Int32)).toInt64) <<< ((0 : Int32) &&& 0x3f).toInt64)) ||| (((y_2 &&& (127 : Int32)).toInt64) <<< ((7 : Int32) &&& 0x3f).toInt64)) ||| (((y_3 &&& (127 : Int32)).toInt64) <<< ((14 : Int32) &&& 0x3f).toInt64)) ||| (((y_4 &&& (127 : Int32)).toInt64) <<< ((21 : Int32) &&& 0x3f).toInt64))), .second, .val (.int (28 : Int32)), .val (.int y_4)] [(.ref a_o), (.int (5 : Int32))])) rfl rfl (hb hby own_d7_15)
  have Fq203 : Fld Z h167 a_o "fieldstone/ByteReader" "bytes" "[B" (.ref b_o) := (Fq156.other W167 (Or.inr (slot_ne (Or.inl (hw _ (List.mem_of_getElem? (i := 24) rfl))) (Or.inl (hw _ (List.mem_of_getElem? (i := 26) rfl))) (by decide) (t := (.array .byte)) (t' := .int) (by decide) (by decide))))
  obtain ⟨T204, X204, e204, st204⟩ := getF X199 hx hZ hown (host := "") (Or.inl (hw _ (List.mem_of_getElem? (i := 23) rfl))) Via.refl e199 Fq203 (g := (mkF m 29 #[.val (.ref a_o), .val (.long (((((0 : Int64) ||| (((y_1 &&& (127 : Int32)).toInt64) <<< ((0 : Int32) &&& 0x3f).toInt64)) ||| (((y_2 &&& (127 : Int32)).toInt64) <<< ((7 : Int32) &&& 0x3f).toInt64)) ||| (((y_3 &&& (127 : Int32)).toInt64) <<< ((14 : Int32) &&& 0x3f).toInt64)) ||| (((y_4 &&& (127 : Int32)).toInt64) <<< ((21 : Int32) &&& 0x3f).toInt64))), .second, .val (.int (28 : Int32)), .val (.int y_4)] [(.ref a_o)])) rfl rfl (hb hby own_d7_29)
  obtain ⟨T208, X208, e208, st208⟩ := getF X204 hx hZ hown (host := "") (Or.inl (hw _ (List.mem_of_getElem? (i := 25) rfl))) Via.refl e204 Fw167 (g := (mkF m 34 #[.val (.ref a_o), .val (.long (((((0 : Int64) ||| (((y_1 &&& (127 : Int32)).toInt64) <<< ((0 : Int32) &&& 0x3f).toInt64)) ||| (((y_2 &&& (127 : Int32)).toInt64) <<< ((7 : Int32) &&& 0x3f).toInt64)) ||| (((y_3 &&& (127 : Int32)).toInt64) <<< ((14 : Int32) &&& 0x3f).toInt64)) ||| (((y_4 &&& (127 : Int32)).toInt64) <<< ((21 : Int32) &&& 0x3f).toInt64))), .second, .val (.int (28 : Int32)), .val (.int y_4)] [(.ref a_o), (.ref a_o), (.ref b_o)])) rfl rfl (hb hby own_d7_34)
  have Fq213 : Exa Z h167 a_o "fieldstone/ByteReader" := (Fq166.wr W167)
  obtain ⟨T214, h214, X214, e214, W214, st214⟩ := putF X208 hx hZ hown (host := "") (Or.inl (hw _ (List.mem_of_getElem? (i := 25) rfl))) Via.refl e208 Fw167 Fq213 (Or.inl (hw _ (List.mem_of_getElem? (i := 26) rfl))) (hw _ (List.mem_of_getElem? (i := 3) rfl)) (ty := .int) (by decide) rfl rfl (g := (mkF m 40 #[.val (.ref a_o), .val (.long (((((0 : Int64) ||| (((y_1 &&& (127 : Int32)).toInt64) <<< ((0 : Int32) &&& 0x3f).toInt64)) ||| (((y_2 &&& (127 : Int32)).toInt64) <<< ((7 : Int32) &&& 0x3f).toInt64)) ||| (((y_3 &&& (127 : Int32)).toInt64) <<< ((14 : Int32) &&& 0x3f).toInt64)) ||| (((y_4 &&& (127 : Int32)).toInt64) <<< ((21 : Int32) &&& 0x3f).toInt64))), .second, .val (.int (28 : Int32)), .val (.int y_4)] [(.int (6 : Int32)), (.ref a_o), (.int (5 : Int32)), (.ref b_o)])) rfl rfl (hb hby own_d7_40)
  have Kc215 : Keep h0 h214 [a_o] := Kc168.wr W214 (Or.inl (List.mem_of_getElem? (i := 0) rfl))
  have Zs216 : n0 ≤ h214.size := Nat.le_trans Zs169 (Keep.of_wr W214).1
  have N217 := Fr.snoc X214 N170 ga
  have Fw214 : Fld Z h214 a_o "fieldstone/ByteReader" "pos" "I" (.int (6 : Int32)) := Fw167.same W214
  have Fq219 : Arv Z h214 b_o k_b .byte (17 : Int32) [v_0, (.int y_1), (.int y_2), (.int y_3), (.int y_4), (.int y_5), v_6, v_7, v_8, v_9, v_10, v_11, v_12, v_13, v_14, v_15, v_16] (.int (0 : Int32)) := (Fq172.other W214 en1)
  obtain ⟨cl220, Ar220, q220, S220, M220, H220, G220⟩ := id Fq219
  have hin220 : ¬ ((5 : Int32) < 0 ∨ cl220.slots.size ≤ ((5 : Int32)).toNatClampNeg) := inb_of S220 ⟨by decide, by decide⟩
  have hat220 : cl220.slots[((5 : Int32)).toNatClampNeg]? = some (.int y_5) := H220.at hin220 rfl
  obtain ⟨fs, hr, hrun, hended, hW, hsame⟩ := X214.leave (v := some (.long ((((((0 : Int64) ||| (((y_1 &&& (127 : Int32)).toInt64) <<< ((0 : Int32) &&& 0x3f).toInt64)) ||| (((y_2 &&& (127 : Int32)).toInt64) <<< ((7 : Int32) &&& 0x3f).toInt64)) ||| (((y_3 &&& (127 : Int32)).toInt64) <<< ((14 : Int32) &&& 0x3f).toInt64)) ||| (((y_4 &&& (127 : Int32)).toInt64) <<< ((21 : Int32) &&& 0x3f).toInt64)) ||| (((y_5 &&& (127 : Int32)).toInt64) <<< ((28 : Int32) &&& 0x3f).toInt64)))) (fun h => by rw [Bd.returns] at h; cases h) (hlocks := BodyLoose.notSynchronized Bd)
  refine ⟨_, _, pre0 _ ?_, hrun, hended, _, _, rfl, ?_, ⟨_, rfl⟩, hW, hsame.mono (by decide) (by decide)⟩
  · show Steps p.tables e below (s₁.setTop (mkF m 0 #[.val (.ref a_o), .unset, .unset, .unset, .unset] [])) _
    refine XS.lconst X0.here hx rfl (hb hby own_d7_0) ?_
    show Steps p.tables e below (s₁.setTop (mkF m 1 #[.val (.ref a_o), .unset, .unset, .unset, .unset] [(.long (0 : Int64))])) _
    refine XS.lstoreN X0.here hx rfl (hb hby own_d7_1) rfl (l' := #[.val (.ref a_o), .val (.long (0 : Int64)), .second, .unset, .unset]) rfl ?_
    show Steps p.tables e below (s₁.setTop (mkF m 2 #[.val (.ref a_o), .val (.long (0 : Int64)), .second, .unset, .unset] [])) _
    refine XS.iconst X0.here hx rfl (hb hby own_d7_2) ?_
    show Steps p.tables e below (s₁.setTop (mkF m 3 #[.val (.ref a_o), .val (.long (0 : Int64)), .second, .unset, .unset] [(.int (0 : Int32))])) _
    refine XS.istoreN X0.here hx rfl (hb hby own_d7_3) rfl (l' := #[.val (.ref a_o), .val (.long (0 : Int64)), .second, .val (.int (0 : Int32)), .unset]) rfl ?_
    show Steps p.tables e below (s₁.setTop (mkF m 4 #[.val (.ref a_o), .val (.long (0 : Int64)), .second, .val (.int (0 : Int32)), .unset] [])) _
    refine XS.iloadN X0.here hx rfl (hb hby own_d7_4) rfl ?_
    show Steps p.tables e below (s₁.setTop (mkF m 5 #[.val (.ref a_o), .val (.long (0 : Int64)), .second, .val (.int (0 : Int32)), .unset] [(.int (0 : Int32))])) _
    refine XS.bipush X0.here hx rfl (hb hby own_d7_5) ?_
    show Steps p.tables e below (s₁.setTop (mkF m 7 #[.val (.ref a_o), .val (.long (0 : Int64)), .second, .val (.int (0 : Int32)), .unset] [(.int (64 : Int32)), (.int (0 : Int32))])) _
    refine XS.icmpNo X0.here hx rfl (hb hby own_d7_7) rfl (tlt ((by decide) : (0 : Int32) < (64 : Int32))).2.1 ?_
    show Steps p.tables e below (s₁.setTop (mkF m 10 #[.val (.ref a_o), .val (.long (0 : Int64)), .second, .val (.int (0 : Int32)), .unset] [])) _
    refine XS.aloadN X0.here hx rfl (hb hby own_d7_10) rfl rfl ?_
    show Steps p.tables e below (s₁.setTop (mkF m 11 #[.val (.ref a_o), .val (.long (0 : Int64)), .second, .val (.int (0 : Int32)), .unset] [(.ref a_o)])) _
    refine st10 _ ?_
    show Steps p.tables e below (T10.setTop (mkF m 14 #[.val (.ref a_o), .val (.long (0 : Int64)), .second, .val (.int (0 : Int32)), .unset] [(.int (1 : Int32))])) _
    refine XS.aloadN X10.here hx rfl (hb hby own_d7_14) rfl rfl ?_
    show Steps p.tables e below (T10.setTop (mkF m 15 #[.val (.ref a_o), .val (.long (0 : Int64)), .second, .val (.int (0 : Int32)), .unset] [(.ref a_o), (.int (1 : Int32))])) _
    refine st13 _ ?_
    show Steps p.tables e below (T13.setTop (mkF m 18 #[.val (.ref a_o), .val (.long (0 : Int64)), .second, .val (.int (0 : Int32)), .unset] [(.int (17 : Int32)), (.int (1 : Int32))])) _
    refine XS.icmpYes X13.here hx rfl (pc0 := 18) (pc' := 28) rfl (hb hby own_d7_18) rfl (feq ((by decide) : ¬ ((1 : Int32) = (17 : Int32)))).2 (by decide) (by decide) ?_
    show Steps p.tables e below (T13.setTop (mkF m 28 #[.val (.ref a_o), .val (.long (0 : Int64)), .second, .val (.int (0 : Int32)), .unset] [])) _
    refine XS.aloadN X13.here hx rfl (hb hby own_d7_28) rfl rfl ?_
    show Steps p.tables e below (T13.setTop (mkF m 29 #[.val (.ref a_o), .val (.long (0 : Int64)), .second, .val (.int (0 : Int32)), .unset] [(.ref a_o)])) _
    refine st17 _ ?_
    show Steps p.tables e below (T17.setTop (mkF m 32 #[.val (.ref a_o), .val (.long (0 : Int64)), .second, .val (.int (0 : Int32)), .unset] [(.ref b_o)])) _
    refine XS.aloadN X17.here hx rfl (hb hby own_d7_32) rfl rfl ?_
    show Steps p.tables e below (T17.setTop (mkF m 33 #[.val (.ref a_o), .val (.long (0 : Int64)), .second, .val (.int (0 : Int32)), .unset] [(.ref a_o), (.ref b_o)])) _
    refine XS.dup X17.here hx rfl (hb hby own_d7_33) rfl rfl ?_
    show Steps p.tables e below (T17.setTop (mkF m 34 #[.val (.ref a_o), .val (.long (0 : Int64)), .second, .val (.int (0 : Int32)), .unset] [(.ref a_o), (.ref a_o), (.ref b_o)])) _
    refine st21 _ ?_
    show Steps p.tables e below (T21.setTop (mkF m 37 #[.val (.ref a_o), .val (.long (0 : Int64)), .second, .val (.int (0 : Int32)), .unset] [(.int (1 : Int32)), (.ref a_o), (.ref b_o)])) _
    refine XS.dupX1 X21.here hx rfl (hb hby own_d7_37) rfl rfl rfl ?_
    show Steps p.tables e below (T21.setTop (mkF m 38 #[.val (.ref a_o), .val (.long (0 : Int64)), .second, .val (.int (0 : Int32)), .unset] [(.int (1 : Int32)), (.ref a_o), (.int (1 : Int32)), (.ref b_o)])) _
    refine XS.iconst X21.here hx rfl (hb hby own_d7_38) ?_
    show Steps p.tables e below (T21.setTop (mkF m 39 #[.val (.ref a_o), .val (.long (0 : Int64)), .second, .val (.int (0 : Int32)), .unset] [(.int (1 : Int32)), (.int (1 : Int32)), (.ref a_o), (.int (1 : Int32)), (.ref b_o)])) _
    refine XS.iadd X21.here hx rfl (hb hby own_d7_39) rfl ?_
    show Steps p.tables e below (T21.setTop (mkF m 40 #[.val (.ref a_o), .val (.long (0 : Int64)), .second, .val (.int (0 : Int32)), .unset] [(.int (2 : Int32)), (.ref a_o), (.int (1 : Int32)), (.ref b_o)])) _
    refine st26 _ ?_
    show Steps p.tables e below (T26.setTop (mkF m 43 #[.val (.ref a_o), .val (.long (0 : Int64)), .second, .val (.int (0 : Int32)), .unset] [(.int (1 : Int32)), (.ref b_o)])) _
    refine X26.baloadBytes hx (j := (1 : Int32)) (v := (.int y_1)) (by rw [e26]; exact Ar32.1) (State.isArrayOf_alike hZ.alike Ar32.2.1) Ar32.2.2 hin32 hat32 (g := (mkF m 43 #[.val (.ref a_o), .val (.long (0 : Int64)), .second, .val (.int (0 : Int32)), .unset] [(.int (1 : Int32)), (.ref b_o)])) rfl rfl (hb hby own_d7_43) _ ?_
    show Steps p.tables e below (T26.setTop (mkF m 44 #[.val (.ref a_o), .val (.long (0 : Int64)), .second, .val (.int (0 : Int32)), .unset] [(.int y_1)])) _
    refine XS.istore X26.here hx rfl (hb hby own_d7_44) rfl (l' := #[.val (.ref a_o), .val (.long (0 : Int64)), .second, .val (.int (0 : Int32)), .val (.int y_1)]) rfl ?_
    show Steps p.tables e below (T26.setTop (mkF m 46 #[.val (.ref a_o), .val (.long (0 : Int64)), .second, .val (.int (0 : Int32)), .val (.int y_1)] [])) _
    refine XS.lloadN X26.here hx rfl (hb hby own_d7_46) rfl ?_
    show Steps p.tables e below (T26.setTop (mkF m 47 #[.val (.ref a_o), .val (.long (0 : Int64)), .second, .val (.int (0 : Int32)), .val (.int y_1)] [(.long (0 : Int64))])) _
    refine XS.iload X26.here hx rfl (hb hby own_d7_47) rfl ?_
    show Steps p.tables e below (T26.setTop (mkF m 49 #[.val (.ref a_o), .val (.long (0 : Int64)), .second, .val (.int (0 : Int32)), .val (.int y_1)] [(.int y_1), (.long (0 : Int64))])) _
    refine XS.bipush X26.here hx rfl (hb hby own_d7_49) ?_
    show Steps p.tables e below (T26.setTop (mkF m 51 #[.val (.ref a_o), .val (.long (0 : Int64)), .second, .val (.int (0 : Int32)), .val (.int y_1)] [(.int (127 : Int32)), (.int y_1), (.long (0 : Int64))])) _
    refine XS.iand X26.here hx rfl (hb hby own_d7_51) rfl ?_
    show Steps p.tables e below (T26.setTop (mkF m 52 #[.val (.ref a_o), .val (.long (0 : Int64)), .second, .val (.int (0 : Int32)), .val (.int y_1)] [(.int (y_1 &&& (127 : Int32))), (.long (0 : Int64))])) _
    refine XS.i2l X26.here hx rfl (hb hby own_d7_52) rfl ?_
    show Steps p.tables e below (T26.setTop (mkF m 53 #[.val (.ref a_o), .val (.long (0 : Int64)), .second, .val (.int (0 : Int32)), .val (.int y_1)] [(.long ((y_1 &&& (127 : Int32)).toInt64)), (.long (0 : Int64))])) _
    refine XS.iloadN X26.here hx rfl (hb hby own_d7_53) rfl ?_
    show Steps p.tables e below (T26.setTop (mkF m 54 #[.val (.ref a_o), .val (.long (0 : Int64)), .second, .val (.int (0 : Int32)), .val (.int y_1)] [(.int (0 : Int32)), (.long ((y_1 &&& (127 : Int32)).toInt64)), (.long (0 : Int64))])) _
    refine XS.lshl X26.here hx rfl (hb hby own_d7_54) rfl ?_
    show Steps p.tables e below (T26.setTop (mkF m 55 #[.val (.ref a_o), .val (.long (0 : Int64)), .second, .val (.int (0 : Int32)), .val (.int y_1)] [(.long (((y_1 &&& (127 : Int32)).toInt64) <<< ((0 : Int32) &&& 0x3f).toInt64)), (.long (0 : Int64))])) _
    refine XS.lor X26.here hx rfl (hb hby own_d7_55) rfl ?_
    show Steps p.tables e below (T26.setTop (mkF m 56 #[.val (.ref a_o), .val (.long (0 : Int64)), .second, .val (.int (0 : Int32)), .val (.int y_1)] [(.long ((0 : Int64) ||| (((y_1 &&& (127 : Int32)).toInt64) <<< ((0 : Int32) &&& 0x3f).toInt64)))])) _
    refine XS.lstoreN X26.here hx rfl (hb hby own_d7_56) rfl (l' := #[.val (.ref a_o), .val (.long ((0 : Int64) ||| (((y_1 &&& (127 : Int32)).toInt64) <<< ((0 : Int32) &&& 0x3f).toInt64))), .second, .val (.int (0 : Int32)), .val (.int y_1)]) rfl ?_
    show Steps p.tables e below (T26.setTop (mkF m 57 #[.val (.ref a_o), .val (.long ((0 : Int64) ||| (((y_1 &&& (127 : Int32)).toInt64) <<< ((0 : Int32) &&& 0x3f).toInt64))), .second, .val (.int (0 : Int32)), .val (.int y_1)] [])) _
    refine XS.iload X26.here hx rfl (hb hby own_d7_57) rfl ?_
    show Steps p.tables e below (T26.setTop (mkF m 59 #[.val (.ref a_o), .val (.long ((0 : Int64) ||| (((y_1 &&& (127 : Int32)).toInt64) <<< ((0 : Int32) &&& 0x3f).toInt64))), .second, .val (.int (0 : Int32)), .val (.int y_1)] [(.int y_1)])) _
    refine XS.sipush X26.here hx rfl (hb hby own_d7_59) ?_
    show Steps p.tables e below (T26.setTop (mkF m 62 #[.val (.ref a_o), .val (.long ((0 : Int64) ||| (((y_1 &&& (127 : Int32)).toInt64) <<< ((0 : Int32) &&& 0x3f).toInt64))), .second, .val (.int (0 : Int32)), .val (.int y_1)] [(.int (128 : Int32)), (.int y_1)])) _
    refine XS.iand X26.here hx rfl (hb hby own_d7_62) rfl ?_
    show Steps p.tables e below (T26.setTop (mkF m 63 #[.val (.ref a_o), .val (.long ((0 : Int64) ||| (((y_1 &&& (127 : Int32)).toInt64) <<< ((0 : Int32) &&& 0x3f).toInt64))), .second, .val (.int (0 : Int32)), .val (.int y_1)] [(.int (y_1 &&& (128 : Int32)))])) _
    refine XS.ifYes X26.here hx rfl (pc0 := 63) (pc' := 68) rfl (hb hby own_d7_63) rfl ((if0 _ _).trans (feq (hy1 : ¬ ((y_1 &&& (128 : Int32)) = (0 : Int32)))).2) (by decide) (by decide) ?_
    show Steps p.tables e below (T26.setTop (mkF m 68 #[.val (.ref a_o), .val (.long ((0 : Int64) ||| (((y_1 &&& (127 : Int32)).toInt64) <<< ((0 : Int32) &&& 0x3f).toInt64))), .second, .val (.int (0 : Int32)), .val (.int y_1)] [])) _
    refine XS.iinc X26.here hx rfl (hb hby own_d7_68) rfl (l' := #[.val (.ref a_o), .val (.long ((0 : Int64) ||| (((y_1 &&& (127 : Int32)).toInt64) <<< ((0 : Int32) &&& 0x3f).toInt64))), .second, .val (.int (7 : Int32)), .val (.int y_1)]) rfl ?_
    show Steps p.tables e below (T26.setTop (mkF m 71 #[.val (.ref a_o), .val (.long ((0 : Int64) ||| (((y_1 &&& (127 : Int32)).toInt64) <<< ((0 : Int32) &&& 0x3f).toInt64))), .second, .val (.int (7 : Int32)), .val (.int y_1)] [])) _
    refine XS.goto X26.here hx rfl (pc0 := 71) (pc' := 4) rfl (hb hby own_d7_71) (by decide) (by decide) ?_
    show Steps p.tables e below (T26.setTop (mkF m 4 #[.val (.ref a_o), .val (.long ((0 : Int64) ||| (((y_1 &&& (127 : Int32)).toInt64) <<< ((0 : Int32) &&& 0x3f).toInt64))), .second, .val (.int (7 : Int32)), .val (.int y_1)] [])) _
    refine XS.iloadN X26.here hx rfl (hb hby own_d7_4) rfl ?_
    show Steps p.tables e below (T26.setTop (mkF m 5 #[.val (.ref a_o), .val (.long ((0 : Int64) ||| (((y_1 &&& (127 : Int32)).toInt64) <<< ((0 : Int32) &&& 0x3f).toInt64))), .second, .val (.int (7 : Int32)), .val (.int y_1)] [(.int (7 : Int32))])) _
    refine XS.bipush X26.here hx rfl (hb hby own_d7_5) ?_
    show Steps p.tables e below (T26.setTop (mkF m 7 #[.val (.ref a_o), .val (.long ((0 : Int64) ||| (((y_1 &&& (127 : Int32)).toInt64) <<< ((0 : Int32) &&& 0x3f).toInt64))), .second, .val (.int (7 : Int32)), .val (.int y_1)] [(.int (64 : Int32)), (.int (7 : Int32))])) _
    refine XS.icmpNo X26.here hx rfl (hb hby own_d7_7) rfl (tlt ((by decide) : (7 : Int32) < (64 : Int32))).2.1 ?_
    show Steps p.tables e below (T26.setTop (mkF m 10 #[.val (.ref a_o), .val (.long ((0 : Int64) ||| (((y_1 &&& (127 : Int32)).toInt64) <<< ((0 : Int32) &&& 0x3f).toInt64))), .second, .val (.int (7 : Int32)), .val (.int y_1)] [])) _
    refine XS.aloadN X26.here hx rfl (hb hby own_d7_10) rfl rfl ?_
    show Steps p.tables e below (T26.setTop (mkF m 11 #[.val (.ref a_o), .val (.long ((0 : Int64) ||| (((y_1 &&& (127 : Int32)).toInt64) <<< ((0 : Int32) &&& 0x3f).toInt64))), .second, .val (.int (7 : Int32)), .val (.int y_1)] [(.ref a_o)])) _
    refine st54 _ ?_
    show Steps p.tables e below (T54.setTop (mkF m 14 #[.val (.ref a_o), .val (.long ((0 : Int64) ||| (((y_1 &&& (127 : Int32)).toInt64) <<< ((0 : Int32) &&& 0x3f).toInt64))), .second, .val (.int (7 : Int32)), .val (.int y_1)] [(.int (2 : Int32))])) _
    refine XS.aloadN X54.here hx rfl (hb hby own_d7_14) rfl rfl ?_
    show Steps p.tables e below (T54.setTop (mkF m 15 #[.val (.ref a_o), .val (.long ((0 : Int64) ||| (((y_1 &&& (127 : Int32)).toInt64) <<< ((0 : Int32) &&& 0x3f).toInt64))), .second, .val (.int (7 : Int32)), .val (.int y_1)] [(.ref a_o), (.int (2 : Int32))])) _
    refine st58 _ ?_
    show Steps p.tables e below (T58.setTop (mkF m 18 #[.val (.ref a_o), .val (.long ((0 : Int64) ||| (((y_1 &&& (127 : Int32)).toInt64) <<< ((0 : Int32) &&& 0x3f).toInt64))), .second, .val (.int (7 : Int32)), .val (.int y_1)] [(.int (17 : Int32)), (.int (2 : Int32))])) _
    refine XS.icmpYes X58.here hx rfl (pc0 := 18) (pc' := 28) rfl (hb hby own_d7_18) rfl (feq ((by decide) : ¬ ((2 : Int32) = (17 : Int32)))).2 (by decide) (by decide) ?_
    show Steps p.tables e below (T58.setTop (mkF m 28 #[.val (.ref a_o), .val (.long ((0 : Int64) ||| (((y_1 &&& (127 : Int32)).toInt64) <<< ((0 : Int32) &&& 0x3f).toInt64))), .second, .val (.int (7 : Int32)), .val (.int y_1)] [])) _
    refine XS.aloadN X58.here hx rfl (hb hby own_d7_28) rfl rfl ?_
    show Steps p.tables e below (T58.setTop (mkF m 29 #[.val (.ref a_o), .val (.long ((0 : Int64) ||| (((y_1 &&& (127 : Int32)).toInt64) <<< ((0 : Int32) &&& 0x3f).toInt64))), .second, .val (.int (7 : Int32)), .val (.int y_1)] [(.ref a_o)])) _
    refine st63 _ ?_
    show Steps p.tables e below (T63.setTop (mkF m 32 #[.val (.ref a_o), .val (.long ((0 : Int64) ||| (((y_1 &&& (127 : Int32)).toInt64) <<< ((0 : Int32) &&& 0x3f).toInt64))), .second, .val (.int (7 : Int32)), .val (.int y_1)] [(.ref b_o)])) _
    refine XS.aloadN X63.here hx rfl (hb hby own_d7_32) rfl rfl ?_
    show Steps p.tables e below (T63.setTop (mkF m 33 #[.val (.ref a_o), .val (.long ((0 : Int64) ||| (((y_1 &&& (127 : Int32)).toInt64) <<< ((0 : Int32) &&& 0x3f).toInt64))), .second, .val (.int (7 : Int32)), .val (.int y_1)] [(.ref a_o), (.ref b_o)])) _
    refine XS.dup X63.here hx rfl (hb hby own_d7_33) rfl rfl ?_
    show Steps p.tables e below (T63.setTop (mkF m 34 #[.val (.ref a_o), .val (.long ((0 : Int64) ||| (((y_1 &&& (127 : Int32)).toInt64) <<< ((0 : Int32) &&& 0x3f).toInt64))), .second, .val (.int (7 : Int32)), .val (.int y_1)] [(.ref a_o), (.ref a_o), (.ref b_o)])) _
    refine st67 _ ?_
    show Steps p.tables e below (T67.setTop (mkF m 37 #[.val (.ref a_o), .val (.long ((0 : Int64) ||| (((y_1 &&& (127 : Int32)).toInt64) <<< ((0 : Int32) &&& 0x3f).toInt64))), .second, .val (.int (7 : Int32)), .val (.int y_1)] [(.int (2 : Int32)), (.ref a_o), (.ref b_o)])) _
    refine XS.dupX1 X67.here hx rfl (hb hby own_d7_37) rfl rfl rfl ?_
    show Steps p.tables e below (T67.setTop (mkF m 38 #[.val (.ref a_o), .val (.long ((0 : Int64) ||| (((y_1 &&& (127 : Int32)).toInt64) <<< ((0 : Int32) &&& 0x3f).toInt64))), .second, .val (.int (7 : Int32)), .val (.int y_1)] [(.int (2 : Int32)), (.ref a_o), (.int (2 : Int32)), (.ref b_o)])) _
    refine XS.iconst X67.here hx rfl (hb hby own_d7_38) ?_
    show Steps p.tables e below (T67.setTop (mkF m 39 #[.val (.ref a_o), .val (.long ((0 : Int64) ||| (((y_1 &&& (127 : Int32)).toInt64) <<< ((0 : Int32) &&& 0x3f).toInt64))), .second, .val (.int (7 : Int32)), .val (.int y_1)] [(.int (1 : Int32)), (.int (2 : Int32)), (.ref a_o), (.int (2 : Int32)), (.ref b_o)])) _
    refine XS.iadd X67.here hx rfl (hb hby own_d7_39) rfl ?_
    show Steps p.tables e below (T67.setTop (mkF m 40 #[.val (.ref a_o), .val (.long ((0 : Int64) ||| (((y_1 &&& (127 : Int32)).toInt64) <<< ((0 : Int32) &&& 0x3f).toInt64))), .second, .val (.int (7 : Int32)), .val (.int y_1)] [(.int (3 : Int32)), (.ref a_o), (.int (2 : Int32)), (.ref b_o)])) _
    refine st73 _ ?_
    show Steps p.tables e below (T73.setTop (mkF m 43 #[.val (.ref a_o), .val (.long ((0 : Int64) ||| (((y_1 &&& (127 : Int32)).toInt64) <<< ((0 : Int32) &&& 0x3f).toInt64))), .second, .val (.int (7 : Int32)), .val (.int y_1)] [(.int (2 : Int32)), (.ref b_o)])) _
    refine X73.baloadBytes hx (j := (2 : Int32)) (v := (.int y_2)) (by rw [e73]; exact Ar79.1) (State.isArrayOf_alike hZ.alike Ar79.2.1) Ar79.2.2 hin79 hat79 (g := (mkF m 43 #[.val (.ref a_o), .val (.long ((0 : Int64) ||| (((y_1 &&& (127 : Int32)).toInt64) <<< ((0 : Int32) &&& 0x3f).toInt64))), .second, .val (.int (7 : Int32)), .val (.int y_1)] [(.int (2 : Int32)), (.ref b_o)])) rfl rfl (hb hby own_d7_43) _ ?_
    show Steps p.tables e below (T73.setTop (mkF m 44 #[.val (.ref a_o), .val (.long ((0 : Int64) ||| (((y_1 &&& (127 : Int32)).toInt64) <<< ((0 : Int32) &&& 0x3f).toInt64))), .second, .val (.int (7 : Int32)), .val (.int y_1)] [(.int y_2)])) _
    refine XS.istore X73.here hx rfl (hb hby own_d7_44) rfl (l' := #[.val (.ref a_o), .val (.long ((0 : Int64) ||| (((y_1 &&& (127 : Int32)).toInt64) <<< ((0 : Int32) &&& 0x3f).toInt64))), .second, .val (.int (7 : Int32)), .val (.int y_2)]) rfl ?_
    show Steps p.tables e below (T73.setTop (mkF m 46 #[.val (.ref a_o), .val (.long ((0 : Int64) ||| (((y_1 &&& (127 : Int32)).toInt64) <<< ((0 : Int32) &&& 0x3f).toInt64))), .second, .val (.int (7 : Int32)), .val (.int y_2)] [])) _
    refine XS.lloadN X73.here hx rfl (hb hby own_d7_46) rfl ?_
    show Steps p.tables e below (T73.setTop (mkF m 47 #[.val (.ref a_o), .val (.long ((0 : Int64) ||| (((y_1 &&& (127 : Int32)).toInt64) <<< ((0 : Int32) &&& 0x3f).toInt64))), .second, .val (.int (7 : Int32)), .val (.int y_2)] [(.long ((0 : Int64) ||| (((y_1 &&& (127 : Int32)).toInt64) <<< ((0 : Int32) &&& 0x3f).toInt64)))])) _
    refine XS.iload X73.here hx rfl (hb hby own_d7_47) rfl ?_
    show Steps p.tables e below (T73.setTop (mkF m 49 #[.val (.ref a_o), .val (.long ((0 : Int64) ||| (((y_1 &&& (127 : Int32)).toInt64) <<< ((0 : Int32) &&& 0x3f).toInt64))), .second, .val (.int (7 : Int32)), .val (.int y_2)] [(.int y_2), (.long ((0 : Int64) ||| (((y_1 &&& (127 : Int32)).toInt64) <<< ((0 : Int32) &&& 0x3f).toInt64)))])) _
    refine XS.bipush X73.here hx rfl (hb hby own_d7_49) ?_
    show Steps p.tables e below (T73.setTop (mkF m 51 #[.val (.ref a_o), .val (.long ((0 : Int64) ||| (((y_1 &&& (127 : Int32)).toInt64) <<< ((0 : Int32) &&& 0x3f).toInt64))), .second, .val (.int (7 : Int32)), .val (.int y_2)] [(.int (127 : Int32)), (.int y_2), (.long ((0 : Int64) ||| (((y_1 &&& (127 : Int32)).toInt64) <<< ((0 : Int32) &&& 0x3f).toInt64)))])) _
    refine XS.iand X73.here hx rfl (hb hby own_d7_51) rfl ?_
    show Steps p.tables e below (T73.setTop (mkF m 52 #[.val (.ref a_o), .val (.long ((0 : Int64) ||| (((y_1 &&& (127 : Int32)).toInt64) <<< ((0 : Int32) &&& 0x3f).toInt64))), .second, .val (.int (7 : Int32)), .val (.int y_2)] [(.int (y_2 &&& (127 : Int32))), (.long ((0 : Int64) ||| (((y_1 &&& (127 : Int32)).toInt64) <<< ((0 : Int32) &&& 0x3f).toInt64)))])) _
    refine XS.i2l X73.here hx rfl (hb hby own_d7_52) rfl ?_
    show Steps p.tables e below (T73.setTop (mkF m 53 #[.val (.ref a_o), .val (.long ((0 : Int64) ||| (((y_1 &&& (127 : Int32)).toInt64) <<< ((0 : Int32) &&& 0x3f).toInt64))), .second, .val (.int (7 : Int32)), .val (.int y_2)] [(.long ((y_2 &&& (127 : Int32)).toInt64)), (.long ((0 : Int64) ||| (((y_1 &&& (127 : Int32)).toInt64) <<< ((0 : Int32) &&& 0x3f).toInt64)))])) _
    refine XS.iloadN X73.here hx rfl (hb hby own_d7_53) rfl ?_
    show Steps p.tables e below (T73.setTop (mkF m 54 #[.val (.ref a_o), .val (.long ((0 : Int64) ||| (((y_1 &&& (127 : Int32)).toInt64) <<< ((0 : Int32) &&& 0x3f).toInt64))), .second, .val (.int (7 : Int32)), .val (.int y_2)] [(.int (7 : Int32)), (.long ((y_2 &&& (127 : Int32)).toInt64)), (.long ((0 : Int64) ||| (((y_1 &&& (127 : Int32)).toInt64) <<< ((0 : Int32) &&& 0x3f).toInt64)))])) _
    refine XS.lshl X73.here hx rfl (hb hby own_d7_54) rfl ?_
    show Steps p.tables e below (T73.setTop (mkF m 55 #[.val (.ref a_o), .val (.long ((0 : Int64) ||| (((y_1 &&& (127 : Int32)).toInt64) <<< ((0 : Int32) &&& 0x3f).toInt64))), .second, .val (.int (7 : Int32)), .val (.int y_2)] [(.long (((y_2 &&& (127 : Int32)).toInt64) <<< ((7 : Int32) &&& 0x3f).toInt64)), (.long ((0 : Int64) ||| (((y_1 &&& (127 : Int32)).toInt64) <<< ((0 : Int32) &&& 0x3f).toInt64)))])) _
    refine XS.lor X73.here hx rfl (hb hby own_d7_55) rfl ?_
    show Steps p.tables e below (T73.setTop (mkF m 56 #[.val (.ref a_o), .val (.long ((0 : Int64) ||| (((y_1 &&& (127 : Int32)).toInt64) <<< ((0 : Int32) &&& 0x3f).toInt64))), .second, .val (.int (7 : Int32)), .val (.int y_2)] [(.long (((0 : Int64) ||| (((y_1 &&& (127 : Int32)).toInt64) <<< ((0 : Int32) &&& 0x3f).toInt64)) ||| (((y_2 &&& (127 : Int32)).toInt64) <<< ((7 : Int32) &&& 0x3f).toInt64)))])) _
    refine XS.lstoreN X73.here hx rfl (hb hby own_d7_56) rfl (l' := #[.val (.ref a_o), .val (.long (((0 : Int64) ||| (((y_1 &&& (127 : Int32)).toInt64) <<< ((0 : Int32) &&& 0x3f).toInt64)) ||| (((y_2 &&& (127 : Int32)).toInt64) <<< ((7 : Int32) &&& 0x3f).toInt64))), .second, .val (.int (7 : Int32)), .val (.int y_2)]) rfl ?_
    show Steps p.tables e below (T73.setTop (mkF m 57 #[.val (.ref a_o), .val (.long (((0 : Int64) ||| (((y_1 &&& (127 : Int32)).toInt64) <<< ((0 : Int32) &&& 0x3f).toInt64)) ||| (((y_2 &&& (127 : Int32)).toInt64) <<< ((7 : Int32) &&& 0x3f).toInt64))), .second, .val (.int (7 : Int32)), .val (.int y_2)] [])) _
    refine XS.iload X73.here hx rfl (hb hby own_d7_57) rfl ?_
    show Steps p.tables e below (T73.setTop (mkF m 59 #[.val (.ref a_o), .val (.long (((0 : Int64) ||| (((y_1 &&& (127 : Int32)).toInt64) <<< ((0 : Int32) &&& 0x3f).toInt64)) ||| (((y_2 &&& (127 : Int32)).toInt64) <<< ((7 : Int32) &&& 0x3f).toInt64))), .second, .val (.int (7 : Int32)), .val (.int y_2)] [(.int y_2)])) _
    refine XS.sipush X73.here hx rfl (hb hby own_d7_59) ?_
    show Steps p.tables e below (T73.setTop (mkF m 62 #[.val (.ref a_o), .val (.long (((0 : Int64) ||| (((y_1 &&& (127 : Int32)).toInt64) <<< ((0 : Int32) &&& 0x3f).toInt64)) ||| (((y_2 &&& (127 : Int32)).toInt64) <<< ((7 : Int32) &&& 0x3f).toInt64))), .second, .val (.int (7 : Int32)), .val (.int y_2)] [(.int (128 : Int32)), (.int y_2)])) _
    refine XS.iand X73.here hx rfl (hb hby own_d7_62) rfl ?_
    show Steps p.tables e below (T73.setTop (mkF m 63 #[.val (.ref a_o), .val (.long (((0 : Int64) ||| (((y_1 &&& (127 : Int32)).toInt64) <<< ((0 : Int32) &&& 0x3f).toInt64)) ||| (((y_2 &&& (127 : Int32)).toInt64) <<< ((7 : Int32) &&& 0x3f).toInt64))), .second, .val (.int (7 : Int32)), .val (.int y_2)] [(.int (y_2 &&& (128 : Int32)))])) _
    refine XS.ifYes X73.here hx rfl (pc0 := 63) (pc' := 68) rfl (hb hby own_d7_63) rfl ((if0 _ _).trans (feq (hy2 : ¬ ((y_2 &&& (128 : Int32)) = (0 : Int32)))).2) (by decide) (by decide) ?_
    show Steps p.tables e below (T73.setTop (mkF m 68 #[.val (.ref a_o), .val (.long (((0 : Int64) ||| (((y_1 &&& (127 : Int32)).toInt64) <<< ((0 : Int32) &&& 0x3f).toInt64)) ||| (((y_2 &&& (127 : Int32)).toInt64) <<< ((7 : Int32) &&& 0x3f).toInt64))), .second, .val (.int (7 : Int32)), .val (.int y_2)] [])) _
    refine XS.iinc X73.here hx rfl (hb hby own_d7_68) rfl (l' := #[.val (.ref a_o), .val (.long (((0 : Int64) ||| (((y_1 &&& (127 : Int32)).toInt64) <<< ((0 : Int32) &&& 0x3f).toInt64)) ||| (((y_2 &&& (127 : Int32)).toInt64) <<< ((7 : Int32) &&& 0x3f).toInt64))), .second, .val (.int (14 : Int32)), .val (.int y_2)]) rfl ?_
    show Steps p.tables e below (T73.setTop (mkF m 71 #[.val (.ref a_o), .val (.long (((0 : Int64) ||| (((y_1 &&& (127 : Int32)).toInt64) <<< ((0 : Int32) &&& 0x3f).toInt64)) ||| (((y_2 &&& (127 : Int32)).toInt64) <<< ((7 : Int32) &&& 0x3f).toInt64))), .second, .val (.int (14 : Int32)), .val (.int y_2)] [])) _
    refine XS.goto X73.here hx rfl (pc0 := 71) (pc' := 4) rfl (hb hby own_d7_71) (by decide) (by decide) ?_
    show Steps p.tables e below (T73.setTop (mkF m 4 #[.val (.ref a_o), .val (.long (((0 : Int64) ||| (((y_1 &&& (127 : Int32)).toInt64) <<< ((0 : Int32) &&& 0x3f).toInt64)) ||| (((y_2 &&& (127 : Int32)).toInt64) <<< ((7 : Int32) &&& 0x3f).toInt64))), .second, .val (.int (14 : Int32)), .val (.int y_2)] [])) _
    refine XS.iloadN X73.here hx rfl (hb hby own_d7_4) rfl ?_
    show Steps p.tables e below (T73.setTop (mkF m 5 #[.val (.ref a_o), .val (.long (((0 : Int64) ||| (((y_1 &&& (127 : Int32)).toInt64) <<< ((0 : Int32) &&& 0x3f).toInt64)) ||| (((y_2 &&& (127 : Int32)).toInt64) <<< ((7 : Int32) &&& 0x3f).toInt64))), .second, .val (.int (14 : Int32)), .val (.int y_2)] [(.int (14 : Int32))])) _
    refine XS.bipush X73.here hx rfl (hb hby own_d7_5) ?_
    show Steps p.tables e below (T73.setTop (mkF m 7 #[.val (.ref a_o), .val (.long (((0 : Int64) ||| (((y_1 &&& (127 : Int32)).toInt64) <<< ((0 : Int32) &&& 0x3f).toInt64)) ||| (((y_2 &&& (127 : Int32)).toInt64) <<< ((7 : Int32) &&& 0x3f).toInt64))), .second, .val (.int (14 : Int32)), .val (.int y_2)] [(.int (64 : Int32)), (.int (14 : Int32))])) _
    refine XS.icmpNo X73.here hx rfl (hb hby own_d7_7) rfl (tlt ((by decide) : (14 : Int32) < (64 : Int32))).2.1 ?_
    show Steps p.tables e below (T73.setTop (mkF m 10 #[.val (.ref a_o), .val (.long (((0 : Int64) ||| (((y_1 &&& (127 : Int32)).toInt64) <<< ((0 : Int32) &&& 0x3f).toInt64)) ||| (((y_2 &&& (127 : Int32)).toInt64) <<< ((7 : Int32) &&& 0x3f).toInt64))), .second, .val (.int (14 : Int32)), .val (.int y_2)] [])) _
    refine XS.aloadN X73.here hx rfl (hb hby own_d7_10) rfl rfl ?_
    show Steps p.tables e below (T73.setTop (mkF m 11 #[.val (.ref a_o), .val (.long (((0 : Int64) ||| (((y_1 &&& (127 : Int32)).toInt64) <<< ((0 : Int32) &&& 0x3f).toInt64)) ||| (((y_2 &&& (127 : Int32)).toInt64) <<< ((7 : Int32) &&& 0x3f).toInt64))), .second, .val (.int (14 : Int32)), .val (.int y_2)] [(.ref a_o)])) _
    refine st101 _ ?_
    show Steps p.tables e below (T101.setTop (mkF m 14 #[.val (.ref a_o), .val (.long (((0 : Int64) ||| (((y_1 &&& (127 : Int32)).toInt64) <<< ((0 : Int32) &&& 0x3f).toInt64)) ||| (((y_2 &&& (127 : Int32)).toInt64) <<< ((7 : Int32) &&& 0x3f).toInt64))), .second, .val (.int (14 : Int32)), .val (.int y_2)] [(.int (3 : Int32))])) _
    refine XS.aloadN X101.here hx rfl (hb hby own_d7_14) rfl rfl ?_
    show Steps p.tables e below (T101.setTop (mkF m 15 #[.val (.ref a_o), .val (.long (((0 : Int64) ||| (((y_1 &&& (127 : Int32)).toInt64) <<< ((0 : Int32) &&& 0x3f).toInt64)) ||| (((y_2 &&& (127 : Int32)).toInt64) <<< ((7 : Int32) &&& 0x3f).toInt64))), .second, .val (.int (14 : Int32)), .val (.int y_2)] [(.ref a_o), (.int (3 : Int32))])) _
    refine st105 _ ?_
    show Steps p.tables e below (T105.setTop (mkF m 18 #[.val (.ref a_o), .val (.long (((0 : Int64) ||| (((y_1 &&& (127 : Int32)).toInt64) <<< ((0 : Int32) &&& 0x3f).toInt64)) ||| (((y_2 &&& (127 : Int32)).toInt64) <<< ((7 : Int32) &&& 0x3f).toInt64))), .second, .val (.int (14 : Int32)), .val (.int y_2)] [(.int (17 : Int32)), (.int (3 : Int32))])) _
    refine XS.icmpYes X105.here hx rfl (pc0 := 18) (pc' := 28) rfl (hb hby own_d7_18) rfl (feq ((by decide) : ¬ ((3 : Int32) = (17 : Int32)))).2 (by decide) (by decide) ?_
    show Steps p.tables e below (T105.setTop (mkF m 28 #[.val (.ref a_o), .val (.long (((0 : Int64) ||| (((y_1 &&& (127 : Int32)).toInt64) <<< ((0 : Int32) &&& 0x3f).toInt64)) ||| (((y_2 &&& (127 : Int32)).toInt64) <<< ((7 : Int32) &&& 0x3f).toInt64))), .second, .val (.int (14 : Int32)), .val (.int y_2)] [])) _
    refine XS.aloadN X105.here hx rfl (hb hby own_d7_28) rfl rfl ?_
    show Steps p.tables e below (T105.setTop (mkF m 29 #[.val (.ref a_o), .val (.long (((0 : Int64) ||| (((y_1 &&& (127 : Int32)).toInt64) <<< ((0 : Int32) &&& 0x3f).toInt64)) ||| (((y_2 &&& (127 : Int32)).toInt64) <<< ((7 : Int32) &&& 0x3f).toInt64))), .second, .val (.int (14 : Int32)), .val (.int y_2)] [(.ref a_o)])) _
    refine st110 _ ?_
    show Steps p.tables e below (T110.setTop (mkF m 32 #[.val (.ref a_o), .val (.long (((0 : Int64) ||| (((y_1 &&& (127 : Int32)).toInt64) <<< ((0 : Int32) &&& 0x3f).toInt64)) ||| (((y_2 &&& (127 : Int32)).toInt64) <<< ((7 : Int32) &&& 0x3f).toInt64))), .second, .val (.int (14 : Int32)), .val (.int y_2)] [(.ref b_o)])) _
    refine XS.aloadN X110.here hx rfl (hb hby own_d7_32) rfl rfl ?_
    show Steps p.tables e below (T110.setTop (mkF m 33 #[.val (.ref a_o), .val (.long (((0 : Int64) ||| (((y_1 &&& (127 : Int32)).toInt64) <<< ((0 : Int32) &&& 0x3f).toInt64)) ||| (((y_2 &&& (127 : Int32)).toInt64) <<< ((7 : Int32) &&& 0x3f).toInt64))), .second, .val (.int (14 : Int32)), .val (.int y_2)] [(.ref a_o), (.ref b_o)])) _
    refine XS.dup X110.here hx rfl (hb hby own_d7_33) rfl rfl ?_
    show Steps p.tables e below (T110.setTop (mkF m 34 #[.val (.ref a_o), .val (.long (((0 : Int64) ||| (((y_1 &&& (127 : Int32)).toInt64) <<< ((0 : Int32) &&& 0x3f).toInt64)) ||| (((y_2 &&& (127 : Int32)).toInt64) <<< ((7 : Int32) &&& 0x3f).toInt64))), .second, .val (.int (14 : Int32)), .val (.int y_2)] [(.ref a_o), (.ref a_o), (.ref b_o)])) _
    refine st114 _ ?_
    show Steps p.tables e below (T114.setTop (mkF m 37 #[.val (.ref a_o), .val (.long (((0 : Int64) ||| (((y_1 &&& (127 : Int32)).toInt64) <<< ((0 : Int32) &&& 0x3f).toInt64)) ||| (((y_2 &&& (127 : Int32)).toInt64) <<< ((7 : Int32) &&& 0x3f).toInt64))), .second, .val (.int (14 : Int32)), .val (.int y_2)] [(.int (3 : Int32)), (.ref a_o), (.ref b_o)])) _
    refine XS.dupX1 X114.here hx rfl (hb hby own_d7_37) rfl rfl rfl ?_
    show Steps p.tables e below (T114.setTop (mkF m 38 #[.val (.ref a_o), .val (.long (((0 : Int64) ||| (((y_1 &&& (127 : Int32)).toInt64) <<< ((0 : Int32) &&& 0x3f).toInt64)) ||| (((y_2 &&& (127 : Int32)).toInt64) <<< ((7 : Int32) &&& 0x3f).toInt64))), .second, .val (.int (14 : Int32)), .val (.int y_2)] [(.int (3 : Int32)), (.ref a_o), (.int (3 : Int32)), (.ref b_o)])) _
    refine XS.iconst X114.here hx rfl (hb hby own_d7_38) ?_
    show Steps p.tables e below (T114.setTop (mkF m 39 #[.val (.ref a_o), .val (.long (((0 : Int64) ||| (((y_1 &&& (127 : Int32)).toInt64) <<< ((0 : Int32) &&& 0x3f).toInt64)) ||| (((y_2 &&& (127 : Int32)).toInt64) <<< ((7 : Int32) &&& 0x3f).toInt64))), .second, .val (.int (14 : Int32)), .val (.int y_2)] [(.int (1 : Int32)), (.int (3 : Int32)), (.ref a_o), (.int (3 : Int32)), (.ref b_o)])) _
    refine XS.iadd X114.here hx rfl (hb hby own_d7_39) rfl ?_
    show Steps p.tables e below (T114.setTop (mkF m 40 #[.val (.ref a_o), .val (.long (((0 : Int64) ||| (((y_1 &&& (127 : Int32)).toInt64) <<< ((0 : Int32) &&& 0x3f).toInt64)) ||| (((y_2 &&& (127 : Int32)).toInt64) <<< ((7 : Int32) &&& 0x3f).toInt64))), .second, .val (.int (14 : Int32)), .val (.int y_2)] [(.int (4 : Int32)), (.ref a_o), (.int (3 : Int32)), (.ref b_o)])) _
    refine st120 _ ?_
    show Steps p.tables e below (T120.setTop (mkF m 43 #[.val (.ref a_o), .val (.long (((0 : Int64) ||| (((y_1 &&& (127 : Int32)).toInt64) <<< ((0 : Int32) &&& 0x3f).toInt64)) ||| (((y_2 &&& (127 : Int32)).toInt64) <<< ((7 : Int32) &&& 0x3f).toInt64))), .second, .val (.int (14 : Int32)), .val (.int y_2)] [(.int (3 : Int32)), (.ref b_o)])) _
    refine X120.baloadBytes hx (j := (3 : Int32)) (v := (.int y_3)) (by rw [e120]; exact Ar126.1) (State.isArrayOf_alike hZ.alike Ar126.2.1) Ar126.2.2 hin126 hat126 (g := (mkF m 43 #[.val (.ref a_o), .val (.long (((0 : Int64) ||| (((y_1 &&& (127 : Int32)).toInt64) <<< ((0 : Int32) &&& 0x3f).toInt64)) ||| (((y_2 &&& (127 : Int32)).toInt64) <<< ((7 : Int32) &&& 0x3f).toInt64))), .second, .val (.int (14 : Int32)), .val (.int y_2)] [(.int (3 : Int32)), (.ref b_o)])) rfl rfl (hb hby own_d7_43) _ ?_
    show Steps p.tables e below (T120.setTop (mkF m 44 #[.val (.ref a_o), .val (.long (((0 : Int64) ||| (((y_1 &&& (127 : Int32)).toInt64) <<< ((0 : Int32) &&& 0x3f).toInt64)) ||| (((y_2 &&& (127 : Int32)).toInt64) <<< ((7 : Int32) &&& 0x3f).toInt64))), .second, .val (.int (14 : Int32)), .val (.int y_2)] [(.int y_3)])) _
    refine XS.istore X120.here hx rfl (hb hby own_d7_44) rfl (l' := #[.val (.ref a_o), .val (.long (((0 : Int64) ||| (((y_1 &&& (127 : Int32)).toInt64) <<< ((0 : Int32) &&& 0x3f).toInt64)) ||| (((y_2 &&& (127 : Int32)).toInt64) <<< ((7 : Int32) &&& 0x3f).toInt64))), .second, .val (.int (14 : Int32)), .val (.int y_3)]) rfl ?_
    show Steps p.tables e below (T120.setTop (mkF m 46 #[.val (.ref a_o), .val (.long (((0 : Int64) ||| (((y_1 &&& (127 : Int32)).toInt64) <<< ((0 : Int32) &&& 0x3f).toInt64)) ||| (((y_2 &&& (127 : Int32)).toInt64) <<< ((7 : Int32) &&& 0x3f).toInt64))), .second, .val (.int (14 : Int32)), .val (.int y_3)] [])) _
    refine XS.lloadN X120.here hx rfl (hb hby own_d7_46) rfl ?_
    show Steps p.tables e below (T120.setTop (mkF m 47 #[.val (.ref a_o), .val (.long (((0 : Int64) ||| (((y_1 &&& (127 : Int32)).toInt64) <<< ((0 : Int32) &&& 0x3f).toInt64)) ||| (((y_2 &&& (127 : Int32)).toInt64) <<< ((7 : Int32) &&& 0x3f).toInt64))), .second, .val (.int (14 : Int32)), .val (.int y_3)] [(.long (((0 : Int64) ||| (((y_1 &&& (127 : Int32)).toInt64) <<< ((0 : Int32) &&& 0x3f).toInt64)) ||| (((y_2 &&& (127 : Int32)).toInt64) <<< ((7 : Int32) &&& 0x3f).toInt64)))])) _
    refine XS.iload X120.here hx rfl (hb hby own_d7_47) rfl ?_
    show Steps p.tables e below (T120.setTop (mkF m 49 #[.val (.ref a_o), .val (.long (((0 : Int64) ||| (((y_1 &&& (127 : Int32)).toInt64) <<< ((0 : Int32) &&& 0x3f).toInt64)) ||| (((y_2 &&& (127 : Int32)).toInt64) <<< ((7 : Int32) &&& 0x3f).toInt64))), .second, .val (.int (14 : Int32)), .val (.int y_3)] [(.int y_3), (.long (((0 : Int64) ||| (((y_1 &&& (127 : Int32)).toInt64) <<< ((0 : Int32) &&& 0x3f).toInt64)) ||| (((y_2 &&& (127 : Int32)).toInt64) <<< ((7 : Int32) &&& 0x3f).toInt64)))])) _
    refine XS.bipush X120.here hx rfl (hb hby own_d7_49) ?_
    show Steps p.tables e below (T120.setTop (mkF m 51 #[.val (.ref a_o), .val (.long (((0 : Int64) ||| (((y_1 &&& (127 : Int32)).toInt64) <<< ((0 : Int32) &&& 0x3f).toInt64)) ||| (((y_2 &&& (127 : Int32)).toInt64) <<< ((7 : Int32) &&& 0x3f).toInt64))), .second, .val (.int (14 : Int32)), .val (.int y_3)] [(.int (127 : Int32)), (.int y_3), (.long (((0 : Int64) ||| (((y_1 &&& (127 : Int32)).toInt64) <<< ((0 : Int32) &&& 0x3f).toInt64)) ||| (((y_2 &&& (127 : Int32)).toInt64) <<< ((7 : Int32) &&& 0x3f).toInt64)))])) _
    refine XS.iand X120.here hx rfl (hb hby own_d7_51) rfl ?_
    show Steps p.tables e below (T120.setTop (mkF m 52 #[.val (.ref a_o), .val (.long (((0 : Int64) ||| (((y_1 &&& (127 : Int32)).toInt64) <<< ((0 : Int32) &&& 0x3f).toInt64)) ||| (((y_2 &&& (127 : Int32)).toInt64) <<< ((7 : Int32) &&& 0x3f).toInt64))), .second, .val (.int (14 : Int32)), .val (.int y_3)] [(.int (y_3 &&& (127 : Int32))), (.long (((0 : Int64) ||| (((y_1 &&& (127 : Int32)).toInt64) <<< ((0 : Int32) &&& 0x3f).toInt64)) ||| (((y_2 &&& (127 : Int32)).toInt64) <<< ((7 : Int32) &&& 0x3f).toInt64)))])) _
    refine XS.i2l X120.here hx rfl (hb hby own_d7_52) rfl ?_
    show Steps p.tables e below (T120.setTop (mkF m 53 #[.val (.ref a_o), .val (.long (((0 : Int64) ||| (((y_1 &&& (127 : Int32)).toInt64) <<< ((0 : Int32) &&& 0x3f).toInt64)) ||| (((y_2 &&& (127 : Int32)).toInt64) <<< ((7 : Int32) &&& 0x3f).toInt64))), .second, .val (.int (14 : Int32)), .val (.int y_3)] [(.long ((y_3 &&& (127 : Int32)).toInt64)), (.long (((0 : Int64) ||| (((y_1 &&& (127 : Int32)).toInt64) <<< ((0 : Int32) &&& 0x3f).toInt64)) ||| (((y_2 &&& (127 : Int32)).toInt64) <<< ((7 : Int32) &&& 0x3f).toInt64)))])) _
    refine XS.iloadN X120.here hx rfl (hb hby own_d7_53) rfl ?_
    show Steps p.tables e below (T120.setTop (mkF m 54 #[.val (.ref a_o), .val (.long (((0 : Int64) ||| (((y_1 &&& (127 : Int32)).toInt64) <<< ((0 : Int32) &&& 0x3f).toInt64)) ||| (((y_2 &&& (127 : Int32)).toInt64) <<< ((7 : Int32) &&& 0x3f).toInt64))), .second, .val (.int (14 : Int32)), .val (.int y_3)] [(.int (14 : Int32)), (.long ((y_3 &&& (127 : Int32)).toInt64)), (.long (((0 : Int64) ||| (((y_1 &&& (127 : Int32)).toInt64) <<< ((0 : Int32) &&& 0x3f).toInt64)) ||| (((y_2 &&& (127 : Int32)).toInt64) <<< ((7 : Int32) &&& 0x3f).toInt64)))])) _
    refine XS.lshl X120.here hx rfl (hb hby own_d7_54) rfl ?_
    show Steps p.tables e below (T120.setTop (mkF m 55 #[.val (.ref a_o), .val (.long (((0 : Int64) ||| (((y_1 &&& (127 : Int32)).toInt64) <<< ((0 : Int32) &&& 0x3f).toInt64)) ||| (((y_2 &&& (127 : Int32)).toInt64) <<< ((7 : Int32) &&& 0x3f).toInt64))), .second, .val (.int (14 : Int32)), .val (.int y_3)] [(.long (((y_3 &&& (127 : Int32)).toInt64) <<< ((14 : Int32) &&& 0x3f).toInt64)), (.long (((0 : Int64) ||| (((y_1 &&& (127 : Int32)).toInt64) <<< ((0 : Int32) &&& 0x3f).toInt64)) ||| (((y_2 &&& (127 : Int32)).toInt64) <<< ((7 : Int32) &&& 0x3f).toInt64)))])) _
    refine XS.lor X120.here hx rfl (hb hby own_d7_55) rfl ?_
    show Steps p.tables e below (T120.setTop (mkF m 56 #[.val (.ref a_o), .val (.long (((0 : Int64) ||| (((y_1 &&& (127 : Int32)).toInt64) <<< ((0 : Int32) &&& 0x3f).toInt64)) ||| (((y_2 &&& (127 : Int32)).toInt64) <<< ((7 : Int32) &&& 0x3f).toInt64))), .second, .val (.int (14 : Int32)), .val (.int y_3)] [(.long ((((0 : Int64) ||| (((y_1 &&& (127 : Int32)).toInt64) <<< ((0 : Int32) &&& 0x3f).toInt64)) ||| (((y_2 &&& (127 : Int32)).toInt64) <<< ((7 : Int32) &&& 0x3f).toInt64)) ||| (((y_3 &&& (127 : Int32)).toInt64) <<< ((14 : Int32) &&& 0x3f).toInt64)))])) _
    refine XS.lstoreN X120.here hx rfl (hb hby own_d7_56) rfl (l' := #[.val (.ref a_o), .val (.long ((((0 : Int64) ||| (((y_1 &&& (127 : Int32)).toInt64) <<< ((0 : Int32) &&& 0x3f).toInt64)) ||| (((y_2 &&& (127 : Int32)).toInt64) <<< ((7 : Int32) &&& 0x3f).toInt64)) ||| (((y_3 &&& (127 : Int32)).toInt64) <<< ((14 : Int32) &&& 0x3f).toInt64))), .second, .val (.int (14 : Int32)), .val (.int y_3)]) rfl ?_
    show Steps p.tables e below (T120.setTop (mkF m 57 #[.val (.ref a_o), .val (.long ((((0 : Int64) ||| (((y_1 &&& (127 : Int32)).toInt64) <<< ((0 : Int32) &&& 0x3f).toInt64)) ||| (((y_2 &&& (127 : Int32)).toInt64) <<< ((7 : Int32) &&& 0x3f).toInt64)) ||| (((y_3 &&& (127 : Int32)).toInt64) <<< ((14 : Int32) &&& 0x3f).toInt64))), .second, .val (.int (14 : Int32)), .val (.int y_3)] [])) _
    refine XS.iload X120.here hx rfl (hb hby own_d7_57) rfl ?_
    show Steps p.tables e below (T120.setTop (mkF m 59 #[.val (.ref a_o), .val (.long ((((0 : Int64) ||| (((y_1 &&& (127 : Int32)).toInt64) <<< ((0 : Int32) &&& 0x3f).toInt64)) ||| (((y_2 &&& (127 : Int32)).toInt64) <<< ((7 : Int32) &&& 0x3f).toInt64)) ||| (((y_3 &&& (127 : Int32)).toInt64) <<< ((14 : Int32) &&& 0x3f).toInt64))), .second, .val (.int (14 : Int32)), .val (.int y_3)] [(.int y_3)])) _
    refine XS.sipush X120.here hx rfl (hb hby own_d7_59) ?_
    show Steps p.tables e below (T120.setTop (mkF m 62 #[.val (.ref a_o), .val (.long ((((0 : Int64) ||| (((y_1 &&& (127 : Int32)).toInt64) <<< ((0 : Int32) &&& 0x3f).toInt64)) ||| (((y_2 &&& (127 : Int32)).toInt64) <<< ((7 : Int32) &&& 0x3f).toInt64)) ||| (((y_3 &&& (127 : Int32)).toInt64) <<< ((14 : Int32) &&& 0x3f).toInt64))), .second, .val (.int (14 : Int32)), .val (.int y_3)] [(.int (128 : Int32)), (.int y_3)])) _
    refine XS.iand X120.here hx rfl (hb hby own_d7_62) rfl ?_
    show Steps p.tables e below (T120.setTop (mkF m 63 #[.val (.ref a_o), .val (.long ((((0 : Int64) ||| (((y_1 &&& (127 : Int32)).toInt64) <<< ((0 : Int32) &&& 0x3f).toInt64)) ||| (((y_2 &&& (127 : Int32)).toInt64) <<< ((7 : Int32) &&& 0x3f).toInt64)) ||| (((y_3 &&& (127 : Int32)).toInt64) <<< ((14 : Int32) &&& 0x3f).toInt64))), .second, .val (.int (14 : Int32)), .val (.int y_3)] [(.int (y_3 &&& (128 : Int32)))])) _
    refine XS.ifYes X120.here hx rfl (pc0 := 63) (pc' := 68) rfl (hb hby own_d7_63) rfl ((if0 _ _).trans (feq (hy3 : ¬ ((y_3 &&& (128 : Int32)) = (0 : Int32)))).2) (by decide) (by decide) ?_
    show Steps p.tables e below (T120.setTop (mkF m 68 #[.val (.ref a_o), .val (.long ((((0 : Int64) ||| (((y_1 &&& (127 : Int32)).toInt64) <<< ((0 : Int32) &&& 0x3f).toInt64)) ||| (((y_2 &&& (127 : Int32)).toInt64) <<< ((7 : Int32) &&& 0x3f).toInt64)) ||| (((y_3 &&& (127 : Int32)).toInt64) <<< ((14 : Int32) &&& 0x3f).toInt64))), .second, .val (.int (14 : Int32)), .val (.int y_3)] [])) _
    refine XS.iinc X120.here hx rfl (hb hby own_d7_68) rfl (l' := #[.val (.ref a_o), .val (.long ((((0 : Int64) ||| (((y_1 &&& (127 : Int32)).toInt64) <<< ((0 : Int32) &&& 0x3f).toInt64)) ||| (((y_2 &&& (127 : Int32)).toInt64) <<< ((7 : Int32) &&& 0x3f).toInt64)) ||| (((y_3 &&& (127 : Int32)).toInt64) <<< ((14 : Int32) &&& 0x3f).toInt64))), .second, .val (.int (21 : Int32)), .val (.int y_3)]) rfl ?_
    show Steps p.tables e below (T120.setTop (mkF m 71 #[.val (.ref a_o), .val (.long ((((0 : Int64) ||| (((y_1 &&& (127 : Int32)).toInt64) <<< ((0 : Int32) &&& 0x3f).toInt64)) ||| (((y_2 &&& (127 : Int32)).toInt64) <<< ((7 : Int32) &&& 0x3f).toInt64)) ||| (((y_3 &&& (127 : Int32)).toInt64) <<< ((14 : Int32) &&& 0x3f).toInt64))), .second, .val (.int (21 : Int32)), .val (.int y_3)] [])) _
    refine XS.goto X120.here hx rfl (pc0 := 71) (pc' := 4) rfl (hb hby own_d7_71) (by decide) (by decide) ?_
    show Steps p.tables e below (T120.setTop (mkF m 4 #[.val (.ref a_o), .val (.long ((((0 : Int64) ||| (((y_1 &&& (127 : Int32)).toInt64) <<< ((0 : Int32) &&& 0x3f).toInt64)) ||| (((y_2 &&& (127 : Int32)).toInt64) <<< ((7 : Int32) &&& 0x3f).toInt64)) ||| (((y_3 &&& (127 : Int32)).toInt64) <<< ((14 : Int32) &&& 0x3f).toInt64))), .second, .val (.int (21 : Int32)), .val (.int y_3)] [])) _
    refine XS.iloadN X120.here hx rfl (hb hby own_d7_4) rfl ?_
    show Steps p.tables e below (T120.setTop (mkF m 5 #[.val (.ref a_o), .val (.long ((((0 : Int64) ||| (((y_1 &&& (127 : Int32)).toInt64) <<< ((0 : Int32) &&& 0x3f).toInt64)) ||| (((y_2 &&& (127 : Int32)).toInt64) <<< ((7 : Int32) &&& 0x3f).toInt64)) ||| (((y_3 &&& (127 : Int32)).toInt64) <<< ((14 : Int32) &&& 0x3f).toInt64))), .second, .val (.int (21 : Int32)), .val (.int y_3)] [(.int (21 : Int32))])) _
    refine XS.bipush X120.here hx rfl (hb hby own_d7_5) ?_
    show Steps p.tables e below (T120.setTop (mkF m 7 #[.val (.ref a_o), .val (.long ((((0 : Int64) ||| (((y_1 &&& (127 : Int32)).toInt64) <<< ((0 : Int32) &&& 0x3f).toInt64)) ||| (((y_2 &&& (127 : Int32)).toInt64) <<< ((7 : Int32) &&& 0x3f).toInt64)) ||| (((y_3 &&& (127 : Int32)).toInt64) <<< ((14 : Int32) &&& 0x3f).toInt64))), .second, .val (.int (21 : Int32)), .val (.int y_3)] [(.int (64 : Int32)), (.int (21 : Int32))])) _
    refine XS.icmpNo X120.here hx rfl (hb hby own_d7_7) rfl (tlt ((by decide) : (21 : Int32) < (64 : Int32))).2.1 ?_
    show Steps p.tables e below (T120.setTop (mkF m 10 #[.val (.ref a_o), .val (.long ((((0 : Int64) ||| (((y_1 &&& (127 : Int32)).toInt64) <<< ((0 : Int32) &&& 0x3f).toInt64)) ||| (((y_2 &&& (127 : Int32)).toInt64) <<< ((7 : Int32) &&& 0x3f).toInt64)) ||| (((y_3 &&& (127 : Int32)).toInt64) <<< ((14 : Int32) &&& 0x3f).toInt64))), .second, .val (.int (21 : Int32)), .val (.int y_3)] [])) _
    refine XS.aloadN X120.here hx rfl (hb hby own_d7_10) rfl rfl ?_
    show Steps p.tables e below (T120.setTop (mkF m 11 #[.val (.ref a_o), .val (.long ((((0 : Int64) ||| (((y_1 &&& (127 : Int32)).toInt64) <<< ((0 : Int32) &&& 0x3f).toInt64)) ||| (((y_2 &&& (127 : Int32)).toInt64) <<< ((7 : Int32) &&& 0x3f).toInt64)) ||| (((y_3 &&& (127 : Int32)).toInt64) <<< ((14 : Int32) &&& 0x3f).toInt64))), .second, .val (.int (21 : Int32)), .val (.int y_3)] [(.ref a_o)])) _
    refine st148 _ ?_
    show Steps p.tables e below (T148.setTop (mkF m 14 #[.val (.ref a_o), .val (.long ((((0 : Int64) ||| (((y_1 &&& (127 : Int32)).toInt64) <<< ((0 : Int32) &&& 0x3f).toInt64)) ||| (((y_2 &&& (127 : Int32)).toInt64) <<< ((7 : Int32) &&& 0x3f).toInt64)) ||| (((y_3 &&& (127 : Int32)).toInt64) <<< ((14 : Int32) &&& 0x3f).toInt64))), .second, .val (.int (21 : Int32)), .val (.int y_3)] [(.int (4 : Int32))])) _
    refine XS.aloadN X148.here hx rfl (hb hby own_d7_14) rfl rfl ?_
    show Steps p.tables e below (T148.setTop (mkF m 15 #[.val (.ref a_o), .val (.long ((((0 : Int64) ||| (((y_1 &&& (127 : Int32)).toInt64) <<< ((0 : Int32) &&& 0x3f).toInt64)) ||| (((y_2 &&& (127 : Int32)).toInt64) <<< ((7 : Int32) &&& 0x3f).toInt64)) ||| (((y_3 &&& (127 : Int32)).toInt64) <<< ((14 : Int32) &&& 0x3f).toInt64))), .second, .val (.int (21 : Int32)), .val (.int y_3)] [(.ref a_o), (.int (4 : Int32))])) _
    refine st152 _ ?_
    show Steps p.tables e below (T152.setTop (mkF m 18 #[.val (.ref a_o), .val (.long ((((0 : Int64) ||| (((y_1 &&& (127 : Int32)).toInt64) <<< ((0 : Int32) &&& 0x3f).toInt64)) ||| (((y_2 &&& (127 : Int32)).toInt64) <<< ((7 : Int32) &&& 0x3f).toInt64)) ||| (((y_3 &&& (127 : Int32)).toInt64) <<< ((14 : Int32) &&& 0x3f).toInt64))), .second, .val (.int (21 : Int32)), .val (.int y_3)] [(.int (17 : Int32)), (.int (4 : Int32))])) _
    refine XS.icmpYes X152.here hx rfl (pc0 := 18) (pc' := 28) rfl (hb hby own_d7_18) rfl (feq ((by decide) : ¬ ((4 : Int32) = (17 : Int32)))).2 (by decide) (by decide) ?_
    show Steps p.tables e below (T152.setTop (mkF m 28 #[.val (.ref a_o), .val (.long ((((0 : Int64) ||| (((y_1 &&& (127 : Int32)).toInt64) <<< ((0 : Int32) &&& 0x3f).toInt64)) ||| (((y_2 &&& (127 : Int32)).toInt64) <<< ((7 : Int32) &&& 0x3f).toInt64)) ||| (((y_3 &&& (127 : Int32)).toInt64) <<< ((14 : Int32) &&& 0x3f).toInt64))), .second, .val (.int (21 : Int32)), .val (.int y_3)] [])) _
    refine XS.aloadN X152.here hx rfl (hb hby own_d7_28) rfl rfl ?_
    show Steps p.tables e below (T152.setTop (mkF m 29 #[.val (.ref a_o), .val (.long ((((0 : Int64) ||| (((y_1 &&& (127 : Int32)).toInt64) <<< ((0 : Int32) &&& 0x3f).toInt64)) ||| (((y_2 &&& (127 : Int32)).toInt64) <<< ((7 : Int32) &&& 0x3f).toInt64)) ||| (((y_3 &&& (127 : Int32)).toInt64) <<< ((14 : Int32) &&& 0x3f).toInt64))), .second, .val (.int (21 : Int32)), .val (.int y_3)] [(.ref a_o)])) _
    refine st157 _ ?_
    show Steps p.tables e below (T157.setTop (mkF m 32 #[.val (.ref a_o), .val (.long ((((0 : Int64) ||| (((y_1 &&& (127 : Int32)).toInt64) <<< ((0 : Int32) &&& 0x3f).toInt64)) ||| (((y_2 &&& (127 : Int32)).toInt64) <<< ((7 : Int32) &&& 0x3f).toInt64)) ||| (((y_3 &&& (127 : Int32)).toInt64) <<< ((14 : Int32) &&& 0x3f).toInt64))), .second, .val (.int (21 : Int32)), .val (.int y_3)] [(.ref b_o)])) _
    refine XS.aloadN X157.here hx rfl (hb hby own_d7_32) rfl rfl ?_
    show Steps p.tables e below (T157.setTop (mkF m 33 #[.val (.ref a_o), .val (.long ((((0 : Int64) ||| (((y_1 &&& (127 : Int32)).toInt64) <<< ((0 : Int32) &&& 0x3f).toInt64)) ||| (((y_2 &&& (127 : Int32)).toInt64) <<< ((7 : Int32) &&& 0x3f).toInt64)) ||| (((y_3 &&& (127 : Int32)).toInt64) <<< ((14 : Int32) &&& 0x3f).toInt64))), .second, .val (.int (21 : Int32)), .val (.int y_3)] [(.ref a_o), (.ref b_o)])) _
    refine XS.dup X157.here hx rfl (hb hby own_d7_33) rfl rfl ?_
    show Steps p.tables e below (T157.setTop (mkF m 34 #[.val (.ref a_o), .val (.long ((((0 : Int64) ||| (((y_1 &&& (127 : Int32)).toInt64) <<< ((0 : Int32) &&& 0x3f).toInt64)) ||| (((y_2 &&& (127 : Int32)).toInt64) <<< ((7 : Int32) &&& 0x3f).toInt64)) ||| (((y_3 &&& (127 : Int32)).toInt64) <<< ((14 : Int32) &&& 0x3f).toInt64))), .second, .val (.int (21 : Int32)), .val (.int y_3)] [(.ref a_o), (.ref a_o), (.ref b_o)])) _
    refine st161 _ ?_
    show Steps p.tables e below (T161.setTop (mkF m 37 #[.val (.ref a_o), .val (.long ((((0 : Int64) ||| (((y_1 &&& (127 : Int32)).toInt64) <<< ((0 : Int32) &&& 0x3f).toInt64)) ||| (((y_2 &&& (127 : Int32)).toInt64) <<< ((7 : Int32) &&& 0x3f).toInt64)) ||| (((y_3 &&& (127 : Int32)).toInt64) <<< ((14 : Int32) &&& 0x3f).toInt64))), .second, .val (.int (21 : Int32)), .val (.int y_3)] [(.int (4 : Int32)), (.ref a_o), (.ref b_o)])) _
    refine XS.dupX1 X161.here hx rfl (hb hby own_d7_37) rfl rfl rfl ?_
    show Steps p.tables e below (T161.setTop (mkF m 38 #[.val (.ref a_o), .val (.long ((((0 : Int64) ||| (((y_1 &&& (127 : Int32)).toInt64) <<< ((0 : Int32) &&& 0x3f).toInt64)) ||| (((y_2 &&& (127 : Int32)).toInt64) <<< ((7 : Int32) &&& 0x3f).toInt64)) ||| (((y_3 &&& (127 : Int32)).toInt64) <<< ((14 : Int32) &&& 0x3f).toInt64))), .second, .val (.int (21 : Int32)), .val (.int y_3)] [(.int (4 : Int32)), (.ref a_o), (.int (4 : Int32)), (.ref b_o)])) _
    refine XS.iconst X161.here hx rfl (hb hby own_d7_38) ?_
    show Steps p.tables e below (T161.setTop (mkF m 39 #[.val (.ref a_o), .val (.long ((((0 : Int64) ||| (((y_1 &&& (127 : Int32)).toInt64) <<< ((0 : Int32) &&& 0x3f).toInt64)) ||| (((y_2 &&& (127 : Int32)).toInt64) <<< ((7 : Int32) &&& 0x3f).toInt64)) ||| (((y_3 &&& (127 : Int32)).toInt64) <<< ((14 : Int32) &&& 0x3f).toInt64))), .second, .val (.int (21 : Int32)), .val (.int y_3)] [(.int (1 : Int32)), (.int (4 : Int32)), (.ref a_o), (.int (4 : Int32)), (.ref b_o)])) _
    refine XS.iadd X161.here hx rfl (hb hby own_d7_39) rfl ?_
    show Steps p.tables e below (T161.setTop (mkF m 40 #[.val (.ref a_o), .val (.long ((((0 : Int64) ||| (((y_1 &&& (127 : Int32)).toInt64) <<< ((0 : Int32) &&& 0x3f).toInt64)) ||| (((y_2 &&& (127 : Int32)).toInt64) <<< ((7 : Int32) &&& 0x3f).toInt64)) ||| (((y_3 &&& (127 : Int32)).toInt64) <<< ((14 : Int32) &&& 0x3f).toInt64))), .second, .val (.int (21 : Int32)), .val (.int y_3)] [(.int (5 : Int32)), (.ref a_o), (.int (4 : Int32)), (.ref b_o)])) _
    refine st167 _ ?_
    show Steps p.tables e below (T167.setTop (mkF m 43 #[.val (.ref a_o), .val (.long ((((0 : Int64) ||| (((y_1 &&& (127 : Int32)).toInt64) <<< ((0 : Int32) &&& 0x3f).toInt64)) ||| (((y_2 &&& (127 : Int32)).toInt64) <<< ((7 : Int32) &&& 0x3f).toInt64)) ||| (((y_3 &&& (127 : Int32)).toInt64) <<< ((14 : Int32) &&& 0x3f).toInt64))), .second, .val (.int (21 : Int32)), .val (.int y_3)] [(.int (4 : Int32)), (.ref b_o)])) _
    refine X167.baloadBytes hx (j := (4 : Int32)) (v := (.int y_4)) (by rw [e167]; exact Ar173.1) (State.isArrayOf_alike hZ.alike Ar173.2.1) Ar173.2.2 hin173 hat173 (g := (mkF m 43 #[.val (.ref a_o), .val (.long ((((0 : Int64) ||| (((y_1 &&& (127 : Int32)).toInt64) <<< ((0 : Int32) &&& 0x3f).toInt64)) ||| (((y_2 &&& (127 : Int32)).toInt64) <<< ((7 : Int32) &&& 0x3f).toInt64)) ||| (((y_3 &&& (127 : Int32)).toInt64) <<< ((14 : Int32) &&& 0x3f).toInt64))), .second, .val (.int (21 : Int32)), .val (.int y_3)] [(.int (4 : Int32)), (.ref b_o)])) rfl rfl (hb hby own_d7_43) _ ?_
    show Steps p.tables e below (T167.setTop (mkF m 44 #[.val (.ref a_o), .val (.long ((((0 : Int64) ||| (((y_1 &&& (127 : Int32)).toInt64) <<< ((0 : Int32) &&& 0x3f).toInt64)) ||| (((y_2 &&& (127 : Int32)).toInt64) <<< ((7 : Int32) &&& 0x3f).toInt64)) ||| (((y_3 &&& (127 : Int32)).toInt64) <<< ((14 : Int32) &&& 0x3f).toInt64))), .second, .val (.int (21 : Int32)), .val (.int y_3)] [(.int y_4)])) _
    refine XS.istore X167.here hx rfl (hb hby own_d7_44) rfl (l' := #[.val (.ref a_o), .val (.long ((((0 : Int64) ||| (((y_1 &&& (127 : Int32)).toInt64) <<< ((0 : Int32) &&& 0x3f).toInt64)) ||| (((y_2 &&& (127 : Int32)).toInt64) <<< ((7 : Int32) &&& 0x3f).toInt64)) ||| (((y_3 &&& (127 : Int32)).toInt64) <<< ((14 : Int32) &&& 0x3f).toInt64))), .second, .val (.int (21 : Int32)), .val (.int y_4)]) rfl ?_
    show Steps p.tables e below (T167.setTop (mkF m 46 #[.val (.ref a_o), .val (.long ((((0 : Int64) ||| (((y_1 &&& (127 : Int32)).toInt64) <<< ((0 : Int32) &&& 0x3f).toInt64)) ||| (((y_2 &&& (127 : Int32)).toInt64) <<< ((7 : Int32) &&& 0x3f).toInt64)) ||| (((y_3 &&& (127 : Int32)).toInt64) <<< ((14 : Int32) &&& 0x3f).toInt64))), .second, .val (.int (21 : Int32)), .val (.int y_4)] [])) _
    refine XS.lloadN X167.here hx rfl (hb hby own_d7_46) rfl ?_
    show Steps p.tables e below (T167.setTop (mkF m 47 #[.val (.ref a_o), .val (.long ((((0 : Int64) ||| (((y_1 &&& (127 : Int32)).toInt64) <<< ((0 : Int32) &&& 0x3f).toInt64)) ||| (((y_2 &&& (127 : Int32)).toInt64) <<< ((7 : Int32) &&& 0x3f).toInt64)) ||| (((y_3 &&& (127 : Int32)).toInt64) <<< ((14 : Int32) &&& 0x3f).toInt64))), .second, .val (.int (21 : Int32)), .val (.int y_4)] [(.long ((((0 : Int64) ||| (((y_1 &&& (127 : Int32)).toInt64) <<< ((0 : Int32) &&& 0x3f).toInt64)) ||| (((y_2 &&& (127 : Int32)).toInt64) <<< ((7 : Int32) &&& 0x3f).toInt64)) ||| (((y_3 &&& (127 : Int32)).toInt64) <<< ((14 : Int32) &&& 0x3f).toInt64)))])) _
    refine XS.iload X167.here hx rfl (hb hby own_d7_47) rfl ?_
    show Steps p.tables e below (T167.setTop (mkF m 49 #[.val (.ref a_o), .val (.long ((((0 : Int64) ||| (((y_1 &&& (127 : Int32)).toInt64) <<< ((0 : Int32) &&& 0x3f).toInt64)) ||| (((y_2 &&& (127 : Int32)).toInt64) <<< ((7 : Int32) &&& 0x3f).toInt64)) ||| (((y_3 &&& (127 : Int32)).toInt64) <<< ((14 : Int32) &&& 0x3f).toInt64))), .second, .val (.int (21 : Int32)), .val (.int y_4)] [(.int y_4), (.long ((((0 : Int64) ||| (((y_1 &&& (127 : Int32)).toInt64) <<< ((0 : Int32) &&& 0x3f).toInt64)) ||| (((y_2 &&& (127 : Int32)).toInt64) <<< ((7 : Int32) &&& 0x3f).toInt64)) ||| (((y_3 &&& (127 : Int32)).toInt64) <<< ((14 : Int32) &&& 0x3f).toInt64)))])) _
    refine XS.bipush X167.here hx rfl (hb hby own_d7_49) ?_
    show Steps p.tables e below (T167.setTop (mkF m 51 #[.val (.ref a_o), .val (.long ((((0 : Int64) ||| (((y_1 &&& (127 : Int32)).toInt64) <<< ((0 : Int32) &&& 0x3f).toInt64)) ||| (((y_2 &&& (127 : Int32)).toInt64) <<< ((7 : Int32) &&& 0x3f).toInt64)) ||| (((y_3 &&& (127 : Int32)).toInt64) <<< ((14 : Int32) &&& 0x3f).toInt64))), .second, .val (.int (21 : Int32)), .val (.int y_4)] [(.int (127 : Int32)), (.int y_4), (.long ((((0 : Int64) ||| (((y_1 &&& (127 : Int32)).toInt64) <<< ((0 : Int32) &&& 0x3f).toInt64)) ||| (((y_2 &&& (127 : Int32)).toInt64) <<< ((7 : Int32) &&& 0x3f).toInt64)) ||| (((y_3 &&& (127 : Int32)).toInt64) <<< ((14 : Int32) &&& 0x3f).toInt64)))])) _
    refine XS.iand X167.here hx rfl (hb hby own_d7_51) rfl ?_
    show Steps p.tables e below (T167.setTop (mkF m 52 #[.val (.ref a_o), .val (.long ((((0 : Int64) ||| (((y_1 &&& (127 : Int32)).toInt64) <<< ((0 : Int32) &&& 0x3f).toInt64)) ||| (((y_2 &&& (127 : Int32)).toInt64) <<< ((7 : Int32) &&& 0x3f).toInt64)) ||| (((y_3 &&& (127 : Int32)).toInt64) <<< ((14 : Int32) &&& 0x3f).toInt64))), .second, .val (.int (21 : Int32)), .val (.int y_4)] [(.int (y_4 &&& (127 : Int32))), (.long ((((0 : Int64) ||| (((y_1 &&& (127 : Int32)).toInt64) <<< ((0 : Int32) &&& 0x3f).toInt64)) ||| (((y_2 &&& (127 : Int32)).toInt64) <<< ((7 : Int32) &&& 0x3f).toInt64)) ||| (((y_3 &&& (127 : Int32)).toInt64) <<< ((14 : Int32) &&& 0x3f).toInt64)))])) _
    refine XS.i2l X167.here hx rfl (hb hby own_d7_52) rfl ?_
    show Steps p.tables e below (T167.setTop (mkF m 53 #[.val (.ref a_o), .val (.long ((((0 : Int64) ||| (((y_1 &&& (127 : Int32)).toInt64) <<< ((0 : Int32) &&& 0x3f).toInt64)) ||| (((y_2 &&& (127 : Int32)).toInt64) <<< ((7 : Int32) &&& 0x3f).toInt64)) ||| (((y_3 &&& (127 : Int32)).toInt64) <<< ((14 : Int32) &&& 0x3f).toInt64))), .second, .val (.int (21 : Int32)), .val (.int y_4)] [(.long ((y_4 &&& (127 : Int32)).toInt64)), (.long ((((0 : Int64) ||| (((y_1 &&& (127 : Int32)).toInt64) <<< ((0 : Int32) &&& 0x3f).toInt64)) ||| (((y_2 &&& (127 : Int32)).toInt64) <<< ((7 : Int32) &&& 0x3f).toInt64)) ||| (((y_3 &&& (127 : Int32)).toInt64) <<< ((14 : Int32) &&& 0x3f).toInt64)))])) _
    refine XS.iloadN X167.here hx rfl (hb hby own_d7_53) rfl ?_
    show Steps p.tables e below (T167.setTop (mkF m 54 #[.val (.ref a_o), .val (.long ((((0 : Int64) ||| (((y_1 &&& (127 : Int32)).toInt64) <<< ((0 : Int32) &&& 0x3f).toInt64)) ||| (((y_2 &&& (127 : Int32)).toInt64) <<< ((7 : Int32) &&& 0x3f).toInt64)) ||| (((y_3 &&& (127 : Int32)).toInt64) <<< ((14 : Int32) &&& 0x3f).toInt64))), .second, .val (.int (21 : Int32)), .val (.int y_4)] [(.int (21 : Int32)), (.long ((y_4 &&& (127 : Int32)).toInt64)), (.long ((((0 : Int64) ||| (((y_1 &&& (127 : Int32)).toInt64) <<< ((0 : Int32) &&& 0x3f).toInt64)) ||| (((y_2 &&& (127 : Int32)).toInt64) <<< ((7 : Int32) &&& 0x3f).toInt64)) ||| (((y_3 &&& (127 : Int32)).toInt64) <<< ((14 : Int32) &&& 0x3f).toInt64)))])) _
    refine XS.lshl X167.here hx rfl (hb hby own_d7_54) rfl ?_
    show Steps p.tables e below (T167.setTop (mkF m 55 #[.val (.ref a_o), .val (.long ((((0 : Int64) ||| (((y_1 &&& (127 : Int32)).toInt64) <<< ((0 : Int32) &&& 0x3f).toInt64)) ||| (((y_2 &&& (127 : Int32)).toInt64) <<< ((7 : Int32) &&& 0x3f).toInt64)) ||| (((y_3 &&& (127 : Int32)).toInt64) <<< ((14 : Int32) &&& 0x3f).toInt64))), .second, .val (.int (21 : Int32)), .val (.int y_4)] [(.long (((y_4 &&& (127 : Int32)).toInt64) <<< ((21 : Int32) &&& 0x3f).toInt64)), (.long ((((0 : Int64) ||| (((y_1 &&& (127 : Int32)).toInt64) <<< ((0 : Int32) &&& 0x3f).toInt64)) ||| (((y_2 &&& (127 : Int32)).toInt64) <<< ((7 : Int32) &&& 0x3f).toInt64)) ||| (((y_3 &&& (127 : Int32)).toInt64) <<< ((14 : Int32) &&& 0x3f).toInt64)))])) _
    refine XS.lor X167.here hx rfl (hb hby own_d7_55) rfl ?_
    show Steps p.tables e below (T167.setTop (mkF m 56 #[.val (.ref a_o), .val (.long ((((0 : Int64) ||| (((y_1 &&& (127 : Int32)).toInt64) <<< ((0 : Int32) &&& 0x3f).toInt64)) ||| (((y_2 &&& (127 : Int32)).toInt64) <<< ((7 : Int32) &&& 0x3f).toInt64)) ||| (((y_3 &&& (127 : Int32)).toInt64) <<< ((14 : Int32) &&& 0x3f).toInt64))), .second, .val (.int (21 : Int32)), .val (.int y_4)] [(.long (((((0 : Int64) ||| (((y_1 &&& (127 : Int32)).toInt64) <<< ((0 : Int32) &&& 0x3f).toInt64)) ||| (((y_2 &&& (127 : Int32)).toInt64) <<< ((7 : Int32) &&& 0x3f).toInt64)) ||| (((y_3 &&& (127 : Int32)).toInt64) <<< ((14 : Int32) &&& 0x3f).toInt64)) ||| (((y_4 &&& (127 : Int32)).toInt64) <<< ((21 : Int32) &&& 0x3f).toInt64)))])) _
    refine XS.lstoreN X167.here hx rfl (hb hby own_d7_56) rfl (l' := #[.val (.ref a_o), .val (.long (((((0 : Int64) ||| (((y_1 &&& (127 : Int32)).toInt64) <<< ((0 : Int32) &&& 0x3f).toInt64)) ||| (((y_2 &&& (127 : Int32)).toInt64) <<< ((7 : Int32) &&& 0x3f).toInt64)) ||| (((y_3 &&& (127 : Int32)).toInt64) <<< ((14 : Int32) &&& 0x3f).toInt64)) ||| (((y_4 &&& (127 : Int32)).toInt64) <<< ((21 : Int32) &&& 0x3f).toInt64))), .second, .val (.int (21 : Int32)), .val (.int y_4)]) rfl ?_
    show Steps p.tables e below (T167.setTop (mkF m 57 #[.val (.ref a_o), .val (.long (((((0 : Int64) ||| (((y_1 &&& (127 : Int32)).toInt64) <<< ((0 : Int32) &&& 0x3f).toInt64)) ||| (((y_2 &&& (127 : Int32)).toInt64) <<< ((7 : Int32) &&& 0x3f).toInt64)) ||| (((y_3 &&& (127 : Int32)).toInt64) <<< ((14 : Int32) &&& 0x3f).toInt64)) ||| (((y_4 &&& (127 : Int32)).toInt64) <<< ((21 : Int32) &&& 0x3f).toInt64))), .second, .val (.int (21 : Int32)), .val (.int y_4)] [])) _
    refine XS.iload X167.here hx rfl (hb hby own_d7_57) rfl ?_
    show Steps p.tables e below (T167.setTop (mkF m 59 #[.val (.ref a_o), .val (.long (((((0 : Int64) ||| (((y_1 &&& (127 : Int32)).toInt64) <<< ((0 : Int32) &&& 0x3f).toInt64)) ||| (((y_2 &&& (127 : Int32)).toInt64) <<< ((7 : Int32) &&& 0x3f).toInt64)) ||| (((y_3 &&& (127 : Int32)).toInt64) <<< ((14 : Int32) &&& 0x3f).toInt64)) ||| (((y_4 &&& (127 : Int32)).toInt64) <<< ((21 : Int32) &&& 0x3f).toInt64))), .second, .val (.int (21 : Int32)), .val (.int y_4)] [(.int y_4)])) _
    refine XS.sipush X167.here hx rfl (hb hby own_d7_59) ?_
    show Steps p.tables e below (T167.setTop (mkF m 62 #[.val (.ref a_o), .val (.long (((((0 : Int64) ||| (((y_1 &&& (127 : Int32)).toInt64) <<< ((0 : Int32) &&& 0x3f).toInt64)) ||| (((y_2 &&& (127 : Int32)).toInt64) <<< ((7 : Int32) &&& 0x3f).toInt64)) ||| (((y_3 &&& (127 : Int32)).toInt64) <<< ((14 : Int32) &&& 0x3f).toInt64)) ||| (((y_4 &&& (127 : Int32)).toInt64) <<< ((21 : Int32) &&& 0x3f).toInt64))), .second, .val (.int (21 : Int32)), .val (.int y_4)] [(.int (128 : Int32)), (.int y_4)])) _
    refine XS.iand X167.here hx rfl (hb hby own_d7_62) rfl ?_
    show Steps p.tables e below (T167.setTop (mkF m 63 #[.val (.ref a_o), .val (.long (((((0 : Int64) ||| (((y_1 &&& (127 : Int32)).toInt64) <<< ((0 : Int32) &&& 0x3f).toInt64)) ||| (((y_2 &&& (127 : Int32)).toInt64) <<< ((7 : Int32) &&& 0x3f).toInt64)) ||| (((y_3 &&& (127 : Int32)).toInt64) <<< ((14 : Int32) &&& 0x3f).toInt64)) ||| (((y_4 &&& (127 : Int32)).toInt64) <<< ((21 : Int32) &&& 0x3f).toInt64))), .second, .val (.int (21 : Int32)), .val (.int y_4)] [(.int (y_4 &&& (128 : Int32)))])) _
    refine XS.ifYes X167.here hx rfl (pc0 := 63) (pc' := 68) rfl (hb hby own_d7_63) rfl ((if0 _ _).trans (feq (hy4 : ¬ ((y_4 &&& (128 : Int32)) = (0 : Int32)))).2) (by decide) (by decide) ?_
    show Steps p.tables e below (T167.setTop (mkF m 68 #[.val (.ref a_o), .val (.long (((((0 : Int64) ||| (((y_1 &&& (127 : Int32)).toInt64) <<< ((0 : Int32) &&& 0x3f).toInt64)) ||| (((y_2 &&& (127 : Int32)).toInt64) <<< ((7 : Int32) &&& 0x3f).toInt64)) ||| (((y_3 &&& (127 : Int32)).toInt64) <<< ((14 : Int32) &&& 0x3f).toInt64)) ||| (((y_4 &&& (127 : Int32)).toInt64) <<< ((21 : Int32) &&& 0x3f).toInt64))), .second, .val (.int (21 : Int32)), .val (.int y_4)] [])) _
    refine XS.iinc X167.here hx rfl (hb hby own_d7_68) rfl (l' := #[.val (.ref a_o), .val (.long (((((0 : Int64) ||| (((y_1 &&& (127 : Int32)).toInt64) <<< ((0 : Int32) &&& 0x3f).toInt64)) ||| (((y_2 &&& (127 : Int32)).toInt64) <<< ((7 : Int32) &&& 0x3f).toInt64)) ||| (((y_3 &&& (127 : Int32)).toInt64) <<< ((14 : Int32) &&& 0x3f).toInt64)) ||| (((y_4 &&& (127 : Int32)).toInt64) <<< ((21 : Int32) &&& 0x3f).toInt64))), .second, .val (.int (28 : Int32)), .val (.int y_4)]) rfl ?_
    show Steps p.tables e below (T167.setTop (mkF m 71 #[.val (.ref a_o), .val (.long (((((0 : Int64) ||| (((y_1 &&& (127 : Int32)).toInt64) <<< ((0 : Int32) &&& 0x3f).toInt64)) ||| (((y_2 &&& (127 : Int32)).toInt64) <<< ((7 : Int32) &&& 0x3f).toInt64)) ||| (((y_3 &&& (127 : Int32)).toInt64) <<< ((14 : Int32) &&& 0x3f).toInt64)) ||| (((y_4 &&& (127 : Int32)).toInt64) <<< ((21 : Int32) &&& 0x3f).toInt64))), .second, .val (.int (28 : Int32)), .val (.int y_4)] [])) _
    refine XS.goto X167.here hx rfl (pc0 := 71) (pc' := 4) rfl (hb hby own_d7_71) (by decide) (by decide) ?_
    show Steps p.tables e below (T167.setTop (mkF m 4 #[.val (.ref a_o), .val (.long (((((0 : Int64) ||| (((y_1 &&& (127 : Int32)).toInt64) <<< ((0 : Int32) &&& 0x3f).toInt64)) ||| (((y_2 &&& (127 : Int32)).toInt64) <<< ((7 : Int32) &&& 0x3f).toInt64)) ||| (((y_3 &&& (127 : Int32)).toInt64) <<< ((14 : Int32) &&& 0x3f).toInt64)) ||| (((y_4 &&& (127 : Int32)).toInt64) <<< ((21 : Int32) &&& 0x3f).toInt64))), .second, .val (.int (28 : Int32)), .val (.int y_4)] [])) _
    refine XS.iloadN X167.here hx rfl (hb hby own_d7_4) rfl ?_
    show Steps p.tables e below (T167.setTop (mkF m 5 #[.val (.ref a_o), .val (.long (((((0 : Int64) ||| (((y_1 &&& (127 : Int32)).toInt64) <<< ((0 : Int32) &&& 0x3f).toInt64)) ||| (((y_2 &&& (127 : Int32)).toInt64) <<< ((7 : Int32) &&& 0x3f).toInt64)) ||| (((y_3 &&& (127 : Int32)).toInt64) <<< ((14 : Int32) &&& 0x3f).toInt64)) ||| (((y_4 &&& (127 : Int32)).toInt64) <<< ((21 : Int32) &&& 0x3f).toInt64))), .second, .val (.int (28 : Int32)), .val (.int y_4)] [(.int (28 : Int32))])) _
    refine XS.bipush X167.here hx rfl (hb hby own_d7_5) ?_
    show Steps p.tables e below (T167.setTop (mkF m 7 #[.val (.ref a_o), .val (.long (((((0 : Int64) ||| (((y_1 &&& (127 : Int32)).toInt64) <<< ((0 : Int32) &&& 0x3f).toInt64)) ||| (((y_2 &&& (127 : Int32)).toInt64) <<< ((7 : Int32) &&& 0x3f).toInt64)) ||| (((y_3 &&& (127 : Int32)).toInt64) <<< ((14 : Int32) &&& 0x3f).toInt64)) ||| (((y_4 &&& (127 : Int32)).toInt64) <<< ((21 : Int32) &&& 0x3f).toInt64))), .second, .val (.int (28 : Int32)), .val (.int y_4)] [(.int (64 : Int32)), (.int (28 : Int32))])) _
    refine XS.icmpNo X167.here hx rfl (hb hby own_d7_7) rfl (tlt ((by decide) : (28 : Int32) < (64 : Int32))).2.1 ?_
    show Steps p.tables e below (T167.setTop (mkF m 10 #[.val (.ref a_o), .val (.long (((((0 : Int64) ||| (((y_1 &&& (127 : Int32)).toInt64) <<< ((0 : Int32) &&& 0x3f).toInt64)) ||| (((y_2 &&& (127 : Int32)).toInt64) <<< ((7 : Int32) &&& 0x3f).toInt64)) ||| (((y_3 &&& (127 : Int32)).toInt64) <<< ((14 : Int32) &&& 0x3f).toInt64)) ||| (((y_4 &&& (127 : Int32)).toInt64) <<< ((21 : Int32) &&& 0x3f).toInt64))), .second, .val (.int (28 : Int32)), .val (.int y_4)] [])) _
    refine XS.aloadN X167.here hx rfl (hb hby own_d7_10) rfl rfl ?_
    show Steps p.tables e below (T167.setTop (mkF m 11 #[.val (.ref a_o), .val (.long (((((0 : Int64) ||| (((y_1 &&& (127 : Int32)).toInt64) <<< ((0 : Int32) &&& 0x3f).toInt64)) ||| (((y_2 &&& (127 : Int32)).toInt64) <<< ((7 : Int32) &&& 0x3f).toInt64)) ||| (((y_3 &&& (127 : Int32)).toInt64) <<< ((14 : Int32) &&& 0x3f).toInt64)) ||| (((y_4 &&& (127 : Int32)).toInt64) <<< ((21 : Int32) &&& 0x3f).toInt64))), .second, .val (.int (28 : Int32)), .val (.int y_4)] [(.ref a_o)])) _
    refine st195 _ ?_
    show Steps p.tables e below (T195.setTop (mkF m 14 #[.val (.ref a_o), .val (.long (((((0 : Int64) ||| (((y_1 &&& (127 : Int32)).toInt64) <<< ((0 : Int32) &&& 0x3f).toInt64)) ||| (((y_2 &&& (127 : Int32)).toInt64) <<< ((7 : Int32) &&& 0x3f).toInt64)) ||| (((y_3 &&& (127 : Int32)).toInt64) <<< ((14 : Int32) &&& 0x3f).toInt64)) ||| (((y_4 &&& (127 : Int32)).toInt64) <<< ((21 : Int32) &&& 0x3f).toInt64))), .second, .val (.int (28 : Int32)), .val (.int y_4)] [(.int (5 : Int32))])) _
    refine XS.aloadN X195.here hx rfl (hb hby own_d7_14) rfl rfl ?_
    show Steps p.tables e below (T195.setTop (mkF m 15 #[.val (.ref a_o), .val (.long (((((0 : Int64) ||| (((y_1 &&& (127 : Int32)).toInt64) <<< ((0 : Int32) &&& 0x3f).toInt64)) ||| (((y_2 &&& (127 : Int32)).toInt64) <<< ((7 : Int32) &&& 0x3f).toInt64)) ||| (((y_3 &&& (127 : Int32)).toInt64) <<< ((14 : Int32) &&& 0x3f).toInt64)) ||| (((y_4 &&& (127 : Int32)).toInt64) <<< ((21 : Int32) &&& 0x3f).toInt64))), .second, .val (.int (28 : Int32)), .val (.int y_4)] [(.ref a_o), (.int (5 : Int32))])) _
    refine st199 _ ?_
    show Steps p.tables e below (T199.setTop (mkF m 18 #[.val (.ref a_o), .val (.long (((((0 : Int64) ||| (((y_1 &&& (127 : Int32)).toInt64) <<< ((0 : Int32) &&& 0x3f).toInt64)) ||| (((y_2 &&& (127 : Int32)).toInt64) <<< ((7 : Int32) &&& 0x3f).toInt64)) ||| (((y_3 &&& (127 : Int32)).toInt64) <<< ((14 : Int32) &&& 0x3f).toInt64)) ||| (((y_4 &&& (127 : Int32)).toInt64) <<< ((21 : Int32) &&& 0x3f).toInt64))), .second, .val (.int (28 : Int32)), .val (.int y_4)] [(.int (17 : Int32)), (.int (5 : Int32))])) _
    refine XS.icmpYes X199.here hx rfl (pc0 := 18) (pc' := 28) rfl (hb hby own_d7_18) rfl (feq ((by decide) : ¬ ((5 : Int32) = (17 : Int32)))).2 (by decide) (by decide) ?_
    show Steps p.tables e below (T199.setTop (mkF m 28 #[.val (.ref a_o), .val (.long (((((0 : Int64) ||| (((y_1 &&& (127 : Int32)).toInt64) <<< ((0 : Int32) &&& 0x3f).toInt64)) ||| (((y_2 &&& (127 : Int32)).toInt64) <<< ((7 : Int32) &&& 0x3f).toInt64)) ||| (((y_3 &&& (127 : Int32)).toInt64) <<< ((14 : Int32) &&& 0x3f).toInt64)) ||| (((y_4 &&& (127 : Int32)).toInt64) <<< ((21 : Int32) &&& 0x3f).toInt64))), .second, .val (.int (28 : Int32)), .val (.int y_4)] [])) _
    refine XS.aloadN X199.here hx rfl (hb hby own_d7_28) rfl rfl ?_
    show Steps p.tables e below (T199.setTop (mkF m 29 #[.val (.ref a_o), .val (.long (((((0 : Int64) ||| (((y_1 &&& (127 : Int32)).toInt64) <<< ((0 : Int32) &&& 0x3f).toInt64)) ||| (((y_2 &&& (127 : Int32)).toInt64) <<< ((7 : Int32) &&& 0x3f).toInt64)) ||| (((y_3 &&& (127 : Int32)).toInt64) <<< ((14 : Int32) &&& 0x3f).toInt64)) ||| (((y_4 &&& (127 : Int32)).toInt64) <<< ((21 : Int32) &&& 0x3f).toInt64))), .second, .val (.int (28 : Int32)), .val (.int y_4)] [(.ref a_o)])) _
    refine st204 _ ?_
    show Steps p.tables e below (T204.setTop (mkF m 32 #[.val (.ref a_o), .val (.long (((((0 : Int64) ||| (((y_1 &&& (127 : Int32)).toInt64) <<< ((0 : Int32) &&& 0x3f).toInt64)) ||| (((y_2 &&& (127 : Int32)).toInt64) <<< ((7 : Int32) &&& 0x3f).toInt64)) ||| (((y_3 &&& (127 : Int32)).toInt64) <<< ((14 : Int32) &&& 0x3f).toInt64)) ||| (((y_4 &&& (127 : Int32)).toInt64) <<< ((21 : Int32) &&& 0x3f).toInt64))), .second, .val (.int (28 : Int32)), .val (.int y_4)] [(.ref b_o)])) _
    refine XS.aloadN X204.here hx rfl (hb hby own_d7_32) rfl rfl ?_
    show Steps p.tables e below (T204.setTop (mkF m 33 #[.val (.ref a_o), .val (.long (((((0 : Int64) ||| (((y_1 &&& (127 : Int32)).toInt64) <<< ((0 : Int32) &&& 0x3f).toInt64)) ||| (((y_2 &&& (127 : Int32)).toInt64) <<< ((7 : Int32) &&& 0x3f).toInt64)) ||| (((y_3 &&& (127 : Int32)).toInt64) <<< ((14 : Int32) &&& 0x3f).toInt64)) ||| (((y_4 &&& (127 : Int32)).toInt64) <<< ((21 : Int32) &&& 0x3f).toInt64))), .second, .val (.int (28 : Int32)), .val (.int y_4)] [(.ref a_o), (.ref b_o)])) _
    refine XS.dup X204.here hx rfl (hb hby own_d7_33) rfl rfl ?_
    show Steps p.tables e below (T204.setTop (mkF m 34 #[.val (.ref a_o), .val (.long (((((0 : Int64) ||| (((y_1 &&& (127 : Int32)).toInt64) <<< ((0 : Int32) &&& 0x3f).toInt64)) ||| (((y_2 &&& (127 : Int32)).toInt64) <<< ((7 : Int32) &&& 0x3f).toInt64)) ||| (((y_3 &&& (127 : Int32)).toInt64) <<< ((14 : Int32) &&& 0x3f).toInt64)) ||| (((y_4 &&& (127 : Int32)).toInt64) <<< ((21 : Int32) &&& 0x3f).toInt64))), .second, .val (.int (28 : Int32)), .val (.int y_4)] [(.ref a_o), (.ref a_o), (.ref b_o)])) _
    refine st208 _ ?_
    show Steps p.tables e below (T208.setTop (mkF m 37 #[.val (.ref a_o), .val (.long (((((0 : Int64) ||| (((y_1 &&& (127 : Int32)).toInt64) <<< ((0 : Int32) &&& 0x3f).toInt64)) ||| (((y_2 &&& (127 : Int32)).toInt64) <<< ((7 : Int32) &&& 0x3f).toInt64)) ||| (((y_3 &&& (127 : Int32)).toInt64) <<< ((14 : Int32) &&& 0x3f).toInt64)) ||| (((y_4 &&& (127 : Int32)).toInt64) <<< ((21 : Int32) &&& 0x3f).toInt64))), .second, .val (.int (28 : Int32)), .val (.int y_4)] [(.int (5 : Int32)), (.ref a_o), (.ref b_o)])) _
    refine XS.dupX1 X208.here hx rfl (hb hby own_d7_37) rfl rfl rfl ?_
    show Steps p.tables e below (T208.setTop (mkF m 38 #[.val (.ref a_o), .val (.long (((((0 : Int64) ||| (((y_1 &&& (127 : Int32)).toInt64) <<< ((0 : Int32) &&& 0x3f).toInt64)) ||| (((y_2 &&& (127 : Int32)).toInt64) <<< ((7 : Int32) &&& 0x3f).toInt64)) ||| (((y_3 &&& (127 : Int32)).toInt64) <<< ((14 : Int32) &&& 0x3f).toInt64)) ||| (((y_4 &&& (127 : Int32)).toInt64) <<< ((21 : Int32) &&& 0x3f).toInt64))), .second, .val (.int (28 : Int32)), .val (.int y_4)] [(.int (5 : Int32)), (.ref a_o), (.int (5 : Int32)), (.ref b_o)])) _
    refine XS.iconst X208.here hx rfl (hb hby own_d7_38) ?_
    show Steps p.tables e below (T208.setTop (mkF m 39 #[.val (.ref a_o), .val (.long (((((0 : Int64) ||| (((y_1 &&& (127 : Int32)).toInt64) <<< ((0 : Int32) &&& 0x3f).toInt64)) ||| (((y_2 &&& (127 : Int32)).toInt64) <<< ((7 : Int32) &&& 0x3f).toInt64)) ||| (((y_3 &&& (127 : Int32)).toInt64) <<< ((14 : Int32) &&& 0x3f).toInt64)) ||| (((y_4 &&& (127 : Int32)).toInt64) <<< ((21 : Int32) &&& 0x3f).toInt64))), .second, .val (.int (28 : Int32)), .val (.int y_4)] [(.int (1 : Int32)), (.int (5 : Int32)), (.ref a_o), (.int (5 : Int32)), (.ref b_o)])) _
    refine XS.iadd X208.here hx rfl (hb hby own_d7_39) rfl ?_
    show Steps p.tables e below (T208.setTop (mkF m 40 #[.val (.ref a_o), .val (.long (((((0 : Int64) ||| (((y_1 &&& (127 : Int32)).toInt64) <<< ((0 : Int32) &&& 0x3f).toInt64)) ||| (((y_2 &&& (127 : Int32)).toInt64) <<< ((7 : Int32) &&& 0x3f).toInt64)) ||| (((y_3 &&& (127 : Int32)).toInt64) <<< ((14 : Int32) &&& 0x3f).toInt64)) ||| (((y_4 &&& (127 : Int32)).toInt64) <<< ((21 : Int32) &&& 0x3f).toInt64))), .second, .val (.int (28 : Int32)), .val (.int y_4)] [(.int (6 : Int32)), (.ref a_o), (.int (5 : Int32)), (.ref b_o)])) _
    refine st214 _ ?_
    show Steps p.tables e below (T214.setTop (mkF m 43 #[.val (.ref a_o), .val (.long (((((0 : Int64) ||| (((y_1 &&& (127 : Int32)).toInt64) <<< ((0 : Int32) &&& 0x3f).toInt64)) ||| (((y_2 &&& (127 : Int32)).toInt64) <<< ((7 : Int32) &&& 0x3f).toInt64)) ||| (((y_3 &&& (127 : Int32)).toInt64) <<< ((14 : Int32) &&& 0x3f).toInt64)) ||| (((y_4 &&& (127 : Int32)).toInt64) <<< ((21 : Int32) &&& 0x3f).toInt64))), .second, .val (.int (28 : Int32)), .val (.int y_4)] [(.int (5 : Int32)), (.ref b_o)])) _
    refine X214.baloadBytes hx (j := (5 : Int32)) (v := (.int y_5)) (by rw [e214]; exact Ar220.1) (State.isArrayOf_alike hZ.alike Ar220.2.1) Ar220.2.2 hin220 hat220 (g := (mkF m 43 #[.val (.ref a_o), .val (.long (((((0 : Int64) ||| (((y_1 &&& (127 : Int32)).toInt64) <<< ((0 : Int32) &&& 0x3f).toInt64)) ||| (((y_2 &&& (127 : Int32)).toInt64) <<< ((7 : Int32) &&& 0x3f).toInt64)) ||| (((y_3 &&& (127 : Int32)).toInt64) <<< ((14 : Int32) &&& 0x3f).toInt64)) ||| (((y_4 &&& (127 : Int32)).toInt64) <<< ((21 : Int32) &&& 0x3f).toInt64))), .second, .val (.int (28 : Int32)), .val (.int y_4)] [(.int (5 : Int32)), (.ref b_o)])) rfl rfl (hb hby own_d7_43) _ ?_
    show Steps p.tables e below (T214.setTop (mkF m 44 #[.val (.ref a_o), .val (.long (((((0 : Int64) ||| (((y_1 &&& (127 : Int32)).toInt64) <<< ((0 : Int32) &&& 0x3f).toInt64)) ||| (((y_2 &&& (127 : Int32)).toInt64) <<< ((7 : Int32) &&& 0x3f).toInt64)) ||| (((y_3 &&& (127 : Int32)).toInt64) <<< ((14 : Int32) &&& 0x3f).toInt64)) ||| (((y_4 &&& (127 : Int32)).toInt64) <<< ((21 : Int32) &&& 0x3f).toInt64))), .second, .val (.int (28 : Int32)), .val (.int y_4)] [(.int y_5)])) _
    refine XS.istore X214.here hx rfl (hb hby own_d7_44) rfl (l' := #[.val (.ref a_o), .val (.long (((((0 : Int64) ||| (((y_1 &&& (127 : Int32)).toInt64) <<< ((0 : Int32) &&& 0x3f).toInt64)) ||| (((y_2 &&& (127 : Int32)).toInt64) <<< ((7 : Int32) &&& 0x3f).toInt64)) ||| (((y_3 &&& (127 : Int32)).toInt64) <<< ((14 : Int32) &&& 0x3f).toInt64)) ||| (((y_4 &&& (127 : Int32)).toInt64) <<< ((21 : Int32) &&& 0x3f).toInt64))), .second, .val (.int (28 : Int32)), .val (.int y_5)]) rfl ?_
    show Steps p.tables e below (T214.setTop (mkF m 46 #[.val (.ref a_o), .val (.long (((((0 : Int64) ||| (((y_1 &&& (127 : Int32)).toInt64) <<< ((0 : Int32) &&& 0x3f).toInt64)) ||| (((y_2 &&& (127 : Int32)).toInt64) <<< ((7 : Int32) &&& 0x3f).toInt64)) ||| (((y_3 &&& (127 : Int32)).toInt64) <<< ((14 : Int32) &&& 0x3f).toInt64)) ||| (((y_4 &&& (127 : Int32)).toInt64) <<< ((21 : Int32) &&& 0x3f).toInt64))), .second, .val (.int (28 : Int32)), .val (.int y_5)] [])) _
    refine XS.lloadN X214.here hx rfl (hb hby own_d7_46) rfl ?_
    show Steps p.tables e below (T214.setTop (mkF m 47 #[.val (.ref a_o), .val (.long (((((0 : Int64) ||| (((y_1 &&& (127 : Int32)).toInt64) <<< ((0 : Int32) &&& 0x3f).toInt64)) ||| (((y_2 &&& (127 : Int32)).toInt64) <<< ((7 : Int32) &&& 0x3f).toInt64)) ||| (((y_3 &&& (127 : Int32)).toInt64) <<< ((14 : Int32) &&& 0x3f).toInt64)) ||| (((y_4 &&& (127 : Int32)).toInt64) <<< ((21 : Int32) &&& 0x3f).toInt64))), .second, .val (.int (28 : Int32)), .val (.int y_5)] [(.long (((((0 : Int64) ||| (((y_1 &&& (127 : Int32)).toInt64) <<< ((0 : Int32) &&& 0x3f).toInt64)) ||| (((y_2 &&& (127 : Int32)).toInt64) <<< ((7 : Int32) &&& 0x3f).toInt64)) ||| (((y_3 &&& (127 : Int32)).toInt64) <<< ((14 : Int32) &&& 0x3f).toInt64)) ||| (((y_4 &&& (127 : Int32)).toInt64) <<< ((21 : Int32) &&& 0x3f).toInt64)))])) _
    refine XS.iload X214.here hx rfl (hb hby own_d7_47) rfl ?_
    show Steps p.tables e below (T214.setTop (mkF m 49 #[.val (.ref a_o), .val (.long (((((0 : Int64) ||| (((y_1 &&& (127 : Int32)).toInt64) <<< ((0 : Int32) &&& 0x3f).toInt64)) ||| (((y_2 &&& (127 : Int32)).toInt64) <<< ((7 : Int32) &&& 0x3f).toInt64)) ||| (((y_3 &&& (127 : Int32)).toInt64) <<< ((14 : Int32) &&& 0x3f).toInt64)) ||| (((y_4 &&& (127 : Int32)).toInt64) <<< ((21 : Int32) &&& 0x3f).toInt64))), .second, .val (.int (28 : Int32)), .val (.int y_5)] [(.int y_5), (.long (((((0 : Int64) ||| (((y_1 &&& (127 : Int32)).toInt64) <<< ((0 : Int32) &&& 0x3f).toInt64)) ||| (((y_2 &&& (127 : Int32)).toInt64) <<< ((7 : Int32) &&& 0x3f).toInt64)) ||| (((y_3 &&& (127 : Int32)).toInt64) <<< ((14 : Int32) &&& 0x3f).toInt64)) ||| (((y_4 &&& (127 : Int32)).toInt64) <<< ((21 : Int32) &&& 0x3f).toInt64)))])) _
    refine XS.bipush X214.here hx rfl (hb hby own_d7_49) ?_
    show Steps p.tables e below (T214.setTop (mkF m 51 #[.val (.ref a_o), .val (.long (((((0 : Int64) ||| (((y_1 &&& (127 : Int32)).toInt64) <<< ((0 : Int32) &&& 0x3f).toInt64)) ||| (((y_2 &&& (127 : Int32)).toInt64) <<< ((7 : Int32) &&& 0x3f).toInt64)) ||| (((y_3 &&& (127 : Int32)).toInt64) <<< ((14 : Int32) &&& 0x3f).toInt64)) ||| (((y_4 &&& (127 : Int32)).toInt64) <<< ((21 : Int32) &&& 0x3f).toInt64))), .second, .val (.int (28 : Int32)), .val (.int y_5)] [(.int (127 : Int32)), (.int y_5), (.long (((((0 : Int64) ||| (((y_1 &&& (127 : Int32)).toInt64) <<< ((0 : Int32) &&& 0x3f).toInt64)) ||| (((y_2 &&& (127 : Int32)).toInt64) <<< ((7 : Int32) &&& 0x3f).toInt64)) ||| (((y_3 &&& (127 : Int32)).toInt64) <<< ((14 : Int32) &&& 0x3f).toInt64)) ||| (((y_4 &&& (127 : Int32)).toInt64) <<< ((21 : Int32) &&& 0x3f).toInt64)))])) _
    refine XS.iand X214.here hx rfl (hb hby own_d7_51) rfl ?_
    show Steps p.tables e below (T214.setTop (mkF m 52 #[.val (.ref a_o), .val (.long (((((0 : Int64) ||| (((y_1 &&& (127 : Int32)).toInt64) <<< ((0 : Int32) &&& 0x3f).toInt64)) ||| (((y_2 &&& (127 : Int32)).toInt64) <<< ((7 : Int32) &&& 0x3f).toInt64)) ||| (((y_3 &&& (127 : Int32)).toInt64) <<< ((14 : Int32) &&& 0x3f).toInt64)) ||| (((y_4 &&& (127 : Int32)).toInt64) <<< ((21 : Int32) &&& 0x3f).toInt64))), .second, .val (.int (28 : Int32)), .val (.int y_5)] [(.int (y_5 &&& (127 : Int32))), (.long (((((0 : Int64) ||| (((y_1 &&& (127 : Int32)).toInt64) <<< ((0 : Int32) &&& 0x3f).toInt64)) ||| (((y_2 &&& (127 : Int32)).toInt64) <<< ((7 : Int32) &&& 0x3f).toInt64)) ||| (((y_3 &&& (127 : Int32)).toInt64) <<< ((14 : Int32) &&& 0x3f).toInt64)) ||| (((y_4 &&& (127 : Int32)).toInt64) <<< ((21 : Int32) &&& 0x3f).toInt64)))])) _
    refine XS.i2l X214.here hx rfl (hb hby own_d7_52) rfl ?_
    show Steps p.tables e below (T214.setTop (mkF m 53 #[.val (.ref a_o), .val (.long (((((0 : Int64) ||| (((y_1 &&& (127 : Int32)).toInt64) <<< ((0 : Int32) &&& 0x3f).toInt64)) ||| (((y_2 &&& (127 : Int32)).toInt64) <<< ((7 : Int32) &&& 0x3f).toInt64)) ||| (((y_3 &&& (127 : Int32)).toInt64) <<< ((14 : Int32) &&& 0x3f).toInt64)) ||| (((y_4 &&& (127 : Int32)).toInt64) <<< ((21 : Int32) &&& 0x3f).toInt64))), .second, .val (.int (28 : Int32)), .val (.int y_5)] [(.long ((y_5 &&& (127 : Int32)).toInt64)), (.long (((((0 : Int64) ||| (((y_1 &&& (127 : Int32)).toInt64) <<< ((0 : Int32) &&& 0x3f).toInt64)) ||| (((y_2 &&& (127 : Int32)).toInt64) <<< ((7 : Int32) &&& 0x3f).toInt64)) ||| (((y_3 &&& (127 : Int32)).toInt64) <<< ((14 : Int32) &&& 0x3f).toInt64)) ||| (((y_4 &&& (127 : Int32)).toInt64) <<< ((21 : Int32) &&& 0x3f).toInt64)))])) _
    refine XS.iloadN X214.here hx rfl (hb hby own_d7_53) rfl ?_
    show Steps p.tables e below (T214.setTop (mkF m 54 #[.val (.ref a_o), .val (.long (((((0 : Int64) ||| (((y_1 &&& (127 : Int32)).toInt64) <<< ((0 : Int32) &&& 0x3f).toInt64)) ||| (((y_2 &&& (127 : Int32)).toInt64) <<< ((7 : Int32) &&& 0x3f).toInt64)) ||| (((y_3 &&& (127 : Int32)).toInt64) <<< ((14 : Int32) &&& 0x3f).toInt64)) ||| (((y_4 &&& (127 : Int32)).toInt64) <<< ((21 : Int32) &&& 0x3f).toInt64))), .second, .val (.int (28 : Int32)), .val (.int y_5)] [(.int (28 : Int32)), (.long ((y_5 &&& (127 : Int32)).toInt64)), (.long (((((0 : Int64) ||| (((y_1 &&& (127 : Int32)).toInt64) <<< ((0 : Int32) &&& 0x3f).toInt64)) ||| (((y_2 &&& (127 : Int32)).toInt64) <<< ((7 : Int32) &&& 0x3f).toInt64)) ||| (((y_3 &&& (127 : Int32)).toInt64) <<< ((14 : Int32) &&& 0x3f).toInt64)) ||| (((y_4 &&& (127 : Int32)).toInt64) <<< ((21 : Int32) &&& 0x3f).toInt64)))])) _
    refine XS.lshl X214.here hx rfl (hb hby own_d7_54) rfl ?_
    show Steps p.tables e below (T214.setTop (mkF m 55 #[.val (.ref a_o), .val (.long (((((0 : Int64) ||| (((y_1 &&& (127 : Int32)).toInt64) <<< ((0 : Int32) &&& 0x3f).toInt64)) ||| (((y_2 &&& (127 : Int32)).toInt64) <<< ((7 : Int32) &&& 0x3f).toInt64)) ||| (((y_3 &&& (127 : Int32)).toInt64) <<< ((14 : Int32) &&& 0x3f).toInt64)) ||| (((y_4 &&& (127 : Int32)).toInt64) <<< ((21 : Int32) &&& 0x3f).toInt64))), .second, .val (.int (28 : Int32)), .val (.int y_5)] [(.long (((y_5 &&& (127 : Int32)).toInt64) <<< ((28 : Int32) &&& 0x3f).toInt64)), (.long (((((0 : Int64) ||| (((y_1 &&& (127 : Int32)).toInt64) <<< ((0 : Int32) &&& 0x3f).toInt64)) ||| (((y_2 &&& (127 : Int32)).toInt64) <<< ((7 : Int32) &&& 0x3f).toInt64)) ||| (((y_3 &&& (127 : Int32)).toInt64) <<< ((14 : Int32) &&& 0x3f).toInt64)) ||| (((y_4 &&& (127 : Int32)).toInt64) <<< ((21 : Int32) &&& 0x3f).toInt64)))])) _
    refine XS.lor X214.here hx rfl (hb hby own_d7_55) rfl ?_
    show Steps p.tables e below (T214.setTop (mkF m 56 #[.val (.ref a_o), .val (.long (((((0 : Int64) ||| (((y_1 &&& (127 : Int32)).toInt64) <<< ((0 : Int32) &&& 0x3f).toInt64)) ||| (((y_2 &&& (127 : Int32)).toInt64) <<< ((7 : Int32) &&& 0x3f).toInt64)) ||| (((y_3 &&& (127 : Int32)).toInt64) <<< ((14 : Int32) &&& 0x3f).toInt64)) ||| (((y_4 &&& (127 : Int32)).toInt64) <<< ((21 : Int32) &&& 0x3f).toInt64))), .second, .val (.int (28 : Int32)), .val (.int y_5)] [(.long ((((((0 : Int64) ||| (((y_1 &&& (127 : Int32)).toInt64) <<< ((0 : Int32) &&& 0x3f).toInt64)) ||| (((y_2 &&& (127 : Int32)).toInt64) <<< ((7 : Int32) &&& 0x3f).toInt64)) ||| (((y_3 &&& (127 : Int32)).toInt64) <<< ((14 : Int32) &&& 0x3f).toInt64)) ||| (((y_4 &&& (127 : Int32)).toInt64) <<< ((21 : Int32) &&& 0x3f).toInt64)) ||| (((y_5 &&& (127 : Int32)).toInt64) <<< ((28 : Int32) &&& 0x3f).toInt64)))])) _
    refine XS.lstoreN X214.here hx rfl (hb hby own_d7_56) rfl (l' := #[.val (.ref a_o), .val (.long ((((((0 : Int64) ||| (((y_1 &&& (127 : Int32)).toInt64) <<< ((0 : Int32) &&& 0x3f).toInt64)) ||| (((y_2 &&& (127 : Int32)).toInt64) <<< ((7 : Int32) &&& 0x3f).toInt64)) ||| (((y_3 &&& (127 : Int32)).toInt64) <<< ((14 : Int32) &&& 0x3f).toInt64)) ||| (((y_4 &&& (127 : Int32)).toInt64) <<< ((21 : Int32) &&& 0x3f).toInt64)) ||| (((y_5 &&& (127 : Int32)).toInt64) <<< ((28 : Int32) &&& 0x3f).toInt64))), .second, .val (.int (28 : Int32)), .val (.int y_5)]) rfl ?_
    show Steps p.tables e below (T214.setTop (mkF m 57 #[.val (.ref a_o), .val (.long ((((((0 : Int64) ||| (((y_1 &&& (127 : Int32)).toInt64) <<< ((0 : Int32) &&& 0x3f).toInt64)) ||| (((y_2 &&& (127 : Int32)).toInt64) <<< ((7 : Int32) &&& 0x3f).toInt64)) ||| (((y_3 &&& (127 : Int32)).toInt64) <<< ((14 : Int32) &&& 0x3f).toInt64)) ||| (((y_4 &&& (127 : Int32)).toInt64) <<< ((21 : Int32) &&& 0x3f).toInt64)) ||| (((y_5 &&& (127 : Int32)).toInt64) <<< ((28 : Int32) &&& 0x3f).toInt64))), .second, .val (.int (28 : Int32)), .val (.int y_5)] [])) _
    refine XS.iload X214.here hx rfl (hb hby own_d7_57) rfl ?_
    show Steps p.tables e below (T214.setTop (mkF m 59 #[.val (.ref a_o), .val (.long ((((((0 : Int64) ||| (((y_1 &&& (127 : Int32)).toInt64) <<< ((0 : Int32) &&& 0x3f).toInt64)) ||| (((y_2 &&& (127 : Int32)).toInt64) <<< ((7 : Int32) &&& 0x3f).toInt64)) ||| (((y_3 &&& (127 : Int32)).toInt64) <<< ((14 : Int32) &&& 0x3f).toInt64)) ||| (((y_4 &&& (127 : Int32)).toInt64) <<< ((21 : Int32) &&& 0x3f).toInt64)) ||| (((y_5 &&& (127 : Int32)).toInt64) <<< ((28 : Int32) &&& 0x3f).toInt64))), .second, .val (.int (28 : Int32)), .val (.int y_5)] [(.int y_5)])) _
    refine XS.sipush X214.here hx rfl (hb hby own_d7_59) ?_
    show Steps p.tables e below (T214.setTop (mkF m 62 #[.val (.ref a_o), .val (.long ((((((0 : Int64) ||| (((y_1 &&& (127 : Int32)).toInt64) <<< ((0 : Int32) &&& 0x3f).toInt64)) ||| (((y_2 &&& (127 : Int32)).toInt64) <<< ((7 : Int32) &&& 0x3f).toInt64)) ||| (((y_3 &&& (127 : Int32)).toInt64) <<< ((14 : Int32) &&& 0x3f).toInt64)) ||| (((y_4 &&& (127 : Int32)).toInt64) <<< ((21 : Int32) &&& 0x3f).toInt64)) ||| (((y_5 &&& (127 : Int32)).toInt64) <<< ((28 : Int32) &&& 0x3f).toInt64))), .second, .val (.int (28 : Int32)), .val (.int y_5)] [(.int (128 : Int32)), (.int y_5)])) _
    refine XS.iand X214.here hx rfl (hb hby own_d7_62) rfl ?_
    show Steps p.tables e below (T214.setTop (mkF m 63 #[.val (.ref a_o), .val (.long ((((((0 : Int64) ||| (((y_1 &&& (127 : Int32)).toInt64) <<< ((0 : Int32) &&& 0x3f).toInt64)) ||| (((y_2 &&& (127 : Int32)).toInt64) <<< ((7 : Int32) &&& 0x3f).toInt64)) ||| (((y_3 &&& (127 : Int32)).toInt64) <<< ((14 : Int32) &&& 0x3f).toInt64)) ||| (((y_4 &&& (127 : Int32)).toInt64) <<< ((21 : Int32) &&& 0x3f).toInt64)) ||| (((y_5 &&& (127 : Int32)).toInt64) <<< ((28 : Int32) &&& 0x3f).toInt64))), .second, .val (.int (28 : Int32)), .val (.int y_5)] [(.int (y_5 &&& (128 : Int32)))])) _
    refine XS.ifNo X214.here hx rfl (hb hby own_d7_63) rfl ((if0 _ _).trans (teq (hy5 : (y_5 &&& (128 : Int32)) = (0 : Int32))).2) ?_
    show Steps p.tables e below (T214.setTop (mkF m 66 #[.val (.ref a_o), .val (.long ((((((0 : Int64) ||| (((y_1 &&& (127 : Int32)).toInt64) <<< ((0 : Int32) &&& 0x3f).toInt64)) ||| (((y_2 &&& (127 : Int32)).toInt64) <<< ((7 : Int32) &&& 0x3f).toInt64)) ||| (((y_3 &&& (127 : Int32)).toInt64) <<< ((14 : Int32) &&& 0x3f).toInt64)) ||| (((y_4 &&& (127 : Int32)).toInt64) <<< ((21 : Int32) &&& 0x3f).toInt64)) ||| (((y_5 &&& (127 : Int32)).toInt64) <<< ((28 : Int32) &&& 0x3f).toInt64))), .second, .val (.int (28 : Int32)), .val (.int y_5)] [])) _
    refine XS.lloadN X214.here hx rfl (hb hby own_d7_66) rfl ?_
    show Steps p.tables e below (T214.setTop (mkF m 67 #[.val (.ref a_o), .val (.long ((((((0 : Int64) ||| (((y_1 &&& (127 : Int32)).toInt64) <<< ((0 : Int32) &&& 0x3f).toInt64)) ||| (((y_2 &&& (127 : Int32)).toInt64) <<< ((7 : Int32) &&& 0x3f).toInt64)) ||| (((y_3 &&& (127 : Int32)).toInt64) <<< ((14 : Int32) &&& 0x3f).toInt64)) ||| (((y_4 &&& (127 : Int32)).toInt64) <<< ((21 : Int32) &&& 0x3f).toInt64)) ||| (((y_5 &&& (127 : Int32)).toInt64) <<< ((28 : Int32) &&& 0x3f).toInt64))), .second, .val (.int (28 : Int32)), .val (.int y_5)] [(.long ((((((0 : Int64) ||| (((y_1 &&& (127 : Int32)).toInt64) <<< ((0 : Int32) &&& 0x3f).toInt64)) ||| (((y_2 &&& (127 : Int32)).toInt64) <<< ((7 : Int32) &&& 0x3f).toInt64)) ||| (((y_3 &&& (127 : Int32)).toInt64) <<< ((14 : Int32) &&& 0x3f).toInt64)) ||| (((y_4 &&& (127 : Int32)).toInt64) <<< ((21 : Int32) &&& 0x3f).toInt64)) ||| (((y_5 &&& (127 : Int32)).toInt64) <<< ((28 : Int32) &&& 0x3f).toInt64)))])) _
    exact X214.lreturnOut hx Bd.returns (hb hby own_d7_67) hr
  · show Qown_rl5 Z a_o b_o k_b v_0 y_1 y_2 y_3 y_4 y_5 v_6 v_7 v_8 v_9 v_10 v_11 v_12 v_13 v_14 v_15 v_16 h0 n0 _ T214.heap _
    rw [e214]
    have Fq237 : Exa Z h214 a_o "fieldstone/ByteReader" := (Fq213.wr W214)
    have Fq238 : Fld Z h214 a_o "fieldstone/ByteReader" "bytes" "[B" (.ref b_o) := (Fq203.other W214 (Or.inr (slot_ne (Or.inl (hw _ (List.mem_of_getElem? (i := 24) rfl))) (Or.inl (hw _ (List.mem_of_getElem? (i := 26) rfl))) (by decide) (t := (.array .byte)) (t' := .int) (by decide) (by decide))))
    have Fq239 : Fld Z h214 a_o "fieldstone/ByteReader" "limit" "I" (.int (17 : Int32)) := (Fq198.other W214 (Or.inr (slot_ne (Or.inl (hw _ (List.mem_of_getElem? (i := 28) rfl))) (Or.inl (hw _ (List.mem_of_getElem? (i := 26) rfl))) (by decide) (t := .int) (t' := .int) (by decide) (by decide))))
    exact ⟨rfl, N217, Kc215, Fq237, Fq238, Fw214, Fq239⟩
theorem own_ef_own_ri1 (m : MethodId) (a_o : Addr) : entryFrame m #[(.ref a_o), (.int (31 : Int32))] 4 = mkF m 0 #[.val (.ref a_o), .val (.int (31 : Int32)), .unset, .unset] [] := by first | (simp [entryFrame, mkF, argsToLocals, Value.category]; done) | rfl
theorem own_pd1 : parseMethodDescriptor "()J" = some ⟨[], some .long⟩ := by decide +kernel
theorem own_d6_0 : decode prog_2_method_12_code 0 = .ok (.aload_n 0, 1) := by decide +kernel
theorem own_d6_1 : decode prog_2_method_12_code 1 = .ok (.invokevirtual 45, 3) := by decide +kernel
theorem own_d6_4 : decode prog_2_method_12_code 4 = .ok (.lstore_n 2, 1) := by decide +kernel
theorem own_d6_5 : decode prog_2_method_12_code 5 = .ok (.lload_n 2, 1) := by decide +kernel
theorem own_d6_6 : decode prog_2_method_12_code 6 = .ok (.lconst 0, 1) := by decide +kernel
theorem own_d6_7 : decode prog_2_method_12_code 7 = .ok (.lcmp, 1) := by decide +kernel
theorem own_d6_8 : decode prog_2_method_12_code 8 = .ok (.ifCond .lt 10, 3) := by decide +kernel
theorem own_d6_11 : decode prog_2_method_12_code 11 = .ok (.lload_n 2, 1) := by decide +kernel
theorem own_d6_12 : decode prog_2_method_12_code 12 = .ok (.iload_n 1, 1) := by decide +kernel
theorem own_d6_13 : decode prog_2_method_12_code 13 = .ok (.i2l, 1) := by decide +kernel
theorem own_d6_14 : decode prog_2_method_12_code 14 = .ok (.lcmp, 1) := by decide +kernel
theorem own_d6_15 : decode prog_2_method_12_code 15 = .ok (.ifCond .le 9, 3) := by decide +kernel
theorem own_d6_24 : decode prog_2_method_12_code 24 = .ok (.lload_n 2, 1) := by decide +kernel
theorem own_d6_25 : decode prog_2_method_12_code 25 = .ok (.l2i, 1) := by decide +kernel
theorem own_d6_26 : decode prog_2_method_12_code 26 = .ok (.ireturn, 1) := by decide +kernel
def Qown_ri1 (Z : State) (a_o : Addr) (b_o : Addr) (k_b : ClassId) (y_0 : Int32) (v_1 : Value) (v_2 : Value) (v_3 : Value) (v_4 : Value) (v_5 : Value) (v_6 : Value) (v_7 : Value) (v_8 : Value) (v_9 : Value) (v_10 : Value) (v_11 : Value) (v_12 : Value) (v_13 : Value) (v_14 : Value) (v_15 : Value) (v_16 : Value) (h0 : Heap) (n0 : Nat) (v : Option Value) (h : Heap) (L : List Loc) : Prop := v = some (.int ((own_vl1 y_0).toInt32)) ∧ Fr n0 L ∧ Keep h0 h [a_o] ∧ Exa Z h a_o "fieldstone/ByteReader" ∧ Fld Z h a_o "fieldstone/ByteReader" "bytes" "[B" (.ref b_o) ∧ Fld Z h a_o "fieldstone/ByteReader" "pos" "I" (.int (1 : Int32)) ∧ Fld Z h a_o "fieldstone/ByteReader" "limit" "I" (.int (17 : Int32))
set_option maxRecDepth 65536 in
set_option maxHeartbeats 40000000 in
theorem own_ri1 (l : Launch) (Z : State) (a0 : Array Value) (hw : ∀ d ∈ tables_1, d.before a0 Z = true) (ws : List Jvm.Cond) (a_o : Addr) (b_o : Addr) (k_b : ClassId) (y_0 : Int32) (v_1 : Value) (v_2 : Value) (v_3 : Value) (v_4 : Value) (v_5 : Value) (v_6 : Value) (v_7 : Value) (v_8 : Value) (v_9 : Value) (v_10 : Value) (v_11 : Value) (v_12 : Value) (v_13 : Value) (v_14 : Value) (v_15 : Value) (v_16 : Value) (h0 : Heap) (n0 : Nat) (Z0 : n0 ≤ h0.size) (Eo : Exa Z h0 a_o "fieldstone/ByteReader") (F_b : Fld Z h0 a_o "fieldstone/ByteReader" "bytes" "[B" (.ref b_o)) (F_p : Fld Z h0 a_o "fieldstone/ByteReader" "pos" "I" (.int (0 : Int32))) (F_l : Fld Z h0 a_o "fieldstone/ByteReader" "limit" "I" (.int (17 : Int32))) (V_b : Arv Z h0 b_o k_b .byte (17 : Int32) [(.int y_0), v_1, v_2, v_3, v_4, v_5, v_6, v_7, v_8, v_9, v_10, v_11, v_12, v_13, v_14, v_15, v_16] (.int (0 : Int32))) (ga : n0 ≤ a_o) (en1 : b_o ≠ a_o) (hy0 : (y_0 &&& (128 : Int32)) = (0 : Int32)) (hn : ¬ (own_vl1 y_0) < (0 : Int64)) (hm : ¬ (31 : Int64) < (own_vl1 y_0)) :
    MetFree l (⟨"fieldstone/ByteReader", "readVarInt", "(I)I"⟩ : MethodName) (head1 (Jvm.Cond.code (⟨"fieldstone/ByteReader", "readVarInt", "(I)I"⟩ : MethodName) prog_2_method_12_code 4 (some .int) :: ws) ({ frames := 1, cells := 0, slots := 0, locals := 16 } : Room)) (fun a U => a = #[(.ref a_o), (.int (31 : Int32))] ∧ Z.Warmed39 U.vm ∧ U.heap = h0) (fun _ _ _ _ _ => True) (fun _ U o U' => ∃ v L, o = .returned v ∧ Qown_ri1 Z a_o b_o k_b y_0 v_1 v_2 v_3 v_4 v_5 v_6 v_7 v_8 v_9 v_10 v_11 v_12 v_13 v_14 v_15 v_16 h0 n0 v U'.heap L ∧ FrameEnd U o U' L ({ frames := 1, cells := 0, slots := 0, locals := 16 } : Room).cells ({ frames := 1, cells := 0, slots := 0, locals := 16 } : Room).slots) := by
  refine MetFree.of_bodySF (plainFor_of_name own_pn0) hisR ?_
  intro p e s m args below meth c s₁ Bd hml0 hP hK
  obtain ⟨rfl, hZ, hh⟩ := hP
  have hx := Bd.exec
  have hby := Bd.bytes
  have hml : c.maxLocals = 4 := hml0
  have hown : s.vm.findClass "fieldstone/ByteReader" = some m.cls := findClass_of_methodNamed Bd.named
  have hnm := (name_of_methodNamed Bd.named Bd.method).1
  have X0 : Stand p l e ({ frames := 1, cells := 0, slots := 0, locals := 16 } : Room) s m #[(.ref a_o), (.int (31 : Int32))] below meth c s₁ [] 0 0 := Stand.of_body Bd
  have e0 : s₁.heap = h0 := by rw [← hh, Bd.state]; rfl
  have N0 := Fr.nil n0
  have pre0 : ∀ t, Steps p.tables e below (s₁.setTop (mkF m 0 #[.val (.ref a_o), .val (.int (31 : Int32)), .unset, .unset] [])) t → Steps p.tables e below (s₁.setTop (entryFrame m #[(.ref a_o), (.int (31 : Int32))] 4)) t := fun t k => castTop (own_ef_own_ri1 m a_o) k
  obtain ⟨cq3, kq3, q3a, q3b, q3c⟩ := isOf hZ e0 Eo
  obtain ⟨_, _, ⟨T3, L3, k3, n3⟩, -, X3, ⟨Lc3, hQ3, l3, y3, z3⟩, st3⟩ := X0.virtualBack hx (y := (⟨"fieldstone/ByteReader", "readVarLong", "()J"⟩ : MethodName)) (z := (⟨"fieldstone/ByteReader", "readVarLong", "()J"⟩ : MethodName)) hown (mvT hZ (hw _ (List.mem_of_getElem? (i := 50) rfl))) (mvT hZ (hw _ (List.mem_of_getElem? (i := 51) rfl))) (notFace_of_selects (args := #[]) (mvT hZ (hw _ (List.mem_of_getElem? (i := 53) rfl)))) (mvT hZ (hw _ (List.mem_of_getElem? (i := 53) rfl))) (mvT hZ (hw _ (List.mem_of_getElem? (i := 52) rfl))) (by decide) (backOf (W := 0) (own_rl1 l Z a0 hw [] a_o b_o k_b y_0 v_1 v_2 v_3 v_4 v_5 v_6 v_7 v_8 v_9 v_10 v_11 v_12 v_13 v_14 v_15 v_16 h0 n0 Z0 Eo F_b F_p F_l V_b ga en1 hy0) hZ (hw _ (List.mem_of_getElem? (i := 54) rfl)) (hw _ (List.mem_of_getElem? (i := 4) rfl)) (by decide) (by decide)) q3a q3c (g := (mkF m 1 #[.val (.ref a_o), .val (.int (31 : Int32)), .unset, .unset] [(.ref a_o)])) rfl (by rw [hml]; rfl) (Steps.refl _) (argsL := []) (rest := []) (lenOf own_pd1 rfl) rfl (by show 2 * 0 + _ ≤ _; exact Nat.le_of_eq rfl) (hb hby own_d6_1) (fun _ _ => ⟨rfl, e0, (by decide : 0 + 0 ≤ _), (by decide : 0 + 0 ≤ _)⟩)
  dsimp only [Pt.U, Pt.locs, Pt.cells, Pt.slots] at X3 l3 y3 z3 st3 hQ3
  rw [l3, y3, z3] at X3
  obtain ⟨rfl, Nq3, K3, Pf3_0, Pf3_1, Pf3_2, Pf3_3⟩ := hQ3
  have N4 := Fr.app N0 Nq3
  have Kc5 : Keep h0 T3.heap [a_o] := (Keep.refl h0 [a_o]).trans K3 (allS (Or.inl (List.mem_of_getElem? (i := 0) rfl)) all0)
  have Zs6 : n0 ≤ T3.heap.size := Nat.le_trans Z0 K3.1
  obtain ⟨fs, hr, hrun, hended, hW, hsame⟩ := X3.leave (v := some (.int ((own_vl1 y_0).toInt32))) (fun h => by rw [Bd.returns] at h; cases h) (hlocks := BodyLoose.notSynchronized Bd)
  refine ⟨_, _, pre0 _ ?_, hrun, hended, _, _, rfl, ?_, ⟨_, rfl⟩, hW, hsame.mono (by decide) (by decide)⟩
  · show Steps p.tables e below (s₁.setTop (mkF m 0 #[.val (.ref a_o), .val (.int (31 : Int32)), .unset, .unset] [])) _
    refine XS.aloadN X0.here hx rfl (hb hby own_d6_0) rfl rfl ?_
    show Steps p.tables e below (s₁.setTop (mkF m 1 #[.val (.ref a_o), .val (.int (31 : Int32)), .unset, .unset] [(.ref a_o)])) _
    refine st3.trans ?_
    show Steps p.tables e below (T3.setTop (mkF m 4 #[.val (.ref a_o), .val (.int (31 : Int32)), .unset, .unset] [(.long (own_vl1 y_0))])) _
    refine XS.lstoreN X3.here hx rfl (hb hby own_d6_4) rfl (l' := #[.val (.ref a_o), .val (.int (31 : Int32)), .val (.long (own_vl1 y_0)), .second]) rfl ?_
    show Steps p.tables e below (T3.setTop (mkF m 5 #[.val (.ref a_o), .val (.int (31 : Int32)), .val (.long (own_vl1 y_0)), .second] [])) _
    refine XS.lloadN X3.here hx rfl (hb hby own_d6_5) rfl ?_
    show Steps p.tables e below (T3.setTop (mkF m 6 #[.val (.ref a_o), .val (.int (31 : Int32)), .val (.long (own_vl1 y_0)), .second] [(.long (own_vl1 y_0))])) _
    refine XS.lconst X3.here hx rfl (hb hby own_d6_6) ?_
    show Steps p.tables e below (T3.setTop (mkF m 7 #[.val (.ref a_o), .val (.int (31 : Int32)), .val (.long (own_vl1 y_0)), .second] [(.long (0 : Int64)), (.long (own_vl1 y_0))])) _
    refine XS.lcmp X3.here hx rfl (hb hby own_d6_7) rfl ?_
    show Steps p.tables e below (T3.setTop (mkF m 8 #[.val (.ref a_o), .val (.int (31 : Int32)), .val (.long (own_vl1 y_0)), .second] [(.int (lcmpW (own_vl1 y_0) (0 : Int64)))])) _
    refine XS.ifNo X3.here hx rfl (hb hby own_d6_8) rfl ((if0 _ _).trans (flt (fun q => (hn : ¬ ((own_vl1 y_0) < (0 : Int64))) (own_lcLt.mp q))).1) ?_
    show Steps p.tables e below (T3.setTop (mkF m 11 #[.val (.ref a_o), .val (.int (31 : Int32)), .val (.long (own_vl1 y_0)), .second] [])) _
    refine XS.lloadN X3.here hx rfl (hb hby own_d6_11) rfl ?_
    show Steps p.tables e below (T3.setTop (mkF m 12 #[.val (.ref a_o), .val (.int (31 : Int32)), .val (.long (own_vl1 y_0)), .second] [(.long (own_vl1 y_0))])) _
    refine XS.iloadN X3.here hx rfl (hb hby own_d6_12) rfl ?_
    show Steps p.tables e below (T3.setTop (mkF m 13 #[.val (.ref a_o), .val (.int (31 : Int32)), .val (.long (own_vl1 y_0)), .second] [(.int (31 : Int32)), (.long (own_vl1 y_0))])) _
    refine XS.i2l X3.here hx rfl (hb hby own_d6_13) rfl ?_
    show Steps p.tables e below (T3.setTop (mkF m 14 #[.val (.ref a_o), .val (.int (31 : Int32)), .val (.long (own_vl1 y_0)), .second] [(.long (31 : Int64)), (.long (own_vl1 y_0))])) _
    refine XS.lcmp X3.here hx rfl (hb hby own_d6_14) rfl ?_
    show Steps p.tables e below (T3.setTop (mkF m 15 #[.val (.ref a_o), .val (.int (31 : Int32)), .val (.long (own_vl1 y_0)), .second] [(.int (lcmpW (own_vl1 y_0) (31 : Int64)))])) _
    refine XS.ifYes X3.here hx rfl (pc0 := 15) (pc' := 24) rfl (hb hby own_d6_15) rfl ((if0 _ _).trans (flt (fun q => (hm : ¬ ((31 : Int64) < (own_vl1 y_0))) (own_lcGt.mp q))).2.2.2) (by decide) (by decide) ?_
    show Steps p.tables e below (T3.setTop (mkF m 24 #[.val (.ref a_o), .val (.int (31 : Int32)), .val (.long (own_vl1 y_0)), .second] [])) _
    refine XS.lloadN X3.here hx rfl (hb hby own_d6_24) rfl ?_
    show Steps p.tables e below (T3.setTop (mkF m 25 #[.val (.ref a_o), .val (.int (31 : Int32)), .val (.long (own_vl1 y_0)), .second] [(.long (own_vl1 y_0))])) _
    refine XS.l2i X3.here hx rfl (hb hby own_d6_25) rfl ?_
    show Steps p.tables e below (T3.setTop (mkF m 26 #[.val (.ref a_o), .val (.int (31 : Int32)), .val (.long (own_vl1 y_0)), .second] [(.int ((own_vl1 y_0).toInt32))])) _
    exact retI X3 hx Bd.returns (hb hby own_d6_26) hr
  · show Qown_ri1 Z a_o b_o k_b y_0 v_1 v_2 v_3 v_4 v_5 v_6 v_7 v_8 v_9 v_10 v_11 v_12 v_13 v_14 v_15 v_16 h0 n0 _ T3.heap _
    exact ⟨rfl, N4, Kc5, Pf3_0, Pf3_1, Pf3_2, Pf3_3⟩
theorem own_ef_own_ri5 (m : MethodId) (a_o : Addr) : entryFrame m #[(.ref a_o), (.int (2147483647 : Int32))] 4 = mkF m 0 #[.val (.ref a_o), .val (.int (2147483647 : Int32)), .unset, .unset] [] := by first | (simp [entryFrame, mkF, argsToLocals, Value.category]; done) | rfl
def Qown_ri5 (Z : State) (a_o : Addr) (b_o : Addr) (k_b : ClassId) (v_0 : Value) (y_1 : Int32) (y_2 : Int32) (y_3 : Int32) (y_4 : Int32) (y_5 : Int32) (v_6 : Value) (v_7 : Value) (v_8 : Value) (v_9 : Value) (v_10 : Value) (v_11 : Value) (v_12 : Value) (v_13 : Value) (v_14 : Value) (v_15 : Value) (v_16 : Value) (h0 : Heap) (n0 : Nat) (v : Option Value) (h : Heap) (L : List Loc) : Prop := v = some (.int ((own_vl5 y_1 y_2 y_3 y_4 y_5).toInt32)) ∧ Fr n0 L ∧ Keep h0 h [a_o] ∧ Exa Z h a_o "fieldstone/ByteReader" ∧ Fld Z h a_o "fieldstone/ByteReader" "bytes" "[B" (.ref b_o) ∧ Fld Z h a_o "fieldstone/ByteReader" "pos" "I" (.int (6 : Int32)) ∧ Fld Z h a_o "fieldstone/ByteReader" "limit" "I" (.int (17 : Int32))
set_option maxRecDepth 65536 in
set_option maxHeartbeats 40000000 in
theorem own_ri5 (l : Launch) (Z : State) (a0 : Array Value) (hw : ∀ d ∈ tables_1, d.before a0 Z = true) (ws : List Jvm.Cond) (a_o : Addr) (b_o : Addr) (k_b : ClassId) (v_0 : Value) (y_1 : Int32) (y_2 : Int32) (y_3 : Int32) (y_4 : Int32) (y_5 : Int32) (v_6 : Value) (v_7 : Value) (v_8 : Value) (v_9 : Value) (v_10 : Value) (v_11 : Value) (v_12 : Value) (v_13 : Value) (v_14 : Value) (v_15 : Value) (v_16 : Value) (h0 : Heap) (n0 : Nat) (Z0 : n0 ≤ h0.size) (Eo : Exa Z h0 a_o "fieldstone/ByteReader") (F_b : Fld Z h0 a_o "fieldstone/ByteReader" "bytes" "[B" (.ref b_o)) (F_p : Fld Z h0 a_o "fieldstone/ByteReader" "pos" "I" (.int (1 : Int32))) (F_l : Fld Z h0 a_o "fieldstone/ByteReader" "limit" "I" (.int (17 : Int32))) (V_b : Arv Z h0 b_o k_b .byte (17 : Int32) [v_0, (.int y_1), (.int y_2), (.int y_3), (.int y_4), (.int y_5), v_6, v_7, v_8, v_9, v_10, v_11, v_12, v_13, v_14, v_15, v_16] (.int (0 : Int32))) (ga : n0 ≤ a_o) (en1 : b_o ≠ a_o) (hy1 : ¬ ((y_1 &&& (128 : Int32)) = (0 : Int32))) (hy2 : ¬ ((y_2 &&& (128 : Int32)) = (0 : Int32))) (hy3 : ¬ ((y_3 &&& (128 : Int32)) = (0 : Int32))) (hy4 : ¬ ((y_4 &&& (128 : Int32)) = (0 : Int32))) (hy5 : (y_5 &&& (128 : Int32)) = (0 : Int32)) (hn : ¬ (own_vl5 y_1 y_2 y_3 y_4 y_5) < (0 : Int64)) (hm : ¬ (2147483647 : Int64) < (own_vl5 y_1 y_2 y_3 y_4 y_5)) :
    MetFree l (⟨"fieldstone/ByteReader", "readVarInt", "(I)I"⟩ : MethodName) (head1 (Jvm.Cond.code (⟨"fieldstone/ByteReader", "readVarInt", "(I)I"⟩ : MethodName) prog_2_method_12_code 4 (some .int) :: ws) ({ frames := 1, cells := 0, slots := 0, locals := 16 } : Room)) (fun a U => a = #[(.ref a_o), (.int (2147483647 : Int32))] ∧ Z.Warmed39 U.vm ∧ U.heap = h0) (fun _ _ _ _ _ => True) (fun _ U o U' => ∃ v L, o = .returned v ∧ Qown_ri5 Z a_o b_o k_b v_0 y_1 y_2 y_3 y_4 y_5 v_6 v_7 v_8 v_9 v_10 v_11 v_12 v_13 v_14 v_15 v_16 h0 n0 v U'.heap L ∧ FrameEnd U o U' L ({ frames := 1, cells := 0, slots := 0, locals := 16 } : Room).cells ({ frames := 1, cells := 0, slots := 0, locals := 16 } : Room).slots) := by
  refine MetFree.of_bodySF (plainFor_of_name own_pn0) hisR ?_
  intro p e s m args below meth c s₁ Bd hml0 hP hK
  obtain ⟨rfl, hZ, hh⟩ := hP
  have hx := Bd.exec
  have hby := Bd.bytes
  have hml : c.maxLocals = 4 := hml0
  have hown : s.vm.findClass "fieldstone/ByteReader" = some m.cls := findClass_of_methodNamed Bd.named
  have hnm := (name_of_methodNamed Bd.named Bd.method).1
  have X0 : Stand p l e ({ frames := 1, cells := 0, slots := 0, locals := 16 } : Room) s m #[(.ref a_o), (.int (2147483647 : Int32))] below meth c s₁ [] 0 0 := Stand.of_body Bd
  have e0 : s₁.heap = h0 := by rw [← hh, Bd.state]; rfl
  have N0 := Fr.nil n0
  have pre0 : ∀ t, Steps p.tables e below (s₁.setTop (mkF m 0 #[.val (.ref a_o), .val (.int (2147483647 : Int32)), .unset, .unset] [])) t → Steps p.tables e below (s₁.setTop (entryFrame m #[(.ref a_o), (.int (2147483647 : Int32))] 4)) t := fun t k => castTop (own_ef_own_ri5 m a_o) k
  obtain ⟨cq3, kq3, q3a, q3b, q3c⟩ := isOf hZ e0 Eo
  obtain ⟨_, _, ⟨T3, L3, k3, n3⟩, -, X3, ⟨Lc3, hQ3, l3, y3, z3⟩, st3⟩ := X0.virtualBack hx (y := (⟨"fieldstone/ByteReader", "readVarLong", "()J"⟩ : MethodName)) (z := (⟨"fieldstone/ByteReader", "readVarLong", "()J"⟩ : MethodName)) hown (mvT hZ (hw _ (List.mem_of_getElem? (i := 50) rfl))) (mvT hZ (hw _ (List.mem_of_getElem? (i := 51) rfl))) (notFace_of_selects (args := #[]) (mvT hZ (hw _ (List.mem_of_getElem? (i := 53) rfl)))) (mvT hZ (hw _ (List.mem_of_getElem? (i := 53) rfl))) (mvT hZ (hw _ (List.mem_of_getElem? (i := 52) rfl))) (by decide) (backOf (W := 0) (own_rl5 l Z a0 hw [] a_o b_o k_b v_0 y_1 y_2 y_3 y_4 y_5 v_6 v_7 v_8 v_9 v_10 v_11 v_12 v_13 v_14 v_15 v_16 h0 n0 Z0 Eo F_b F_p F_l V_b ga en1 hy1 hy2 hy3 hy4 hy5) hZ (hw _ (List.mem_of_getElem? (i := 54) rfl)) (hw _ (List.mem_of_getElem? (i := 4) rfl)) (by decide) (by decide)) q3a q3c (g := (mkF m 1 #[.val (.ref a_o), .val (.int (2147483647 : Int32)), .unset, .unset] [(.ref a_o)])) rfl (by rw [hml]; rfl) (Steps.refl _) (argsL := []) (rest := []) (lenOf own_pd1 rfl) rfl (by show 2 * 0 + _ ≤ _; exact Nat.le_of_eq rfl) (hb hby own_d6_1) (fun _ _ => ⟨rfl, e0, (by decide : 0 + 0 ≤ _), (by decide : 0 + 0 ≤ _)⟩)
  dsimp only [Pt.U, Pt.locs, Pt.cells, Pt.slots] at X3 l3 y3 z3 st3 hQ3
  rw [l3, y3, z3] at X3
  obtain ⟨rfl, Nq3, K3, Pf3_0, Pf3_1, Pf3_2, Pf3_3⟩ := hQ3
  have N4 := Fr.app N0 Nq3
  have Kc5 : Keep h0 T3.heap [a_o] := (Keep.refl h0 [a_o]).trans K3 (allS (Or.inl (List.mem_of_getElem? (i := 0) rfl)) all0)
  have Zs6 : n0 ≤ T3.heap.size := Nat.le_trans Z0 K3.1
  obtain ⟨fs, hr, hrun, hended, hW, hsame⟩ := X3.leave (v := some (.int ((own_vl5 y_1 y_2 y_3 y_4 y_5).toInt32))) (fun h => by rw [Bd.returns] at h; cases h) (hlocks := BodyLoose.notSynchronized Bd)
  refine ⟨_, _, pre0 _ ?_, hrun, hended, _, _, rfl, ?_, ⟨_, rfl⟩, hW, hsame.mono (by decide) (by decide)⟩
  · show Steps p.tables e below (s₁.setTop (mkF m 0 #[.val (.ref a_o), .val (.int (2147483647 : Int32)), .unset, .unset] [])) _
    refine XS.aloadN X0.here hx rfl (hb hby own_d6_0) rfl rfl ?_
    show Steps p.tables e below (s₁.setTop (mkF m 1 #[.val (.ref a_o), .val (.int (2147483647 : Int32)), .unset, .unset] [(.ref a_o)])) _
    refine st3.trans ?_
    show Steps p.tables e below (T3.setTop (mkF m 4 #[.val (.ref a_o), .val (.int (2147483647 : Int32)), .unset, .unset] [(.long (own_vl5 y_1 y_2 y_3 y_4 y_5))])) _
    refine XS.lstoreN X3.here hx rfl (hb hby own_d6_4) rfl (l' := #[.val (.ref a_o), .val (.int (2147483647 : Int32)), .val (.long (own_vl5 y_1 y_2 y_3 y_4 y_5)), .second]) rfl ?_
    show Steps p.tables e below (T3.setTop (mkF m 5 #[.val (.ref a_o), .val (.int (2147483647 : Int32)), .val (.long (own_vl5 y_1 y_2 y_3 y_4 y_5)), .second] [])) _
    refine XS.lloadN X3.here hx rfl (hb hby own_d6_5) rfl ?_
    show Steps p.tables e below (T3.setTop (mkF m 6 #[.val (.ref a_o), .val (.int (2147483647 : Int32)), .val (.long (own_vl5 y_1 y_2 y_3 y_4 y_5)), .second] [(.long (own_vl5 y_1 y_2 y_3 y_4 y_5))])) _
    refine XS.lconst X3.here hx rfl (hb hby own_d6_6) ?_
    show Steps p.tables e below (T3.setTop (mkF m 7 #[.val (.ref a_o), .val (.int (2147483647 : Int32)), .val (.long (own_vl5 y_1 y_2 y_3 y_4 y_5)), .second] [(.long (0 : Int64)), (.long (own_vl5 y_1 y_2 y_3 y_4 y_5))])) _
    refine XS.lcmp X3.here hx rfl (hb hby own_d6_7) rfl ?_
    show Steps p.tables e below (T3.setTop (mkF m 8 #[.val (.ref a_o), .val (.int (2147483647 : Int32)), .val (.long (own_vl5 y_1 y_2 y_3 y_4 y_5)), .second] [(.int (lcmpW (own_vl5 y_1 y_2 y_3 y_4 y_5) (0 : Int64)))])) _
    refine XS.ifNo X3.here hx rfl (hb hby own_d6_8) rfl ((if0 _ _).trans (flt (fun q => (hn : ¬ ((own_vl5 y_1 y_2 y_3 y_4 y_5) < (0 : Int64))) (own_lcLt.mp q))).1) ?_
    show Steps p.tables e below (T3.setTop (mkF m 11 #[.val (.ref a_o), .val (.int (2147483647 : Int32)), .val (.long (own_vl5 y_1 y_2 y_3 y_4 y_5)), .second] [])) _
    refine XS.lloadN X3.here hx rfl (hb hby own_d6_11) rfl ?_
    show Steps p.tables e below (T3.setTop (mkF m 12 #[.val (.ref a_o), .val (.int (2147483647 : Int32)), .val (.long (own_vl5 y_1 y_2 y_3 y_4 y_5)), .second] [(.long (own_vl5 y_1 y_2 y_3 y_4 y_5))])) _
    refine XS.iloadN X3.here hx rfl (hb hby own_d6_12) rfl ?_
    show Steps p.tables e below (T3.setTop (mkF m 13 #[.val (.ref a_o), .val (.int (2147483647 : Int32)), .val (.long (own_vl5 y_1 y_2 y_3 y_4 y_5)), .second] [(.int (2147483647 : Int32)), (.long (own_vl5 y_1 y_2 y_3 y_4 y_5))])) _
    refine XS.i2l X3.here hx rfl (hb hby own_d6_13) rfl ?_
    show Steps p.tables e below (T3.setTop (mkF m 14 #[.val (.ref a_o), .val (.int (2147483647 : Int32)), .val (.long (own_vl5 y_1 y_2 y_3 y_4 y_5)), .second] [(.long (2147483647 : Int64)), (.long (own_vl5 y_1 y_2 y_3 y_4 y_5))])) _
    refine XS.lcmp X3.here hx rfl (hb hby own_d6_14) rfl ?_
    show Steps p.tables e below (T3.setTop (mkF m 15 #[.val (.ref a_o), .val (.int (2147483647 : Int32)), .val (.long (own_vl5 y_1 y_2 y_3 y_4 y_5)), .second] [(.int (lcmpW (own_vl5 y_1 y_2 y_3 y_4 y_5) (2147483647 : Int64)))])) _
    refine XS.ifYes X3.here hx rfl (pc0 := 15) (pc' := 24) rfl (hb hby own_d6_15) rfl ((if0 _ _).trans (flt (fun q => (hm : ¬ ((2147483647 : Int64) < (own_vl5 y_1 y_2 y_3 y_4 y_5))) (own_lcGt.mp q))).2.2.2) (by decide) (by decide) ?_
    show Steps p.tables e below (T3.setTop (mkF m 24 #[.val (.ref a_o), .val (.int (2147483647 : Int32)), .val (.long (own_vl5 y_1 y_2 y_3 y_4 y_5)), .second] [])) _
    refine XS.lloadN X3.here hx rfl (hb hby own_d6_24) rfl ?_
    show Steps p.tables e below (T3.setTop (mkF m 25 #[.val (.ref a_o), .val (.int (2147483647 : Int32)), .val (.long (own_vl5 y_1 y_2 y_3 y_4 y_5)), .second] [(.long (own_vl5 y_1 y_2 y_3 y_4 y_5))])) _
    refine XS.l2i X3.here hx rfl (hb hby own_d6_25) rfl ?_
    show Steps p.tables e below (T3.setTop (mkF m 26 #[.val (.ref a_o), .val (.int (2147483647 : Int32)), .val (.long (own_vl5 y_1 y_2 y_3 y_4 y_5)), .second] [(.int ((own_vl5 y_1 y_2 y_3 y_4 y_5).toInt32))])) _
    exact retI X3 hx Bd.returns (hb hby own_d6_26) hr
  · show Qown_ri5 Z a_o b_o k_b v_0 y_1 y_2 y_3 y_4 y_5 v_6 v_7 v_8 v_9 v_10 v_11 v_12 v_13 v_14 v_15 v_16 h0 n0 _ T3.heap _
    exact ⟨rfl, N4, Kc5, Pf3_0, Pf3_1, Pf3_2, Pf3_3⟩
theorem own_ef_own_ha (m : MethodId) (p_o : Addr) (x_1 : Int32) : entryFrame m #[(.ref p_o), (.int x_1)] 2 = mkF m 0 #[.val (.ref p_o), .val (.int x_1)] [] := by first | (simp [entryFrame, mkF, argsToLocals, Value.category]; done) | rfl
theorem own_d8_0 : decode prog_3_method_3_code 0 = .ok (.aload_n 0, 1) := by decide +kernel
theorem own_d8_1 : decode prog_3_method_3_code 1 = .ok (.iconst 0, 1) := by decide +kernel
theorem own_d8_2 : decode prog_3_method_3_code 2 = .ok (.putfield 25, 3) := by decide +kernel
theorem own_d8_5 : decode prog_3_method_3_code 5 = .ok (.aload_n 0, 1) := by decide +kernel
theorem own_d8_6 : decode prog_3_method_3_code 6 = .ok (.iload_n 1, 1) := by decide +kernel
theorem own_d8_7 : decode prog_3_method_3_code 7 = .ok (.putfield 29, 3) := by decide +kernel
theorem own_d8_10 : decode prog_3_method_3_code 10 = .ok (.return_, 1) := by decide +kernel
def Qown_ha (Z : State) (p_o : Addr) (x_1 : Int32) (h0 : Heap) (n0 : Nat) (v : Option Value) (h : Heap) (L : List Loc) : Prop := v = none ∧ Fr n0 L ∧ Keep h0 h [p_o] ∧ Exa Z h p_o "fieldstone/ByteReader$PackedInts" ∧ Fld Z h p_o "fieldstone/ByteReader$PackedInts" "bits" "I" (.int (0 : Int32)) ∧ Fld Z h p_o "fieldstone/ByteReader$PackedInts" "alike" "I" (.int x_1)
set_option maxRecDepth 65536 in
set_option maxHeartbeats 40000000 in
theorem own_ha (l : Launch) (Z : State) (a0 : Array Value) (hw : ∀ d ∈ tables_1, d.before a0 Z = true) (ws : List Jvm.Cond) (p_o : Addr) (x_1 : Int32) (h0 : Heap) (n0 : Nat) (Z0 : n0 ≤ h0.size) (Eo : Exa Z h0 p_o "fieldstone/ByteReader$PackedInts") (F_b : Fld Z h0 p_o "fieldstone/ByteReader$PackedInts" "bits" "I" (.int (0 : Int32))) (F_a : Fld Z h0 p_o "fieldstone/ByteReader$PackedInts" "alike" "I" (.int (0 : Int32))) (ga : n0 ≤ p_o) :
    MetFree l (⟨"fieldstone/ByteReader$PackedInts", "holdAlike", "(I)V"⟩ : MethodName) (head1 (Jvm.Cond.code (⟨"fieldstone/ByteReader$PackedInts", "holdAlike", "(I)V"⟩ : MethodName) prog_3_method_3_code 2 none :: ws) ({ frames := 0, cells := 0, slots := 0, locals := 0 } : Room)) (fun a U => a = #[(.ref p_o), (.int x_1)] ∧ Z.Warmed39 U.vm ∧ U.heap = h0) (fun _ _ _ _ _ => True) (fun _ U o U' => ∃ v L, o = .returned v ∧ Qown_ha Z p_o x_1 h0 n0 v U'.heap L ∧ FrameEnd U o U' L ({ frames := 0, cells := 0, slots := 0, locals := 0 } : Room).cells ({ frames := 0, cells := 0, slots := 0, locals := 0 } : Room).slots) := by
  refine MetFree.of_bodySF (plainFor_of_name own_pn1) hisR ?_
  intro p e s m args below meth c s₁ Bd hml0 hP hK
  obtain ⟨rfl, hZ, hh⟩ := hP
  have hx := Bd.exec
  have hby := Bd.bytes
  have hml : c.maxLocals = 2 := hml0
  have hown : s.vm.findClass "fieldstone/ByteReader$PackedInts" = some m.cls := findClass_of_methodNamed Bd.named
  have hnm := (name_of_methodNamed Bd.named Bd.method).1
  have X0 : Stand p l e ({ frames := 0, cells := 0, slots := 0, locals := 0 } : Room) s m #[(.ref p_o), (.int x_1)] below meth c s₁ [] 0 0 := Stand.of_body Bd
  have e0 : s₁.heap = h0 := by rw [← hh, Bd.state]; rfl
  have N0 := Fr.nil n0
  have pre0 : ∀ t, Steps p.tables e below (s₁.setTop (mkF m 0 #[.val (.ref p_o), .val (.int x_1)] [])) t → Steps p.tables e below (s₁.setTop (entryFrame m #[(.ref p_o), (.int x_1)] 2)) t := fun t k => castTop (own_ef_own_ha m p_o x_1) k
  obtain ⟨T4, h4, X4, e4, W4, st4⟩ := putF X0 hx hZ hown (host := "") (Or.inl (hw _ (List.mem_of_getElem? (i := 60) rfl))) Via.refl e0 F_b Eo (Or.inl (hw _ (List.mem_of_getElem? (i := 61) rfl))) (hw _ (List.mem_of_getElem? (i := 32) rfl)) (ty := .int) (by decide) rfl rfl (g := (mkF m 2 #[.val (.ref p_o), .val (.int x_1)] [(.int (0 : Int32)), (.ref p_o)])) rfl rfl (hb hby own_d8_2)
  have Kc5 : Keep h0 h4 [p_o] := (Keep.refl h0 [p_o]).wr W4 (Or.inl (List.mem_of_getElem? (i := 0) rfl))
  have Zs6 : n0 ≤ h4.size := Nat.le_trans Z0 (Keep.of_wr W4).1
  have N7 := Fr.snoc X4 N0 ga
  have Fw4 : Fld Z h4 p_o "fieldstone/ByteReader$PackedInts" "bits" "I" (.int (0 : Int32)) := F_b.same W4
  have Fq11 : Exa Z h4 p_o "fieldstone/ByteReader$PackedInts" := (Eo.wr W4)
  have Fq12 : Fld Z h4 p_o "fieldstone/ByteReader$PackedInts" "alike" "I" (.int (0 : Int32)) := (F_a.other W4 (Or.inr (slot_ne (Or.inl (hw _ (List.mem_of_getElem? (i := 63) rfl))) (Or.inl (hw _ (List.mem_of_getElem? (i := 61) rfl))) (by decide) (t := .int) (t' := .int) (by decide) (by decide))))
  obtain ⟨T13, h13, X13, e13, W13, st13⟩ := putF X4 hx hZ hown (host := "") (Or.inl (hw _ (List.mem_of_getElem? (i := 62) rfl))) Via.refl e4 Fq12 Fq11 (Or.inl (hw _ (List.mem_of_getElem? (i := 63) rfl))) (hw _ (List.mem_of_getElem? (i := 32) rfl)) (ty := .int) (by decide) rfl rfl (g := (mkF m 7 #[.val (.ref p_o), .val (.int x_1)] [(.int x_1), (.ref p_o)])) rfl rfl (hb hby own_d8_7)
  have Kc14 : Keep h0 h13 [p_o] := Kc5.wr W13 (Or.inl (List.mem_of_getElem? (i := 0) rfl))
  have Zs15 : n0 ≤ h13.size := Nat.le_trans Zs6 (Keep.of_wr W13).1
  have N16 := Fr.snoc X13 N7 ga
  have Fw13 : Fld Z h13 p_o "fieldstone/ByteReader$PackedInts" "alike" "I" (.int x_1) := Fq12.same W13
  obtain ⟨fs, hr, hrun, hended, hW, hsame⟩ := X13.leave (v := none) (fun _ => rfl) (hlocks := BodyLoose.notSynchronized Bd)
  refine ⟨_, _, pre0 _ ?_, hrun, hended, _, _, rfl, ?_, ⟨_, rfl⟩, hW, hsame.mono (by decide) (by decide)⟩
  · show Steps p.tables e below (s₁.setTop (mkF m 0 #[.val (.ref p_o), .val (.int x_1)] [])) _
    refine XS.aloadN X0.here hx rfl (hb hby own_d8_0) rfl rfl ?_
    show Steps p.tables e below (s₁.setTop (mkF m 1 #[.val (.ref p_o), .val (.int x_1)] [(.ref p_o)])) _
    refine XS.iconst X0.here hx rfl (hb hby own_d8_1) ?_
    show Steps p.tables e below (s₁.setTop (mkF m 2 #[.val (.ref p_o), .val (.int x_1)] [(.int (0 : Int32)), (.ref p_o)])) _
    refine st4 _ ?_
    show Steps p.tables e below (T4.setTop (mkF m 5 #[.val (.ref p_o), .val (.int x_1)] [])) _
    refine XS.aloadN X4.here hx rfl (hb hby own_d8_5) rfl rfl ?_
    show Steps p.tables e below (T4.setTop (mkF m 6 #[.val (.ref p_o), .val (.int x_1)] [(.ref p_o)])) _
    refine XS.iloadN X4.here hx rfl (hb hby own_d8_6) rfl ?_
    show Steps p.tables e below (T4.setTop (mkF m 7 #[.val (.ref p_o), .val (.int x_1)] [(.int x_1), (.ref p_o)])) _
    refine st13 _ ?_
    show Steps p.tables e below (T13.setTop (mkF m 10 #[.val (.ref p_o), .val (.int x_1)] [])) _
    exact X13.returnOut hx Bd.returns (hb hby own_d8_10) hr
  · show Qown_ha Z p_o x_1 h0 n0 _ T13.heap _
    rw [e13]
    have Fq18 : Exa Z h13 p_o "fieldstone/ByteReader$PackedInts" := (Fq11.wr W13)
    have Fq19 : Fld Z h13 p_o "fieldstone/ByteReader$PackedInts" "bits" "I" (.int (0 : Int32)) := (Fw4.other W13 (Or.inr (slot_ne (Or.inl (hw _ (List.mem_of_getElem? (i := 61) rfl))) (Or.inl (hw _ (List.mem_of_getElem? (i := 63) rfl))) (by decide) (t := .int) (t' := .int) (by decide) (by decide))))
    exact ⟨rfl, N16, Kc14, Fq18, Fq19, Fw13⟩
theorem own_ef_own_hp0 (m : MethodId) (a_o : Addr) (c_1 : Int32) (p_o : Addr) : entryFrame m #[(.ref a_o), (.int c_1), (.ref p_o)] 5 = mkF m 0 #[.val (.ref a_o), .val (.int c_1), .val (.ref p_o), .unset, .unset] [] := by first | (simp [entryFrame, mkF, argsToLocals, Value.category]; done) | rfl
theorem own_pd2 : parseMethodDescriptor "(I)I" = some ⟨[.int], some .int⟩ := by decide +kernel
theorem own_pd3 : parseMethodDescriptor "(I)V" = some ⟨[.int], none⟩ := by decide +kernel
theorem own_d5_0 : decode prog_2_method_26_code 0 = .ok (.aload_n 0, 1) := by decide +kernel
theorem own_d5_1 : decode prog_2_method_26_code 1 = .ok (.bipush 31, 2) := by decide +kernel
theorem own_d5_3 : decode prog_2_method_26_code 3 = .ok (.invokevirtual 102, 3) := by decide +kernel
theorem own_d5_6 : decode prog_2_method_26_code 6 = .ok (.istore_n 3, 1) := by decide +kernel
theorem own_d5_7 : decode prog_2_method_26_code 7 = .ok (.iload_n 3, 1) := by decide +kernel
theorem own_d5_8 : decode prog_2_method_26_code 8 = .ok (.ifCond .ne 16, 3) := by decide +kernel
theorem own_d5_11 : decode prog_2_method_26_code 11 = .ok (.aload_n 2, 1) := by decide +kernel
theorem own_d5_12 : decode prog_2_method_26_code 12 = .ok (.aload_n 0, 1) := by decide +kernel
theorem own_d5_13 : decode prog_2_method_26_code 13 = .ok (.ldc 148, 2) := by decide +kernel
theorem own_d5_15 : decode prog_2_method_26_code 15 = .ok (.invokevirtual 102, 3) := by decide +kernel
theorem own_d5_18 : decode prog_2_method_26_code 18 = .ok (.invokevirtual 149, 3) := by decide +kernel
theorem own_d5_21 : decode prog_2_method_26_code 21 = .ok (.goto 42, 3) := by decide +kernel
theorem own_d5_63 : decode prog_2_method_26_code 63 = .ok (.return_, 1) := by decide +kernel
def Qown_hp0 (Z : State) (a_o : Addr) (b_o : Addr) (k_b : ClassId) (c_1 : Int32) (p_o : Addr) (y_0 : Int32) (y_1 : Int32) (y_2 : Int32) (y_3 : Int32) (y_4 : Int32) (y_5 : Int32) (v_6 : Value) (v_7 : Value) (v_8 : Value) (v_9 : Value) (v_10 : Value) (v_11 : Value) (v_12 : Value) (v_13 : Value) (v_14 : Value) (v_15 : Value) (v_16 : Value) (h0 : Heap) (n0 : Nat) (v : Option Value) (h : Heap) (L : List Loc) : Prop := v = none ∧ Fr n0 L ∧ Keep h0 h [a_o, p_o] ∧ Exa Z h p_o "fieldstone/ByteReader$PackedInts" ∧ Fld Z h p_o "fieldstone/ByteReader$PackedInts" "bits" "I" (.int (0 : Int32)) ∧ Fld Z h p_o "fieldstone/ByteReader$PackedInts" "alike" "I" (.int ((own_vl5 y_1 y_2 y_3 y_4 y_5).toInt32))
set_option maxRecDepth 65536 in
set_option maxHeartbeats 40000000 in
theorem own_hp0 (l : Launch) (Z : State) (a0 : Array Value) (hw : ∀ d ∈ tables_1, d.before a0 Z = true) (ws : List Jvm.Cond) (a_o : Addr) (b_o : Addr) (k_b : ClassId) (c_1 : Int32) (p_o : Addr) (y_0 : Int32) (y_1 : Int32) (y_2 : Int32) (y_3 : Int32) (y_4 : Int32) (y_5 : Int32) (v_6 : Value) (v_7 : Value) (v_8 : Value) (v_9 : Value) (v_10 : Value) (v_11 : Value) (v_12 : Value) (v_13 : Value) (v_14 : Value) (v_15 : Value) (v_16 : Value) (h0 : Heap) (n0 : Nat) (Z0 : n0 ≤ h0.size) (Eo : Exa Z h0 a_o "fieldstone/ByteReader") (F_b : Fld Z h0 a_o "fieldstone/ByteReader" "bytes" "[B" (.ref b_o)) (F_p : Fld Z h0 a_o "fieldstone/ByteReader" "pos" "I" (.int (0 : Int32))) (F_l : Fld Z h0 a_o "fieldstone/ByteReader" "limit" "I" (.int (17 : Int32))) (V_b : Arv Z h0 b_o k_b .byte (17 : Int32) [(.int y_0), (.int y_1), (.int y_2), (.int y_3), (.int y_4), (.int y_5), v_6, v_7, v_8, v_9, v_10, v_11, v_12, v_13, v_14, v_15, v_16] (.int (0 : Int32))) (Ep : Exa Z h0 p_o "fieldstone/ByteReader$PackedInts") (F_pb : Fld Z h0 p_o "fieldstone/ByteReader$PackedInts" "bits" "I" (.int (0 : Int32))) (F_pa : Fld Z h0 p_o "fieldstone/ByteReader$PackedInts" "alike" "I" (.int (0 : Int32))) (ga : n0 ≤ a_o) (en1 : b_o ≠ a_o) (gp : n0 ≤ p_o) (en2 : p_o ≠ a_o) (hy0 : (y_0 &&& (128 : Int32)) = (0 : Int32)) (hy1 : ¬ ((y_1 &&& (128 : Int32)) = (0 : Int32))) (hy2 : ¬ ((y_2 &&& (128 : Int32)) = (0 : Int32))) (hy3 : ¬ ((y_3 &&& (128 : Int32)) = (0 : Int32))) (hy4 : ¬ ((y_4 &&& (128 : Int32)) = (0 : Int32))) (hy5 : (y_5 &&& (128 : Int32)) = (0 : Int32)) (hn0 : ¬ (own_vl1 y_0) < (0 : Int64)) (hm0 : ¬ (31 : Int64) < (own_vl1 y_0)) (hz : ((own_vl1 y_0).toInt32) = (0 : Int32)) (hn : ¬ (own_vl5 y_1 y_2 y_3 y_4 y_5) < (0 : Int64)) (hm : ¬ (2147483647 : Int64) < (own_vl5 y_1 y_2 y_3 y_4 y_5)) :
    MetFree l (⟨"fieldstone/ByteReader", "holdPackedInts", "(ILfieldstone/ByteReader$PackedInts;)V"⟩ : MethodName) (head1 (Jvm.Cond.code (⟨"fieldstone/ByteReader", "holdPackedInts", "(ILfieldstone/ByteReader$PackedInts;)V"⟩ : MethodName) prog_2_method_26_code 5 none :: ws) ({ frames := 2, cells := 0, slots := 0, locals := 32 } : Room)) (fun a U => a = #[(.ref a_o), (.int c_1), (.ref p_o)] ∧ Z.Warmed39 U.vm ∧ U.heap = h0) (fun _ _ _ _ _ => True) (fun _ U o U' => ∃ v L, o = .returned v ∧ Qown_hp0 Z a_o b_o k_b c_1 p_o y_0 y_1 y_2 y_3 y_4 y_5 v_6 v_7 v_8 v_9 v_10 v_11 v_12 v_13 v_14 v_15 v_16 h0 n0 v U'.heap L ∧ FrameEnd U o U' L ({ frames := 2, cells := 0, slots := 0, locals := 32 } : Room).cells ({ frames := 2, cells := 0, slots := 0, locals := 32 } : Room).slots) := by
  refine MetFree.of_bodySF (plainFor_of_name own_pn0) hisR ?_
  intro p e s m args below meth c s₁ Bd hml0 hP hK
  obtain ⟨rfl, hZ, hh⟩ := hP
  have hx := Bd.exec
  have hby := Bd.bytes
  have hml : c.maxLocals = 5 := hml0
  have hown : s.vm.findClass "fieldstone/ByteReader" = some m.cls := findClass_of_methodNamed Bd.named
  have hnm := (name_of_methodNamed Bd.named Bd.method).1
  have X0 : Stand p l e ({ frames := 2, cells := 0, slots := 0, locals := 32 } : Room) s m #[(.ref a_o), (.int c_1), (.ref p_o)] below meth c s₁ [] 0 0 := Stand.of_body Bd
  have e0 : s₁.heap = h0 := by rw [← hh, Bd.state]; rfl
  have N0 := Fr.nil n0
  have pre0 : ∀ t, Steps p.tables e below (s₁.setTop (mkF m 0 #[.val (.ref a_o), .val (.int c_1), .val (.ref p_o), .unset, .unset] [])) t → Steps p.tables e below (s₁.setTop (entryFrame m #[(.ref a_o), (.int c_1), (.ref p_o)] 5)) t := fun t k => castTop (own_ef_own_hp0 m a_o c_1 p_o) k
  obtain ⟨cq4, kq4, q4a, q4b, q4c⟩ := isOf hZ e0 Eo
  obtain ⟨_, _, ⟨T4, L4, k4, n4⟩, -, X4, ⟨Lc4, hQ4, l4, y4, z4⟩, st4⟩ := X0.virtualBack hx (y := (⟨"fieldstone/ByteReader", "readVarInt", "(I)I"⟩ : MethodName)) (z := (⟨"fieldstone/ByteReader", "readVarInt", "(I)I"⟩ : MethodName)) hown (mvT hZ (hw _ (List.mem_of_getElem? (i := 45) rfl))) (mvT hZ (hw _ (List.mem_of_getElem? (i := 46) rfl))) (notFace_of_selects (args := #[]) (mvT hZ (hw _ (List.mem_of_getElem? (i := 48) rfl)))) (mvT hZ (hw _ (List.mem_of_getElem? (i := 48) rfl))) (mvT hZ (hw _ (List.mem_of_getElem? (i := 47) rfl))) (by decide) (backOf (W := 0) (own_ri1 l Z a0 hw [] a_o b_o k_b y_0 (.int y_1) (.int y_2) (.int y_3) (.int y_4) (.int y_5) v_6 v_7 v_8 v_9 v_10 v_11 v_12 v_13 v_14 v_15 v_16 h0 n0 Z0 Eo F_b F_p F_l V_b ga en1 hy0 hn0 hm0) hZ (hw _ (List.mem_of_getElem? (i := 49) rfl)) (hw _ (List.mem_of_getElem? (i := 4) rfl)) (by decide) (by decide)) q4a q4c (g := (mkF m 3 #[.val (.ref a_o), .val (.int c_1), .val (.ref p_o), .unset, .unset] [(.int (31 : Int32)), (.ref a_o)])) rfl (by rw [hml]; rfl) (Steps.refl _) (argsL := [(.int (31 : Int32))]) (rest := []) (lenOf own_pd2 rfl) rfl (by show 2 * 0 + _ ≤ _; exact Nat.le_of_eq rfl) (hb hby own_d5_3) (fun _ _ => ⟨rfl, e0, (by decide : 0 + 0 ≤ _), (by decide : 0 + 0 ≤ _)⟩)
  dsimp only [Pt.U, Pt.locs, Pt.cells, Pt.slots] at X4 l4 y4 z4 st4 hQ4
  rw [l4, y4, z4] at X4
  obtain ⟨rfl, Nq4, K4, Pf4_0, Pf4_1, Pf4_2, Pf4_3⟩ := hQ4
  have N5 := Fr.app N0 Nq4
  have Kc6 : Keep h0 T4.heap [a_o, p_o] := (Keep.refl h0 [a_o, p_o]).trans K4 (allS (Or.inl (List.mem_of_getElem? (i := 0) rfl)) all0)
  have Zs7 : n0 ≤ T4.heap.size := Nat.le_trans Z0 K4.1
  have Fq16 : Arv Z T4.heap b_o k_b .byte (17 : Int32) [(.int y_0), (.int y_1), (.int y_2), (.int y_3), (.int y_4), (.int y_5), v_6, v_7, v_8, v_9, v_10, v_11, v_12, v_13, v_14, v_15, v_16] (.int (0 : Int32)) := (V_b.keep K4 (ninS en1 nin0))
  obtain ⟨cq15, kq15, q15a, q15b, q15c⟩ := isOf hZ rfl Pf4_0
  obtain ⟨_, _, ⟨T15, L15, k15, n15⟩, -, X15, ⟨Lc15, hQ15, l15, y15, z15⟩, st15⟩ := X4.virtualBack hx (y := (⟨"fieldstone/ByteReader", "readVarInt", "(I)I"⟩ : MethodName)) (z := (⟨"fieldstone/ByteReader", "readVarInt", "(I)I"⟩ : MethodName)) hown (mvT hZ (hw _ (List.mem_of_getElem? (i := 45) rfl))) (mvT hZ (hw _ (List.mem_of_getElem? (i := 46) rfl))) (notFace_of_selects (args := #[]) (mvT hZ (hw _ (List.mem_of_getElem? (i := 48) rfl)))) (mvT hZ (hw _ (List.mem_of_getElem? (i := 48) rfl))) (mvT hZ (hw _ (List.mem_of_getElem? (i := 47) rfl))) (by decide) (backOf (W := 1) (own_ri5 l Z a0 hw [] a_o b_o k_b (.int y_0) y_1 y_2 y_3 y_4 y_5 v_6 v_7 v_8 v_9 v_10 v_11 v_12 v_13 v_14 v_15 v_16 T4.heap n0 Zs7 Pf4_0 Pf4_1 Pf4_2 Pf4_3 Fq16 ga en1 hy1 hy2 hy3 hy4 hy5 hn hm) hZ (hw _ (List.mem_of_getElem? (i := 49) rfl)) (hw _ (List.mem_of_getElem? (i := 4) rfl)) (by decide) (by decide)) q15a q15c (g := (mkF m 15 #[.val (.ref a_o), .val (.int c_1), .val (.ref p_o), .val (.int (0 : Int32)), .unset] [(.int (2147483647 : Int32)), (.ref a_o), (.ref p_o)])) rfl (by rw [hml]; rfl) (Steps.refl _) (argsL := [(.int (2147483647 : Int32))]) (rest := [(.ref p_o)]) (lenOf own_pd2 rfl) rfl (by show 2 * 0 + _ ≤ _; exact Nat.le_of_eq rfl) (hb hby own_d5_15) (fun _ _ => ⟨rfl, rfl, (by decide : 0 + 0 ≤ _), (by decide : 0 + 0 ≤ _)⟩)
  dsimp only [Pt.U, Pt.locs, Pt.cells, Pt.slots] at X15 l15 y15 z15 st15 hQ15
  rw [l15, y15, z15] at X15
  obtain ⟨rfl, Nq15, K15, Pf15_0, Pf15_1, Pf15_2, Pf15_3⟩ := hQ15
  have N17 := Fr.app N5 Nq15
  have Kc18 : Keep h0 T15.heap [a_o, p_o] := Kc6.trans K15 (allS (Or.inl (List.mem_of_getElem? (i := 0) rfl)) all0)
  have Zs19 : n0 ≤ T15.heap.size := Nat.le_trans Zs7 K15.1
  have Fq22 : Exa Z T15.heap p_o "fieldstone/ByteReader$PackedInts" := ((Ep.keep K4).keep K15)
  have Fq23 : Fld Z T15.heap p_o "fieldstone/ByteReader$PackedInts" "bits" "I" (.int (0 : Int32)) := ((F_pb.keep K4 (ninS en2 nin0)).keep K15 (ninS en2 nin0))
  have Fq24 : Fld Z T15.heap p_o "fieldstone/ByteReader$PackedInts" "alike" "I" (.int (0 : Int32)) := ((F_pa.keep K4 (ninS en2 nin0)).keep K15 (ninS en2 nin0))
  obtain ⟨cq21, q21, q21'⟩ := Fq22.cell
  obtain ⟨_, ⟨T21, L21, k21, n21⟩, X21, ⟨Lc21, hQ21, l21, y21, z21⟩, st21⟩ := own_refBack X15 hx hZ (y := (⟨"fieldstone/ByteReader$PackedInts", "holdAlike", "(I)V"⟩ : MethodName)) hown (hw _ (List.mem_of_getElem? (i := 56) rfl)) (hw _ (List.mem_of_getElem? (i := 57) rfl)) (hw _ (List.mem_of_getElem? (i := 58) rfl)) (hw _ (List.mem_of_getElem? (i := 32) rfl)) (hw _ (List.mem_of_getElem? (i := 59) rfl)) (by decide) (backOf (W := 0) (own_ha l Z a0 hw [] p_o ((own_vl5 y_1 y_2 y_3 y_4 y_5).toInt32) T15.heap n0 Zs19 Fq22 Fq23 Fq24 gp) hZ (hw _ (List.mem_of_getElem? (i := 59) rfl)) (hw _ (List.mem_of_getElem? (i := 33) rfl)) (by decide) (by decide)) (g := (mkF m 18 #[.val (.ref a_o), .val (.int c_1), .val (.ref p_o), .val (.int (0 : Int32)), .unset] [(.int ((own_vl5 y_1 y_2 y_3 y_4 y_5).toInt32)), (.ref p_o)])) rfl (by rw [hml]; rfl) (Steps.refl _) (a := p_o) q21 q21' (argsL := [(.int ((own_vl5 y_1 y_2 y_3 y_4 y_5).toInt32))]) (rest := []) (lenOf own_pd3 rfl) rfl (by show 2 * 0 + _ ≤ _; exact Nat.le_of_eq rfl) (hb hby own_d5_18) ⟨rfl, rfl, (by decide : 0 + 0 ≤ _), (by decide : 0 + 0 ≤ _)⟩
  dsimp only [Pt.U, Pt.locs, Pt.cells, Pt.slots] at X21 l21 y21 z21 st21 hQ21
  rw [l21, y21, z21] at X21
  obtain ⟨rfl, Nq21, K21, Pf21_0, Pf21_1, Pf21_2⟩ := hQ21
  have N25 := Fr.app N17 Nq21
  have Kc26 : Keep h0 T21.heap [a_o, p_o] := Kc18.trans K21 (allS (Or.inl (List.mem_of_getElem? (i := 1) rfl)) all0)
  have Zs27 : n0 ≤ T21.heap.size := Nat.le_trans Zs19 K21.1
  obtain ⟨fs, hr, hrun, hended, hW, hsame⟩ := X21.leave (v := none) (fun _ => rfl) (hlocks := BodyLoose.notSynchronized Bd)
  refine ⟨_, _, pre0 _ ?_, hrun, hended, _, _, rfl, ?_, ⟨_, rfl⟩, hW, hsame.mono (by decide) (by decide)⟩
  · show Steps p.tables e below (s₁.setTop (mkF m 0 #[.val (.ref a_o), .val (.int c_1), .val (.ref p_o), .unset, .unset] [])) _
    refine XS.aloadN X0.here hx rfl (hb hby own_d5_0) rfl rfl ?_
    show Steps p.tables e below (s₁.setTop (mkF m 1 #[.val (.ref a_o), .val (.int c_1), .val (.ref p_o), .unset, .unset] [(.ref a_o)])) _
    refine XS.bipush X0.here hx rfl (hb hby own_d5_1) ?_
    show Steps p.tables e below (s₁.setTop (mkF m 3 #[.val (.ref a_o), .val (.int c_1), .val (.ref p_o), .unset, .unset] [(.int (31 : Int32)), (.ref a_o)])) _
    refine st4.trans ?_
    show Steps p.tables e below (T4.setTop (mkF m 6 #[.val (.ref a_o), .val (.int c_1), .val (.ref p_o), .unset, .unset] [(.int ((own_vl1 y_0).toInt32))])) _
    rw [hz]
    show Steps p.tables e below (T4.setTop (mkF m 6 #[.val (.ref a_o), .val (.int c_1), .val (.ref p_o), .unset, .unset] [(.int (0 : Int32))])) _
    refine XS.istoreN X4.here hx rfl (hb hby own_d5_6) rfl (l' := #[.val (.ref a_o), .val (.int c_1), .val (.ref p_o), .val (.int (0 : Int32)), .unset]) rfl ?_
    show Steps p.tables e below (T4.setTop (mkF m 7 #[.val (.ref a_o), .val (.int c_1), .val (.ref p_o), .val (.int (0 : Int32)), .unset] [])) _
    refine XS.iloadN X4.here hx rfl (hb hby own_d5_7) rfl ?_
    show Steps p.tables e below (T4.setTop (mkF m 8 #[.val (.ref a_o), .val (.int c_1), .val (.ref p_o), .val (.int (0 : Int32)), .unset] [(.int (0 : Int32))])) _
    refine XS.ifNo X4.here hx rfl (hb hby own_d5_8) rfl ((if0 _ _).trans (teq ((by decide) : (0 : Int32) = (0 : Int32))).2) ?_
    show Steps p.tables e below (T4.setTop (mkF m 11 #[.val (.ref a_o), .val (.int c_1), .val (.ref p_o), .val (.int (0 : Int32)), .unset] [])) _
    refine XS.aloadN X4.here hx rfl (hb hby own_d5_11) rfl rfl ?_
    show Steps p.tables e below (T4.setTop (mkF m 12 #[.val (.ref a_o), .val (.int c_1), .val (.ref p_o), .val (.int (0 : Int32)), .unset] [(.ref p_o)])) _
    refine XS.aloadN X4.here hx rfl (hb hby own_d5_12) rfl rfl ?_
    show Steps p.tables e below (T4.setTop (mkF m 13 #[.val (.ref a_o), .val (.int c_1), .val (.ref p_o), .val (.int (0 : Int32)), .unset] [(.ref a_o), (.ref p_o)])) _
    refine X4.ldcInt hx hown (mvT hZ (hw _ (List.mem_of_getElem? (i := 55) rfl))) (g := (mkF m 13 #[.val (.ref a_o), .val (.int c_1), .val (.ref p_o), .val (.int (0 : Int32)), .unset] [(.ref a_o), (.ref p_o)])) rfl (hb hby own_d5_13) _ ?_
    show Steps p.tables e below (T4.setTop (mkF m 15 #[.val (.ref a_o), .val (.int c_1), .val (.ref p_o), .val (.int (0 : Int32)), .unset] [(.int (2147483647 : Int32)), (.ref a_o), (.ref p_o)])) _
    refine st15.trans ?_
    show Steps p.tables e below (T15.setTop (mkF m 18 #[.val (.ref a_o), .val (.int c_1), .val (.ref p_o), .val (.int (0 : Int32)), .unset] [(.int ((own_vl5 y_1 y_2 y_3 y_4 y_5).toInt32)), (.ref p_o)])) _
    refine st21.trans ?_
    show Steps p.tables e below (T21.setTop (mkF m 21 #[.val (.ref a_o), .val (.int c_1), .val (.ref p_o), .val (.int (0 : Int32)), .unset] [])) _
    refine XS.goto X21.here hx rfl (pc0 := 21) (pc' := 63) rfl (hb hby own_d5_21) (by decide) (by decide) ?_
    show Steps p.tables e below (T21.setTop (mkF m 63 #[.val (.ref a_o), .val (.int c_1), .val (.ref p_o), .val (.int (0 : Int32)), .unset] [])) _
    exact X21.returnOut hx Bd.returns (hb hby own_d5_63) hr
  · show Qown_hp0 Z a_o b_o k_b c_1 p_o y_0 y_1 y_2 y_3 y_4 y_5 v_6 v_7 v_8 v_9 v_10 v_11 v_12 v_13 v_14 v_15 v_16 h0 n0 _ T21.heap _
    exact ⟨rfl, N25, Kc26, Pf21_0, Pf21_1, Pf21_2⟩
theorem own_ef_own_need (m : MethodId) (a_o : Addr) (n_1 : Int32) : entryFrame m #[(.ref a_o), (.int n_1)] 2 = mkF m 0 #[.val (.ref a_o), .val (.int n_1)] [] := by first | (simp [entryFrame, mkF, argsToLocals, Value.category]; done) | rfl
theorem own_d14_0 : decode prog_2_method_30_code 0 = .ok (.aload_n 0, 1) := by decide +kernel
theorem own_d14_1 : decode prog_2_method_30_code 1 = .ok (.getfield 21, 3) := by decide +kernel
theorem own_d14_4 : decode prog_2_method_30_code 4 = .ok (.aload_n 0, 1) := by decide +kernel
theorem own_d14_5 : decode prog_2_method_30_code 5 = .ok (.getfield 17, 3) := by decide +kernel
theorem own_d14_8 : decode prog_2_method_30_code 8 = .ok (.isub, 1) := by decide +kernel
theorem own_d14_9 : decode prog_2_method_30_code 9 = .ok (.iload_n 1, 1) := by decide +kernel
theorem own_d14_10 : decode prog_2_method_30_code 10 = .ok (.if_icmp .ge 10, 3) := by decide +kernel
theorem own_d14_20 : decode prog_2_method_30_code 20 = .ok (.return_, 1) := by decide +kernel
def Qown_need (Z : State) (a_o : Addr) (n_1 : Int32) (h0 : Heap) (n0 : Nat) (v : Option Value) (h : Heap) (L : List Loc) : Prop := v = none ∧ Fr n0 L ∧ h = h0
set_option maxRecDepth 65536 in
set_option maxHeartbeats 40000000 in
theorem own_need (l : Launch) (Z : State) (a0 : Array Value) (hw : ∀ d ∈ tables_1, d.before a0 Z = true) (ws : List Jvm.Cond) (a_o : Addr) (n_1 : Int32) (h0 : Heap) (n0 : Nat) (Z0 : n0 ≤ h0.size) (F_p : Fld Z h0 a_o "fieldstone/ByteReader" "pos" "I" (.int (1 : Int32))) (F_l : Fld Z h0 a_o "fieldstone/ByteReader" "limit" "I" (.int (17 : Int32))) (hn : ¬ (16 : Int32) < n_1) :
    MetFree l (⟨"fieldstone/ByteReader", "need", "(I)V"⟩ : MethodName) (head1 (Jvm.Cond.code (⟨"fieldstone/ByteReader", "need", "(I)V"⟩ : MethodName) prog_2_method_30_code 2 none :: ws) ({ frames := 0, cells := 0, slots := 0, locals := 0 } : Room)) (fun a U => a = #[(.ref a_o), (.int n_1)] ∧ Z.Warmed39 U.vm ∧ U.heap = h0) (fun _ _ _ _ _ => True) (fun _ U o U' => ∃ v L, o = .returned v ∧ Qown_need Z a_o n_1 h0 n0 v U'.heap L ∧ FrameEnd U o U' L ({ frames := 0, cells := 0, slots := 0, locals := 0 } : Room).cells ({ frames := 0, cells := 0, slots := 0, locals := 0 } : Room).slots) := by
  refine MetFree.of_bodySF (plainFor_of_name own_pn0) hisR ?_
  intro p e s m args below meth c s₁ Bd hml0 hP hK
  obtain ⟨rfl, hZ, hh⟩ := hP
  have hx := Bd.exec
  have hby := Bd.bytes
  have hml : c.maxLocals = 2 := hml0
  have hown : s.vm.findClass "fieldstone/ByteReader" = some m.cls := findClass_of_methodNamed Bd.named
  have hnm := (name_of_methodNamed Bd.named Bd.method).1
  have X0 : Stand p l e ({ frames := 0, cells := 0, slots := 0, locals := 0 } : Room) s m #[(.ref a_o), (.int n_1)] below meth c s₁ [] 0 0 := Stand.of_body Bd
  have e0 : s₁.heap = h0 := by rw [← hh, Bd.state]; rfl
  have N0 := Fr.nil n0
  have pre0 : ∀ t, Steps p.tables e below (s₁.setTop (mkF m 0 #[.val (.ref a_o), .val (.int n_1)] [])) t → Steps p.tables e below (s₁.setTop (entryFrame m #[(.ref a_o), (.int n_1)] 2)) t := fun t k => castTop (own_ef_own_need m a_o n_1) k
  obtain ⟨T3, X3, e3, st3⟩ := getF X0 hx hZ hown (host := "") (Or.inl (hw _ (List.mem_of_getElem? (i := 27) rfl))) Via.refl e0 F_l (g := (mkF m 1 #[.val (.ref a_o), .val (.int n_1)] [(.ref a_o)])) rfl rfl (hb hby own_d14_1)
  obtain ⟨T6, X6, e6, st6⟩ := getF X3 hx hZ hown (host := "") (Or.inl (hw _ (List.mem_of_getElem? (i := 25) rfl))) Via.refl e3 F_p (g := (mkF m 5 #[.val (.ref a_o), .val (.int n_1)] [(.ref a_o), (.int (17 : Int32))])) rfl rfl (hb hby own_d14_5)
  obtain ⟨fs, hr, hrun, hended, hW, hsame⟩ := X6.leave (v := none) (fun _ => rfl) (hlocks := BodyLoose.notSynchronized Bd)
  refine ⟨_, _, pre0 _ ?_, hrun, hended, _, _, rfl, ?_, ⟨_, rfl⟩, hW, hsame.mono (by decide) (by decide)⟩
  · show Steps p.tables e below (s₁.setTop (mkF m 0 #[.val (.ref a_o), .val (.int n_1)] [])) _
    refine XS.aloadN X0.here hx rfl (hb hby own_d14_0) rfl rfl ?_
    show Steps p.tables e below (s₁.setTop (mkF m 1 #[.val (.ref a_o), .val (.int n_1)] [(.ref a_o)])) _
    refine st3 _ ?_
    show Steps p.tables e below (T3.setTop (mkF m 4 #[.val (.ref a_o), .val (.int n_1)] [(.int (17 : Int32))])) _
    refine XS.aloadN X3.here hx rfl (hb hby own_d14_4) rfl rfl ?_
    show Steps p.tables e below (T3.setTop (mkF m 5 #[.val (.ref a_o), .val (.int n_1)] [(.ref a_o), (.int (17 : Int32))])) _
    refine st6 _ ?_
    show Steps p.tables e below (T6.setTop (mkF m 8 #[.val (.ref a_o), .val (.int n_1)] [(.int (1 : Int32)), (.int (17 : Int32))])) _
    refine XS.isub X6.here hx rfl (hb hby own_d14_8) rfl ?_
    show Steps p.tables e below (T6.setTop (mkF m 9 #[.val (.ref a_o), .val (.int n_1)] [(.int (16 : Int32))])) _
    refine XS.iloadN X6.here hx rfl (hb hby own_d14_9) rfl ?_
    show Steps p.tables e below (T6.setTop (mkF m 10 #[.val (.ref a_o), .val (.int n_1)] [(.int n_1), (.int (16 : Int32))])) _
    refine XS.icmpYes X6.here hx rfl (pc0 := 10) (pc' := 20) rfl (hb hby own_d14_10) rfl (flt (hn : ¬ ((16 : Int32) < n_1))).2.1 (by decide) (by decide) ?_
    show Steps p.tables e below (T6.setTop (mkF m 20 #[.val (.ref a_o), .val (.int n_1)] [])) _
    exact X6.returnOut hx Bd.returns (hb hby own_d14_20) hr
  · show Qown_need Z a_o n_1 h0 n0 _ T6.heap _
    rw [e6]
    exact ⟨rfl, N0, rfl⟩
theorem own_ef_own_skip (m : MethodId) (a_o : Addr) (n_1 : Int32) : entryFrame m #[(.ref a_o), (.int n_1)] 3 = mkF m 0 #[.val (.ref a_o), .val (.int n_1), .unset] [] := by first | (simp [entryFrame, mkF, argsToLocals, Value.category]; done) | rfl
theorem own_d13_0 : decode prog_2_method_10_code 0 = .ok (.iload_n 1, 1) := by decide +kernel
theorem own_d13_1 : decode prog_2_method_10_code 1 = .ok (.ifCond .ge 10, 3) := by decide +kernel
theorem own_d13_11 : decode prog_2_method_10_code 11 = .ok (.aload_n 0, 1) := by decide +kernel
theorem own_d13_12 : decode prog_2_method_10_code 12 = .ok (.iload_n 1, 1) := by decide +kernel
theorem own_d13_13 : decode prog_2_method_10_code 13 = .ok (.invokevirtual 31, 3) := by decide +kernel
theorem own_d13_16 : decode prog_2_method_10_code 16 = .ok (.aload_n 0, 1) := by decide +kernel
theorem own_d13_17 : decode prog_2_method_10_code 17 = .ok (.getfield 17, 3) := by decide +kernel
theorem own_d13_20 : decode prog_2_method_10_code 20 = .ok (.istore_n 2, 1) := by decide +kernel
theorem own_d13_21 : decode prog_2_method_10_code 21 = .ok (.aload_n 0, 1) := by decide +kernel
theorem own_d13_22 : decode prog_2_method_10_code 22 = .ok (.dup, 1) := by decide +kernel
theorem own_d13_23 : decode prog_2_method_10_code 23 = .ok (.getfield 17, 3) := by decide +kernel
theorem own_d13_26 : decode prog_2_method_10_code 26 = .ok (.iload_n 1, 1) := by decide +kernel
theorem own_d13_27 : decode prog_2_method_10_code 27 = .ok (.iadd, 1) := by decide +kernel
theorem own_d13_28 : decode prog_2_method_10_code 28 = .ok (.putfield 17, 3) := by decide +kernel
theorem own_d13_31 : decode prog_2_method_10_code 31 = .ok (.iload_n 2, 1) := by decide +kernel
theorem own_d13_32 : decode prog_2_method_10_code 32 = .ok (.ireturn, 1) := by decide +kernel
def Qown_skip (Z : State) (a_o : Addr) (b_o : Addr) (n_1 : Int32) (h0 : Heap) (n0 : Nat) (v : Option Value) (h : Heap) (L : List Loc) : Prop := v = some (.int (1 : Int32)) ∧ Fr n0 L ∧ Keep h0 h [a_o] ∧ Exa Z h a_o "fieldstone/ByteReader" ∧ Fld Z h a_o "fieldstone/ByteReader" "bytes" "[B" (.ref b_o)
set_option maxRecDepth 65536 in
set_option maxHeartbeats 40000000 in
theorem own_skip (l : Launch) (Z : State) (a0 : Array Value) (hw : ∀ d ∈ tables_1, d.before a0 Z = true) (ws : List Jvm.Cond) (a_o : Addr) (b_o : Addr) (n_1 : Int32) (h0 : Heap) (n0 : Nat) (Z0 : n0 ≤ h0.size) (Eo : Exa Z h0 a_o "fieldstone/ByteReader") (F_b : Fld Z h0 a_o "fieldstone/ByteReader" "bytes" "[B" (.ref b_o)) (F_p : Fld Z h0 a_o "fieldstone/ByteReader" "pos" "I" (.int (1 : Int32))) (F_l : Fld Z h0 a_o "fieldstone/ByteReader" "limit" "I" (.int (17 : Int32))) (ga : n0 ≤ a_o) (hg0 : ¬ n_1 < (0 : Int32)) (hn : ¬ (16 : Int32) < n_1) :
    MetFree l (⟨"fieldstone/ByteReader", "skip", "(I)I"⟩ : MethodName) (head1 (Jvm.Cond.code (⟨"fieldstone/ByteReader", "skip", "(I)I"⟩ : MethodName) prog_2_method_10_code 3 (some .int) :: ws) ({ frames := 1, cells := 0, slots := 0, locals := 13 } : Room)) (fun a U => a = #[(.ref a_o), (.int n_1)] ∧ Z.Warmed39 U.vm ∧ U.heap = h0) (fun _ _ _ _ _ => True) (fun _ U o U' => ∃ v L, o = .returned v ∧ Qown_skip Z a_o b_o n_1 h0 n0 v U'.heap L ∧ FrameEnd U o U' L ({ frames := 1, cells := 0, slots := 0, locals := 13 } : Room).cells ({ frames := 1, cells := 0, slots := 0, locals := 13 } : Room).slots) := by
  refine MetFree.of_bodySF (plainFor_of_name own_pn0) hisR ?_
  intro p e s m args below meth c s₁ Bd hml0 hP hK
  obtain ⟨rfl, hZ, hh⟩ := hP
  have hx := Bd.exec
  have hby := Bd.bytes
  have hml : c.maxLocals = 3 := hml0
  have hown : s.vm.findClass "fieldstone/ByteReader" = some m.cls := findClass_of_methodNamed Bd.named
  have hnm := (name_of_methodNamed Bd.named Bd.method).1
  have X0 : Stand p l e ({ frames := 1, cells := 0, slots := 0, locals := 13 } : Room) s m #[(.ref a_o), (.int n_1)] below meth c s₁ [] 0 0 := Stand.of_body Bd
  have e0 : s₁.heap = h0 := by rw [← hh, Bd.state]; rfl
  have N0 := Fr.nil n0
  have pre0 : ∀ t, Steps p.tables e below (s₁.setTop (mkF m 0 #[.val (.ref a_o), .val (.int n_1), .unset] [])) t → Steps p.tables e below (s₁.setTop (entryFrame m #[(.ref a_o), (.int n_1)] 3)) t := fun t k => castTop (own_ef_own_skip m a_o n_1) k
  obtain ⟨cq6, q6, q6'⟩ := Eo.cell
  obtain ⟨_, _, ⟨T6, L6, k6, n6⟩, -, X6, ⟨Lc6, hQ6, l6, y6, z6⟩, st6⟩ := X0.privateBack hx (y := (⟨"fieldstone/ByteReader", "need", "(I)V"⟩ : MethodName)) hown (mvT hZ (hw _ (List.mem_of_getElem? (i := 88) rfl))) (mvT hZ (hw _ (List.mem_of_getElem? (i := 89) rfl))) (own_selP hZ (hw _ (List.mem_of_getElem? (i := 3) rfl)) (hw _ (List.mem_of_getElem? (i := 90) rfl)) (hw _ (List.mem_of_getElem? (i := 89) rfl)) (by decide)) (Cond.privateMethod_at (mvP hZ (hw _ (List.mem_of_getElem? (i := 90) rfl)) (args := #[]))) (mvT hZ (hw _ (List.mem_of_getElem? (i := 91) rfl))) (by decide) (backOf (W := 0) (own_need l Z a0 hw [] a_o n_1 h0 n0 Z0 F_p F_l hn) hZ (hw _ (List.mem_of_getElem? (i := 91) rfl)) (hw _ (List.mem_of_getElem? (i := 4) rfl)) (by decide) (by decide)) (g := (mkF m 13 #[.val (.ref a_o), .val (.int n_1), .unset] [(.int n_1), (.ref a_o)])) rfl (by rw [hml]; rfl) (Steps.refl _) (a := a_o) (by rw [e0]; exact q6) q6' (argsL := [(.int n_1)]) (rest := []) (lenOf own_pd3 rfl) rfl (by show 2 * 0 + _ ≤ _; exact Nat.le_of_eq rfl) (hb hby own_d13_13) (fun _ _ => ⟨rfl, e0, (by decide : 0 + 0 ≤ _), (by decide : 0 + 0 ≤ _)⟩)
  dsimp only [Pt.U, Pt.locs, Pt.cells, Pt.slots] at X6 l6 y6 z6 st6 hQ6
  rw [l6, y6, z6] at X6
  obtain ⟨rfl, Nq6, eh6⟩ := hQ6
  have N7 := Fr.app N0 Nq6
  obtain ⟨T10, X10, e10, st10⟩ := getF X6 hx hZ hown (host := "") (Or.inl (hw _ (List.mem_of_getElem? (i := 25) rfl))) Via.refl eh6 F_p (g := (mkF m 17 #[.val (.ref a_o), .val (.int n_1), .unset] [(.ref a_o)])) rfl rfl (hb hby own_d13_17)
  obtain ⟨T15, X15, e15, st15⟩ := getF X10 hx hZ hown (host := "") (Or.inl (hw _ (List.mem_of_getElem? (i := 25) rfl))) Via.refl e10 F_p (g := (mkF m 23 #[.val (.ref a_o), .val (.int n_1), .val (.int (1 : Int32))] [(.ref a_o), (.ref a_o)])) rfl rfl (hb hby own_d13_23)
  obtain ⟨T19, h19, X19, e19, W19, st19⟩ := putF X15 hx hZ hown (host := "") (Or.inl (hw _ (List.mem_of_getElem? (i := 25) rfl))) Via.refl e15 F_p Eo (Or.inl (hw _ (List.mem_of_getElem? (i := 26) rfl))) (hw _ (List.mem_of_getElem? (i := 3) rfl)) (ty := .int) (by decide) rfl rfl (g := (mkF m 28 #[.val (.ref a_o), .val (.int n_1), .val (.int (1 : Int32))] [(.int ((1 : Int32) + n_1)), (.ref a_o)])) rfl rfl (hb hby own_d13_28)
  have Kc20 : Keep h0 h19 [a_o] := (Keep.refl h0 [a_o]).wr W19 (Or.inl (List.mem_of_getElem? (i := 0) rfl))
  have Zs21 : n0 ≤ h19.size := Nat.le_trans Z0 (Keep.of_wr W19).1
  have N22 := Fr.snoc X19 N7 ga
  have Fw19 : Fld Z h19 a_o "fieldstone/ByteReader" "pos" "I" (.int ((1 : Int32) + n_1)) := F_p.same W19
  obtain ⟨fs, hr, hrun, hended, hW, hsame⟩ := X19.leave (v := some (.int (1 : Int32))) (fun h => by rw [Bd.returns] at h; cases h) (hlocks := BodyLoose.notSynchronized Bd)
  refine ⟨_, _, pre0 _ ?_, hrun, hended, _, _, rfl, ?_, ⟨_, rfl⟩, hW, hsame.mono (by decide) (by decide)⟩
  · show Steps p.tables e below (s₁.setTop (mkF m 0 #[.val (.ref a_o), .val (.int n_1), .unset] [])) _
    refine XS.iloadN X0.here hx rfl (hb hby own_d13_0) rfl ?_
    show Steps p.tables e below (s₁.setTop (mkF m 1 #[.val (.ref a_o), .val (.int n_1), .unset] [(.int n_1)])) _
    refine XS.ifYes X0.here hx rfl (pc0 := 1) (pc' := 11) rfl (hb hby own_d13_1) rfl ((if0 _ _).trans (flt (hg0 : ¬ (n_1 < (0 : Int32)))).2.1) (by decide) (by decide) ?_
    show Steps p.tables e below (s₁.setTop (mkF m 11 #[.val (.ref a_o), .val (.int n_1), .unset] [])) _
    refine XS.aloadN X0.here hx rfl (hb hby own_d13_11) rfl rfl ?_
    show Steps p.tables e below (s₁.setTop (mkF m 12 #[.val (.ref a_o), .val (.int n_1), .unset] [(.ref a_o)])) _
    refine XS.iloadN X0.here hx rfl (hb hby own_d13_12) rfl ?_
    show Steps p.tables e below (s₁.setTop (mkF m 13 #[.val (.ref a_o), .val (.int n_1), .unset] [(.int n_1), (.ref a_o)])) _
    refine st6.trans ?_
    show Steps p.tables e below (T6.setTop (mkF m 16 #[.val (.ref a_o), .val (.int n_1), .unset] [])) _
    refine XS.aloadN X6.here hx rfl (hb hby own_d13_16) rfl rfl ?_
    show Steps p.tables e below (T6.setTop (mkF m 17 #[.val (.ref a_o), .val (.int n_1), .unset] [(.ref a_o)])) _
    refine st10 _ ?_
    show Steps p.tables e below (T10.setTop (mkF m 20 #[.val (.ref a_o), .val (.int n_1), .unset] [(.int (1 : Int32))])) _
    refine XS.istoreN X10.here hx rfl (hb hby own_d13_20) rfl (l' := #[.val (.ref a_o), .val (.int n_1), .val (.int (1 : Int32))]) rfl ?_
    show Steps p.tables e below (T10.setTop (mkF m 21 #[.val (.ref a_o), .val (.int n_1), .val (.int (1 : Int32))] [])) _
    refine XS.aloadN X10.here hx rfl (hb hby own_d13_21) rfl rfl ?_
    show Steps p.tables e below (T10.setTop (mkF m 22 #[.val (.ref a_o), .val (.int n_1), .val (.int (1 : Int32))] [(.ref a_o)])) _
    refine XS.dup X10.here hx rfl (hb hby own_d13_22) rfl rfl ?_
    show Steps p.tables e below (T10.setTop (mkF m 23 #[.val (.ref a_o), .val (.int n_1), .val (.int (1 : Int32))] [(.ref a_o), (.ref a_o)])) _
    refine st15 _ ?_
    show Steps p.tables e below (T15.setTop (mkF m 26 #[.val (.ref a_o), .val (.int n_1), .val (.int (1 : Int32))] [(.int (1 : Int32)), (.ref a_o)])) _
    refine XS.iloadN X15.here hx rfl (hb hby own_d13_26) rfl ?_
    show Steps p.tables e below (T15.setTop (mkF m 27 #[.val (.ref a_o), .val (.int n_1), .val (.int (1 : Int32))] [(.int n_1), (.int (1 : Int32)), (.ref a_o)])) _
    refine XS.iadd X15.here hx rfl (hb hby own_d13_27) rfl ?_
    show Steps p.tables e below (T15.setTop (mkF m 28 #[.val (.ref a_o), .val (.int n_1), .val (.int (1 : Int32))] [(.int ((1 : Int32) + n_1)), (.ref a_o)])) _
    refine st19 _ ?_
    show Steps p.tables e below (T19.setTop (mkF m 31 #[.val (.ref a_o), .val (.int n_1), .val (.int (1 : Int32))] [])) _
    refine XS.iloadN X19.here hx rfl (hb hby own_d13_31) rfl ?_
    show Steps p.tables e below (T19.setTop (mkF m 32 #[.val (.ref a_o), .val (.int n_1), .val (.int (1 : Int32))] [(.int (1 : Int32))])) _
    exact retI X19 hx Bd.returns (hb hby own_d13_32) hr
  · show Qown_skip Z a_o b_o n_1 h0 n0 _ T19.heap _
    rw [e19]
    have Fq25 : Exa Z h19 a_o "fieldstone/ByteReader" := (Eo.wr W19)
    have Fq26 : Fld Z h19 a_o "fieldstone/ByteReader" "bytes" "[B" (.ref b_o) := (F_b.other W19 (Or.inr (slot_ne (Or.inl (hw _ (List.mem_of_getElem? (i := 24) rfl))) (Or.inl (hw _ (List.mem_of_getElem? (i := 26) rfl))) (by decide) (t := (.array .byte)) (t' := .int) (by decide) (by decide))))
    exact ⟨rfl, N22, Kc20, Fq25, Fq26⟩
theorem own_ef_own_min (m : MethodId) (q0 : Int64) (q1 : Int64) : entryFrame m #[(.long q0), (.long q1)] 4 = mkF m 0 #[.val (.long q0), .second, .val (.long q1), .second] [] := by first | (simp [entryFrame, mkF, argsToLocals, Value.category]; done) | rfl
theorem own_d12_0 : decode jdk_29_method_70_code 0 = .ok (.lload_n 0, 1) := by decide +kernel
theorem own_d12_1 : decode jdk_29_method_70_code 1 = .ok (.lload_n 2, 1) := by decide +kernel
theorem own_d12_2 : decode jdk_29_method_70_code 2 = .ok (.lcmp, 1) := by decide +kernel
theorem own_d12_3 : decode jdk_29_method_70_code 3 = .ok (.ifCond .gt 7, 3) := by decide +kernel
theorem own_d12_6 : decode jdk_29_method_70_code 6 = .ok (.lload_n 0, 1) := by decide +kernel
theorem own_d12_7 : decode jdk_29_method_70_code 7 = .ok (.goto 4, 3) := by decide +kernel
theorem own_d12_10 : decode jdk_29_method_70_code 10 = .ok (.lload_n 2, 1) := by decide +kernel
theorem own_d12_11 : decode jdk_29_method_70_code 11 = .ok (.lreturn, 1) := by decide +kernel
def own_min_f (q0 : Int64) (q1 : Int64) : Int64 := (if q1 < q0 then q1 else q0)
def Qown_min (Z : State) (q0 : Int64) (q1 : Int64) (h0 : Heap) (n0 : Nat) (v : Option Value) (h : Heap) (L : List Loc) : Prop := v = some (.long (own_min_f q0 q1)) ∧ Fr n0 L ∧ h = h0
set_option maxRecDepth 65536 in
set_option maxHeartbeats 40000000 in
theorem own_min (l : Launch) (Z : State) (a0 : Array Value) (hw : ∀ d ∈ tables_1, d.before a0 Z = true) (ws : List Jvm.Cond) (q0 : Int64) (q1 : Int64) (h0 : Heap) (n0 : Nat) (Z0 : n0 ≤ h0.size) :
    MetFree l (⟨"java/lang/Math", "min", "(JJ)J"⟩ : MethodName) (head1 (Jvm.Cond.code (⟨"java/lang/Math", "min", "(JJ)J"⟩ : MethodName) jdk_29_method_70_code 4 (some .long) :: ws) ({ frames := 0, cells := 0, slots := 0, locals := 0 } : Room)) (fun a U => a = #[(.long q0), (.long q1)] ∧ Z.Warmed39 U.vm ∧ U.heap = h0) (fun _ _ _ _ _ => True) (fun _ U o U' => ∃ v L, o = .returned v ∧ Qown_min Z q0 q1 h0 n0 v U'.heap L ∧ FrameEnd U o U' L ({ frames := 0, cells := 0, slots := 0, locals := 0 } : Room).cells ({ frames := 0, cells := 0, slots := 0, locals := 0 } : Room).slots) := by
  refine MetFree.of_bodySF (Jvm.Free.JP.mathPlain rfl (by decide +kernel)) hisR ?_
  intro p e s m args below meth c s₁ Bd hml0 hP hK
  obtain ⟨rfl, hZ, hh⟩ := hP
  have hx := Bd.exec
  have hby := Bd.bytes
  have hml : c.maxLocals = 4 := hml0
  have hown : s.vm.findClass "java/lang/Math" = some m.cls := findClass_of_methodNamed Bd.named
  have hnm := (name_of_methodNamed Bd.named Bd.method).1
  have X0 : Stand p l e ({ frames := 0, cells := 0, slots := 0, locals := 0 } : Room) s m #[(.long q0), (.long q1)] below meth c s₁ [] 0 0 := Stand.of_body Bd
  have e0 : s₁.heap = h0 := by rw [← hh, Bd.state]; rfl
  have N0 := Fr.nil n0
  have pre0 : ∀ t, Steps p.tables e below (s₁.setTop (mkF m 0 #[.val (.long q0), .second, .val (.long q1), .second] [])) t → Steps p.tables e below (s₁.setTop (entryFrame m #[(.long q0), (.long q1)] 4)) t := fun t k => castTop (own_ef_own_min m q0 q1) k
  have pre5 : ∀ t, Steps p.tables e below (s₁.setTop (mkF m 3 #[.val (.long q0), .second, .val (.long q1), .second] [(.int (lcmpW q0 q1))])) t → Steps p.tables e below (s₁.setTop (entryFrame m #[(.long q0), (.long q1)] 4)) t := by
    intro t kt
    refine pre0 _ ?_
    show Steps p.tables e below (s₁.setTop (mkF m 0 #[.val (.long q0), .second, .val (.long q1), .second] [])) _
    refine XS.lloadN X0.here hx rfl (hb hby own_d12_0) rfl ?_
    show Steps p.tables e below (s₁.setTop (mkF m 1 #[.val (.long q0), .second, .val (.long q1), .second] [(.long q0)])) _
    refine XS.lloadN X0.here hx rfl (hb hby own_d12_1) rfl ?_
    show Steps p.tables e below (s₁.setTop (mkF m 2 #[.val (.long q0), .second, .val (.long q1), .second] [(.long q1), (.long q0)])) _
    refine XS.lcmp X0.here hx rfl (hb hby own_d12_2) rfl ?_
    exact kt
  by_cases hc3_6 : q1 < q0
  · obtain ⟨fs, hr, hrun, hended, hW, hsame⟩ := X0.leave (v := some (.long q1)) (fun h => by rw [Bd.returns] at h; cases h) (hlocks := BodyLoose.notSynchronized Bd)
    refine ⟨_, _, pre5 _ ?_, hrun, hended, _, _, rfl, ?_, ⟨_, rfl⟩, hW, hsame.mono (by decide) (by decide)⟩
    · show Steps p.tables e below (s₁.setTop (mkF m 3 #[.val (.long q0), .second, .val (.long q1), .second] [(.int (lcmpW q0 q1))])) _
      refine XS.ifYes X0.here hx rfl (pc0 := 3) (pc' := 10) rfl (hb hby own_d12_3) rfl ((if0 _ _).trans (tlt (own_lcGt.mpr hc3_6)).2.2.1) (by decide) (by decide) ?_
      show Steps p.tables e below (s₁.setTop (mkF m 10 #[.val (.long q0), .second, .val (.long q1), .second] [])) _
      refine XS.lloadN X0.here hx rfl (hb hby own_d12_10) rfl ?_
      show Steps p.tables e below (s₁.setTop (mkF m 11 #[.val (.long q0), .second, .val (.long q1), .second] [(.long q1)])) _
      exact X0.lreturnOut hx Bd.returns (hb hby own_d12_11) hr
    · show Qown_min Z q0 q1 h0 n0 _ s₁.heap _
      rw [e0]
      have hv : (own_min_f q0 q1) = q1 := by unfold own_min_f; rw [if_pos hc3_6]
      exact ⟨(by rw [hv]), N0, rfl⟩
  · obtain ⟨fs, hr, hrun, hended, hW, hsame⟩ := X0.leave (v := some (.long q0)) (fun h => by rw [Bd.returns] at h; cases h) (hlocks := BodyLoose.notSynchronized Bd)
    refine ⟨_, _, pre5 _ ?_, hrun, hended, _, _, rfl, ?_, ⟨_, rfl⟩, hW, hsame.mono (by decide) (by decide)⟩
    · show Steps p.tables e below (s₁.setTop (mkF m 3 #[.val (.long q0), .second, .val (.long q1), .second] [(.int (lcmpW q0 q1))])) _
      refine XS.ifNo X0.here hx rfl (hb hby own_d12_3) rfl ((if0 _ _).trans (flt (fun q => hc3_6 (own_lcGt.mp q))).2.2.1) ?_
      show Steps p.tables e below (s₁.setTop (mkF m 6 #[.val (.long q0), .second, .val (.long q1), .second] [])) _
      refine XS.lloadN X0.here hx rfl (hb hby own_d12_6) rfl ?_
      show Steps p.tables e below (s₁.setTop (mkF m 7 #[.val (.long q0), .second, .val (.long q1), .second] [(.long q0)])) _
      refine XS.goto X0.here hx rfl (pc0 := 7) (pc' := 11) rfl (hb hby own_d12_7) (by decide) (by decide) ?_
      show Steps p.tables e below (s₁.setTop (mkF m 11 #[.val (.long q0), .second, .val (.long q1), .second] [(.long q0)])) _
      exact X0.lreturnOut hx Bd.returns (hb hby own_d12_11) hr
    · show Qown_min Z q0 q1 h0 n0 _ s₁.heap _
      rw [e0]
      have hv : (own_min_f q0 q1) = q0 := by unfold own_min_f; rw [if_neg hc3_6]
      exact ⟨(by rw [hv]), N0, rfl⟩
theorem own_ef_own_max (m : MethodId) (p0 : Int32) (p1 : Int32) : entryFrame m #[(.int p0), (.int p1)] 2 = mkF m 0 #[.val (.int p0), .val (.int p1)] [] := by first | (simp [entryFrame, mkF, argsToLocals, Value.category]; done) | rfl
theorem own_d16_0 : decode jdk_29_method_65_code 0 = .ok (.iload_n 0, 1) := by decide +kernel
theorem own_d16_1 : decode jdk_29_method_65_code 1 = .ok (.iload_n 1, 1) := by decide +kernel
theorem own_d16_2 : decode jdk_29_method_65_code 2 = .ok (.if_icmp .lt 7, 3) := by decide +kernel
theorem own_d16_5 : decode jdk_29_method_65_code 5 = .ok (.iload_n 0, 1) := by decide +kernel
theorem own_d16_6 : decode jdk_29_method_65_code 6 = .ok (.goto 4, 3) := by decide +kernel
theorem own_d16_9 : decode jdk_29_method_65_code 9 = .ok (.iload_n 1, 1) := by decide +kernel
theorem own_d16_10 : decode jdk_29_method_65_code 10 = .ok (.ireturn, 1) := by decide +kernel
def own_max_f (p0 : Int32) (p1 : Int32) : Int32 := (if p0 < p1 then p1 else p0)
def Qown_max (Z : State) (p0 : Int32) (p1 : Int32) (h0 : Heap) (n0 : Nat) (v : Option Value) (h : Heap) (L : List Loc) : Prop := v = some (.int (own_max_f p0 p1)) ∧ Fr n0 L ∧ h = h0
set_option maxRecDepth 65536 in
set_option maxHeartbeats 40000000 in
theorem own_max (l : Launch) (Z : State) (a0 : Array Value) (hw : ∀ d ∈ tables_1, d.before a0 Z = true) (ws : List Jvm.Cond) (p0 : Int32) (p1 : Int32) (h0 : Heap) (n0 : Nat) (Z0 : n0 ≤ h0.size) :
    MetFree l (⟨"java/lang/Math", "max", "(II)I"⟩ : MethodName) (head1 (Jvm.Cond.code (⟨"java/lang/Math", "max", "(II)I"⟩ : MethodName) jdk_29_method_65_code 2 (some .int) :: ws) ({ frames := 0, cells := 0, slots := 0, locals := 0 } : Room)) (fun a U => a = #[(.int p0), (.int p1)] ∧ Z.Warmed39 U.vm ∧ U.heap = h0) (fun _ _ _ _ _ => True) (fun _ U o U' => ∃ v L, o = .returned v ∧ Qown_max Z p0 p1 h0 n0 v U'.heap L ∧ FrameEnd U o U' L ({ frames := 0, cells := 0, slots := 0, locals := 0 } : Room).cells ({ frames := 0, cells := 0, slots := 0, locals := 0 } : Room).slots) := by
  refine MetFree.of_bodySF (Jvm.Free.JP.mathPlain rfl (by decide +kernel)) hisR ?_
  intro p e s m args below meth c s₁ Bd hml0 hP hK
  obtain ⟨rfl, hZ, hh⟩ := hP
  have hx := Bd.exec
  have hby := Bd.bytes
  have hml : c.maxLocals = 2 := hml0
  have hown : s.vm.findClass "java/lang/Math" = some m.cls := findClass_of_methodNamed Bd.named
  have hnm := (name_of_methodNamed Bd.named Bd.method).1
  have X0 : Stand p l e ({ frames := 0, cells := 0, slots := 0, locals := 0 } : Room) s m #[(.int p0), (.int p1)] below meth c s₁ [] 0 0 := Stand.of_body Bd
  have e0 : s₁.heap = h0 := by rw [← hh, Bd.state]; rfl
  have N0 := Fr.nil n0
  have pre0 : ∀ t, Steps p.tables e below (s₁.setTop (mkF m 0 #[.val (.int p0), .val (.int p1)] [])) t → Steps p.tables e below (s₁.setTop (entryFrame m #[(.int p0), (.int p1)] 2)) t := fun t k => castTop (own_ef_own_max m p0 p1) k
  have pre4 : ∀ t, Steps p.tables e below (s₁.setTop (mkF m 2 #[.val (.int p0), .val (.int p1)] [(.int p1), (.int p0)])) t → Steps p.tables e below (s₁.setTop (entryFrame m #[(.int p0), (.int p1)] 2)) t := by
    intro t kt
    refine pre0 _ ?_
    show Steps p.tables e below (s₁.setTop (mkF m 0 #[.val (.int p0), .val (.int p1)] [])) _
    refine XS.iloadN X0.here hx rfl (hb hby own_d16_0) rfl ?_
    show Steps p.tables e below (s₁.setTop (mkF m 1 #[.val (.int p0), .val (.int p1)] [(.int p0)])) _
    refine XS.iloadN X0.here hx rfl (hb hby own_d16_1) rfl ?_
    exact kt
  by_cases hc2_5 : p0 < p1
  · obtain ⟨fs, hr, hrun, hended, hW, hsame⟩ := X0.leave (v := some (.int p1)) (fun h => by rw [Bd.returns] at h; cases h) (hlocks := BodyLoose.notSynchronized Bd)
    refine ⟨_, _, pre4 _ ?_, hrun, hended, _, _, rfl, ?_, ⟨_, rfl⟩, hW, hsame.mono (by decide) (by decide)⟩
    · show Steps p.tables e below (s₁.setTop (mkF m 2 #[.val (.int p0), .val (.int p1)] [(.int p1), (.int p0)])) _
      refine XS.icmpYes X0.here hx rfl (pc0 := 2) (pc' := 9) rfl (hb hby own_d16_2) rfl (tlt hc2_5).1 (by decide) (by decide) ?_
      show Steps p.tables e below (s₁.setTop (mkF m 9 #[.val (.int p0), .val (.int p1)] [])) _
      refine XS.iloadN X0.here hx rfl (hb hby own_d16_9) rfl ?_
      show Steps p.tables e below (s₁.setTop (mkF m 10 #[.val (.int p0), .val (.int p1)] [(.int p1)])) _
      exact retI X0 hx Bd.returns (hb hby own_d16_10) hr
    · show Qown_max Z p0 p1 h0 n0 _ s₁.heap _
      rw [e0]
      have hv : (own_max_f p0 p1) = p1 := by unfold own_max_f; rw [if_pos hc2_5]
      exact ⟨(by rw [hv]), N0, rfl⟩
  · obtain ⟨fs, hr, hrun, hended, hW, hsame⟩ := X0.leave (v := some (.int p0)) (fun h => by rw [Bd.returns] at h; cases h) (hlocks := BodyLoose.notSynchronized Bd)
    refine ⟨_, _, pre4 _ ?_, hrun, hended, _, _, rfl, ?_, ⟨_, rfl⟩, hW, hsame.mono (by decide) (by decide)⟩
    · show Steps p.tables e below (s₁.setTop (mkF m 2 #[.val (.int p0), .val (.int p1)] [(.int p1), (.int p0)])) _
      refine XS.icmpNo X0.here hx rfl (hb hby own_d16_2) rfl (flt hc2_5).1 ?_
      show Steps p.tables e below (s₁.setTop (mkF m 5 #[.val (.int p0), .val (.int p1)] [])) _
      refine XS.iloadN X0.here hx rfl (hb hby own_d16_5) rfl ?_
      show Steps p.tables e below (s₁.setTop (mkF m 6 #[.val (.int p0), .val (.int p1)] [(.int p0)])) _
      refine XS.goto X0.here hx rfl (pc0 := 6) (pc' := 10) rfl (hb hby own_d16_6) (by decide) (by decide) ?_
      show Steps p.tables e below (s₁.setTop (mkF m 10 #[.val (.int p0), .val (.int p1)] [(.int p0)])) _
      exact retI X0 hx Bd.returns (hb hby own_d16_10) hr
    · show Qown_max Z p0 p1 h0 n0 _ s₁.heap _
      rw [e0]
      have hv : (own_max_f p0 p1) = p0 := by unfold own_max_f; rw [if_neg hc2_5]
      exact ⟨(by rw [hv]), N0, rfl⟩
theorem own_max0 {n : Int32} (h : ¬ n < (0 : Int32)) : own_max_f n (0 : Int32) = n := by
  unfold own_max_f; rw [if_neg h]
theorem own_le16 {n : Int32} (h : ¬ n < (0 : Int32)) (g : ¬ (16 : Int32) < n) : n.toNatClampNeg ≤ 16 := by
  have q := nat_of h
  rw [Int32.lt_iff_toInt_lt] at g
  have e : (16 : Int32).toInt = 16 := rfl
  omega
theorem own_hold {n : Int32} {d : Value} {v_0 v_1 v_2 v_3 v_4 v_5 v_6 v_7 v_8 v_9 v_10 v_11 v_12 v_13 v_14 v_15 v_16 : Value} (xs : List Value) : ∀ i, i < n.toNatClampNeg → [v_1, v_2, v_3, v_4, v_5, v_6, v_7, v_8, v_9, v_10, v_11, v_12, v_13, v_14, v_15, v_16].getD i d = (xs.take (0 : Int32).toNatClampNeg ++ ((List.range n.toNatClampNeg).map fun i => [v_0, v_1, v_2, v_3, v_4, v_5, v_6, v_7, v_8, v_9, v_10, v_11, v_12, v_13, v_14, v_15, v_16].getD ((1 : Int32).toNatClampNeg + i) d) ++ xs.drop ((0 : Int32).toNatClampNeg + n.toNatClampNeg)).getD i d := fun i hi => by
  have e0 : (0 : Int32).toNatClampNeg = 0 := rfl
  have e1 : (1 : Int32).toNatClampNeg = 1 := rfl
  rw [e0, e1, List.take_zero, List.nil_append]
  simp only [List.getD_eq_getElem?_getD]
  rw [List.getElem?_append_left (by simpa using hi), List.getElem?_map, List.getElem?_range hi]
  show _ = ([v_0, v_1, v_2, v_3, v_4, v_5, v_6, v_7, v_8, v_9, v_10, v_11, v_12, v_13, v_14, v_15, v_16][1 + i]?).getD d
  rw [Nat.add_comm]; rfl
theorem own_ef_own_hold1 (m : MethodId) (p_o : Addr) (b_o : Addr) (n_1 : Int32) (x_1 : Int32) : entryFrame m #[(.ref p_o), (.ref b_o), (.int (1 : Int32)), (.int n_1), (.int x_1)] 5 = mkF m 0 #[.val (.ref p_o), .val (.ref b_o), .val (.int (1 : Int32)), .val (.int n_1), .val (.int x_1)] [] := by first | (simp [entryFrame, mkF, argsToLocals, Value.category]; done) | rfl
theorem own_pd4 : parseMethodDescriptor "(II)I" = some ⟨[.int, .int], some .int⟩ := by decide +kernel
theorem own_d15_0 : decode prog_3_method_2_code 0 = .ok (.aload_n 0, 1) := by decide +kernel
theorem own_d15_1 : decode prog_3_method_2_code 1 = .ok (.getfield 7, 3) := by decide +kernel
theorem own_d15_4 : decode prog_3_method_2_code 4 = .ok (.arraylength, 1) := by decide +kernel
theorem own_d15_5 : decode prog_3_method_2_code 5 = .ok (.iload_n 3, 1) := by decide +kernel
theorem own_d15_6 : decode prog_3_method_2_code 6 = .ok (.if_icmp .ge 20, 3) := by decide +kernel
theorem own_d15_9 : decode prog_3_method_2_code 9 = .ok (.aload_n 0, 1) := by decide +kernel
theorem own_d15_10 : decode prog_3_method_2_code 10 = .ok (.iload_n 3, 1) := by decide +kernel
theorem own_d15_11 : decode prog_3_method_2_code 11 = .ok (.iconst 2, 1) := by decide +kernel
theorem own_d15_12 : decode prog_3_method_2_code 12 = .ok (.aload_n 0, 1) := by decide +kernel
theorem own_d15_13 : decode prog_3_method_2_code 13 = .ok (.getfield 7, 3) := by decide +kernel
theorem own_d15_16 : decode prog_3_method_2_code 16 = .ok (.arraylength, 1) := by decide +kernel
theorem own_d15_17 : decode prog_3_method_2_code 17 = .ok (.imul, 1) := by decide +kernel
theorem own_d15_18 : decode prog_3_method_2_code 18 = .ok (.invokestatic 13, 3) := by decide +kernel
theorem own_d15_21 : decode prog_3_method_2_code 21 = .ok (.newarray .byte, 2) := by decide +kernel
theorem own_d15_23 : decode prog_3_method_2_code 23 = .ok (.putfield 7, 3) := by decide +kernel
theorem own_d15_26 : decode prog_3_method_2_code 26 = .ok (.aload_n 1, 1) := by decide +kernel
theorem own_d15_27 : decode prog_3_method_2_code 27 = .ok (.iload_n 2, 1) := by decide +kernel
theorem own_d15_28 : decode prog_3_method_2_code 28 = .ok (.aload_n 0, 1) := by decide +kernel
theorem own_d15_29 : decode prog_3_method_2_code 29 = .ok (.getfield 7, 3) := by decide +kernel
theorem own_d15_32 : decode prog_3_method_2_code 32 = .ok (.iconst 0, 1) := by decide +kernel
theorem own_d15_33 : decode prog_3_method_2_code 33 = .ok (.iload_n 3, 1) := by decide +kernel
theorem own_d15_34 : decode prog_3_method_2_code 34 = .ok (.invokestatic 19, 3) := by decide +kernel
theorem own_d15_37 : decode prog_3_method_2_code 37 = .ok (.aload_n 0, 1) := by decide +kernel
theorem own_d15_38 : decode prog_3_method_2_code 38 = .ok (.iload 4, 2) := by decide +kernel
theorem own_d15_40 : decode prog_3_method_2_code 40 = .ok (.putfield 25, 3) := by decide +kernel
theorem own_d15_43 : decode prog_3_method_2_code 43 = .ok (.return_, 1) := by decide +kernel
def Qown_hold1 (Z : State) (p_o : Addr) (b_o : Addr) (n_1 : Int32) (x_1 : Int32) (k_b : ClassId) (q_o : Addr) (k_q : ClassId) (v_0 : Value) (v_1 : Value) (v_2 : Value) (v_3 : Value) (v_4 : Value) (v_5 : Value) (v_6 : Value) (v_7 : Value) (v_8 : Value) (v_9 : Value) (v_10 : Value) (v_11 : Value) (v_12 : Value) (v_13 : Value) (v_14 : Value) (v_15 : Value) (v_16 : Value) (h0 : Heap) (n0 : Nat) (v : Option Value) (h : Heap) (L : List Loc) : Prop := ∃ r_o : Addr, ∃ k_r : ClassId, v = none ∧ Fr n0 L ∧ h0.size ≤ r_o ∧ Keep h0 h [p_o] ∧ Exa Z h p_o "fieldstone/ByteReader$PackedInts" ∧ Fld Z h p_o "fieldstone/ByteReader$PackedInts" "packed" "[B" (.ref r_o) ∧ Fld Z h p_o "fieldstone/ByteReader$PackedInts" "bits" "I" (.int x_1) ∧ Arv Z h r_o k_r .byte n_1 [v_1, v_2, v_3, v_4, v_5, v_6, v_7, v_8, v_9, v_10, v_11, v_12, v_13, v_14, v_15, v_16] (.int (0 : Int32))
set_option maxRecDepth 65536 in
set_option maxHeartbeats 40000000 in
theorem own_hold1 (l : Launch) (Z : State) (a0 : Array Value) (hw : ∀ d ∈ tables_1, d.before a0 Z = true) (ws : List Jvm.Cond) (p_o : Addr) (b_o : Addr) (n_1 : Int32) (x_1 : Int32) (k_b : ClassId) (q_o : Addr) (k_q : ClassId) (v_0 : Value) (v_1 : Value) (v_2 : Value) (v_3 : Value) (v_4 : Value) (v_5 : Value) (v_6 : Value) (v_7 : Value) (v_8 : Value) (v_9 : Value) (v_10 : Value) (v_11 : Value) (v_12 : Value) (v_13 : Value) (v_14 : Value) (v_15 : Value) (v_16 : Value) (h0 : Heap) (n0 : Nat) (Z0 : n0 ≤ h0.size) (Ep : Exa Z h0 p_o "fieldstone/ByteReader$PackedInts") (F_k : Fld Z h0 p_o "fieldstone/ByteReader$PackedInts" "packed" "[B" (.ref q_o)) (F_b : Fld Z h0 p_o "fieldstone/ByteReader$PackedInts" "bits" "I" (.int (0 : Int32))) (V_q : Arv Z h0 q_o k_q .byte (0 : Int32) [] (.int (0 : Int32))) (V_b : Arv Z h0 b_o k_b .byte (17 : Int32) [v_0, v_1, v_2, v_3, v_4, v_5, v_6, v_7, v_8, v_9, v_10, v_11, v_12, v_13, v_14, v_15, v_16] (.int (0 : Int32))) (gp : n0 ≤ p_o) (en1 : b_o ≠ p_o) (hp : (0 : Int32) < n_1) (hg0 : ¬ n_1 < (0 : Int32)) (h16c : ¬ (16 : Int32) < n_1) :
    MetFree l (⟨"fieldstone/ByteReader$PackedInts", "hold", "([BIII)V"⟩ : MethodName) (head1 (Jvm.Cond.code (⟨"fieldstone/ByteReader$PackedInts", "hold", "([BIII)V"⟩ : MethodName) prog_3_method_2_code 5 none :: ws) ({ frames := 1, cells := 1, slots := 16, locals := 18 } : Room)) (fun a U => a = #[(.ref p_o), (.ref b_o), (.int (1 : Int32)), (.int n_1), (.int x_1)] ∧ Z.Warmed39 U.vm ∧ U.heap = h0) (fun _ _ _ _ _ => True) (fun _ U o U' => ∃ v L, o = .returned v ∧ Qown_hold1 Z p_o b_o n_1 x_1 k_b q_o k_q v_0 v_1 v_2 v_3 v_4 v_5 v_6 v_7 v_8 v_9 v_10 v_11 v_12 v_13 v_14 v_15 v_16 h0 n0 v U'.heap L ∧ FrameEnd U o U' L ({ frames := 1, cells := 1, slots := 16, locals := 18 } : Room).cells ({ frames := 1, cells := 1, slots := 16, locals := 18 } : Room).slots) := by
  refine MetFree.of_bodySF (plainFor_of_name own_pn1) hisR ?_
  intro p e s m args below meth c s₁ Bd hml0 hP hK
  obtain ⟨rfl, hZ, hh⟩ := hP
  have hx := Bd.exec
  have hby := Bd.bytes
  have hml : c.maxLocals = 5 := hml0
  have hown : s.vm.findClass "fieldstone/ByteReader$PackedInts" = some m.cls := findClass_of_methodNamed Bd.named
  have hnm := (name_of_methodNamed Bd.named Bd.method).1
  have X0 : Stand p l e ({ frames := 1, cells := 1, slots := 16, locals := 18 } : Room) s m #[(.ref p_o), (.ref b_o), (.int (1 : Int32)), (.int n_1), (.int x_1)] below meth c s₁ [] 0 0 := Stand.of_body Bd
  have e0 : s₁.heap = h0 := by rw [← hh, Bd.state]; rfl
  have N0 := Fr.nil n0
  have pre0 : ∀ t, Steps p.tables e below (s₁.setTop (mkF m 0 #[.val (.ref p_o), .val (.ref b_o), .val (.int (1 : Int32)), .val (.int n_1), .val (.int x_1)] [])) t → Steps p.tables e below (s₁.setTop (entryFrame m #[(.ref p_o), (.ref b_o), (.int (1 : Int32)), (.int n_1), (.int x_1)] 5)) t := fun t k => castTop (own_ef_own_hold1 m p_o b_o n_1 x_1) k
  obtain ⟨T3, X3, e3, st3⟩ := getF X0 hx hZ hown (host := "") (Or.inl (hw _ (List.mem_of_getElem? (i := 38) rfl))) Via.refl e0 F_k (g := (mkF m 1 #[.val (.ref p_o), .val (.ref b_o), .val (.int (1 : Int32)), .val (.int n_1), .val (.int x_1)] [(.ref p_o)])) rfl rfl (hb hby own_d15_1)
  obtain ⟨cl5, Ar5, -, S5, M5, -, -⟩ := id V_q
  obtain ⟨T13, X13, e13, st13⟩ := getF X3 hx hZ hown (host := "") (Or.inl (hw _ (List.mem_of_getElem? (i := 38) rfl))) Via.refl e3 F_k (g := (mkF m 13 #[.val (.ref p_o), .val (.ref b_o), .val (.int (1 : Int32)), .val (.int n_1), .val (.int x_1)] [(.ref p_o), (.int (2 : Int32)), (.int n_1), (.ref p_o)])) rfl rfl (hb hby own_d15_13)
  obtain ⟨cl15, Ar15, -, S15, M15, -, -⟩ := id V_q
  obtain ⟨_, _, ⟨T18, L18, k18, n18⟩, -, X18, ⟨Lc18, hQ18, l18, y18, z18⟩, st18⟩ := Jvm.LawKit.callS X13 hx (y := (⟨"java/lang/Math", "max", "(II)I"⟩ : MethodName)) hown (mvT hZ (hw _ (List.mem_of_getElem? (i := 96) rfl))) (mvT hZ (hw _ (List.mem_of_getElem? (i := 97) rfl))) (mvT hZ (hw _ (List.mem_of_getElem? (i := 81) rfl))) (mvT hZ (hw _ (List.mem_of_getElem? (i := 98) rfl))) (by decide) (backOf (W := 1) (own_max l Z a0 hw [] n_1 (0 : Int32) h0 n0 Z0 ) hZ (hw _ (List.mem_of_getElem? (i := 98) rfl)) (hw _ (List.mem_of_getElem? (i := 81) rfl)) (by decide) (by decide)) (g := (mkF m 18 #[.val (.ref p_o), .val (.ref b_o), .val (.int (1 : Int32)), .val (.int n_1), .val (.int x_1)] [(.int (0 : Int32)), (.int n_1), (.ref p_o)])) rfl (by rw [hml]; rfl) (argsL := [(.int n_1), (.int (0 : Int32))]) (rest := [(.ref p_o)]) (lenOf own_pd4 rfl) rfl (by show 2 * 0 + _ ≤ _; exact Nat.le_of_eq rfl) (hb hby own_d15_18) (fun _ _ => ⟨rfl, e13, (by decide : 0 + 0 ≤ _), (by decide : 0 + 0 ≤ _)⟩)
  dsimp only [Pt.U, Pt.locs, Pt.cells, Pt.slots] at X18 l18 y18 z18 st18 hQ18
  rw [l18, y18, z18] at X18
  obtain ⟨rfl, Nq18, eh18⟩ := hQ18
  have N19 := Fr.app N0 Nq18
  obtain ⟨T21, h21, k21, X21, e21, E21, A21, Y21, st21⟩ := newPE X18 hx hZ (hw _ (List.mem_of_getElem? (i := 0) rfl)) eh18 (g := (mkF m 21 #[.val (.ref p_o), .val (.ref b_o), .val (.int (1 : Int32)), .val (.int n_1), .val (.int x_1)] [(.int n_1), (.ref p_o)])) rfl (hb hby own_d15_21) rfl hg0 (cap := 16) (own_le16 hg0 h16c) (by decide) (by decide) (by decide) (ad := "[B") (by first | rfl | decide)
  obtain ⟨b21, g21⟩ : ∃ z, z = h0.size := ⟨_, rfl⟩
  rw [← g21] at A21 Y21 st21
  have Ne22 : p_o ≠ b21 := Nat.ne_of_lt (Nat.lt_of_lt_of_le Ep.lt (Nat.le_of_eq g21.symm))
  have Ne23 : q_o ≠ b21 := Nat.ne_of_lt (Nat.lt_of_lt_of_le V_q.lt (Nat.le_of_eq g21.symm))
  have Ne24 : b_o ≠ b21 := Nat.ne_of_lt (Nat.lt_of_lt_of_le V_b.lt (Nat.le_of_eq g21.symm))
  have Ge25 : n0 ≤ b21 := Nat.le_trans Z0 (Nat.le_of_eq g21.symm)
  have Sz26 : h0.size ≤ b21 := Nat.le_trans (Keep.refl h0 [p_o]).1 (Nat.le_of_eq g21.symm)
  have Kc27 : Keep h0 h21 [p_o] := (Keep.refl h0 [p_o]).ext E21
  have Zs28 : n0 ≤ h21.size := (Nat.le_trans Z0 E21.1)
  have V21 : Arv Z h21 b21 k21 .byte n_1 [(.int (0 : Int32)), (.int (0 : Int32)), (.int (0 : Int32)), (.int (0 : Int32)), (.int (0 : Int32)), (.int (0 : Int32)), (.int (0 : Int32)), (.int (0 : Int32)), (.int (0 : Int32)), (.int (0 : Int32)), (.int (0 : Int32)), (.int (0 : Int32)), (.int (0 : Int32)), (.int (0 : Int32)), (.int (0 : Int32)), (.int (0 : Int32))] (.int (0 : Int32)) := (Arv.new A21 hg0).pad (pad_rep [] (.int (0 : Int32)) 16)
  have Fq30 : Exa Z h21 p_o "fieldstone/ByteReader$PackedInts" := (Ep.ext E21)
  have Fq31 : Fld Z h21 p_o "fieldstone/ByteReader$PackedInts" "packed" "[B" (.ref q_o) := (F_k.ext E21)
  obtain ⟨T32, h32, X32, e32, W32, st32⟩ := putF X21 hx hZ hown (host := "") (Or.inl (hw _ (List.mem_of_getElem? (i := 38) rfl))) Via.refl e21 Fq31 Fq30 (Or.inl (hw _ (List.mem_of_getElem? (i := 39) rfl))) (hw _ (List.mem_of_getElem? (i := 32) rfl)) (ty := (.array .byte)) (by decide) rfl rfl (g := (mkF m 23 #[.val (.ref p_o), .val (.ref b_o), .val (.int (1 : Int32)), .val (.int n_1), .val (.int x_1)] [(.ref b21), (.ref p_o)])) rfl rfl (hb hby own_d15_23)
  have Kc33 : Keep h0 h32 [p_o] := Kc27.wr W32 (Or.inl (List.mem_of_getElem? (i := 0) rfl))
  have Zs34 : n0 ≤ h32.size := Nat.le_trans Zs28 (Keep.of_wr W32).1
  have N35 := Fr.snoc X32 N19 gp
  have Fw32 : Fld Z h32 p_o "fieldstone/ByteReader$PackedInts" "packed" "[B" (.ref b21) := Fq31.same W32
  obtain ⟨T40, X40, e40, st40⟩ := getF X32 hx hZ hown (host := "") (Or.inl (hw _ (List.mem_of_getElem? (i := 38) rfl))) Via.refl e32 Fw32 (g := (mkF m 29 #[.val (.ref p_o), .val (.ref b_o), .val (.int (1 : Int32)), .val (.int n_1), .val (.int x_1)] [(.ref p_o), (.int (1 : Int32)), (.ref b_o)])) rfl rfl (hb hby own_d15_29)
  have Fq44 : Arv Z h32 b_o k_b .byte (17 : Int32) [v_0, v_1, v_2, v_3, v_4, v_5, v_6, v_7, v_8, v_9, v_10, v_11, v_12, v_13, v_14, v_15, v_16] (.int (0 : Int32)) := ((V_b.ext E21).other W32 en1)
  have Fq45 : Arv Z h32 b21 k21 .byte n_1 [(.int (0 : Int32)), (.int (0 : Int32)), (.int (0 : Int32)), (.int (0 : Int32)), (.int (0 : Int32)), (.int (0 : Int32)), (.int (0 : Int32)), (.int (0 : Int32)), (.int (0 : Int32)), (.int (0 : Int32)), (.int (0 : Int32)), (.int (0 : Int32)), (.int (0 : Int32)), (.int (0 : Int32)), (.int (0 : Int32)), (.int (0 : Int32))] (.int (0 : Int32)) := (V21.other W32 (Ne.symm Ne22))
  obtain ⟨T46, h46, L46, X46, e46, Nn46, K46, Va46, st46⟩ := cpA X40 hx hZ hown (hw _ (List.mem_of_getElem? (i := 99) rfl)) (hw _ (List.mem_of_getElem? (i := 102) rfl)) (hw _ (List.mem_of_getElem? (i := 100) rfl)) (hw _ (List.mem_of_getElem? (i := 101) rfl)) e40 (sp := (1 : Int32)) (dp := (0 : Int32)) (nn := n_1) (us := ((List.range n_1.toNatClampNeg).map fun i => [v_0, v_1, v_2, v_3, v_4, v_5, v_6, v_7, v_8, v_9, v_10, v_11, v_12, v_13, v_14, v_15, v_16].getD ((1 : Int32).toNatClampNeg + i) (.int (0 : Int32)))) Fq44 Fq45 (Or.inl ⟨rfl, rfl⟩) (by decide) (by decide) hg0 (by have := own_le16 hg0 h16c; show 1 + n_1.toNatClampNeg ≤ 17; omega) (by show 0 + n_1.toNatClampNeg ≤ n_1.toNatClampNeg; omega) rfl (by have := own_le16 hg0 h16c; show 0 + n_1.toNatClampNeg ≤ 16; omega) N35 Ge25 (g := (mkF m 34 #[.val (.ref p_o), .val (.ref b_o), .val (.int (1 : Int32)), .val (.int n_1), .val (.int x_1)] [(.int n_1), (.int (0 : Int32)), (.ref b21), (.int (1 : Int32)), (.ref b_o)])) rfl (by rw [hml]; rfl) rfl (hb hby own_d15_34) (by decide) (W := 0) (by show 2 * 0 + _ ≤ _; exact Nat.le_of_eq rfl) (by decide)
  have Kc47 : Keep h0 h46 [p_o] := Kc33.trans K46 (allS (Or.inr Sz26) all0)
  have Zs48 : n0 ≤ h46.size := Nat.le_trans Zs34 K46.1
  have Vn49 : Arv Z h46 b21 k21 .byte n_1 [v_1, v_2, v_3, v_4, v_5, v_6, v_7, v_8, v_9, v_10, v_11, v_12, v_13, v_14, v_15, v_16] (.int (0 : Int32)) := own_cut Va46 (own_hold _)
  have Fq53 : Exa Z h46 p_o "fieldstone/ByteReader$PackedInts" := ((Fq30.wr W32).keep K46)
  have Fq54 : Fld Z h46 p_o "fieldstone/ByteReader$PackedInts" "bits" "I" (.int (0 : Int32)) := (((F_b.ext E21).other W32 (Or.inr (slot_ne (Or.inl (hw _ (List.mem_of_getElem? (i := 61) rfl))) (Or.inl (hw _ (List.mem_of_getElem? (i := 39) rfl))) (by decide) (t := .int) (t' := (.array .byte)) (by decide) (by decide)))).keep K46 (ninS Ne22 nin0))
  obtain ⟨T55, h55, X55, e55, W55, st55⟩ := putF X46 hx hZ hown (host := "") (Or.inl (hw _ (List.mem_of_getElem? (i := 60) rfl))) Via.refl e46 Fq54 Fq53 (Or.inl (hw _ (List.mem_of_getElem? (i := 61) rfl))) (hw _ (List.mem_of_getElem? (i := 32) rfl)) (ty := .int) (by decide) rfl rfl (g := (mkF m 40 #[.val (.ref p_o), .val (.ref b_o), .val (.int (1 : Int32)), .val (.int n_1), .val (.int x_1)] [(.int x_1), (.ref p_o)])) rfl rfl (hb hby own_d15_40)
  have Kc56 : Keep h0 h55 [p_o] := Kc47.wr W55 (Or.inl (List.mem_of_getElem? (i := 0) rfl))
  have Zs57 : n0 ≤ h55.size := Nat.le_trans Zs48 (Keep.of_wr W55).1
  have N58 := Fr.snoc X55 Nn46 gp
  have Fw55 : Fld Z h55 p_o "fieldstone/ByteReader$PackedInts" "bits" "I" (.int x_1) := Fq54.same W55
  obtain ⟨fs, hr, hrun, hended, hW, hsame⟩ := X55.leave (v := none) (fun _ => rfl) (hlocks := BodyLoose.notSynchronized Bd)
  refine ⟨_, _, pre0 _ ?_, hrun, hended, _, _, rfl, ?_, ⟨_, rfl⟩, hW, hsame.mono (by decide) (by decide)⟩
  · show Steps p.tables e below (s₁.setTop (mkF m 0 #[.val (.ref p_o), .val (.ref b_o), .val (.int (1 : Int32)), .val (.int n_1), .val (.int x_1)] [])) _
    refine XS.aloadN X0.here hx rfl (hb hby own_d15_0) rfl rfl ?_
    show Steps p.tables e below (s₁.setTop (mkF m 1 #[.val (.ref p_o), .val (.ref b_o), .val (.int (1 : Int32)), .val (.int n_1), .val (.int x_1)] [(.ref p_o)])) _
    refine st3 _ ?_
    show Steps p.tables e below (T3.setTop (mkF m 4 #[.val (.ref p_o), .val (.ref b_o), .val (.int (1 : Int32)), .val (.int n_1), .val (.int x_1)] [(.ref q_o)])) _
    refine X3.arraylength hx (by rw [e3]; exact Ar5.1) (State.isArrayOf_alike hZ.alike Ar5.2.1) (g := (mkF m 4 #[.val (.ref p_o), .val (.ref b_o), .val (.int (1 : Int32)), .val (.int n_1), .val (.int x_1)] [(.ref q_o)])) rfl rfl (hb hby own_d15_4) _ ?_
    rw [len_of S5 M5]
    show Steps p.tables e below (T3.setTop (mkF m 5 #[.val (.ref p_o), .val (.ref b_o), .val (.int (1 : Int32)), .val (.int n_1), .val (.int x_1)] [(.int (0 : Int32))])) _
    refine XS.iloadN X3.here hx rfl (hb hby own_d15_5) rfl ?_
    show Steps p.tables e below (T3.setTop (mkF m 6 #[.val (.ref p_o), .val (.ref b_o), .val (.int (1 : Int32)), .val (.int n_1), .val (.int x_1)] [(.int n_1), (.int (0 : Int32))])) _
    refine XS.icmpNo X3.here hx rfl (hb hby own_d15_6) rfl (tlt (hp : (0 : Int32) < n_1)).2.1 ?_
    show Steps p.tables e below (T3.setTop (mkF m 9 #[.val (.ref p_o), .val (.ref b_o), .val (.int (1 : Int32)), .val (.int n_1), .val (.int x_1)] [])) _
    refine XS.aloadN X3.here hx rfl (hb hby own_d15_9) rfl rfl ?_
    show Steps p.tables e below (T3.setTop (mkF m 10 #[.val (.ref p_o), .val (.ref b_o), .val (.int (1 : Int32)), .val (.int n_1), .val (.int x_1)] [(.ref p_o)])) _
    refine XS.iloadN X3.here hx rfl (hb hby own_d15_10) rfl ?_
    show Steps p.tables e below (T3.setTop (mkF m 11 #[.val (.ref p_o), .val (.ref b_o), .val (.int (1 : Int32)), .val (.int n_1), .val (.int x_1)] [(.int n_1), (.ref p_o)])) _
    refine XS.iconst X3.here hx rfl (hb hby own_d15_11) ?_
    show Steps p.tables e below (T3.setTop (mkF m 12 #[.val (.ref p_o), .val (.ref b_o), .val (.int (1 : Int32)), .val (.int n_1), .val (.int x_1)] [(.int (2 : Int32)), (.int n_1), (.ref p_o)])) _
    refine XS.aloadN X3.here hx rfl (hb hby own_d15_12) rfl rfl ?_
    show Steps p.tables e below (T3.setTop (mkF m 13 #[.val (.ref p_o), .val (.ref b_o), .val (.int (1 : Int32)), .val (.int n_1), .val (.int x_1)] [(.ref p_o), (.int (2 : Int32)), (.int n_1), (.ref p_o)])) _
    refine st13 _ ?_
    show Steps p.tables e below (T13.setTop (mkF m 16 #[.val (.ref p_o), .val (.ref b_o), .val (.int (1 : Int32)), .val (.int n_1), .val (.int x_1)] [(.ref q_o), (.int (2 : Int32)), (.int n_1), (.ref p_o)])) _
    refine X13.arraylength hx (by rw [e13]; exact Ar15.1) (State.isArrayOf_alike hZ.alike Ar15.2.1) (g := (mkF m 16 #[.val (.ref p_o), .val (.ref b_o), .val (.int (1 : Int32)), .val (.int n_1), .val (.int x_1)] [(.ref q_o), (.int (2 : Int32)), (.int n_1), (.ref p_o)])) rfl rfl (hb hby own_d15_16) _ ?_
    rw [len_of S15 M15]
    show Steps p.tables e below (T13.setTop (mkF m 17 #[.val (.ref p_o), .val (.ref b_o), .val (.int (1 : Int32)), .val (.int n_1), .val (.int x_1)] [(.int (0 : Int32)), (.int (2 : Int32)), (.int n_1), (.ref p_o)])) _
    refine XS.imul X13.here hx rfl (hb hby own_d15_17) rfl ?_
    show Steps p.tables e below (T13.setTop (mkF m 18 #[.val (.ref p_o), .val (.ref b_o), .val (.int (1 : Int32)), .val (.int n_1), .val (.int x_1)] [(.int (0 : Int32)), (.int n_1), (.ref p_o)])) _
    refine st18 _ ?_
    show Steps p.tables e below (T18.setTop (mkF m 21 #[.val (.ref p_o), .val (.ref b_o), .val (.int (1 : Int32)), .val (.int n_1), .val (.int x_1)] [(.int (own_max_f n_1 (0 : Int32))), (.ref p_o)])) _
    rw [own_max0 hg0]
    show Steps p.tables e below (T18.setTop (mkF m 21 #[.val (.ref p_o), .val (.ref b_o), .val (.int (1 : Int32)), .val (.int n_1), .val (.int x_1)] [(.int n_1), (.ref p_o)])) _
    refine st21 _ ?_
    show Steps p.tables e below (T21.setTop (mkF m 23 #[.val (.ref p_o), .val (.ref b_o), .val (.int (1 : Int32)), .val (.int n_1), .val (.int x_1)] [(.ref b21), (.ref p_o)])) _
    refine st32 _ ?_
    show Steps p.tables e below (T32.setTop (mkF m 26 #[.val (.ref p_o), .val (.ref b_o), .val (.int (1 : Int32)), .val (.int n_1), .val (.int x_1)] [])) _
    refine XS.aloadN X32.here hx rfl (hb hby own_d15_26) rfl rfl ?_
    show Steps p.tables e below (T32.setTop (mkF m 27 #[.val (.ref p_o), .val (.ref b_o), .val (.int (1 : Int32)), .val (.int n_1), .val (.int x_1)] [(.ref b_o)])) _
    refine XS.iloadN X32.here hx rfl (hb hby own_d15_27) rfl ?_
    show Steps p.tables e below (T32.setTop (mkF m 28 #[.val (.ref p_o), .val (.ref b_o), .val (.int (1 : Int32)), .val (.int n_1), .val (.int x_1)] [(.int (1 : Int32)), (.ref b_o)])) _
    refine XS.aloadN X32.here hx rfl (hb hby own_d15_28) rfl rfl ?_
    show Steps p.tables e below (T32.setTop (mkF m 29 #[.val (.ref p_o), .val (.ref b_o), .val (.int (1 : Int32)), .val (.int n_1), .val (.int x_1)] [(.ref p_o), (.int (1 : Int32)), (.ref b_o)])) _
    refine st40 _ ?_
    show Steps p.tables e below (T40.setTop (mkF m 32 #[.val (.ref p_o), .val (.ref b_o), .val (.int (1 : Int32)), .val (.int n_1), .val (.int x_1)] [(.ref b21), (.int (1 : Int32)), (.ref b_o)])) _
    refine XS.iconst X40.here hx rfl (hb hby own_d15_32) ?_
    show Steps p.tables e below (T40.setTop (mkF m 33 #[.val (.ref p_o), .val (.ref b_o), .val (.int (1 : Int32)), .val (.int n_1), .val (.int x_1)] [(.int (0 : Int32)), (.ref b21), (.int (1 : Int32)), (.ref b_o)])) _
    refine XS.iloadN X40.here hx rfl (hb hby own_d15_33) rfl ?_
    show Steps p.tables e below (T40.setTop (mkF m 34 #[.val (.ref p_o), .val (.ref b_o), .val (.int (1 : Int32)), .val (.int n_1), .val (.int x_1)] [(.int n_1), (.int (0 : Int32)), (.ref b21), (.int (1 : Int32)), (.ref b_o)])) _
    refine st46 _ ?_
    show Steps p.tables e below (T46.setTop (mkF m 37 #[.val (.ref p_o), .val (.ref b_o), .val (.int (1 : Int32)), .val (.int n_1), .val (.int x_1)] [])) _
    refine XS.aloadN X46.here hx rfl (hb hby own_d15_37) rfl rfl ?_
    show Steps p.tables e below (T46.setTop (mkF m 38 #[.val (.ref p_o), .val (.ref b_o), .val (.int (1 : Int32)), .val (.int n_1), .val (.int x_1)] [(.ref p_o)])) _
    refine XS.iload X46.here hx rfl (hb hby own_d15_38) rfl ?_
    show Steps p.tables e below (T46.setTop (mkF m 40 #[.val (.ref p_o), .val (.ref b_o), .val (.int (1 : Int32)), .val (.int n_1), .val (.int x_1)] [(.int x_1), (.ref p_o)])) _
    refine st55 _ ?_
    show Steps p.tables e below (T55.setTop (mkF m 43 #[.val (.ref p_o), .val (.ref b_o), .val (.int (1 : Int32)), .val (.int n_1), .val (.int x_1)] [])) _
    exact X55.returnOut hx Bd.returns (hb hby own_d15_43) hr
  · show Qown_hold1 Z p_o b_o n_1 x_1 k_b q_o k_q v_0 v_1 v_2 v_3 v_4 v_5 v_6 v_7 v_8 v_9 v_10 v_11 v_12 v_13 v_14 v_15 v_16 h0 n0 _ T55.heap _
    rw [e55]
    have Fq60 : Exa Z h55 p_o "fieldstone/ByteReader$PackedInts" := (Fq53.wr W55)
    have Fq61 : Fld Z h55 p_o "fieldstone/ByteReader$PackedInts" "packed" "[B" (.ref b21) := ((Fw32.keep K46 (ninS Ne22 nin0)).other W55 (Or.inr (slot_ne (Or.inl (hw _ (List.mem_of_getElem? (i := 39) rfl))) (Or.inl (hw _ (List.mem_of_getElem? (i := 61) rfl))) (by decide) (t := (.array .byte)) (t' := .int) (by decide) (by decide))))
    have Fq62 : Arv Z h55 b21 k21 .byte n_1 [v_1, v_2, v_3, v_4, v_5, v_6, v_7, v_8, v_9, v_10, v_11, v_12, v_13, v_14, v_15, v_16] (.int (0 : Int32)) := (Vn49.other W55 (Ne.symm Ne22))
    exact ⟨b21, k21, rfl, N58, Sz26, Kc56, Fq60, Fq61, Fw55, Fq62⟩
theorem own_ef_own_hp1 (m : MethodId) (a_o : Addr) (c_1 : Int32) (p_o : Addr) : entryFrame m #[(.ref a_o), (.int c_1), (.ref p_o)] 5 = mkF m 0 #[.val (.ref a_o), .val (.int c_1), .val (.ref p_o), .unset, .unset] [] := by first | (simp [entryFrame, mkF, argsToLocals, Value.category]; done) | rfl
theorem own_pd5 : parseMethodDescriptor "(JJ)J" = some ⟨[.long, .long], some .long⟩ := by decide +kernel
theorem own_pd6 : parseMethodDescriptor "([BIII)V" = some ⟨[(.array .byte), .int, .int, .int], none⟩ := by decide +kernel
theorem own_d5_24 : decode prog_2_method_26_code 24 = .ok (.ldc2_w 74, 3) := by decide +kernel
theorem own_d5_27 : decode prog_2_method_26_code 27 = .ok (.iload_n 1, 1) := by decide +kernel
theorem own_d5_28 : decode prog_2_method_26_code 28 = .ok (.i2l, 1) := by decide +kernel
theorem own_d5_29 : decode prog_2_method_26_code 29 = .ok (.iload_n 3, 1) := by decide +kernel
theorem own_d5_30 : decode prog_2_method_26_code 30 = .ok (.i2l, 1) := by decide +kernel
theorem own_d5_31 : decode prog_2_method_26_code 31 = .ok (.lmul, 1) := by decide +kernel
theorem own_d5_32 : decode prog_2_method_26_code 32 = .ok (.ldc2_w 154, 3) := by decide +kernel
theorem own_d5_35 : decode prog_2_method_26_code 35 = .ok (.ladd, 1) := by decide +kernel
theorem own_d5_36 : decode prog_2_method_26_code 36 = .ok (.ldc2_w 140, 3) := by decide +kernel
theorem own_d5_39 : decode prog_2_method_26_code 39 = .ok (.ldiv, 1) := by decide +kernel
theorem own_d5_40 : decode prog_2_method_26_code 40 = .ok (.invokestatic 78, 3) := by decide +kernel
theorem own_d5_43 : decode prog_2_method_26_code 43 = .ok (.l2i, 1) := by decide +kernel
theorem own_d5_44 : decode prog_2_method_26_code 44 = .ok (.istore 4, 2) := by decide +kernel
theorem own_d5_46 : decode prog_2_method_26_code 46 = .ok (.aload_n 2, 1) := by decide +kernel
theorem own_d5_47 : decode prog_2_method_26_code 47 = .ok (.aload_n 0, 1) := by decide +kernel
theorem own_d5_48 : decode prog_2_method_26_code 48 = .ok (.getfield 13, 3) := by decide +kernel
theorem own_d5_51 : decode prog_2_method_26_code 51 = .ok (.aload_n 0, 1) := by decide +kernel
theorem own_d5_52 : decode prog_2_method_26_code 52 = .ok (.iload 4, 2) := by decide +kernel
theorem own_d5_54 : decode prog_2_method_26_code 54 = .ok (.invokevirtual 106, 3) := by decide +kernel
theorem own_d5_57 : decode prog_2_method_26_code 57 = .ok (.iload 4, 2) := by decide +kernel
theorem own_d5_59 : decode prog_2_method_26_code 59 = .ok (.iload_n 3, 1) := by decide +kernel
theorem own_d5_60 : decode prog_2_method_26_code 60 = .ok (.invokevirtual 156, 3) := by decide +kernel
def Qown_hp1 (Z : State) (a_o : Addr) (b_o : Addr) (k_b : ClassId) (c_1 : Int32) (p_o : Addr) (b_1 : Int32) (n_1 : Int32) (q_o : Addr) (k_q : ClassId) (y_0 : Int32) (v_1 : Value) (v_2 : Value) (v_3 : Value) (v_4 : Value) (v_5 : Value) (v_6 : Value) (v_7 : Value) (v_8 : Value) (v_9 : Value) (v_10 : Value) (v_11 : Value) (v_12 : Value) (v_13 : Value) (v_14 : Value) (v_15 : Value) (v_16 : Value) (h0 : Heap) (n0 : Nat) (v : Option Value) (h : Heap) (L : List Loc) : Prop := ∃ r_o : Addr, ∃ k_r : ClassId, v = none ∧ Fr n0 L ∧ h0.size ≤ r_o ∧ Keep h0 h [a_o, p_o] ∧ Exa Z h p_o "fieldstone/ByteReader$PackedInts" ∧ Fld Z h p_o "fieldstone/ByteReader$PackedInts" "packed" "[B" (.ref r_o) ∧ Fld Z h p_o "fieldstone/ByteReader$PackedInts" "bits" "I" (.int b_1) ∧ Arv Z h r_o k_r .byte n_1 [v_1, v_2, v_3, v_4, v_5, v_6, v_7, v_8, v_9, v_10, v_11, v_12, v_13, v_14, v_15, v_16] (.int (0 : Int32))
set_option maxRecDepth 65536 in
set_option maxHeartbeats 40000000 in
theorem own_hp1 (l : Launch) (Z : State) (a0 : Array Value) (hw : ∀ d ∈ tables_1, d.before a0 Z = true) (ws : List Jvm.Cond) (a_o : Addr) (b_o : Addr) (k_b : ClassId) (c_1 : Int32) (p_o : Addr) (b_1 : Int32) (n_1 : Int32) (q_o : Addr) (k_q : ClassId) (y_0 : Int32) (v_1 : Value) (v_2 : Value) (v_3 : Value) (v_4 : Value) (v_5 : Value) (v_6 : Value) (v_7 : Value) (v_8 : Value) (v_9 : Value) (v_10 : Value) (v_11 : Value) (v_12 : Value) (v_13 : Value) (v_14 : Value) (v_15 : Value) (v_16 : Value) (h0 : Heap) (n0 : Nat) (Z0 : n0 ≤ h0.size) (Eo : Exa Z h0 a_o "fieldstone/ByteReader") (F_b : Fld Z h0 a_o "fieldstone/ByteReader" "bytes" "[B" (.ref b_o)) (F_p : Fld Z h0 a_o "fieldstone/ByteReader" "pos" "I" (.int (0 : Int32))) (F_l : Fld Z h0 a_o "fieldstone/ByteReader" "limit" "I" (.int (17 : Int32))) (V_b : Arv Z h0 b_o k_b .byte (17 : Int32) [(.int y_0), v_1, v_2, v_3, v_4, v_5, v_6, v_7, v_8, v_9, v_10, v_11, v_12, v_13, v_14, v_15, v_16] (.int (0 : Int32))) (Ep : Exa Z h0 p_o "fieldstone/ByteReader$PackedInts") (F_pk : Fld Z h0 p_o "fieldstone/ByteReader$PackedInts" "packed" "[B" (.ref q_o)) (F_pb : Fld Z h0 p_o "fieldstone/ByteReader$PackedInts" "bits" "I" (.int (0 : Int32))) (V_q : Arv Z h0 q_o k_q .byte (0 : Int32) [] (.int (0 : Int32))) (ga : n0 ≤ a_o) (en1 : b_o ≠ a_o) (gp : n0 ≤ p_o) (en2 : p_o ≠ a_o) (en3 : b_o ≠ p_o) (en4 : q_o ≠ a_o) (hy0 : (y_0 &&& (128 : Int32)) = (0 : Int32)) (hn : ¬ (own_vl1 y_0) < (0 : Int64)) (hm : ¬ (31 : Int64) < (own_vl1 y_0)) (hbw : ((own_vl1 y_0).toInt32) = b_1) (hbz : ¬ b_1 = (0 : Int32)) (hlen : ((own_min_f (2147483647 : Int64) ((((c_1.toInt64) * (b_1.toInt64)) + (7 : Int64)) / (8 : Int64))).toInt32) = n_1) (hg0 : ¬ n_1 < (0 : Int32)) (h16c : ¬ (16 : Int32) < n_1) (hp : (0 : Int32) < n_1) :
    MetFree l (⟨"fieldstone/ByteReader", "holdPackedInts", "(ILfieldstone/ByteReader$PackedInts;)V"⟩ : MethodName) (head1 (Jvm.Cond.code (⟨"fieldstone/ByteReader", "holdPackedInts", "(ILfieldstone/ByteReader$PackedInts;)V"⟩ : MethodName) prog_2_method_26_code 5 none :: ws) ({ frames := 2, cells := 1, slots := 16, locals := 34 } : Room)) (fun a U => a = #[(.ref a_o), (.int c_1), (.ref p_o)] ∧ Z.Warmed39 U.vm ∧ U.heap = h0) (fun _ _ _ _ _ => True) (fun _ U o U' => ∃ v L, o = .returned v ∧ Qown_hp1 Z a_o b_o k_b c_1 p_o b_1 n_1 q_o k_q y_0 v_1 v_2 v_3 v_4 v_5 v_6 v_7 v_8 v_9 v_10 v_11 v_12 v_13 v_14 v_15 v_16 h0 n0 v U'.heap L ∧ FrameEnd U o U' L ({ frames := 2, cells := 1, slots := 16, locals := 34 } : Room).cells ({ frames := 2, cells := 1, slots := 16, locals := 34 } : Room).slots) := by
  refine MetFree.of_bodySF (plainFor_of_name own_pn0) hisR ?_
  intro p e s m args below meth c s₁ Bd hml0 hP hK
  obtain ⟨rfl, hZ, hh⟩ := hP
  have hx := Bd.exec
  have hby := Bd.bytes
  have hml : c.maxLocals = 5 := hml0
  have hown : s.vm.findClass "fieldstone/ByteReader" = some m.cls := findClass_of_methodNamed Bd.named
  have hnm := (name_of_methodNamed Bd.named Bd.method).1
  have X0 : Stand p l e ({ frames := 2, cells := 1, slots := 16, locals := 34 } : Room) s m #[(.ref a_o), (.int c_1), (.ref p_o)] below meth c s₁ [] 0 0 := Stand.of_body Bd
  have e0 : s₁.heap = h0 := by rw [← hh, Bd.state]; rfl
  have N0 := Fr.nil n0
  have pre0 : ∀ t, Steps p.tables e below (s₁.setTop (mkF m 0 #[.val (.ref a_o), .val (.int c_1), .val (.ref p_o), .unset, .unset] [])) t → Steps p.tables e below (s₁.setTop (entryFrame m #[(.ref a_o), (.int c_1), (.ref p_o)] 5)) t := fun t k => castTop (own_ef_own_hp1 m a_o c_1 p_o) k
  obtain ⟨cq4, kq4, q4a, q4b, q4c⟩ := isOf hZ e0 Eo
  obtain ⟨_, _, ⟨T4, L4, k4, n4⟩, -, X4, ⟨Lc4, hQ4, l4, y4, z4⟩, st4⟩ := X0.virtualBack hx (y := (⟨"fieldstone/ByteReader", "readVarInt", "(I)I"⟩ : MethodName)) (z := (⟨"fieldstone/ByteReader", "readVarInt", "(I)I"⟩ : MethodName)) hown (mvT hZ (hw _ (List.mem_of_getElem? (i := 45) rfl))) (mvT hZ (hw _ (List.mem_of_getElem? (i := 46) rfl))) (notFace_of_selects (args := #[]) (mvT hZ (hw _ (List.mem_of_getElem? (i := 48) rfl)))) (mvT hZ (hw _ (List.mem_of_getElem? (i := 48) rfl))) (mvT hZ (hw _ (List.mem_of_getElem? (i := 47) rfl))) (by decide) (backOf (W := 0) (own_ri1 l Z a0 hw [] a_o b_o k_b y_0 v_1 v_2 v_3 v_4 v_5 v_6 v_7 v_8 v_9 v_10 v_11 v_12 v_13 v_14 v_15 v_16 h0 n0 Z0 Eo F_b F_p F_l V_b ga en1 hy0 hn hm) hZ (hw _ (List.mem_of_getElem? (i := 49) rfl)) (hw _ (List.mem_of_getElem? (i := 4) rfl)) (by decide) (by decide)) q4a q4c (g := (mkF m 3 #[.val (.ref a_o), .val (.int c_1), .val (.ref p_o), .unset, .unset] [(.int (31 : Int32)), (.ref a_o)])) rfl (by rw [hml]; rfl) (Steps.refl _) (argsL := [(.int (31 : Int32))]) (rest := []) (lenOf own_pd2 rfl) rfl (by show 2 * 0 + _ ≤ _; exact Nat.le_of_eq rfl) (hb hby own_d5_3) (fun _ _ => ⟨rfl, e0, (by decide : 0 + 0 ≤ _), (by decide : 0 + 0 ≤ _)⟩)
  dsimp only [Pt.U, Pt.locs, Pt.cells, Pt.slots] at X4 l4 y4 z4 st4 hQ4
  rw [l4, y4, z4] at X4
  obtain ⟨rfl, Nq4, K4, Pf4_0, Pf4_1, Pf4_2, Pf4_3⟩ := hQ4
  have N5 := Fr.app N0 Nq4
  have Kc6 : Keep h0 T4.heap [a_o, p_o] := (Keep.refl h0 [a_o, p_o]).trans K4 (allS (Or.inl (List.mem_of_getElem? (i := 0) rfl)) all0)
  have Zs7 : n0 ≤ T4.heap.size := Nat.le_trans Z0 K4.1
  obtain ⟨_, _, ⟨T22, L22, k22, n22⟩, -, X22, ⟨Lc22, hQ22, l22, y22, z22⟩, st22⟩ := Jvm.LawKit.callS X4 hx (y := (⟨"java/lang/Math", "min", "(JJ)J"⟩ : MethodName)) hown (mvT hZ (hw _ (List.mem_of_getElem? (i := 79) rfl))) (mvT hZ (hw _ (List.mem_of_getElem? (i := 80) rfl))) (mvT hZ (hw _ (List.mem_of_getElem? (i := 81) rfl))) (mvT hZ (hw _ (List.mem_of_getElem? (i := 82) rfl))) (by decide) (backOf (W := 0) (own_min l Z a0 hw [] (2147483647 : Int64) ((((c_1.toInt64) * (b_1.toInt64)) + (7 : Int64)) / (8 : Int64)) T4.heap n0 Zs7 ) hZ (hw _ (List.mem_of_getElem? (i := 82) rfl)) (hw _ (List.mem_of_getElem? (i := 81) rfl)) (by decide) (by decide)) (g := (mkF m 40 #[.val (.ref a_o), .val (.int c_1), .val (.ref p_o), .val (.int b_1), .unset] [(.long ((((c_1.toInt64) * (b_1.toInt64)) + (7 : Int64)) / (8 : Int64))), (.long (2147483647 : Int64))])) rfl (by rw [hml]; rfl) (argsL := [(.long (2147483647 : Int64)), (.long ((((c_1.toInt64) * (b_1.toInt64)) + (7 : Int64)) / (8 : Int64)))]) (rest := []) (lenOf own_pd5 rfl) rfl (by show 2 * 0 + _ ≤ _; exact Nat.le_of_eq rfl) (hb hby own_d5_40) (fun _ _ => ⟨rfl, rfl, (by decide : 0 + 0 ≤ _), (by decide : 0 + 0 ≤ _)⟩)
  dsimp only [Pt.U, Pt.locs, Pt.cells, Pt.slots] at X22 l22 y22 z22 st22 hQ22
  rw [l22, y22, z22] at X22
  obtain ⟨rfl, Nq22, eh22⟩ := hQ22
  have N23 := Fr.app N5 Nq22
  obtain ⟨T29, X29, e29, st29⟩ := getF X22 hx hZ hown (host := "") (Or.inl (hw _ (List.mem_of_getElem? (i := 23) rfl))) Via.refl eh22 Pf4_1 (g := (mkF m 48 #[.val (.ref a_o), .val (.int c_1), .val (.ref p_o), .val (.int b_1), .val (.int n_1)] [(.ref a_o), (.ref p_o)])) rfl rfl (hb hby own_d5_48)
  obtain ⟨cq33, kq33, q33a, q33b, q33c⟩ := isOf hZ e29 Pf4_0
  obtain ⟨_, _, ⟨T33, L33, k33, n33⟩, -, X33, ⟨Lc33, hQ33, l33, y33, z33⟩, st33⟩ := X29.virtualBack hx (y := (⟨"fieldstone/ByteReader", "skip", "(I)I"⟩ : MethodName)) (z := (⟨"fieldstone/ByteReader", "skip", "(I)I"⟩ : MethodName)) hown (mvT hZ (hw _ (List.mem_of_getElem? (i := 83) rfl))) (mvT hZ (hw _ (List.mem_of_getElem? (i := 84) rfl))) (notFace_of_selects (args := #[]) (mvT hZ (hw _ (List.mem_of_getElem? (i := 86) rfl)))) (mvT hZ (hw _ (List.mem_of_getElem? (i := 86) rfl))) (mvT hZ (hw _ (List.mem_of_getElem? (i := 85) rfl))) (by decide) (backOf (W := 2) (own_skip l Z a0 hw [] a_o b_o n_1 T4.heap n0 Zs7 Pf4_0 Pf4_1 Pf4_2 Pf4_3 ga hg0 h16c) hZ (hw _ (List.mem_of_getElem? (i := 87) rfl)) (hw _ (List.mem_of_getElem? (i := 4) rfl)) (by decide) (by decide)) q33a q33c (g := (mkF m 54 #[.val (.ref a_o), .val (.int c_1), .val (.ref p_o), .val (.int b_1), .val (.int n_1)] [(.int n_1), (.ref a_o), (.ref b_o), (.ref p_o)])) rfl (by rw [hml]; rfl) (Steps.refl _) (argsL := [(.int n_1)]) (rest := [(.ref b_o), (.ref p_o)]) (lenOf own_pd2 rfl) rfl (by show 2 * 0 + _ ≤ _; exact Nat.le_of_eq rfl) (hb hby own_d5_54) (fun _ _ => ⟨rfl, e29, (by decide : 0 + 0 ≤ _), (by decide : 0 + 0 ≤ _)⟩)
  dsimp only [Pt.U, Pt.locs, Pt.cells, Pt.slots] at X33 l33 y33 z33 st33 hQ33
  rw [l33, y33, z33] at X33
  obtain ⟨rfl, Nq33, K33, Pf33_0, Pf33_1⟩ := hQ33
  have N34 := Fr.app N23 Nq33
  have Kc35 : Keep h0 T33.heap [a_o, p_o] := Kc6.trans K33 (allS (Or.inl (List.mem_of_getElem? (i := 0) rfl)) all0)
  have Zs36 : n0 ≤ T33.heap.size := Nat.le_trans Zs7 K33.1
  have Fq41 : Exa Z T33.heap p_o "fieldstone/ByteReader$PackedInts" := ((Ep.keep K4).keep K33)
  have Fq42 : Fld Z T33.heap p_o "fieldstone/ByteReader$PackedInts" "packed" "[B" (.ref q_o) := ((F_pk.keep K4 (ninS en2 nin0)).keep K33 (ninS en2 nin0))
  have Fq43 : Fld Z T33.heap p_o "fieldstone/ByteReader$PackedInts" "bits" "I" (.int (0 : Int32)) := ((F_pb.keep K4 (ninS en2 nin0)).keep K33 (ninS en2 nin0))
  have Fq44 : Arv Z T33.heap q_o k_q .byte (0 : Int32) [] (.int (0 : Int32)) := ((V_q.keep K4 (ninS en4 nin0)).keep K33 (ninS en4 nin0))
  have Fq45 : Arv Z T33.heap b_o k_b .byte (17 : Int32) [(.int y_0), v_1, v_2, v_3, v_4, v_5, v_6, v_7, v_8, v_9, v_10, v_11, v_12, v_13, v_14, v_15, v_16] (.int (0 : Int32)) := ((V_b.keep K4 (ninS en1 nin0)).keep K33 (ninS en1 nin0))
  obtain ⟨cq40, q40, q40'⟩ := Fq41.cell
  obtain ⟨_, ⟨T40, L40, k40, n40⟩, X40, ⟨Lc40, hQ40, l40, y40, z40⟩, st40⟩ := own_refBack X33 hx hZ (y := (⟨"fieldstone/ByteReader$PackedInts", "hold", "([BIII)V"⟩ : MethodName)) hown (hw _ (List.mem_of_getElem? (i := 92) rfl)) (hw _ (List.mem_of_getElem? (i := 93) rfl)) (hw _ (List.mem_of_getElem? (i := 94) rfl)) (hw _ (List.mem_of_getElem? (i := 32) rfl)) (hw _ (List.mem_of_getElem? (i := 95) rfl)) (by decide) (backOf (W := 0) (own_hold1 l Z a0 hw [] p_o b_o n_1 b_1 k_b q_o k_q (.int y_0) v_1 v_2 v_3 v_4 v_5 v_6 v_7 v_8 v_9 v_10 v_11 v_12 v_13 v_14 v_15 v_16 T33.heap n0 Zs36 Fq41 Fq42 Fq43 Fq44 Fq45 gp en3 hp hg0 h16c) hZ (hw _ (List.mem_of_getElem? (i := 95) rfl)) (hw _ (List.mem_of_getElem? (i := 33) rfl)) (by decide) (by decide)) (g := (mkF m 60 #[.val (.ref a_o), .val (.int c_1), .val (.ref p_o), .val (.int b_1), .val (.int n_1)] [(.int b_1), (.int n_1), (.int (1 : Int32)), (.ref b_o), (.ref p_o)])) rfl (by rw [hml]; rfl) (Steps.refl _) (a := p_o) q40 q40' (argsL := [(.ref b_o), (.int (1 : Int32)), (.int n_1), (.int b_1)]) (rest := []) (lenOf own_pd6 rfl) rfl (by show 2 * 0 + _ ≤ _; exact Nat.le_of_eq rfl) (hb hby own_d5_60) ⟨rfl, rfl, (by decide : 0 + 1 ≤ _), (by decide : 0 + 16 ≤ _)⟩
  dsimp only [Pt.U, Pt.locs, Pt.cells, Pt.slots] at X40 l40 y40 z40 st40 hQ40
  rw [l40, y40, z40] at X40
  obtain ⟨r_o_40, k_r_40, rfl, Nq40, sz40_r_o, K40, Pf40_0, Pf40_1, Pf40_2, Pf40_3⟩ := hQ40
  have N46 := Fr.app N34 Nq40
  have Ne47 : a_o ≠ r_o_40 := Nat.ne_of_lt (Nat.lt_of_lt_of_le Pf33_0.lt sz40_r_o)
  have Ne48 : b_o ≠ r_o_40 := Nat.ne_of_lt (Nat.lt_of_lt_of_le Fq45.lt sz40_r_o)
  have Ne49 : p_o ≠ r_o_40 := Nat.ne_of_lt (Nat.lt_of_lt_of_le Fq41.lt sz40_r_o)
  have Ne50 : q_o ≠ r_o_40 := Nat.ne_of_lt (Nat.lt_of_lt_of_le Fq44.lt sz40_r_o)
  have Ge51 : n0 ≤ r_o_40 := Nat.le_trans Zs36 sz40_r_o
  have Sz52 : h0.size ≤ r_o_40 := Nat.le_trans Kc35.1 sz40_r_o
  have Kc53 : Keep h0 T40.heap [a_o, p_o] := Kc35.trans K40 (allS (Or.inl (List.mem_of_getElem? (i := 1) rfl)) all0)
  have Zs54 : n0 ≤ T40.heap.size := Nat.le_trans Zs36 K40.1
  obtain ⟨fs, hr, hrun, hended, hW, hsame⟩ := X40.leave (v := none) (fun _ => rfl) (hlocks := BodyLoose.notSynchronized Bd)
  refine ⟨_, _, pre0 _ ?_, hrun, hended, _, _, rfl, ?_, ⟨_, rfl⟩, hW, hsame.mono (by decide) (by decide)⟩
  · show Steps p.tables e below (s₁.setTop (mkF m 0 #[.val (.ref a_o), .val (.int c_1), .val (.ref p_o), .unset, .unset] [])) _
    refine XS.aloadN X0.here hx rfl (hb hby own_d5_0) rfl rfl ?_
    show Steps p.tables e below (s₁.setTop (mkF m 1 #[.val (.ref a_o), .val (.int c_1), .val (.ref p_o), .unset, .unset] [(.ref a_o)])) _
    refine XS.bipush X0.here hx rfl (hb hby own_d5_1) ?_
    show Steps p.tables e below (s₁.setTop (mkF m 3 #[.val (.ref a_o), .val (.int c_1), .val (.ref p_o), .unset, .unset] [(.int (31 : Int32)), (.ref a_o)])) _
    refine st4.trans ?_
    show Steps p.tables e below (T4.setTop (mkF m 6 #[.val (.ref a_o), .val (.int c_1), .val (.ref p_o), .unset, .unset] [(.int ((own_vl1 y_0).toInt32))])) _
    rw [hbw]
    show Steps p.tables e below (T4.setTop (mkF m 6 #[.val (.ref a_o), .val (.int c_1), .val (.ref p_o), .unset, .unset] [(.int b_1)])) _
    refine XS.istoreN X4.here hx rfl (hb hby own_d5_6) rfl (l' := #[.val (.ref a_o), .val (.int c_1), .val (.ref p_o), .val (.int b_1), .unset]) rfl ?_
    show Steps p.tables e below (T4.setTop (mkF m 7 #[.val (.ref a_o), .val (.int c_1), .val (.ref p_o), .val (.int b_1), .unset] [])) _
    refine XS.iloadN X4.here hx rfl (hb hby own_d5_7) rfl ?_
    show Steps p.tables e below (T4.setTop (mkF m 8 #[.val (.ref a_o), .val (.int c_1), .val (.ref p_o), .val (.int b_1), .unset] [(.int b_1)])) _
    refine XS.ifYes X4.here hx rfl (pc0 := 8) (pc' := 24) rfl (hb hby own_d5_8) rfl ((if0 _ _).trans (feq (hbz : ¬ (b_1 = (0 : Int32)))).2) (by decide) (by decide) ?_
    show Steps p.tables e below (T4.setTop (mkF m 24 #[.val (.ref a_o), .val (.int c_1), .val (.ref p_o), .val (.int b_1), .unset] [])) _
    refine X4.ldc2Long hx hown (mvT hZ (hw _ (List.mem_of_getElem? (i := 76) rfl))) (g := (mkF m 24 #[.val (.ref a_o), .val (.int c_1), .val (.ref p_o), .val (.int b_1), .unset] [])) rfl (hb hby own_d5_24) _ ?_
    show Steps p.tables e below (T4.setTop (mkF m 27 #[.val (.ref a_o), .val (.int c_1), .val (.ref p_o), .val (.int b_1), .unset] [(.long (2147483647 : Int64))])) _
    refine XS.iloadN X4.here hx rfl (hb hby own_d5_27) rfl ?_
    show Steps p.tables e below (T4.setTop (mkF m 28 #[.val (.ref a_o), .val (.int c_1), .val (.ref p_o), .val (.int b_1), .unset] [(.int c_1), (.long (2147483647 : Int64))])) _
    refine XS.i2l X4.here hx rfl (hb hby own_d5_28) rfl ?_
    show Steps p.tables e below (T4.setTop (mkF m 29 #[.val (.ref a_o), .val (.int c_1), .val (.ref p_o), .val (.int b_1), .unset] [(.long (c_1.toInt64)), (.long (2147483647 : Int64))])) _
    refine XS.iloadN X4.here hx rfl (hb hby own_d5_29) rfl ?_
    show Steps p.tables e below (T4.setTop (mkF m 30 #[.val (.ref a_o), .val (.int c_1), .val (.ref p_o), .val (.int b_1), .unset] [(.int b_1), (.long (c_1.toInt64)), (.long (2147483647 : Int64))])) _
    refine XS.i2l X4.here hx rfl (hb hby own_d5_30) rfl ?_
    show Steps p.tables e below (T4.setTop (mkF m 31 #[.val (.ref a_o), .val (.int c_1), .val (.ref p_o), .val (.int b_1), .unset] [(.long (b_1.toInt64)), (.long (c_1.toInt64)), (.long (2147483647 : Int64))])) _
    refine XS.lmul X4.here hx rfl (hb hby own_d5_31) rfl ?_
    show Steps p.tables e below (T4.setTop (mkF m 32 #[.val (.ref a_o), .val (.int c_1), .val (.ref p_o), .val (.int b_1), .unset] [(.long ((c_1.toInt64) * (b_1.toInt64))), (.long (2147483647 : Int64))])) _
    refine X4.ldc2Long hx hown (mvT hZ (hw _ (List.mem_of_getElem? (i := 77) rfl))) (g := (mkF m 32 #[.val (.ref a_o), .val (.int c_1), .val (.ref p_o), .val (.int b_1), .unset] [(.long ((c_1.toInt64) * (b_1.toInt64))), (.long (2147483647 : Int64))])) rfl (hb hby own_d5_32) _ ?_
    show Steps p.tables e below (T4.setTop (mkF m 35 #[.val (.ref a_o), .val (.int c_1), .val (.ref p_o), .val (.int b_1), .unset] [(.long (7 : Int64)), (.long ((c_1.toInt64) * (b_1.toInt64))), (.long (2147483647 : Int64))])) _
    refine XS.ladd X4.here hx rfl (hb hby own_d5_35) rfl ?_
    show Steps p.tables e below (T4.setTop (mkF m 36 #[.val (.ref a_o), .val (.int c_1), .val (.ref p_o), .val (.int b_1), .unset] [(.long (((c_1.toInt64) * (b_1.toInt64)) + (7 : Int64))), (.long (2147483647 : Int64))])) _
    refine X4.ldc2Long hx hown (mvT hZ (hw _ (List.mem_of_getElem? (i := 78) rfl))) (g := (mkF m 36 #[.val (.ref a_o), .val (.int c_1), .val (.ref p_o), .val (.int b_1), .unset] [(.long (((c_1.toInt64) * (b_1.toInt64)) + (7 : Int64))), (.long (2147483647 : Int64))])) rfl (hb hby own_d5_36) _ ?_
    show Steps p.tables e below (T4.setTop (mkF m 39 #[.val (.ref a_o), .val (.int c_1), .val (.ref p_o), .val (.int b_1), .unset] [(.long (8 : Int64)), (.long (((c_1.toInt64) * (b_1.toInt64)) + (7 : Int64))), (.long (2147483647 : Int64))])) _
    refine XS.ldiv X4.here hx rfl (hb hby own_d5_39) rfl (by decide) ?_
    show Steps p.tables e below (T4.setTop (mkF m 40 #[.val (.ref a_o), .val (.int c_1), .val (.ref p_o), .val (.int b_1), .unset] [(.long ((((c_1.toInt64) * (b_1.toInt64)) + (7 : Int64)) / (8 : Int64))), (.long (2147483647 : Int64))])) _
    refine st22 _ ?_
    show Steps p.tables e below (T22.setTop (mkF m 43 #[.val (.ref a_o), .val (.int c_1), .val (.ref p_o), .val (.int b_1), .unset] [(.long (own_min_f (2147483647 : Int64) ((((c_1.toInt64) * (b_1.toInt64)) + (7 : Int64)) / (8 : Int64))))])) _
    refine XS.l2i X22.here hx rfl (hb hby own_d5_43) rfl ?_
    rw [hlen]
    show Steps p.tables e below (T22.setTop (mkF m 44 #[.val (.ref a_o), .val (.int c_1), .val (.ref p_o), .val (.int b_1), .unset] [(.int n_1)])) _
    refine XS.istore X22.here hx rfl (hb hby own_d5_44) rfl (l' := #[.val (.ref a_o), .val (.int c_1), .val (.ref p_o), .val (.int b_1), .val (.int n_1)]) rfl ?_
    show Steps p.tables e below (T22.setTop (mkF m 46 #[.val (.ref a_o), .val (.int c_1), .val (.ref p_o), .val (.int b_1), .val (.int n_1)] [])) _
    refine XS.aloadN X22.here hx rfl (hb hby own_d5_46) rfl rfl ?_
    show Steps p.tables e below (T22.setTop (mkF m 47 #[.val (.ref a_o), .val (.int c_1), .val (.ref p_o), .val (.int b_1), .val (.int n_1)] [(.ref p_o)])) _
    refine XS.aloadN X22.here hx rfl (hb hby own_d5_47) rfl rfl ?_
    show Steps p.tables e below (T22.setTop (mkF m 48 #[.val (.ref a_o), .val (.int c_1), .val (.ref p_o), .val (.int b_1), .val (.int n_1)] [(.ref a_o), (.ref p_o)])) _
    refine st29 _ ?_
    show Steps p.tables e below (T29.setTop (mkF m 51 #[.val (.ref a_o), .val (.int c_1), .val (.ref p_o), .val (.int b_1), .val (.int n_1)] [(.ref b_o), (.ref p_o)])) _
    refine XS.aloadN X29.here hx rfl (hb hby own_d5_51) rfl rfl ?_
    show Steps p.tables e below (T29.setTop (mkF m 52 #[.val (.ref a_o), .val (.int c_1), .val (.ref p_o), .val (.int b_1), .val (.int n_1)] [(.ref a_o), (.ref b_o), (.ref p_o)])) _
    refine XS.iload X29.here hx rfl (hb hby own_d5_52) rfl ?_
    show Steps p.tables e below (T29.setTop (mkF m 54 #[.val (.ref a_o), .val (.int c_1), .val (.ref p_o), .val (.int b_1), .val (.int n_1)] [(.int n_1), (.ref a_o), (.ref b_o), (.ref p_o)])) _
    refine st33.trans ?_
    show Steps p.tables e below (T33.setTop (mkF m 57 #[.val (.ref a_o), .val (.int c_1), .val (.ref p_o), .val (.int b_1), .val (.int n_1)] [(.int (1 : Int32)), (.ref b_o), (.ref p_o)])) _
    refine XS.iload X33.here hx rfl (hb hby own_d5_57) rfl ?_
    show Steps p.tables e below (T33.setTop (mkF m 59 #[.val (.ref a_o), .val (.int c_1), .val (.ref p_o), .val (.int b_1), .val (.int n_1)] [(.int n_1), (.int (1 : Int32)), (.ref b_o), (.ref p_o)])) _
    refine XS.iloadN X33.here hx rfl (hb hby own_d5_59) rfl ?_
    show Steps p.tables e below (T33.setTop (mkF m 60 #[.val (.ref a_o), .val (.int c_1), .val (.ref p_o), .val (.int b_1), .val (.int n_1)] [(.int b_1), (.int n_1), (.int (1 : Int32)), (.ref b_o), (.ref p_o)])) _
    refine st40.trans ?_
    show Steps p.tables e below (T40.setTop (mkF m 63 #[.val (.ref a_o), .val (.int c_1), .val (.ref p_o), .val (.int b_1), .val (.int n_1)] [])) _
    exact X40.returnOut hx Bd.returns (hb hby own_d5_63) hr
  · show Qown_hp1 Z a_o b_o k_b c_1 p_o b_1 n_1 q_o k_q y_0 v_1 v_2 v_3 v_4 v_5 v_6 v_7 v_8 v_9 v_10 v_11 v_12 v_13 v_14 v_15 v_16 h0 n0 _ T40.heap _
    exact ⟨r_o_40, k_r_40, rfl, N46, Sz52, Kc53, Pf40_0, Pf40_1, Pf40_2, Pf40_3⟩
theorem own_ef_own_g0 (m : MethodId) (p_o : Addr) (i_1 : Int32) : entryFrame m #[(.ref p_o), (.int i_1)] 9 = mkF m 0 #[.val (.ref p_o), .val (.int i_1), .unset, .unset, .unset, .unset, .unset, .unset, .unset] [] := by first | (simp [entryFrame, mkF, argsToLocals, Value.category]; done) | rfl
theorem own_d9_0 : decode prog_3_method_4_code 0 = .ok (.aload_n 0, 1) := by decide +kernel
theorem own_d9_1 : decode prog_3_method_4_code 1 = .ok (.getfield 25, 3) := by decide +kernel
theorem own_d9_4 : decode prog_3_method_4_code 4 = .ok (.ifCond .ne 8, 3) := by decide +kernel
theorem own_d9_7 : decode prog_3_method_4_code 7 = .ok (.aload_n 0, 1) := by decide +kernel
theorem own_d9_8 : decode prog_3_method_4_code 8 = .ok (.getfield 29, 3) := by decide +kernel
theorem own_d9_11 : decode prog_3_method_4_code 11 = .ok (.ireturn, 1) := by decide +kernel
def Qown_g0 (Z : State) (p_o : Addr) (i_1 : Int32) (x_1 : Int32) (h0 : Heap) (n0 : Nat) (v : Option Value) (h : Heap) (L : List Loc) : Prop := v = some (.int x_1) ∧ Fr n0 L ∧ h = h0
set_option maxRecDepth 65536 in
set_option maxHeartbeats 40000000 in
theorem own_g0 (l : Launch) (Z : State) (a0 : Array Value) (hw : ∀ d ∈ tables_1, d.before a0 Z = true) (ws : List Jvm.Cond) (p_o : Addr) (i_1 : Int32) (x_1 : Int32) (h0 : Heap) (n0 : Nat) (Z0 : n0 ≤ h0.size) (F_b : Fld Z h0 p_o "fieldstone/ByteReader$PackedInts" "bits" "I" (.int (0 : Int32))) (F_a : Fld Z h0 p_o "fieldstone/ByteReader$PackedInts" "alike" "I" (.int x_1)) :
    MetFree l (⟨"fieldstone/ByteReader$PackedInts", "get", "(I)I"⟩ : MethodName) (head1 (Jvm.Cond.code (⟨"fieldstone/ByteReader$PackedInts", "get", "(I)I"⟩ : MethodName) prog_3_method_4_code 9 (some .int) :: ws) ({ frames := 0, cells := 0, slots := 0, locals := 0 } : Room)) (fun a U => a = #[(.ref p_o), (.int i_1)] ∧ Z.Warmed39 U.vm ∧ U.heap = h0) (fun _ _ _ _ _ => True) (fun _ U o U' => ∃ v L, o = .returned v ∧ Qown_g0 Z p_o i_1 x_1 h0 n0 v U'.heap L ∧ FrameEnd U o U' L ({ frames := 0, cells := 0, slots := 0, locals := 0 } : Room).cells ({ frames := 0, cells := 0, slots := 0, locals := 0 } : Room).slots) := by
  refine MetFree.of_bodySF (plainFor_of_name own_pn1) hisR ?_
  intro p e s m args below meth c s₁ Bd hml0 hP hK
  obtain ⟨rfl, hZ, hh⟩ := hP
  have hx := Bd.exec
  have hby := Bd.bytes
  have hml : c.maxLocals = 9 := hml0
  have hown : s.vm.findClass "fieldstone/ByteReader$PackedInts" = some m.cls := findClass_of_methodNamed Bd.named
  have hnm := (name_of_methodNamed Bd.named Bd.method).1
  have X0 : Stand p l e ({ frames := 0, cells := 0, slots := 0, locals := 0 } : Room) s m #[(.ref p_o), (.int i_1)] below meth c s₁ [] 0 0 := Stand.of_body Bd
  have e0 : s₁.heap = h0 := by rw [← hh, Bd.state]; rfl
  have N0 := Fr.nil n0
  have pre0 : ∀ t, Steps p.tables e below (s₁.setTop (mkF m 0 #[.val (.ref p_o), .val (.int i_1), .unset, .unset, .unset, .unset, .unset, .unset, .unset] [])) t → Steps p.tables e below (s₁.setTop (entryFrame m #[(.ref p_o), (.int i_1)] 9)) t := fun t k => castTop (own_ef_own_g0 m p_o i_1) k
  obtain ⟨T3, X3, e3, st3⟩ := getF X0 hx hZ hown (host := "") (Or.inl (hw _ (List.mem_of_getElem? (i := 60) rfl))) Via.refl e0 F_b (g := (mkF m 1 #[.val (.ref p_o), .val (.int i_1), .unset, .unset, .unset, .unset, .unset, .unset, .unset] [(.ref p_o)])) rfl rfl (hb hby own_d9_1)
  obtain ⟨T7, X7, e7, st7⟩ := getF X3 hx hZ hown (host := "") (Or.inl (hw _ (List.mem_of_getElem? (i := 62) rfl))) Via.refl e3 F_a (g := (mkF m 8 #[.val (.ref p_o), .val (.int i_1), .unset, .unset, .unset, .unset, .unset, .unset, .unset] [(.ref p_o)])) rfl rfl (hb hby own_d9_8)
  obtain ⟨fs, hr, hrun, hended, hW, hsame⟩ := X7.leave (v := some (.int x_1)) (fun h => by rw [Bd.returns] at h; cases h) (hlocks := BodyLoose.notSynchronized Bd)
  refine ⟨_, _, pre0 _ ?_, hrun, hended, _, _, rfl, ?_, ⟨_, rfl⟩, hW, hsame.mono (by decide) (by decide)⟩
  · show Steps p.tables e below (s₁.setTop (mkF m 0 #[.val (.ref p_o), .val (.int i_1), .unset, .unset, .unset, .unset, .unset, .unset, .unset] [])) _
    refine XS.aloadN X0.here hx rfl (hb hby own_d9_0) rfl rfl ?_
    show Steps p.tables e below (s₁.setTop (mkF m 1 #[.val (.ref p_o), .val (.int i_1), .unset, .unset, .unset, .unset, .unset, .unset, .unset] [(.ref p_o)])) _
    refine st3 _ ?_
    show Steps p.tables e below (T3.setTop (mkF m 4 #[.val (.ref p_o), .val (.int i_1), .unset, .unset, .unset, .unset, .unset, .unset, .unset] [(.int (0 : Int32))])) _
    refine XS.ifNo X3.here hx rfl (hb hby own_d9_4) rfl ((if0 _ _).trans (teq ((by decide) : (0 : Int32) = (0 : Int32))).2) ?_
    show Steps p.tables e below (T3.setTop (mkF m 7 #[.val (.ref p_o), .val (.int i_1), .unset, .unset, .unset, .unset, .unset, .unset, .unset] [])) _
    refine XS.aloadN X3.here hx rfl (hb hby own_d9_7) rfl rfl ?_
    show Steps p.tables e below (T3.setTop (mkF m 8 #[.val (.ref p_o), .val (.int i_1), .unset, .unset, .unset, .unset, .unset, .unset, .unset] [(.ref p_o)])) _
    refine st7 _ ?_
    show Steps p.tables e below (T7.setTop (mkF m 11 #[.val (.ref p_o), .val (.int i_1), .unset, .unset, .unset, .unset, .unset, .unset, .unset] [(.int x_1)])) _
    exact retI X7 hx Bd.returns (hb hby own_d9_11) hr
  · show Qown_g0 Z p_o i_1 x_1 h0 n0 _ T7.heap _
    rw [e7]
    exact ⟨rfl, N0, rfl⟩
theorem own_ef_own_g1 (m : MethodId) (p_o : Addr) (i_1 : Int32) : entryFrame m #[(.ref p_o), (.int i_1)] 9 = mkF m 0 #[.val (.ref p_o), .val (.int i_1), .unset, .unset, .unset, .unset, .unset, .unset, .unset] [] := by first | (simp [entryFrame, mkF, argsToLocals, Value.category]; done) | rfl
theorem own_d9_12 : decode prog_3_method_4_code 12 = .ok (.iload_n 1, 1) := by decide +kernel
theorem own_d9_13 : decode prog_3_method_4_code 13 = .ok (.i2l, 1) := by decide +kernel
theorem own_d9_14 : decode prog_3_method_4_code 14 = .ok (.aload_n 0, 1) := by decide +kernel
theorem own_d9_15 : decode prog_3_method_4_code 15 = .ok (.getfield 25, 3) := by decide +kernel
theorem own_d9_18 : decode prog_3_method_4_code 18 = .ok (.i2l, 1) := by decide +kernel
theorem own_d9_19 : decode prog_3_method_4_code 19 = .ok (.lmul, 1) := by decide +kernel
theorem own_d9_20 : decode prog_3_method_4_code 20 = .ok (.lstore_n 2, 1) := by decide +kernel
theorem own_d9_21 : decode prog_3_method_4_code 21 = .ok (.lload_n 2, 1) := by decide +kernel
theorem own_d9_22 : decode prog_3_method_4_code 22 = .ok (.iconst 3, 1) := by decide +kernel
theorem own_d9_23 : decode prog_3_method_4_code 23 = .ok (.lushr, 1) := by decide +kernel
theorem own_d9_24 : decode prog_3_method_4_code 24 = .ok (.l2i, 1) := by decide +kernel
theorem own_d9_25 : decode prog_3_method_4_code 25 = .ok (.istore 4, 2) := by decide +kernel
theorem own_d9_27 : decode prog_3_method_4_code 27 = .ok (.lload_n 2, 1) := by decide +kernel
theorem own_d9_28 : decode prog_3_method_4_code 28 = .ok (.ldc2_w 32, 3) := by decide +kernel
theorem own_d9_31 : decode prog_3_method_4_code 31 = .ok (.land, 1) := by decide +kernel
theorem own_d9_32 : decode prog_3_method_4_code 32 = .ok (.l2i, 1) := by decide +kernel
theorem own_d9_33 : decode prog_3_method_4_code 33 = .ok (.istore 5, 2) := by decide +kernel
theorem own_d9_35 : decode prog_3_method_4_code 35 = .ok (.lconst 0, 1) := by decide +kernel
theorem own_d9_36 : decode prog_3_method_4_code 36 = .ok (.lstore 6, 2) := by decide +kernel
theorem own_d9_38 : decode prog_3_method_4_code 38 = .ok (.iconst 0, 1) := by decide +kernel
theorem own_d9_39 : decode prog_3_method_4_code 39 = .ok (.istore 8, 2) := by decide +kernel
theorem own_d9_41 : decode prog_3_method_4_code 41 = .ok (.iload 8, 2) := by decide +kernel
theorem own_d9_43 : decode prog_3_method_4_code 43 = .ok (.iload 5, 2) := by decide +kernel
theorem own_d9_45 : decode prog_3_method_4_code 45 = .ok (.aload_n 0, 1) := by decide +kernel
theorem own_d9_46 : decode prog_3_method_4_code 46 = .ok (.getfield 25, 3) := by decide +kernel
theorem own_d9_49 : decode prog_3_method_4_code 49 = .ok (.iadd, 1) := by decide +kernel
theorem own_d9_50 : decode prog_3_method_4_code 50 = .ok (.if_icmp .ge 32, 3) := by decide +kernel
theorem own_d9_53 : decode prog_3_method_4_code 53 = .ok (.lload 6, 2) := by decide +kernel
theorem own_d9_55 : decode prog_3_method_4_code 55 = .ok (.aload_n 0, 1) := by decide +kernel
theorem own_d9_56 : decode prog_3_method_4_code 56 = .ok (.getfield 7, 3) := by decide +kernel
theorem own_d9_59 : decode prog_3_method_4_code 59 = .ok (.iload 4, 2) := by decide +kernel
theorem own_d9_61 : decode prog_3_method_4_code 61 = .ok (.iinc 4 1, 3) := by decide +kernel
theorem own_d9_64 : decode prog_3_method_4_code 64 = .ok (.baload, 1) := by decide +kernel
theorem own_d9_65 : decode prog_3_method_4_code 65 = .ok (.sipush 255, 3) := by decide +kernel
theorem own_d9_68 : decode prog_3_method_4_code 68 = .ok (.iand, 1) := by decide +kernel
theorem own_d9_69 : decode prog_3_method_4_code 69 = .ok (.i2l, 1) := by decide +kernel
theorem own_d9_70 : decode prog_3_method_4_code 70 = .ok (.iload 8, 2) := by decide +kernel
theorem own_d9_72 : decode prog_3_method_4_code 72 = .ok (.lshl, 1) := by decide +kernel
theorem own_d9_73 : decode prog_3_method_4_code 73 = .ok (.lor, 1) := by decide +kernel
theorem own_d9_74 : decode prog_3_method_4_code 74 = .ok (.lstore 6, 2) := by decide +kernel
theorem own_d9_76 : decode prog_3_method_4_code 76 = .ok (.iinc 8 8, 3) := by decide +kernel
theorem own_d9_79 : decode prog_3_method_4_code 79 = .ok (.goto (-38), 3) := by decide +kernel
theorem own_d9_82 : decode prog_3_method_4_code 82 = .ok (.lload 6, 2) := by decide +kernel
theorem own_d9_84 : decode prog_3_method_4_code 84 = .ok (.iload 5, 2) := by decide +kernel
theorem own_d9_86 : decode prog_3_method_4_code 86 = .ok (.lushr, 1) := by decide +kernel
theorem own_d9_87 : decode prog_3_method_4_code 87 = .ok (.lconst 1, 1) := by decide +kernel
theorem own_d9_88 : decode prog_3_method_4_code 88 = .ok (.aload_n 0, 1) := by decide +kernel
theorem own_d9_89 : decode prog_3_method_4_code 89 = .ok (.getfield 25, 3) := by decide +kernel
theorem own_d9_92 : decode prog_3_method_4_code 92 = .ok (.lshl, 1) := by decide +kernel
theorem own_d9_93 : decode prog_3_method_4_code 93 = .ok (.lconst 1, 1) := by decide +kernel
theorem own_d9_94 : decode prog_3_method_4_code 94 = .ok (.lsub, 1) := by decide +kernel
theorem own_d9_95 : decode prog_3_method_4_code 95 = .ok (.land, 1) := by decide +kernel
theorem own_d9_96 : decode prog_3_method_4_code 96 = .ok (.l2i, 1) := by decide +kernel
theorem own_d9_97 : decode prog_3_method_4_code 97 = .ok (.ireturn, 1) := by decide +kernel
def own_get_f (f_1 : Int32) (s_1 : Int32) (b_1 : Int32) (bt : Int32 → Int32) : Int32 := (if (0 : Int32) < (s_1 + b_1) then (if (8 : Int32) < (s_1 + b_1) then (if (16 : Int32) < (s_1 + b_1) then (if (24 : Int32) < (s_1 + b_1) then (if (32 : Int32) < (s_1 + b_1) then ((((((((((0 : Int64) ||| ((((bt f_1) &&& (255 : Int32)).toInt64) <<< ((0 : Int32) &&& 0x3f).toInt64)) ||| ((((bt (f_1 + (1 : Int32))) &&& (255 : Int32)).toInt64) <<< ((8 : Int32) &&& 0x3f).toInt64)) ||| ((((bt ((f_1 + (1 : Int32)) + (1 : Int32))) &&& (255 : Int32)).toInt64) <<< ((16 : Int32) &&& 0x3f).toInt64)) ||| ((((bt (((f_1 + (1 : Int32)) + (1 : Int32)) + (1 : Int32))) &&& (255 : Int32)).toInt64) <<< ((24 : Int32) &&& 0x3f).toInt64)) ||| ((((bt ((((f_1 + (1 : Int32)) + (1 : Int32)) + (1 : Int32)) + (1 : Int32))) &&& (255 : Int32)).toInt64) <<< ((32 : Int32) &&& 0x3f).toInt64)).toUInt64 >>> (s_1 &&& 0x3f).toInt64.toUInt64).toInt64) &&& (((1 : Int64) <<< (b_1 &&& 0x3f).toInt64) - (1 : Int64))).toInt32) else (((((((((0 : Int64) ||| ((((bt f_1) &&& (255 : Int32)).toInt64) <<< ((0 : Int32) &&& 0x3f).toInt64)) ||| ((((bt (f_1 + (1 : Int32))) &&& (255 : Int32)).toInt64) <<< ((8 : Int32) &&& 0x3f).toInt64)) ||| ((((bt ((f_1 + (1 : Int32)) + (1 : Int32))) &&& (255 : Int32)).toInt64) <<< ((16 : Int32) &&& 0x3f).toInt64)) ||| ((((bt (((f_1 + (1 : Int32)) + (1 : Int32)) + (1 : Int32))) &&& (255 : Int32)).toInt64) <<< ((24 : Int32) &&& 0x3f).toInt64)).toUInt64 >>> (s_1 &&& 0x3f).toInt64.toUInt64).toInt64) &&& (((1 : Int64) <<< (b_1 &&& 0x3f).toInt64) - (1 : Int64))).toInt32)) else ((((((((0 : Int64) ||| ((((bt f_1) &&& (255 : Int32)).toInt64) <<< ((0 : Int32) &&& 0x3f).toInt64)) ||| ((((bt (f_1 + (1 : Int32))) &&& (255 : Int32)).toInt64) <<< ((8 : Int32) &&& 0x3f).toInt64)) ||| ((((bt ((f_1 + (1 : Int32)) + (1 : Int32))) &&& (255 : Int32)).toInt64) <<< ((16 : Int32) &&& 0x3f).toInt64)).toUInt64 >>> (s_1 &&& 0x3f).toInt64.toUInt64).toInt64) &&& (((1 : Int64) <<< (b_1 &&& 0x3f).toInt64) - (1 : Int64))).toInt32)) else (((((((0 : Int64) ||| ((((bt f_1) &&& (255 : Int32)).toInt64) <<< ((0 : Int32) &&& 0x3f).toInt64)) ||| ((((bt (f_1 + (1 : Int32))) &&& (255 : Int32)).toInt64) <<< ((8 : Int32) &&& 0x3f).toInt64)).toUInt64 >>> (s_1 &&& 0x3f).toInt64.toUInt64).toInt64) &&& (((1 : Int64) <<< (b_1 &&& 0x3f).toInt64) - (1 : Int64))).toInt32)) else ((((((0 : Int64) ||| ((((bt f_1) &&& (255 : Int32)).toInt64) <<< ((0 : Int32) &&& 0x3f).toInt64)).toUInt64 >>> (s_1 &&& 0x3f).toInt64.toUInt64).toInt64) &&& (((1 : Int64) <<< (b_1 &&& 0x3f).toInt64) - (1 : Int64))).toInt32)) else (((((0 : Int64).toUInt64 >>> (s_1 &&& 0x3f).toInt64.toUInt64).toInt64) &&& (((1 : Int64) <<< (b_1 &&& 0x3f).toInt64) - (1 : Int64))).toInt32))
def Qown_g1 (Z : State) (p_o : Addr) (i_1 : Int32) (b_1 : Int32) (f_1 : Int32) (s_1 : Int32) (n_1 : Int32) (r_o : Addr) (k_r : ClassId) (ws_ : List Value) (bt : Int32 → Int32) (h0 : Heap) (n0 : Nat) (v : Option Value) (h : Heap) (L : List Loc) : Prop := v = some (.int (own_get_f f_1 s_1 b_1 bt)) ∧ Fr n0 L ∧ h = h0
set_option maxRecDepth 65536 in
set_option maxHeartbeats 40000000 in
theorem own_g1 (l : Launch) (Z : State) (a0 : Array Value) (hw : ∀ d ∈ tables_1, d.before a0 Z = true) (ws : List Jvm.Cond) (p_o : Addr) (i_1 : Int32) (b_1 : Int32) (f_1 : Int32) (s_1 : Int32) (n_1 : Int32) (r_o : Addr) (k_r : ClassId) (ws_ : List Value) (bt : Int32 → Int32) (h0 : Heap) (n0 : Nat) (Z0 : n0 ≤ h0.size) (F_b : Fld Z h0 p_o "fieldstone/ByteReader$PackedInts" "bits" "I" (.int b_1)) (F_k : Fld Z h0 p_o "fieldstone/ByteReader$PackedInts" "packed" "[B" (.ref r_o)) (V_r : Arv Z h0 r_o k_r .byte n_1 ws_ (.int (0 : Int32))) (hbz : ¬ b_1 = (0 : Int32)) (hF : (((((i_1.toInt64) * (b_1.toInt64)).toUInt64 >>> ((3 : Int32) &&& 0x3f).toInt64.toUInt64).toInt64).toInt32) = f_1) (hS : ((((i_1.toInt64) * (b_1.toInt64)) &&& (7 : Int64)).toInt32) = s_1) (hbt : ∀ j : Int32, ¬ j < 0 ∧ j < n_1 → ws_.getD j.toNatClampNeg (.int (0 : Int32)) = .int (bt j)) (h40 : ¬ ((40 : Int32) < (s_1 + b_1))) (hin0_ : (0 : Int32) < (s_1 + b_1) → ¬ f_1 < 0 ∧ f_1 < n_1) (hin1_ : (8 : Int32) < (s_1 + b_1) → ¬ (f_1 + (1 : Int32)) < 0 ∧ (f_1 + (1 : Int32)) < n_1) (hin2_ : (16 : Int32) < (s_1 + b_1) → ¬ ((f_1 + (1 : Int32)) + (1 : Int32)) < 0 ∧ ((f_1 + (1 : Int32)) + (1 : Int32)) < n_1) (hin3_ : (24 : Int32) < (s_1 + b_1) → ¬ (((f_1 + (1 : Int32)) + (1 : Int32)) + (1 : Int32)) < 0 ∧ (((f_1 + (1 : Int32)) + (1 : Int32)) + (1 : Int32)) < n_1) (hin4_ : (32 : Int32) < (s_1 + b_1) → ¬ ((((f_1 + (1 : Int32)) + (1 : Int32)) + (1 : Int32)) + (1 : Int32)) < 0 ∧ ((((f_1 + (1 : Int32)) + (1 : Int32)) + (1 : Int32)) + (1 : Int32)) < n_1) :
    MetFree l (⟨"fieldstone/ByteReader$PackedInts", "get", "(I)I"⟩ : MethodName) (head1 (Jvm.Cond.code (⟨"fieldstone/ByteReader$PackedInts", "get", "(I)I"⟩ : MethodName) prog_3_method_4_code 9 (some .int) :: ws) ({ frames := 0, cells := 0, slots := 0, locals := 0 } : Room)) (fun a U => a = #[(.ref p_o), (.int i_1)] ∧ Z.Warmed39 U.vm ∧ U.heap = h0) (fun _ _ _ _ _ => True) (fun _ U o U' => ∃ v L, o = .returned v ∧ Qown_g1 Z p_o i_1 b_1 f_1 s_1 n_1 r_o k_r ws_ bt h0 n0 v U'.heap L ∧ FrameEnd U o U' L ({ frames := 0, cells := 0, slots := 0, locals := 0 } : Room).cells ({ frames := 0, cells := 0, slots := 0, locals := 0 } : Room).slots) := by
  refine MetFree.of_bodySF (plainFor_of_name own_pn1) hisR ?_
  intro p e s m args below meth c s₁ Bd hml0 hP hK
  obtain ⟨rfl, hZ, hh⟩ := hP
  have hx := Bd.exec
  have hby := Bd.bytes
  have hml : c.maxLocals = 9 := hml0
  have hown : s.vm.findClass "fieldstone/ByteReader$PackedInts" = some m.cls := findClass_of_methodNamed Bd.named
  have hnm := (name_of_methodNamed Bd.named Bd.method).1
  have X0 : Stand p l e ({ frames := 0, cells := 0, slots := 0, locals := 0 } : Room) s m #[(.ref p_o), (.int i_1)] below meth c s₁ [] 0 0 := Stand.of_body Bd
  have e0 : s₁.heap = h0 := by rw [← hh, Bd.state]; rfl
  have N0 := Fr.nil n0
  have pre0 : ∀ t, Steps p.tables e below (s₁.setTop (mkF m 0 #[.val (.ref p_o), .val (.int i_1), .unset, .unset, .unset, .unset, .unset, .unset, .unset] [])) t → Steps p.tables e below (s₁.setTop (entryFrame m #[(.ref p_o), (.int i_1)] 9)) t := fun t k => castTop (own_ef_own_g1 m p_o i_1) k
  obtain ⟨T3, X3, e3, st3⟩ := getF X0 hx hZ hown (host := "") (Or.inl (hw _ (List.mem_of_getElem? (i := 60) rfl))) Via.refl e0 F_b (g := (mkF m 1 #[.val (.ref p_o), .val (.int i_1), .unset, .unset, .unset, .unset, .unset, .unset, .unset] [(.ref p_o)])) rfl rfl (hb hby own_d9_1)
  obtain ⟨T9, X9, e9, st9⟩ := getF X3 hx hZ hown (host := "") (Or.inl (hw _ (List.mem_of_getElem? (i := 60) rfl))) Via.refl e3 F_b (g := (mkF m 15 #[.val (.ref p_o), .val (.int i_1), .unset, .unset, .unset, .unset, .unset, .unset, .unset] [(.ref p_o), (.long (i_1.toInt64))])) rfl rfl (hb hby own_d9_15)
  obtain ⟨T31, X31, e31, st31⟩ := getF X9 hx hZ hown (host := "") (Or.inl (hw _ (List.mem_of_getElem? (i := 60) rfl))) Via.refl e9 F_b (g := (mkF m 46 #[.val (.ref p_o), .val (.int i_1), .val (.long ((i_1.toInt64) * (b_1.toInt64))), .second, .val (.int f_1), .val (.int s_1), .val (.long (0 : Int64)), .second, .val (.int (0 : Int32))] [(.ref p_o), (.int s_1), (.int (0 : Int32))])) rfl rfl (hb hby own_d9_46)
  have pre34 : ∀ t, Steps p.tables e below (T31.setTop (mkF m 50 #[.val (.ref p_o), .val (.int i_1), .val (.long ((i_1.toInt64) * (b_1.toInt64))), .second, .val (.int f_1), .val (.int s_1), .val (.long (0 : Int64)), .second, .val (.int (0 : Int32))] [(.int (s_1 + b_1)), (.int (0 : Int32))])) t → Steps p.tables e below (s₁.setTop (entryFrame m #[(.ref p_o), (.int i_1)] 9)) t := by
    intro t kt
    refine pre0 _ ?_
    show Steps p.tables e below (s₁.setTop (mkF m 0 #[.val (.ref p_o), .val (.int i_1), .unset, .unset, .unset, .unset, .unset, .unset, .unset] [])) _
    refine XS.aloadN X0.here hx rfl (hb hby own_d9_0) rfl rfl ?_
    show Steps p.tables e below (s₁.setTop (mkF m 1 #[.val (.ref p_o), .val (.int i_1), .unset, .unset, .unset, .unset, .unset, .unset, .unset] [(.ref p_o)])) _
    refine st3 _ ?_
    show Steps p.tables e below (T3.setTop (mkF m 4 #[.val (.ref p_o), .val (.int i_1), .unset, .unset, .unset, .unset, .unset, .unset, .unset] [(.int b_1)])) _
    refine XS.ifYes X3.here hx rfl (pc0 := 4) (pc' := 12) rfl (hb hby own_d9_4) rfl ((if0 _ _).trans (feq (hbz : ¬ (b_1 = (0 : Int32)))).2) (by decide) (by decide) ?_
    show Steps p.tables e below (T3.setTop (mkF m 12 #[.val (.ref p_o), .val (.int i_1), .unset, .unset, .unset, .unset, .unset, .unset, .unset] [])) _
    refine XS.iloadN X3.here hx rfl (hb hby own_d9_12) rfl ?_
    show Steps p.tables e below (T3.setTop (mkF m 13 #[.val (.ref p_o), .val (.int i_1), .unset, .unset, .unset, .unset, .unset, .unset, .unset] [(.int i_1)])) _
    refine XS.i2l X3.here hx rfl (hb hby own_d9_13) rfl ?_
    show Steps p.tables e below (T3.setTop (mkF m 14 #[.val (.ref p_o), .val (.int i_1), .unset, .unset, .unset, .unset, .unset, .unset, .unset] [(.long (i_1.toInt64))])) _
    refine XS.aloadN X3.here hx rfl (hb hby own_d9_14) rfl rfl ?_
    show Steps p.tables e below (T3.setTop (mkF m 15 #[.val (.ref p_o), .val (.int i_1), .unset, .unset, .unset, .unset, .unset, .unset, .unset] [(.ref p_o), (.long (i_1.toInt64))])) _
    refine st9 _ ?_
    show Steps p.tables e below (T9.setTop (mkF m 18 #[.val (.ref p_o), .val (.int i_1), .unset, .unset, .unset, .unset, .unset, .unset, .unset] [(.int b_1), (.long (i_1.toInt64))])) _
    refine XS.i2l X9.here hx rfl (hb hby own_d9_18) rfl ?_
    show Steps p.tables e below (T9.setTop (mkF m 19 #[.val (.ref p_o), .val (.int i_1), .unset, .unset, .unset, .unset, .unset, .unset, .unset] [(.long (b_1.toInt64)), (.long (i_1.toInt64))])) _
    refine XS.lmul X9.here hx rfl (hb hby own_d9_19) rfl ?_
    show Steps p.tables e below (T9.setTop (mkF m 20 #[.val (.ref p_o), .val (.int i_1), .unset, .unset, .unset, .unset, .unset, .unset, .unset] [(.long ((i_1.toInt64) * (b_1.toInt64)))])) _
    refine XS.lstoreN X9.here hx rfl (hb hby own_d9_20) rfl (l' := #[.val (.ref p_o), .val (.int i_1), .val (.long ((i_1.toInt64) * (b_1.toInt64))), .second, .unset, .unset, .unset, .unset, .unset]) rfl ?_
    show Steps p.tables e below (T9.setTop (mkF m 21 #[.val (.ref p_o), .val (.int i_1), .val (.long ((i_1.toInt64) * (b_1.toInt64))), .second, .unset, .unset, .unset, .unset, .unset] [])) _
    refine XS.lloadN X9.here hx rfl (hb hby own_d9_21) rfl ?_
    show Steps p.tables e below (T9.setTop (mkF m 22 #[.val (.ref p_o), .val (.int i_1), .val (.long ((i_1.toInt64) * (b_1.toInt64))), .second, .unset, .unset, .unset, .unset, .unset] [(.long ((i_1.toInt64) * (b_1.toInt64)))])) _
    refine XS.iconst X9.here hx rfl (hb hby own_d9_22) ?_
    show Steps p.tables e below (T9.setTop (mkF m 23 #[.val (.ref p_o), .val (.int i_1), .val (.long ((i_1.toInt64) * (b_1.toInt64))), .second, .unset, .unset, .unset, .unset, .unset] [(.int (3 : Int32)), (.long ((i_1.toInt64) * (b_1.toInt64)))])) _
    refine XS.lushr X9.here hx rfl (hb hby own_d9_23) rfl ?_
    show Steps p.tables e below (T9.setTop (mkF m 24 #[.val (.ref p_o), .val (.int i_1), .val (.long ((i_1.toInt64) * (b_1.toInt64))), .second, .unset, .unset, .unset, .unset, .unset] [(.long ((((i_1.toInt64) * (b_1.toInt64)).toUInt64 >>> ((3 : Int32) &&& 0x3f).toInt64.toUInt64).toInt64))])) _
    refine XS.l2i X9.here hx rfl (hb hby own_d9_24) rfl ?_
    rw [hF]
    show Steps p.tables e below (T9.setTop (mkF m 25 #[.val (.ref p_o), .val (.int i_1), .val (.long ((i_1.toInt64) * (b_1.toInt64))), .second, .unset, .unset, .unset, .unset, .unset] [(.int f_1)])) _
    refine XS.istore X9.here hx rfl (hb hby own_d9_25) rfl (l' := #[.val (.ref p_o), .val (.int i_1), .val (.long ((i_1.toInt64) * (b_1.toInt64))), .second, .val (.int f_1), .unset, .unset, .unset, .unset]) rfl ?_
    show Steps p.tables e below (T9.setTop (mkF m 27 #[.val (.ref p_o), .val (.int i_1), .val (.long ((i_1.toInt64) * (b_1.toInt64))), .second, .val (.int f_1), .unset, .unset, .unset, .unset] [])) _
    refine XS.lloadN X9.here hx rfl (hb hby own_d9_27) rfl ?_
    show Steps p.tables e below (T9.setTop (mkF m 28 #[.val (.ref p_o), .val (.int i_1), .val (.long ((i_1.toInt64) * (b_1.toInt64))), .second, .val (.int f_1), .unset, .unset, .unset, .unset] [(.long ((i_1.toInt64) * (b_1.toInt64)))])) _
    refine X9.ldc2Long hx hown (mvT hZ (hw _ (List.mem_of_getElem? (i := 103) rfl))) (g := (mkF m 28 #[.val (.ref p_o), .val (.int i_1), .val (.long ((i_1.toInt64) * (b_1.toInt64))), .second, .val (.int f_1), .unset, .unset, .unset, .unset] [(.long ((i_1.toInt64) * (b_1.toInt64)))])) rfl (hb hby own_d9_28) _ ?_
    show Steps p.tables e below (T9.setTop (mkF m 31 #[.val (.ref p_o), .val (.int i_1), .val (.long ((i_1.toInt64) * (b_1.toInt64))), .second, .val (.int f_1), .unset, .unset, .unset, .unset] [(.long (7 : Int64)), (.long ((i_1.toInt64) * (b_1.toInt64)))])) _
    refine XS.land X9.here hx rfl (hb hby own_d9_31) rfl ?_
    show Steps p.tables e below (T9.setTop (mkF m 32 #[.val (.ref p_o), .val (.int i_1), .val (.long ((i_1.toInt64) * (b_1.toInt64))), .second, .val (.int f_1), .unset, .unset, .unset, .unset] [(.long (((i_1.toInt64) * (b_1.toInt64)) &&& (7 : Int64)))])) _
    refine XS.l2i X9.here hx rfl (hb hby own_d9_32) rfl ?_
    rw [hS]
    show Steps p.tables e below (T9.setTop (mkF m 33 #[.val (.ref p_o), .val (.int i_1), .val (.long ((i_1.toInt64) * (b_1.toInt64))), .second, .val (.int f_1), .unset, .unset, .unset, .unset] [(.int s_1)])) _
    refine XS.istore X9.here hx rfl (hb hby own_d9_33) rfl (l' := #[.val (.ref p_o), .val (.int i_1), .val (.long ((i_1.toInt64) * (b_1.toInt64))), .second, .val (.int f_1), .val (.int s_1), .unset, .unset, .unset]) rfl ?_
    show Steps p.tables e below (T9.setTop (mkF m 35 #[.val (.ref p_o), .val (.int i_1), .val (.long ((i_1.toInt64) * (b_1.toInt64))), .second, .val (.int f_1), .val (.int s_1), .unset, .unset, .unset] [])) _
    refine XS.lconst X9.here hx rfl (hb hby own_d9_35) ?_
    show Steps p.tables e below (T9.setTop (mkF m 36 #[.val (.ref p_o), .val (.int i_1), .val (.long ((i_1.toInt64) * (b_1.toInt64))), .second, .val (.int f_1), .val (.int s_1), .unset, .unset, .unset] [(.long (0 : Int64))])) _
    refine XS.lstore X9.here hx rfl (hb hby own_d9_36) rfl (l' := #[.val (.ref p_o), .val (.int i_1), .val (.long ((i_1.toInt64) * (b_1.toInt64))), .second, .val (.int f_1), .val (.int s_1), .val (.long (0 : Int64)), .second, .unset]) rfl ?_
    show Steps p.tables e below (T9.setTop (mkF m 38 #[.val (.ref p_o), .val (.int i_1), .val (.long ((i_1.toInt64) * (b_1.toInt64))), .second, .val (.int f_1), .val (.int s_1), .val (.long (0 : Int64)), .second, .unset] [])) _
    refine XS.iconst X9.here hx rfl (hb hby own_d9_38) ?_
    show Steps p.tables e below (T9.setTop (mkF m 39 #[.val (.ref p_o), .val (.int i_1), .val (.long ((i_1.toInt64) * (b_1.toInt64))), .second, .val (.int f_1), .val (.int s_1), .val (.long (0 : Int64)), .second, .unset] [(.int (0 : Int32))])) _
    refine XS.istore X9.here hx rfl (hb hby own_d9_39) rfl (l' := #[.val (.ref p_o), .val (.int i_1), .val (.long ((i_1.toInt64) * (b_1.toInt64))), .second, .val (.int f_1), .val (.int s_1), .val (.long (0 : Int64)), .second, .val (.int (0 : Int32))]) rfl ?_
    show Steps p.tables e below (T9.setTop (mkF m 41 #[.val (.ref p_o), .val (.int i_1), .val (.long ((i_1.toInt64) * (b_1.toInt64))), .second, .val (.int f_1), .val (.int s_1), .val (.long (0 : Int64)), .second, .val (.int (0 : Int32))] [])) _
    refine XS.iload X9.here hx rfl (hb hby own_d9_41) rfl ?_
    show Steps p.tables e below (T9.setTop (mkF m 43 #[.val (.ref p_o), .val (.int i_1), .val (.long ((i_1.toInt64) * (b_1.toInt64))), .second, .val (.int f_1), .val (.int s_1), .val (.long (0 : Int64)), .second, .val (.int (0 : Int32))] [(.int (0 : Int32))])) _
    refine XS.iload X9.here hx rfl (hb hby own_d9_43) rfl ?_
    show Steps p.tables e below (T9.setTop (mkF m 45 #[.val (.ref p_o), .val (.int i_1), .val (.long ((i_1.toInt64) * (b_1.toInt64))), .second, .val (.int f_1), .val (.int s_1), .val (.long (0 : Int64)), .second, .val (.int (0 : Int32))] [(.int s_1), (.int (0 : Int32))])) _
    refine XS.aloadN X9.here hx rfl (hb hby own_d9_45) rfl rfl ?_
    show Steps p.tables e below (T9.setTop (mkF m 46 #[.val (.ref p_o), .val (.int i_1), .val (.long ((i_1.toInt64) * (b_1.toInt64))), .second, .val (.int f_1), .val (.int s_1), .val (.long (0 : Int64)), .second, .val (.int (0 : Int32))] [(.ref p_o), (.int s_1), (.int (0 : Int32))])) _
    refine st31 _ ?_
    show Steps p.tables e below (T31.setTop (mkF m 49 #[.val (.ref p_o), .val (.int i_1), .val (.long ((i_1.toInt64) * (b_1.toInt64))), .second, .val (.int f_1), .val (.int s_1), .val (.long (0 : Int64)), .second, .val (.int (0 : Int32))] [(.int b_1), (.int s_1), (.int (0 : Int32))])) _
    refine XS.iadd X31.here hx rfl (hb hby own_d9_49) rfl ?_
    exact kt
  by_cases hc50_35 : (0 : Int32) < (s_1 + b_1)
  · obtain ⟨T39, X39, e39, st39⟩ := getF X31 hx hZ hown (host := "") (Or.inl (hw _ (List.mem_of_getElem? (i := 38) rfl))) Via.refl e31 F_k (g := (mkF m 56 #[.val (.ref p_o), .val (.int i_1), .val (.long ((i_1.toInt64) * (b_1.toInt64))), .second, .val (.int f_1), .val (.int s_1), .val (.long (0 : Int64)), .second, .val (.int (0 : Int32))] [(.ref p_o), (.long (0 : Int64))])) rfl rfl (hb hby own_d9_56)
    obtain ⟨cl43, Ar43, q43, S43, M43, H43, G43⟩ := id V_r
    have hin43 : ¬ (f_1 < 0 ∨ cl43.slots.size ≤ (f_1).toNatClampNeg) := inb_of S43 (hin0_ hc50_35)
    have hat43 : cl43.slots[(f_1).toNatClampNeg]? = some (.int (bt f_1)) := H43.at hin43 (hbt _ (hin0_ hc50_35))
    obtain ⟨T57, X57, e57, st57⟩ := getF X39 hx hZ hown (host := "") (Or.inl (hw _ (List.mem_of_getElem? (i := 60) rfl))) Via.refl e39 F_b (g := (mkF m 46 #[.val (.ref p_o), .val (.int i_1), .val (.long ((i_1.toInt64) * (b_1.toInt64))), .second, .val (.int (f_1 + (1 : Int32))), .val (.int s_1), .val (.long ((0 : Int64) ||| ((((bt f_1) &&& (255 : Int32)).toInt64) <<< ((0 : Int32) &&& 0x3f).toInt64))), .second, .val (.int (8 : Int32))] [(.ref p_o), (.int s_1), (.int (8 : Int32))])) rfl rfl (hb hby own_d9_46)
    have pre60 : ∀ t, Steps p.tables e below (T57.setTop (mkF m 50 #[.val (.ref p_o), .val (.int i_1), .val (.long ((i_1.toInt64) * (b_1.toInt64))), .second, .val (.int (f_1 + (1 : Int32))), .val (.int s_1), .val (.long ((0 : Int64) ||| ((((bt f_1) &&& (255 : Int32)).toInt64) <<< ((0 : Int32) &&& 0x3f).toInt64))), .second, .val (.int (8 : Int32))] [(.int (s_1 + b_1)), (.int (8 : Int32))])) t → Steps p.tables e below (s₁.setTop (entryFrame m #[(.ref p_o), (.int i_1)] 9)) t := by
      intro t kt
      refine pre34 _ ?_
      show Steps p.tables e below (T31.setTop (mkF m 50 #[.val (.ref p_o), .val (.int i_1), .val (.long ((i_1.toInt64) * (b_1.toInt64))), .second, .val (.int f_1), .val (.int s_1), .val (.long (0 : Int64)), .second, .val (.int (0 : Int32))] [(.int (s_1 + b_1)), (.int (0 : Int32))])) _
      refine XS.icmpNo X31.here hx rfl (hb hby own_d9_50) rfl (tlt hc50_35).2.1 ?_
      show Steps p.tables e below (T31.setTop (mkF m 53 #[.val (.ref p_o), .val (.int i_1), .val (.long ((i_1.toInt64) * (b_1.toInt64))), .second, .val (.int f_1), .val (.int s_1), .val (.long (0 : Int64)), .second, .val (.int (0 : Int32))] [])) _
      refine XS.lload X31.here hx rfl (hb hby own_d9_53) rfl ?_
      show Steps p.tables e below (T31.setTop (mkF m 55 #[.val (.ref p_o), .val (.int i_1), .val (.long ((i_1.toInt64) * (b_1.toInt64))), .second, .val (.int f_1), .val (.int s_1), .val (.long (0 : Int64)), .second, .val (.int (0 : Int32))] [(.long (0 : Int64))])) _
      refine XS.aloadN X31.here hx rfl (hb hby own_d9_55) rfl rfl ?_
      show Steps p.tables e below (T31.setTop (mkF m 56 #[.val (.ref p_o), .val (.int i_1), .val (.long ((i_1.toInt64) * (b_1.toInt64))), .second, .val (.int f_1), .val (.int s_1), .val (.long (0 : Int64)), .second, .val (.int (0 : Int32))] [(.ref p_o), (.long (0 : Int64))])) _
      refine st39 _ ?_
      show Steps p.tables e below (T39.setTop (mkF m 59 #[.val (.ref p_o), .val (.int i_1), .val (.long ((i_1.toInt64) * (b_1.toInt64))), .second, .val (.int f_1), .val (.int s_1), .val (.long (0 : Int64)), .second, .val (.int (0 : Int32))] [(.ref r_o), (.long (0 : Int64))])) _
      refine XS.iload X39.here hx rfl (hb hby own_d9_59) rfl ?_
      show Steps p.tables e below (T39.setTop (mkF m 61 #[.val (.ref p_o), .val (.int i_1), .val (.long ((i_1.toInt64) * (b_1.toInt64))), .second, .val (.int f_1), .val (.int s_1), .val (.long (0 : Int64)), .second, .val (.int (0 : Int32))] [(.int f_1), (.ref r_o), (.long (0 : Int64))])) _
      refine XS.iinc X39.here hx rfl (hb hby own_d9_61) rfl (l' := #[.val (.ref p_o), .val (.int i_1), .val (.long ((i_1.toInt64) * (b_1.toInt64))), .second, .val (.int (f_1 + (1 : Int32))), .val (.int s_1), .val (.long (0 : Int64)), .second, .val (.int (0 : Int32))]) rfl ?_
      show Steps p.tables e below (T39.setTop (mkF m 64 #[.val (.ref p_o), .val (.int i_1), .val (.long ((i_1.toInt64) * (b_1.toInt64))), .second, .val (.int (f_1 + (1 : Int32))), .val (.int s_1), .val (.long (0 : Int64)), .second, .val (.int (0 : Int32))] [(.int f_1), (.ref r_o), (.long (0 : Int64))])) _
      refine X39.baloadBytes hx (j := f_1) (v := (.int (bt f_1))) (by rw [e39]; exact Ar43.1) (State.isArrayOf_alike hZ.alike Ar43.2.1) Ar43.2.2 hin43 hat43 (g := (mkF m 64 #[.val (.ref p_o), .val (.int i_1), .val (.long ((i_1.toInt64) * (b_1.toInt64))), .second, .val (.int (f_1 + (1 : Int32))), .val (.int s_1), .val (.long (0 : Int64)), .second, .val (.int (0 : Int32))] [(.int f_1), (.ref r_o), (.long (0 : Int64))])) rfl rfl (hb hby own_d9_64) _ ?_
      show Steps p.tables e below (T39.setTop (mkF m 65 #[.val (.ref p_o), .val (.int i_1), .val (.long ((i_1.toInt64) * (b_1.toInt64))), .second, .val (.int (f_1 + (1 : Int32))), .val (.int s_1), .val (.long (0 : Int64)), .second, .val (.int (0 : Int32))] [(.int (bt f_1)), (.long (0 : Int64))])) _
      refine XS.sipush X39.here hx rfl (hb hby own_d9_65) ?_
      show Steps p.tables e below (T39.setTop (mkF m 68 #[.val (.ref p_o), .val (.int i_1), .val (.long ((i_1.toInt64) * (b_1.toInt64))), .second, .val (.int (f_1 + (1 : Int32))), .val (.int s_1), .val (.long (0 : Int64)), .second, .val (.int (0 : Int32))] [(.int (255 : Int32)), (.int (bt f_1)), (.long (0 : Int64))])) _
      refine XS.iand X39.here hx rfl (hb hby own_d9_68) rfl ?_
      show Steps p.tables e below (T39.setTop (mkF m 69 #[.val (.ref p_o), .val (.int i_1), .val (.long ((i_1.toInt64) * (b_1.toInt64))), .second, .val (.int (f_1 + (1 : Int32))), .val (.int s_1), .val (.long (0 : Int64)), .second, .val (.int (0 : Int32))] [(.int ((bt f_1) &&& (255 : Int32))), (.long (0 : Int64))])) _
      refine XS.i2l X39.here hx rfl (hb hby own_d9_69) rfl ?_
      show Steps p.tables e below (T39.setTop (mkF m 70 #[.val (.ref p_o), .val (.int i_1), .val (.long ((i_1.toInt64) * (b_1.toInt64))), .second, .val (.int (f_1 + (1 : Int32))), .val (.int s_1), .val (.long (0 : Int64)), .second, .val (.int (0 : Int32))] [(.long (((bt f_1) &&& (255 : Int32)).toInt64)), (.long (0 : Int64))])) _
      refine XS.iload X39.here hx rfl (hb hby own_d9_70) rfl ?_
      show Steps p.tables e below (T39.setTop (mkF m 72 #[.val (.ref p_o), .val (.int i_1), .val (.long ((i_1.toInt64) * (b_1.toInt64))), .second, .val (.int (f_1 + (1 : Int32))), .val (.int s_1), .val (.long (0 : Int64)), .second, .val (.int (0 : Int32))] [(.int (0 : Int32)), (.long (((bt f_1) &&& (255 : Int32)).toInt64)), (.long (0 : Int64))])) _
      refine XS.lshl X39.here hx rfl (hb hby own_d9_72) rfl ?_
      show Steps p.tables e below (T39.setTop (mkF m 73 #[.val (.ref p_o), .val (.int i_1), .val (.long ((i_1.toInt64) * (b_1.toInt64))), .second, .val (.int (f_1 + (1 : Int32))), .val (.int s_1), .val (.long (0 : Int64)), .second, .val (.int (0 : Int32))] [(.long ((((bt f_1) &&& (255 : Int32)).toInt64) <<< ((0 : Int32) &&& 0x3f).toInt64)), (.long (0 : Int64))])) _
      refine XS.lor X39.here hx rfl (hb hby own_d9_73) rfl ?_
      show Steps p.tables e below (T39.setTop (mkF m 74 #[.val (.ref p_o), .val (.int i_1), .val (.long ((i_1.toInt64) * (b_1.toInt64))), .second, .val (.int (f_1 + (1 : Int32))), .val (.int s_1), .val (.long (0 : Int64)), .second, .val (.int (0 : Int32))] [(.long ((0 : Int64) ||| ((((bt f_1) &&& (255 : Int32)).toInt64) <<< ((0 : Int32) &&& 0x3f).toInt64)))])) _
      refine XS.lstore X39.here hx rfl (hb hby own_d9_74) rfl (l' := #[.val (.ref p_o), .val (.int i_1), .val (.long ((i_1.toInt64) * (b_1.toInt64))), .second, .val (.int (f_1 + (1 : Int32))), .val (.int s_1), .val (.long ((0 : Int64) ||| ((((bt f_1) &&& (255 : Int32)).toInt64) <<< ((0 : Int32) &&& 0x3f).toInt64))), .second, .val (.int (0 : Int32))]) rfl ?_
      show Steps p.tables e below (T39.setTop (mkF m 76 #[.val (.ref p_o), .val (.int i_1), .val (.long ((i_1.toInt64) * (b_1.toInt64))), .second, .val (.int (f_1 + (1 : Int32))), .val (.int s_1), .val (.long ((0 : Int64) ||| ((((bt f_1) &&& (255 : Int32)).toInt64) <<< ((0 : Int32) &&& 0x3f).toInt64))), .second, .val (.int (0 : Int32))] [])) _
      refine XS.iinc X39.here hx rfl (hb hby own_d9_76) rfl (l' := #[.val (.ref p_o), .val (.int i_1), .val (.long ((i_1.toInt64) * (b_1.toInt64))), .second, .val (.int (f_1 + (1 : Int32))), .val (.int s_1), .val (.long ((0 : Int64) ||| ((((bt f_1) &&& (255 : Int32)).toInt64) <<< ((0 : Int32) &&& 0x3f).toInt64))), .second, .val (.int (8 : Int32))]) rfl ?_
      show Steps p.tables e below (T39.setTop (mkF m 79 #[.val (.ref p_o), .val (.int i_1), .val (.long ((i_1.toInt64) * (b_1.toInt64))), .second, .val (.int (f_1 + (1 : Int32))), .val (.int s_1), .val (.long ((0 : Int64) ||| ((((bt f_1) &&& (255 : Int32)).toInt64) <<< ((0 : Int32) &&& 0x3f).toInt64))), .second, .val (.int (8 : Int32))] [])) _
      refine XS.goto X39.here hx rfl (pc0 := 79) (pc' := 41) rfl (hb hby own_d9_79) (by decide) (by decide) ?_
      show Steps p.tables e below (T39.setTop (mkF m 41 #[.val (.ref p_o), .val (.int i_1), .val (.long ((i_1.toInt64) * (b_1.toInt64))), .second, .val (.int (f_1 + (1 : Int32))), .val (.int s_1), .val (.long ((0 : Int64) ||| ((((bt f_1) &&& (255 : Int32)).toInt64) <<< ((0 : Int32) &&& 0x3f).toInt64))), .second, .val (.int (8 : Int32))] [])) _
      refine XS.iload X39.here hx rfl (hb hby own_d9_41) rfl ?_
      show Steps p.tables e below (T39.setTop (mkF m 43 #[.val (.ref p_o), .val (.int i_1), .val (.long ((i_1.toInt64) * (b_1.toInt64))), .second, .val (.int (f_1 + (1 : Int32))), .val (.int s_1), .val (.long ((0 : Int64) ||| ((((bt f_1) &&& (255 : Int32)).toInt64) <<< ((0 : Int32) &&& 0x3f).toInt64))), .second, .val (.int (8 : Int32))] [(.int (8 : Int32))])) _
      refine XS.iload X39.here hx rfl (hb hby own_d9_43) rfl ?_
      show Steps p.tables e below (T39.setTop (mkF m 45 #[.val (.ref p_o), .val (.int i_1), .val (.long ((i_1.toInt64) * (b_1.toInt64))), .second, .val (.int (f_1 + (1 : Int32))), .val (.int s_1), .val (.long ((0 : Int64) ||| ((((bt f_1) &&& (255 : Int32)).toInt64) <<< ((0 : Int32) &&& 0x3f).toInt64))), .second, .val (.int (8 : Int32))] [(.int s_1), (.int (8 : Int32))])) _
      refine XS.aloadN X39.here hx rfl (hb hby own_d9_45) rfl rfl ?_
      show Steps p.tables e below (T39.setTop (mkF m 46 #[.val (.ref p_o), .val (.int i_1), .val (.long ((i_1.toInt64) * (b_1.toInt64))), .second, .val (.int (f_1 + (1 : Int32))), .val (.int s_1), .val (.long ((0 : Int64) ||| ((((bt f_1) &&& (255 : Int32)).toInt64) <<< ((0 : Int32) &&& 0x3f).toInt64))), .second, .val (.int (8 : Int32))] [(.ref p_o), (.int s_1), (.int (8 : Int32))])) _
      refine st57 _ ?_
      show Steps p.tables e below (T57.setTop (mkF m 49 #[.val (.ref p_o), .val (.int i_1), .val (.long ((i_1.toInt64) * (b_1.toInt64))), .second, .val (.int (f_1 + (1 : Int32))), .val (.int s_1), .val (.long ((0 : Int64) ||| ((((bt f_1) &&& (255 : Int32)).toInt64) <<< ((0 : Int32) &&& 0x3f).toInt64))), .second, .val (.int (8 : Int32))] [(.int b_1), (.int s_1), (.int (8 : Int32))])) _
      refine XS.iadd X57.here hx rfl (hb hby own_d9_49) rfl ?_
      exact kt
    by_cases hc50_61 : (8 : Int32) < (s_1 + b_1)
    · obtain ⟨T65, X65, e65, st65⟩ := getF X57 hx hZ hown (host := "") (Or.inl (hw _ (List.mem_of_getElem? (i := 38) rfl))) Via.refl e57 F_k (g := (mkF m 56 #[.val (.ref p_o), .val (.int i_1), .val (.long ((i_1.toInt64) * (b_1.toInt64))), .second, .val (.int (f_1 + (1 : Int32))), .val (.int s_1), .val (.long ((0 : Int64) ||| ((((bt f_1) &&& (255 : Int32)).toInt64) <<< ((0 : Int32) &&& 0x3f).toInt64))), .second, .val (.int (8 : Int32))] [(.ref p_o), (.long ((0 : Int64) ||| ((((bt f_1) &&& (255 : Int32)).toInt64) <<< ((0 : Int32) &&& 0x3f).toInt64)))])) rfl rfl (hb hby own_d9_56)
      obtain ⟨cl69, Ar69, q69, S69, M69, H69, G69⟩ := id V_r
      have hin69 : ¬ ((f_1 + (1 : Int32)) < 0 ∨ cl69.slots.size ≤ ((f_1 + (1 : Int32))).toNatClampNeg) := inb_of S69 (hin1_ hc50_61)
      have hat69 : cl69.slots[((f_1 + (1 : Int32))).toNatClampNeg]? = some (.int (bt (f_1 + (1 : Int32)))) := H69.at hin69 (hbt _ (hin1_ hc50_61))
      obtain ⟨T83, X83, e83, st83⟩ := getF X65 hx hZ hown (host := "") (Or.inl (hw _ (List.mem_of_getElem? (i := 60) rfl))) Via.refl e65 F_b (g := (mkF m 46 #[.val (.ref p_o), .val (.int i_1), .val (.long ((i_1.toInt64) * (b_1.toInt64))), .second, .val (.int ((f_1 + (1 : Int32)) + (1 : Int32))), .val (.int s_1), .val (.long (((0 : Int64) ||| ((((bt f_1) &&& (255 : Int32)).toInt64) <<< ((0 : Int32) &&& 0x3f).toInt64)) ||| ((((bt (f_1 + (1 : Int32))) &&& (255 : Int32)).toInt64) <<< ((8 : Int32) &&& 0x3f).toInt64))), .second, .val (.int (16 : Int32))] [(.ref p_o), (.int s_1), (.int (16 : Int32))])) rfl rfl (hb hby own_d9_46)
      have pre86 : ∀ t, Steps p.tables e below (T83.setTop (mkF m 50 #[.val (.ref p_o), .val (.int i_1), .val (.long ((i_1.toInt64) * (b_1.toInt64))), .second, .val (.int ((f_1 + (1 : Int32)) + (1 : Int32))), .val (.int s_1), .val (.long (((0 : Int64) ||| ((((bt f_1) &&& (255 : Int32)).toInt64) <<< ((0 : Int32) &&& 0x3f).toInt64)) ||| ((((bt (f_1 + (1 : Int32))) &&& (255 : Int32)).toInt64) <<< ((8 : Int32) &&& 0x3f).toInt64))), .second, .val (.int (16 : Int32))] [(.int (s_1 + b_1)), (.int (16 : Int32))])) t → Steps p.tables e below (s₁.setTop (entryFrame m #[(.ref p_o), (.int i_1)] 9)) t := by
        intro t kt
        refine pre60 _ ?_
        show Steps p.tables e below (T57.setTop (mkF m 50 #[.val (.ref p_o), .val (.int i_1), .val (.long ((i_1.toInt64) * (b_1.toInt64))), .second, .val (.int (f_1 + (1 : Int32))), .val (.int s_1), .val (.long ((0 : Int64) ||| ((((bt f_1) &&& (255 : Int32)).toInt64) <<< ((0 : Int32) &&& 0x3f).toInt64))), .second, .val (.int (8 : Int32))] [(.int (s_1 + b_1)), (.int (8 : Int32))])) _
        refine XS.icmpNo X57.here hx rfl (hb hby own_d9_50) rfl (tlt hc50_61).2.1 ?_
        show Steps p.tables e below (T57.setTop (mkF m 53 #[.val (.ref p_o), .val (.int i_1), .val (.long ((i_1.toInt64) * (b_1.toInt64))), .second, .val (.int (f_1 + (1 : Int32))), .val (.int s_1), .val (.long ((0 : Int64) ||| ((((bt f_1) &&& (255 : Int32)).toInt64) <<< ((0 : Int32) &&& 0x3f).toInt64))), .second, .val (.int (8 : Int32))] [])) _
        refine XS.lload X57.here hx rfl (hb hby own_d9_53) rfl ?_
        show Steps p.tables e below (T57.setTop (mkF m 55 #[.val (.ref p_o), .val (.int i_1), .val (.long ((i_1.toInt64) * (b_1.toInt64))), .second, .val (.int (f_1 + (1 : Int32))), .val (.int s_1), .val (.long ((0 : Int64) ||| ((((bt f_1) &&& (255 : Int32)).toInt64) <<< ((0 : Int32) &&& 0x3f).toInt64))), .second, .val (.int (8 : Int32))] [(.long ((0 : Int64) ||| ((((bt f_1) &&& (255 : Int32)).toInt64) <<< ((0 : Int32) &&& 0x3f).toInt64)))])) _
        refine XS.aloadN X57.here hx rfl (hb hby own_d9_55) rfl rfl ?_
        show Steps p.tables e below (T57.setTop (mkF m 56 #[.val (.ref p_o), .val (.int i_1), .val (.long ((i_1.toInt64) * (b_1.toInt64))), .second, .val (.int (f_1 + (1 : Int32))), .val (.int s_1), .val (.long ((0 : Int64) ||| ((((bt f_1) &&& (255 : Int32)).toInt64) <<< ((0 : Int32) &&& 0x3f).toInt64))), .second, .val (.int (8 : Int32))] [(.ref p_o), (.long ((0 : Int64) ||| ((((bt f_1) &&& (255 : Int32)).toInt64) <<< ((0 : Int32) &&& 0x3f).toInt64)))])) _
        refine st65 _ ?_
        show Steps p.tables e below (T65.setTop (mkF m 59 #[.val (.ref p_o), .val (.int i_1), .val (.long ((i_1.toInt64) * (b_1.toInt64))), .second, .val (.int (f_1 + (1 : Int32))), .val (.int s_1), .val (.long ((0 : Int64) ||| ((((bt f_1) &&& (255 : Int32)).toInt64) <<< ((0 : Int32) &&& 0x3f).toInt64))), .second, .val (.int (8 : Int32))] [(.ref r_o), (.long ((0 : Int64) ||| ((((bt f_1) &&& (255 : Int32)).toInt64) <<< ((0 : Int32) &&& 0x3f).toInt64)))])) _
        refine XS.iload X65.here hx rfl (hb hby own_d9_59) rfl ?_
        show Steps p.tables e below (T65.setTop (mkF m 61 #[.val (.ref p_o), .val (.int i_1), .val (.long ((i_1.toInt64) * (b_1.toInt64))), .second, .val (.int (f_1 + (1 : Int32))), .val (.int s_1), .val (.long ((0 : Int64) ||| ((((bt f_1) &&& (255 : Int32)).toInt64) <<< ((0 : Int32) &&& 0x3f).toInt64))), .second, .val (.int (8 : Int32))] [(.int (f_1 + (1 : Int32))), (.ref r_o), (.long ((0 : Int64) ||| ((((bt f_1) &&& (255 : Int32)).toInt64) <<< ((0 : Int32) &&& 0x3f).toInt64)))])) _
        refine XS.iinc X65.here hx rfl (hb hby own_d9_61) rfl (l' := #[.val (.ref p_o), .val (.int i_1), .val (.long ((i_1.toInt64) * (b_1.toInt64))), .second, .val (.int ((f_1 + (1 : Int32)) + (1 : Int32))), .val (.int s_1), .val (.long ((0 : Int64) ||| ((((bt f_1) &&& (255 : Int32)).toInt64) <<< ((0 : Int32) &&& 0x3f).toInt64))), .second, .val (.int (8 : Int32))]) rfl ?_
        show Steps p.tables e below (T65.setTop (mkF m 64 #[.val (.ref p_o), .val (.int i_1), .val (.long ((i_1.toInt64) * (b_1.toInt64))), .second, .val (.int ((f_1 + (1 : Int32)) + (1 : Int32))), .val (.int s_1), .val (.long ((0 : Int64) ||| ((((bt f_1) &&& (255 : Int32)).toInt64) <<< ((0 : Int32) &&& 0x3f).toInt64))), .second, .val (.int (8 : Int32))] [(.int (f_1 + (1 : Int32))), (.ref r_o), (.long ((0 : Int64) ||| ((((bt f_1) &&& (255 : Int32)).toInt64) <<< ((0 : Int32) &&& 0x3f).toInt64)))])) _
        refine X65.baloadBytes hx (j := (f_1 + (1 : Int32))) (v := (.int (bt (f_1 + (1 : Int32))))) (by rw [e65]; exact Ar69.1) (State.isArrayOf_alike hZ.alike Ar69.2.1) Ar69.2.2 hin69 hat69 (g := (mkF m 64 #[.val (.ref p_o), .val (.int i_1), .val (.long ((i_1.toInt64) * (b_1.toInt64))), .second, .val (.int ((f_1 + (1 : Int32)) + (1 : Int32))), .val (.int s_1), .val (.long ((0 : Int64) ||| ((((bt f_1) &&& (255 : Int32)).toInt64) <<< ((0 : Int32) &&& 0x3f).toInt64))), .second, .val (.int (8 : Int32))] [(.int (f_1 + (1 : Int32))), (.ref r_o), (.long ((0 : Int64) ||| ((((bt f_1) &&& (255 : Int32)).toInt64) <<< ((0 : Int32) &&& 0x3f).toInt64)))])) rfl rfl (hb hby own_d9_64) _ ?_
        show Steps p.tables e below (T65.setTop (mkF m 65 #[.val (.ref p_o), .val (.int i_1), .val (.long ((i_1.toInt64) * (b_1.toInt64))), .second, .val (.int ((f_1 + (1 : Int32)) + (1 : Int32))), .val (.int s_1), .val (.long ((0 : Int64) ||| ((((bt f_1) &&& (255 : Int32)).toInt64) <<< ((0 : Int32) &&& 0x3f).toInt64))), .second, .val (.int (8 : Int32))] [(.int (bt (f_1 + (1 : Int32)))), (.long ((0 : Int64) ||| ((((bt f_1) &&& (255 : Int32)).toInt64) <<< ((0 : Int32) &&& 0x3f).toInt64)))])) _
        refine XS.sipush X65.here hx rfl (hb hby own_d9_65) ?_
        show Steps p.tables e below (T65.setTop (mkF m 68 #[.val (.ref p_o), .val (.int i_1), .val (.long ((i_1.toInt64) * (b_1.toInt64))), .second, .val (.int ((f_1 + (1 : Int32)) + (1 : Int32))), .val (.int s_1), .val (.long ((0 : Int64) ||| ((((bt f_1) &&& (255 : Int32)).toInt64) <<< ((0 : Int32) &&& 0x3f).toInt64))), .second, .val (.int (8 : Int32))] [(.int (255 : Int32)), (.int (bt (f_1 + (1 : Int32)))), (.long ((0 : Int64) ||| ((((bt f_1) &&& (255 : Int32)).toInt64) <<< ((0 : Int32) &&& 0x3f).toInt64)))])) _
        refine XS.iand X65.here hx rfl (hb hby own_d9_68) rfl ?_
        show Steps p.tables e below (T65.setTop (mkF m 69 #[.val (.ref p_o), .val (.int i_1), .val (.long ((i_1.toInt64) * (b_1.toInt64))), .second, .val (.int ((f_1 + (1 : Int32)) + (1 : Int32))), .val (.int s_1), .val (.long ((0 : Int64) ||| ((((bt f_1) &&& (255 : Int32)).toInt64) <<< ((0 : Int32) &&& 0x3f).toInt64))), .second, .val (.int (8 : Int32))] [(.int ((bt (f_1 + (1 : Int32))) &&& (255 : Int32))), (.long ((0 : Int64) ||| ((((bt f_1) &&& (255 : Int32)).toInt64) <<< ((0 : Int32) &&& 0x3f).toInt64)))])) _
        refine XS.i2l X65.here hx rfl (hb hby own_d9_69) rfl ?_
        show Steps p.tables e below (T65.setTop (mkF m 70 #[.val (.ref p_o), .val (.int i_1), .val (.long ((i_1.toInt64) * (b_1.toInt64))), .second, .val (.int ((f_1 + (1 : Int32)) + (1 : Int32))), .val (.int s_1), .val (.long ((0 : Int64) ||| ((((bt f_1) &&& (255 : Int32)).toInt64) <<< ((0 : Int32) &&& 0x3f).toInt64))), .second, .val (.int (8 : Int32))] [(.long (((bt (f_1 + (1 : Int32))) &&& (255 : Int32)).toInt64)), (.long ((0 : Int64) ||| ((((bt f_1) &&& (255 : Int32)).toInt64) <<< ((0 : Int32) &&& 0x3f).toInt64)))])) _
        refine XS.iload X65.here hx rfl (hb hby own_d9_70) rfl ?_
        show Steps p.tables e below (T65.setTop (mkF m 72 #[.val (.ref p_o), .val (.int i_1), .val (.long ((i_1.toInt64) * (b_1.toInt64))), .second, .val (.int ((f_1 + (1 : Int32)) + (1 : Int32))), .val (.int s_1), .val (.long ((0 : Int64) ||| ((((bt f_1) &&& (255 : Int32)).toInt64) <<< ((0 : Int32) &&& 0x3f).toInt64))), .second, .val (.int (8 : Int32))] [(.int (8 : Int32)), (.long (((bt (f_1 + (1 : Int32))) &&& (255 : Int32)).toInt64)), (.long ((0 : Int64) ||| ((((bt f_1) &&& (255 : Int32)).toInt64) <<< ((0 : Int32) &&& 0x3f).toInt64)))])) _
        refine XS.lshl X65.here hx rfl (hb hby own_d9_72) rfl ?_
        show Steps p.tables e below (T65.setTop (mkF m 73 #[.val (.ref p_o), .val (.int i_1), .val (.long ((i_1.toInt64) * (b_1.toInt64))), .second, .val (.int ((f_1 + (1 : Int32)) + (1 : Int32))), .val (.int s_1), .val (.long ((0 : Int64) ||| ((((bt f_1) &&& (255 : Int32)).toInt64) <<< ((0 : Int32) &&& 0x3f).toInt64))), .second, .val (.int (8 : Int32))] [(.long ((((bt (f_1 + (1 : Int32))) &&& (255 : Int32)).toInt64) <<< ((8 : Int32) &&& 0x3f).toInt64)), (.long ((0 : Int64) ||| ((((bt f_1) &&& (255 : Int32)).toInt64) <<< ((0 : Int32) &&& 0x3f).toInt64)))])) _
        refine XS.lor X65.here hx rfl (hb hby own_d9_73) rfl ?_
        show Steps p.tables e below (T65.setTop (mkF m 74 #[.val (.ref p_o), .val (.int i_1), .val (.long ((i_1.toInt64) * (b_1.toInt64))), .second, .val (.int ((f_1 + (1 : Int32)) + (1 : Int32))), .val (.int s_1), .val (.long ((0 : Int64) ||| ((((bt f_1) &&& (255 : Int32)).toInt64) <<< ((0 : Int32) &&& 0x3f).toInt64))), .second, .val (.int (8 : Int32))] [(.long (((0 : Int64) ||| ((((bt f_1) &&& (255 : Int32)).toInt64) <<< ((0 : Int32) &&& 0x3f).toInt64)) ||| ((((bt (f_1 + (1 : Int32))) &&& (255 : Int32)).toInt64) <<< ((8 : Int32) &&& 0x3f).toInt64)))])) _
        refine XS.lstore X65.here hx rfl (hb hby own_d9_74) rfl (l' := #[.val (.ref p_o), .val (.int i_1), .val (.long ((i_1.toInt64) * (b_1.toInt64))), .second, .val (.int ((f_1 + (1 : Int32)) + (1 : Int32))), .val (.int s_1), .val (.long (((0 : Int64) ||| ((((bt f_1) &&& (255 : Int32)).toInt64) <<< ((0 : Int32) &&& 0x3f).toInt64)) ||| ((((bt (f_1 + (1 : Int32))) &&& (255 : Int32)).toInt64) <<< ((8 : Int32) &&& 0x3f).toInt64))), .second, .val (.int (8 : Int32))]) rfl ?_
        show Steps p.tables e below (T65.setTop (mkF m 76 #[.val (.ref p_o), .val (.int i_1), .val (.long ((i_1.toInt64) * (b_1.toInt64))), .second, .val (.int ((f_1 + (1 : Int32)) + (1 : Int32))), .val (.int s_1), .val (.long (((0 : Int64) ||| ((((bt f_1) &&& (255 : Int32)).toInt64) <<< ((0 : Int32) &&& 0x3f).toInt64)) ||| ((((bt (f_1 + (1 : Int32))) &&& (255 : Int32)).toInt64) <<< ((8 : Int32) &&& 0x3f).toInt64))), .second, .val (.int (8 : Int32))] [])) _
        refine XS.iinc X65.here hx rfl (hb hby own_d9_76) rfl (l' := #[.val (.ref p_o), .val (.int i_1), .val (.long ((i_1.toInt64) * (b_1.toInt64))), .second, .val (.int ((f_1 + (1 : Int32)) + (1 : Int32))), .val (.int s_1), .val (.long (((0 : Int64) ||| ((((bt f_1) &&& (255 : Int32)).toInt64) <<< ((0 : Int32) &&& 0x3f).toInt64)) ||| ((((bt (f_1 + (1 : Int32))) &&& (255 : Int32)).toInt64) <<< ((8 : Int32) &&& 0x3f).toInt64))), .second, .val (.int (16 : Int32))]) rfl ?_
        show Steps p.tables e below (T65.setTop (mkF m 79 #[.val (.ref p_o), .val (.int i_1), .val (.long ((i_1.toInt64) * (b_1.toInt64))), .second, .val (.int ((f_1 + (1 : Int32)) + (1 : Int32))), .val (.int s_1), .val (.long (((0 : Int64) ||| ((((bt f_1) &&& (255 : Int32)).toInt64) <<< ((0 : Int32) &&& 0x3f).toInt64)) ||| ((((bt (f_1 + (1 : Int32))) &&& (255 : Int32)).toInt64) <<< ((8 : Int32) &&& 0x3f).toInt64))), .second, .val (.int (16 : Int32))] [])) _
        refine XS.goto X65.here hx rfl (pc0 := 79) (pc' := 41) rfl (hb hby own_d9_79) (by decide) (by decide) ?_
        show Steps p.tables e below (T65.setTop (mkF m 41 #[.val (.ref p_o), .val (.int i_1), .val (.long ((i_1.toInt64) * (b_1.toInt64))), .second, .val (.int ((f_1 + (1 : Int32)) + (1 : Int32))), .val (.int s_1), .val (.long (((0 : Int64) ||| ((((bt f_1) &&& (255 : Int32)).toInt64) <<< ((0 : Int32) &&& 0x3f).toInt64)) ||| ((((bt (f_1 + (1 : Int32))) &&& (255 : Int32)).toInt64) <<< ((8 : Int32) &&& 0x3f).toInt64))), .second, .val (.int (16 : Int32))] [])) _
        refine XS.iload X65.here hx rfl (hb hby own_d9_41) rfl ?_
        show Steps p.tables e below (T65.setTop (mkF m 43 #[.val (.ref p_o), .val (.int i_1), .val (.long ((i_1.toInt64) * (b_1.toInt64))), .second, .val (.int ((f_1 + (1 : Int32)) + (1 : Int32))), .val (.int s_1), .val (.long (((0 : Int64) ||| ((((bt f_1) &&& (255 : Int32)).toInt64) <<< ((0 : Int32) &&& 0x3f).toInt64)) ||| ((((bt (f_1 + (1 : Int32))) &&& (255 : Int32)).toInt64) <<< ((8 : Int32) &&& 0x3f).toInt64))), .second, .val (.int (16 : Int32))] [(.int (16 : Int32))])) _
        refine XS.iload X65.here hx rfl (hb hby own_d9_43) rfl ?_
        show Steps p.tables e below (T65.setTop (mkF m 45 #[.val (.ref p_o), .val (.int i_1), .val (.long ((i_1.toInt64) * (b_1.toInt64))), .second, .val (.int ((f_1 + (1 : Int32)) + (1 : Int32))), .val (.int s_1), .val (.long (((0 : Int64) ||| ((((bt f_1) &&& (255 : Int32)).toInt64) <<< ((0 : Int32) &&& 0x3f).toInt64)) ||| ((((bt (f_1 + (1 : Int32))) &&& (255 : Int32)).toInt64) <<< ((8 : Int32) &&& 0x3f).toInt64))), .second, .val (.int (16 : Int32))] [(.int s_1), (.int (16 : Int32))])) _
        refine XS.aloadN X65.here hx rfl (hb hby own_d9_45) rfl rfl ?_
        show Steps p.tables e below (T65.setTop (mkF m 46 #[.val (.ref p_o), .val (.int i_1), .val (.long ((i_1.toInt64) * (b_1.toInt64))), .second, .val (.int ((f_1 + (1 : Int32)) + (1 : Int32))), .val (.int s_1), .val (.long (((0 : Int64) ||| ((((bt f_1) &&& (255 : Int32)).toInt64) <<< ((0 : Int32) &&& 0x3f).toInt64)) ||| ((((bt (f_1 + (1 : Int32))) &&& (255 : Int32)).toInt64) <<< ((8 : Int32) &&& 0x3f).toInt64))), .second, .val (.int (16 : Int32))] [(.ref p_o), (.int s_1), (.int (16 : Int32))])) _
        refine st83 _ ?_
        show Steps p.tables e below (T83.setTop (mkF m 49 #[.val (.ref p_o), .val (.int i_1), .val (.long ((i_1.toInt64) * (b_1.toInt64))), .second, .val (.int ((f_1 + (1 : Int32)) + (1 : Int32))), .val (.int s_1), .val (.long (((0 : Int64) ||| ((((bt f_1) &&& (255 : Int32)).toInt64) <<< ((0 : Int32) &&& 0x3f).toInt64)) ||| ((((bt (f_1 + (1 : Int32))) &&& (255 : Int32)).toInt64) <<< ((8 : Int32) &&& 0x3f).toInt64))), .second, .val (.int (16 : Int32))] [(.int b_1), (.int s_1), (.int (16 : Int32))])) _
        refine XS.iadd X83.here hx rfl (hb hby own_d9_49) rfl ?_
        exact kt
      by_cases hc50_87 : (16 : Int32) < (s_1 + b_1)
      · obtain ⟨T91, X91, e91, st91⟩ := getF X83 hx hZ hown (host := "") (Or.inl (hw _ (List.mem_of_getElem? (i := 38) rfl))) Via.refl e83 F_k (g := (mkF m 56 #[.val (.ref p_o), .val (.int i_1), .val (.long ((i_1.toInt64) * (b_1.toInt64))), .second, .val (.int ((f_1 + (1 : Int32)) + (1 : Int32))), .val (.int s_1), .val (.long (((0 : Int64) ||| ((((bt f_1) &&& (255 : Int32)).toInt64) <<< ((0 : Int32) &&& 0x3f).toInt64)) ||| ((((bt (f_1 + (1 : Int32))) &&& (255 : Int32)).toInt64) <<< ((8 : Int32) &&& 0x3f).toInt64))), .second, .val (.int (16 : Int32))] [(.ref p_o), (.long (((0 : Int64) ||| ((((bt f_1) &&& (255 : Int32)).toInt64) <<< ((0 : Int32) &&& 0x3f).toInt64)) ||| ((((bt (f_1 + (1 : Int32))) &&& (255 : Int32)).toInt64) <<< ((8 : Int32) &&& 0x3f).toInt64)))])) rfl rfl (hb hby own_d9_56)
        obtain ⟨cl95, Ar95, q95, S95, M95, H95, G95⟩ := id V_r
        have hin95 : ¬ (((f_1 + (1 : Int32)) + (1 : Int32)) < 0 ∨ cl95.slots.size ≤ (((f_1 + (1 : Int32)) + (1 : Int32))).toNatClampNeg) := inb_of S95 (hin2_ hc50_87)
        have hat95 : cl95.slots[(((f_1 + (1 : Int32)) + (1 : Int32))).toNatClampNeg]? = some (.int (bt ((f_1 + (1 : Int32)) + (1 : Int32)))) := H95.at hin95 (hbt _ (hin2_ hc50_87))
        obtain ⟨T109, X109, e109, st109⟩ := getF X91 hx hZ hown (host := "") (Or.inl (hw _ (List.mem_of_getElem? (i := 60) rfl))) Via.refl e91 F_b (g := (mkF m 46 #[.val (.ref p_o), .val (.int i_1), .val (.long ((i_1.toInt64) * (b_1.toInt64))), .second, .val (.int (((f_1 + (1 : Int32)) + (1 : Int32)) + (1 : Int32))), .val (.int s_1), .val (.long ((((0 : Int64) ||| ((((bt f_1) &&& (255 : Int32)).toInt64) <<< ((0 : Int32) &&& 0x3f).toInt64)) ||| ((((bt (f_1 + (1 : Int32))) &&& (255 : Int32)).toInt64) <<< ((8 : Int32) &&& 0x3f).toInt64)) ||| ((((bt ((f_1 + (1 : Int32)) + (1 : Int32))) &&& (255 : Int32)).toInt64) <<< ((16 : Int32) &&& 0x3f).toInt64))), .second, .val (.int (24 : Int32))] [(.ref p_o), (.int s_1), (.int (24 : Int32))])) rfl rfl (hb hby own_d9_46)
        have pre112 : ∀ t, Steps p.tables e below (T109.setTop (mkF m 50 #[.val (.ref p_o), .val (.int i_1), .val (.long ((i_1.toInt64) * (b_1.toInt64))), .second, .val (.int (((f_1 + (1 : Int32)) + (1 : Int32)) + (1 : Int32))), .val (.int s_1), .val (.long ((((0 : Int64) ||| ((((bt f_1) &&& (255 : Int32)).toInt64) <<< ((0 : Int32) &&& 0x3f).toInt64)) ||| ((((bt (f_1 + (1 : Int32))) &&& (255 : Int32)).toInt64) <<< ((8 : Int32) &&& 0x3f).toInt64)) ||| ((((bt ((f_1 + (1 : Int32)) + (1 : Int32))) &&& (255 : Int32)).toInt64) <<< ((16 : Int32) &&& 0x3f).toInt64))), .second, .val (.int (24 : Int32))] [(.int (s_1 + b_1)), (.int (24 : Int32))])) t → Steps p.tables e below (s₁.setTop (entryFrame m #[(.ref p_o), (.int i_1)] 9)) t := by
          intro t kt
          refine pre86 _ ?_
          show Steps p.tables e below (T83.setTop (mkF m 50 #[.val (.ref p_o), .val (.int i_1), .val (.long ((i_1.toInt64) * (b_1.toInt64))), .second, .val (.int ((f_1 + (1 : Int32)) + (1 : Int32))), .val (.int s_1), .val (.long (((0 : Int64) ||| ((((bt f_1) &&& (255 : Int32)).toInt64) <<< ((0 : Int32) &&& 0x3f).toInt64)) ||| ((((bt (f_1 + (1 : Int32))) &&& (255 : Int32)).toInt64) <<< ((8 : Int32) &&& 0x3f).toInt64))), .second, .val (.int (16 : Int32))] [(.int (s_1 + b_1)), (.int (16 : Int32))])) _
          refine XS.icmpNo X83.here hx rfl (hb hby own_d9_50) rfl (tlt hc50_87).2.1 ?_
          show Steps p.tables e below (T83.setTop (mkF m 53 #[.val (.ref p_o), .val (.int i_1), .val (.long ((i_1.toInt64) * (b_1.toInt64))), .second, .val (.int ((f_1 + (1 : Int32)) + (1 : Int32))), .val (.int s_1), .val (.long (((0 : Int64) ||| ((((bt f_1) &&& (255 : Int32)).toInt64) <<< ((0 : Int32) &&& 0x3f).toInt64)) ||| ((((bt (f_1 + (1 : Int32))) &&& (255 : Int32)).toInt64) <<< ((8 : Int32) &&& 0x3f).toInt64))), .second, .val (.int (16 : Int32))] [])) _
          refine XS.lload X83.here hx rfl (hb hby own_d9_53) rfl ?_
          show Steps p.tables e below (T83.setTop (mkF m 55 #[.val (.ref p_o), .val (.int i_1), .val (.long ((i_1.toInt64) * (b_1.toInt64))), .second, .val (.int ((f_1 + (1 : Int32)) + (1 : Int32))), .val (.int s_1), .val (.long (((0 : Int64) ||| ((((bt f_1) &&& (255 : Int32)).toInt64) <<< ((0 : Int32) &&& 0x3f).toInt64)) ||| ((((bt (f_1 + (1 : Int32))) &&& (255 : Int32)).toInt64) <<< ((8 : Int32) &&& 0x3f).toInt64))), .second, .val (.int (16 : Int32))] [(.long (((0 : Int64) ||| ((((bt f_1) &&& (255 : Int32)).toInt64) <<< ((0 : Int32) &&& 0x3f).toInt64)) ||| ((((bt (f_1 + (1 : Int32))) &&& (255 : Int32)).toInt64) <<< ((8 : Int32) &&& 0x3f).toInt64)))])) _
          refine XS.aloadN X83.here hx rfl (hb hby own_d9_55) rfl rfl ?_
          show Steps p.tables e below (T83.setTop (mkF m 56 #[.val (.ref p_o), .val (.int i_1), .val (.long ((i_1.toInt64) * (b_1.toInt64))), .second, .val (.int ((f_1 + (1 : Int32)) + (1 : Int32))), .val (.int s_1), .val (.long (((0 : Int64) ||| ((((bt f_1) &&& (255 : Int32)).toInt64) <<< ((0 : Int32) &&& 0x3f).toInt64)) ||| ((((bt (f_1 + (1 : Int32))) &&& (255 : Int32)).toInt64) <<< ((8 : Int32) &&& 0x3f).toInt64))), .second, .val (.int (16 : Int32))] [(.ref p_o), (.long (((0 : Int64) ||| ((((bt f_1) &&& (255 : Int32)).toInt64) <<< ((0 : Int32) &&& 0x3f).toInt64)) ||| ((((bt (f_1 + (1 : Int32))) &&& (255 : Int32)).toInt64) <<< ((8 : Int32) &&& 0x3f).toInt64)))])) _
          refine st91 _ ?_
          show Steps p.tables e below (T91.setTop (mkF m 59 #[.val (.ref p_o), .val (.int i_1), .val (.long ((i_1.toInt64) * (b_1.toInt64))), .second, .val (.int ((f_1 + (1 : Int32)) + (1 : Int32))), .val (.int s_1), .val (.long (((0 : Int64) ||| ((((bt f_1) &&& (255 : Int32)).toInt64) <<< ((0 : Int32) &&& 0x3f).toInt64)) ||| ((((bt (f_1 + (1 : Int32))) &&& (255 : Int32)).toInt64) <<< ((8 : Int32) &&& 0x3f).toInt64))), .second, .val (.int (16 : Int32))] [(.ref r_o), (.long (((0 : Int64) ||| ((((bt f_1) &&& (255 : Int32)).toInt64) <<< ((0 : Int32) &&& 0x3f).toInt64)) ||| ((((bt (f_1 + (1 : Int32))) &&& (255 : Int32)).toInt64) <<< ((8 : Int32) &&& 0x3f).toInt64)))])) _
          refine XS.iload X91.here hx rfl (hb hby own_d9_59) rfl ?_
          show Steps p.tables e below (T91.setTop (mkF m 61 #[.val (.ref p_o), .val (.int i_1), .val (.long ((i_1.toInt64) * (b_1.toInt64))), .second, .val (.int ((f_1 + (1 : Int32)) + (1 : Int32))), .val (.int s_1), .val (.long (((0 : Int64) ||| ((((bt f_1) &&& (255 : Int32)).toInt64) <<< ((0 : Int32) &&& 0x3f).toInt64)) ||| ((((bt (f_1 + (1 : Int32))) &&& (255 : Int32)).toInt64) <<< ((8 : Int32) &&& 0x3f).toInt64))), .second, .val (.int (16 : Int32))] [(.int ((f_1 + (1 : Int32)) + (1 : Int32))), (.ref r_o), (.long (((0 : Int64) ||| ((((bt f_1) &&& (255 : Int32)).toInt64) <<< ((0 : Int32) &&& 0x3f).toInt64)) ||| ((((bt (f_1 + (1 : Int32))) &&& (255 : Int32)).toInt64) <<< ((8 : Int32) &&& 0x3f).toInt64)))])) _
          refine XS.iinc X91.here hx rfl (hb hby own_d9_61) rfl (l' := #[.val (.ref p_o), .val (.int i_1), .val (.long ((i_1.toInt64) * (b_1.toInt64))), .second, .val (.int (((f_1 + (1 : Int32)) + (1 : Int32)) + (1 : Int32))), .val (.int s_1), .val (.long (((0 : Int64) ||| ((((bt f_1) &&& (255 : Int32)).toInt64) <<< ((0 : Int32) &&& 0x3f).toInt64)) ||| ((((bt (f_1 + (1 : Int32))) &&& (255 : Int32)).toInt64) <<< ((8 : Int32) &&& 0x3f).toInt64))), .second, .val (.int (16 : Int32))]) rfl ?_
          show Steps p.tables e below (T91.setTop (mkF m 64 #[.val (.ref p_o), .val (.int i_1), .val (.long ((i_1.toInt64) * (b_1.toInt64))), .second, .val (.int (((f_1 + (1 : Int32)) + (1 : Int32)) + (1 : Int32))), .val (.int s_1), .val (.long (((0 : Int64) ||| ((((bt f_1) &&& (255 : Int32)).toInt64) <<< ((0 : Int32) &&& 0x3f).toInt64)) ||| ((((bt (f_1 + (1 : Int32))) &&& (255 : Int32)).toInt64) <<< ((8 : Int32) &&& 0x3f).toInt64))), .second, .val (.int (16 : Int32))] [(.int ((f_1 + (1 : Int32)) + (1 : Int32))), (.ref r_o), (.long (((0 : Int64) ||| ((((bt f_1) &&& (255 : Int32)).toInt64) <<< ((0 : Int32) &&& 0x3f).toInt64)) ||| ((((bt (f_1 + (1 : Int32))) &&& (255 : Int32)).toInt64) <<< ((8 : Int32) &&& 0x3f).toInt64)))])) _
          refine X91.baloadBytes hx (j := ((f_1 + (1 : Int32)) + (1 : Int32))) (v := (.int (bt ((f_1 + (1 : Int32)) + (1 : Int32))))) (by rw [e91]; exact Ar95.1) (State.isArrayOf_alike hZ.alike Ar95.2.1) Ar95.2.2 hin95 hat95 (g := (mkF m 64 #[.val (.ref p_o), .val (.int i_1), .val (.long ((i_1.toInt64) * (b_1.toInt64))), .second, .val (.int (((f_1 + (1 : Int32)) + (1 : Int32)) + (1 : Int32))), .val (.int s_1), .val (.long (((0 : Int64) ||| ((((bt f_1) &&& (255 : Int32)).toInt64) <<< ((0 : Int32) &&& 0x3f).toInt64)) ||| ((((bt (f_1 + (1 : Int32))) &&& (255 : Int32)).toInt64) <<< ((8 : Int32) &&& 0x3f).toInt64))), .second, .val (.int (16 : Int32))] [(.int ((f_1 + (1 : Int32)) + (1 : Int32))), (.ref r_o), (.long (((0 : Int64) ||| ((((bt f_1) &&& (255 : Int32)).toInt64) <<< ((0 : Int32) &&& 0x3f).toInt64)) ||| ((((bt (f_1 + (1 : Int32))) &&& (255 : Int32)).toInt64) <<< ((8 : Int32) &&& 0x3f).toInt64)))])) rfl rfl (hb hby own_d9_64) _ ?_
          show Steps p.tables e below (T91.setTop (mkF m 65 #[.val (.ref p_o), .val (.int i_1), .val (.long ((i_1.toInt64) * (b_1.toInt64))), .second, .val (.int (((f_1 + (1 : Int32)) + (1 : Int32)) + (1 : Int32))), .val (.int s_1), .val (.long (((0 : Int64) ||| ((((bt f_1) &&& (255 : Int32)).toInt64) <<< ((0 : Int32) &&& 0x3f).toInt64)) ||| ((((bt (f_1 + (1 : Int32))) &&& (255 : Int32)).toInt64) <<< ((8 : Int32) &&& 0x3f).toInt64))), .second, .val (.int (16 : Int32))] [(.int (bt ((f_1 + (1 : Int32)) + (1 : Int32)))), (.long (((0 : Int64) ||| ((((bt f_1) &&& (255 : Int32)).toInt64) <<< ((0 : Int32) &&& 0x3f).toInt64)) ||| ((((bt (f_1 + (1 : Int32))) &&& (255 : Int32)).toInt64) <<< ((8 : Int32) &&& 0x3f).toInt64)))])) _
          refine XS.sipush X91.here hx rfl (hb hby own_d9_65) ?_
          show Steps p.tables e below (T91.setTop (mkF m 68 #[.val (.ref p_o), .val (.int i_1), .val (.long ((i_1.toInt64) * (b_1.toInt64))), .second, .val (.int (((f_1 + (1 : Int32)) + (1 : Int32)) + (1 : Int32))), .val (.int s_1), .val (.long (((0 : Int64) ||| ((((bt f_1) &&& (255 : Int32)).toInt64) <<< ((0 : Int32) &&& 0x3f).toInt64)) ||| ((((bt (f_1 + (1 : Int32))) &&& (255 : Int32)).toInt64) <<< ((8 : Int32) &&& 0x3f).toInt64))), .second, .val (.int (16 : Int32))] [(.int (255 : Int32)), (.int (bt ((f_1 + (1 : Int32)) + (1 : Int32)))), (.long (((0 : Int64) ||| ((((bt f_1) &&& (255 : Int32)).toInt64) <<< ((0 : Int32) &&& 0x3f).toInt64)) ||| ((((bt (f_1 + (1 : Int32))) &&& (255 : Int32)).toInt64) <<< ((8 : Int32) &&& 0x3f).toInt64)))])) _
          refine XS.iand X91.here hx rfl (hb hby own_d9_68) rfl ?_
          show Steps p.tables e below (T91.setTop (mkF m 69 #[.val (.ref p_o), .val (.int i_1), .val (.long ((i_1.toInt64) * (b_1.toInt64))), .second, .val (.int (((f_1 + (1 : Int32)) + (1 : Int32)) + (1 : Int32))), .val (.int s_1), .val (.long (((0 : Int64) ||| ((((bt f_1) &&& (255 : Int32)).toInt64) <<< ((0 : Int32) &&& 0x3f).toInt64)) ||| ((((bt (f_1 + (1 : Int32))) &&& (255 : Int32)).toInt64) <<< ((8 : Int32) &&& 0x3f).toInt64))), .second, .val (.int (16 : Int32))] [(.int ((bt ((f_1 + (1 : Int32)) + (1 : Int32))) &&& (255 : Int32))), (.long (((0 : Int64) ||| ((((bt f_1) &&& (255 : Int32)).toInt64) <<< ((0 : Int32) &&& 0x3f).toInt64)) ||| ((((bt (f_1 + (1 : Int32))) &&& (255 : Int32)).toInt64) <<< ((8 : Int32) &&& 0x3f).toInt64)))])) _
          refine XS.i2l X91.here hx rfl (hb hby own_d9_69) rfl ?_
          show Steps p.tables e below (T91.setTop (mkF m 70 #[.val (.ref p_o), .val (.int i_1), .val (.long ((i_1.toInt64) * (b_1.toInt64))), .second, .val (.int (((f_1 + (1 : Int32)) + (1 : Int32)) + (1 : Int32))), .val (.int s_1), .val (.long (((0 : Int64) ||| ((((bt f_1) &&& (255 : Int32)).toInt64) <<< ((0 : Int32) &&& 0x3f).toInt64)) ||| ((((bt (f_1 + (1 : Int32))) &&& (255 : Int32)).toInt64) <<< ((8 : Int32) &&& 0x3f).toInt64))), .second, .val (.int (16 : Int32))] [(.long (((bt ((f_1 + (1 : Int32)) + (1 : Int32))) &&& (255 : Int32)).toInt64)), (.long (((0 : Int64) ||| ((((bt f_1) &&& (255 : Int32)).toInt64) <<< ((0 : Int32) &&& 0x3f).toInt64)) ||| ((((bt (f_1 + (1 : Int32))) &&& (255 : Int32)).toInt64) <<< ((8 : Int32) &&& 0x3f).toInt64)))])) _
          refine XS.iload X91.here hx rfl (hb hby own_d9_70) rfl ?_
          show Steps p.tables e below (T91.setTop (mkF m 72 #[.val (.ref p_o), .val (.int i_1), .val (.long ((i_1.toInt64) * (b_1.toInt64))), .second, .val (.int (((f_1 + (1 : Int32)) + (1 : Int32)) + (1 : Int32))), .val (.int s_1), .val (.long (((0 : Int64) ||| ((((bt f_1) &&& (255 : Int32)).toInt64) <<< ((0 : Int32) &&& 0x3f).toInt64)) ||| ((((bt (f_1 + (1 : Int32))) &&& (255 : Int32)).toInt64) <<< ((8 : Int32) &&& 0x3f).toInt64))), .second, .val (.int (16 : Int32))] [(.int (16 : Int32)), (.long (((bt ((f_1 + (1 : Int32)) + (1 : Int32))) &&& (255 : Int32)).toInt64)), (.long (((0 : Int64) ||| ((((bt f_1) &&& (255 : Int32)).toInt64) <<< ((0 : Int32) &&& 0x3f).toInt64)) ||| ((((bt (f_1 + (1 : Int32))) &&& (255 : Int32)).toInt64) <<< ((8 : Int32) &&& 0x3f).toInt64)))])) _
          refine XS.lshl X91.here hx rfl (hb hby own_d9_72) rfl ?_
          show Steps p.tables e below (T91.setTop (mkF m 73 #[.val (.ref p_o), .val (.int i_1), .val (.long ((i_1.toInt64) * (b_1.toInt64))), .second, .val (.int (((f_1 + (1 : Int32)) + (1 : Int32)) + (1 : Int32))), .val (.int s_1), .val (.long (((0 : Int64) ||| ((((bt f_1) &&& (255 : Int32)).toInt64) <<< ((0 : Int32) &&& 0x3f).toInt64)) ||| ((((bt (f_1 + (1 : Int32))) &&& (255 : Int32)).toInt64) <<< ((8 : Int32) &&& 0x3f).toInt64))), .second, .val (.int (16 : Int32))] [(.long ((((bt ((f_1 + (1 : Int32)) + (1 : Int32))) &&& (255 : Int32)).toInt64) <<< ((16 : Int32) &&& 0x3f).toInt64)), (.long (((0 : Int64) ||| ((((bt f_1) &&& (255 : Int32)).toInt64) <<< ((0 : Int32) &&& 0x3f).toInt64)) ||| ((((bt (f_1 + (1 : Int32))) &&& (255 : Int32)).toInt64) <<< ((8 : Int32) &&& 0x3f).toInt64)))])) _
          refine XS.lor X91.here hx rfl (hb hby own_d9_73) rfl ?_
          show Steps p.tables e below (T91.setTop (mkF m 74 #[.val (.ref p_o), .val (.int i_1), .val (.long ((i_1.toInt64) * (b_1.toInt64))), .second, .val (.int (((f_1 + (1 : Int32)) + (1 : Int32)) + (1 : Int32))), .val (.int s_1), .val (.long (((0 : Int64) ||| ((((bt f_1) &&& (255 : Int32)).toInt64) <<< ((0 : Int32) &&& 0x3f).toInt64)) ||| ((((bt (f_1 + (1 : Int32))) &&& (255 : Int32)).toInt64) <<< ((8 : Int32) &&& 0x3f).toInt64))), .second, .val (.int (16 : Int32))] [(.long ((((0 : Int64) ||| ((((bt f_1) &&& (255 : Int32)).toInt64) <<< ((0 : Int32) &&& 0x3f).toInt64)) ||| ((((bt (f_1 + (1 : Int32))) &&& (255 : Int32)).toInt64) <<< ((8 : Int32) &&& 0x3f).toInt64)) ||| ((((bt ((f_1 + (1 : Int32)) + (1 : Int32))) &&& (255 : Int32)).toInt64) <<< ((16 : Int32) &&& 0x3f).toInt64)))])) _
          refine XS.lstore X91.here hx rfl (hb hby own_d9_74) rfl (l' := #[.val (.ref p_o), .val (.int i_1), .val (.long ((i_1.toInt64) * (b_1.toInt64))), .second, .val (.int (((f_1 + (1 : Int32)) + (1 : Int32)) + (1 : Int32))), .val (.int s_1), .val (.long ((((0 : Int64) ||| ((((bt f_1) &&& (255 : Int32)).toInt64) <<< ((0 : Int32) &&& 0x3f).toInt64)) ||| ((((bt (f_1 + (1 : Int32))) &&& (255 : Int32)).toInt64) <<< ((8 : Int32) &&& 0x3f).toInt64)) ||| ((((bt ((f_1 + (1 : Int32)) + (1 : Int32))) &&& (255 : Int32)).toInt64) <<< ((16 : Int32) &&& 0x3f).toInt64))), .second, .val (.int (16 : Int32))]) rfl ?_
          show Steps p.tables e below (T91.setTop (mkF m 76 #[.val (.ref p_o), .val (.int i_1), .val (.long ((i_1.toInt64) * (b_1.toInt64))), .second, .val (.int (((f_1 + (1 : Int32)) + (1 : Int32)) + (1 : Int32))), .val (.int s_1), .val (.long ((((0 : Int64) ||| ((((bt f_1) &&& (255 : Int32)).toInt64) <<< ((0 : Int32) &&& 0x3f).toInt64)) ||| ((((bt (f_1 + (1 : Int32))) &&& (255 : Int32)).toInt64) <<< ((8 : Int32) &&& 0x3f).toInt64)) ||| ((((bt ((f_1 + (1 : Int32)) + (1 : Int32))) &&& (255 : Int32)).toInt64) <<< ((16 : Int32) &&& 0x3f).toInt64))), .second, .val (.int (16 : Int32))] [])) _
          refine XS.iinc X91.here hx rfl (hb hby own_d9_76) rfl (l' := #[.val (.ref p_o), .val (.int i_1), .val (.long ((i_1.toInt64) * (b_1.toInt64))), .second, .val (.int (((f_1 + (1 : Int32)) + (1 : Int32)) + (1 : Int32))), .val (.int s_1), .val (.long ((((0 : Int64) ||| ((((bt f_1) &&& (255 : Int32)).toInt64) <<< ((0 : Int32) &&& 0x3f).toInt64)) ||| ((((bt (f_1 + (1 : Int32))) &&& (255 : Int32)).toInt64) <<< ((8 : Int32) &&& 0x3f).toInt64)) ||| ((((bt ((f_1 + (1 : Int32)) + (1 : Int32))) &&& (255 : Int32)).toInt64) <<< ((16 : Int32) &&& 0x3f).toInt64))), .second, .val (.int (24 : Int32))]) rfl ?_
          show Steps p.tables e below (T91.setTop (mkF m 79 #[.val (.ref p_o), .val (.int i_1), .val (.long ((i_1.toInt64) * (b_1.toInt64))), .second, .val (.int (((f_1 + (1 : Int32)) + (1 : Int32)) + (1 : Int32))), .val (.int s_1), .val (.long ((((0 : Int64) ||| ((((bt f_1) &&& (255 : Int32)).toInt64) <<< ((0 : Int32) &&& 0x3f).toInt64)) ||| ((((bt (f_1 + (1 : Int32))) &&& (255 : Int32)).toInt64) <<< ((8 : Int32) &&& 0x3f).toInt64)) ||| ((((bt ((f_1 + (1 : Int32)) + (1 : Int32))) &&& (255 : Int32)).toInt64) <<< ((16 : Int32) &&& 0x3f).toInt64))), .second, .val (.int (24 : Int32))] [])) _
          refine XS.goto X91.here hx rfl (pc0 := 79) (pc' := 41) rfl (hb hby own_d9_79) (by decide) (by decide) ?_
          show Steps p.tables e below (T91.setTop (mkF m 41 #[.val (.ref p_o), .val (.int i_1), .val (.long ((i_1.toInt64) * (b_1.toInt64))), .second, .val (.int (((f_1 + (1 : Int32)) + (1 : Int32)) + (1 : Int32))), .val (.int s_1), .val (.long ((((0 : Int64) ||| ((((bt f_1) &&& (255 : Int32)).toInt64) <<< ((0 : Int32) &&& 0x3f).toInt64)) ||| ((((bt (f_1 + (1 : Int32))) &&& (255 : Int32)).toInt64) <<< ((8 : Int32) &&& 0x3f).toInt64)) ||| ((((bt ((f_1 + (1 : Int32)) + (1 : Int32))) &&& (255 : Int32)).toInt64) <<< ((16 : Int32) &&& 0x3f).toInt64))), .second, .val (.int (24 : Int32))] [])) _
          refine XS.iload X91.here hx rfl (hb hby own_d9_41) rfl ?_
          show Steps p.tables e below (T91.setTop (mkF m 43 #[.val (.ref p_o), .val (.int i_1), .val (.long ((i_1.toInt64) * (b_1.toInt64))), .second, .val (.int (((f_1 + (1 : Int32)) + (1 : Int32)) + (1 : Int32))), .val (.int s_1), .val (.long ((((0 : Int64) ||| ((((bt f_1) &&& (255 : Int32)).toInt64) <<< ((0 : Int32) &&& 0x3f).toInt64)) ||| ((((bt (f_1 + (1 : Int32))) &&& (255 : Int32)).toInt64) <<< ((8 : Int32) &&& 0x3f).toInt64)) ||| ((((bt ((f_1 + (1 : Int32)) + (1 : Int32))) &&& (255 : Int32)).toInt64) <<< ((16 : Int32) &&& 0x3f).toInt64))), .second, .val (.int (24 : Int32))] [(.int (24 : Int32))])) _
          refine XS.iload X91.here hx rfl (hb hby own_d9_43) rfl ?_
          show Steps p.tables e below (T91.setTop (mkF m 45 #[.val (.ref p_o), .val (.int i_1), .val (.long ((i_1.toInt64) * (b_1.toInt64))), .second, .val (.int (((f_1 + (1 : Int32)) + (1 : Int32)) + (1 : Int32))), .val (.int s_1), .val (.long ((((0 : Int64) ||| ((((bt f_1) &&& (255 : Int32)).toInt64) <<< ((0 : Int32) &&& 0x3f).toInt64)) ||| ((((bt (f_1 + (1 : Int32))) &&& (255 : Int32)).toInt64) <<< ((8 : Int32) &&& 0x3f).toInt64)) ||| ((((bt ((f_1 + (1 : Int32)) + (1 : Int32))) &&& (255 : Int32)).toInt64) <<< ((16 : Int32) &&& 0x3f).toInt64))), .second, .val (.int (24 : Int32))] [(.int s_1), (.int (24 : Int32))])) _
          refine XS.aloadN X91.here hx rfl (hb hby own_d9_45) rfl rfl ?_
          show Steps p.tables e below (T91.setTop (mkF m 46 #[.val (.ref p_o), .val (.int i_1), .val (.long ((i_1.toInt64) * (b_1.toInt64))), .second, .val (.int (((f_1 + (1 : Int32)) + (1 : Int32)) + (1 : Int32))), .val (.int s_1), .val (.long ((((0 : Int64) ||| ((((bt f_1) &&& (255 : Int32)).toInt64) <<< ((0 : Int32) &&& 0x3f).toInt64)) ||| ((((bt (f_1 + (1 : Int32))) &&& (255 : Int32)).toInt64) <<< ((8 : Int32) &&& 0x3f).toInt64)) ||| ((((bt ((f_1 + (1 : Int32)) + (1 : Int32))) &&& (255 : Int32)).toInt64) <<< ((16 : Int32) &&& 0x3f).toInt64))), .second, .val (.int (24 : Int32))] [(.ref p_o), (.int s_1), (.int (24 : Int32))])) _
          refine st109 _ ?_
          show Steps p.tables e below (T109.setTop (mkF m 49 #[.val (.ref p_o), .val (.int i_1), .val (.long ((i_1.toInt64) * (b_1.toInt64))), .second, .val (.int (((f_1 + (1 : Int32)) + (1 : Int32)) + (1 : Int32))), .val (.int s_1), .val (.long ((((0 : Int64) ||| ((((bt f_1) &&& (255 : Int32)).toInt64) <<< ((0 : Int32) &&& 0x3f).toInt64)) ||| ((((bt (f_1 + (1 : Int32))) &&& (255 : Int32)).toInt64) <<< ((8 : Int32) &&& 0x3f).toInt64)) ||| ((((bt ((f_1 + (1 : Int32)) + (1 : Int32))) &&& (255 : Int32)).toInt64) <<< ((16 : Int32) &&& 0x3f).toInt64))), .second, .val (.int (24 : Int32))] [(.int b_1), (.int s_1), (.int (24 : Int32))])) _
          refine XS.iadd X109.here hx rfl (hb hby own_d9_49) rfl ?_
          exact kt
        by_cases hc50_113 : (24 : Int32) < (s_1 + b_1)
        · obtain ⟨T117, X117, e117, st117⟩ := getF X109 hx hZ hown (host := "") (Or.inl (hw _ (List.mem_of_getElem? (i := 38) rfl))) Via.refl e109 F_k (g := (mkF m 56 #[.val (.ref p_o), .val (.int i_1), .val (.long ((i_1.toInt64) * (b_1.toInt64))), .second, .val (.int (((f_1 + (1 : Int32)) + (1 : Int32)) + (1 : Int32))), .val (.int s_1), .val (.long ((((0 : Int64) ||| ((((bt f_1) &&& (255 : Int32)).toInt64) <<< ((0 : Int32) &&& 0x3f).toInt64)) ||| ((((bt (f_1 + (1 : Int32))) &&& (255 : Int32)).toInt64) <<< ((8 : Int32) &&& 0x3f).toInt64)) ||| ((((bt ((f_1 + (1 : Int32)) + (1 : Int32))) &&& (255 : Int32)).toInt64) <<< ((16 : Int32) &&& 0x3f).toInt64))), .second, .val (.int (24 : Int32))] [(.ref p_o), (.long ((((0 : Int64) ||| ((((bt f_1) &&& (255 : Int32)).toInt64) <<< ((0 : Int32) &&& 0x3f).toInt64)) ||| ((((bt (f_1 + (1 : Int32))) &&& (255 : Int32)).toInt64) <<< ((8 : Int32) &&& 0x3f).toInt64)) ||| ((((bt ((f_1 + (1 : Int32)) + (1 : Int32))) &&& (255 : Int32)).toInt64) <<< ((16 : Int32) &&& 0x3f).toInt64)))])) rfl rfl (hb hby own_d9_56)
          obtain ⟨cl121, Ar121, q121, S121, M121, H121, G121⟩ := id V_r
          have hin121 : ¬ ((((f_1 + (1 : Int32)) + (1 : Int32)) + (1 : Int32)) < 0 ∨ cl121.slots.size ≤ ((((f_1 + (1 : Int32)) + (1 : Int32)) + (1 : Int32))).toNatClampNeg) := inb_of S121 (hin3_ hc50_113)
          have hat121 : cl121.slots[((((f_1 + (1 : Int32)) + (1 : Int32)) + (1 : Int32))).toNatClampNeg]? = some (.int (bt (((f_1 + (1 : Int32)) + (1 : Int32)) + (1 : Int32)))) := H121.at hin121 (hbt _ (hin3_ hc50_113))
          obtain ⟨T135, X135, e135, st135⟩ := getF X117 hx hZ hown (host := "") (Or.inl (hw _ (List.mem_of_getElem? (i := 60) rfl))) Via.refl e117 F_b (g := (mkF m 46 #[.val (.ref p_o), .val (.int i_1), .val (.long ((i_1.toInt64) * (b_1.toInt64))), .second, .val (.int ((((f_1 + (1 : Int32)) + (1 : Int32)) + (1 : Int32)) + (1 : Int32))), .val (.int s_1), .val (.long (((((0 : Int64) ||| ((((bt f_1) &&& (255 : Int32)).toInt64) <<< ((0 : Int32) &&& 0x3f).toInt64)) ||| ((((bt (f_1 + (1 : Int32))) &&& (255 : Int32)).toInt64) <<< ((8 : Int32) &&& 0x3f).toInt64)) ||| ((((bt ((f_1 + (1 : Int32)) + (1 : Int32))) &&& (255 : Int32)).toInt64) <<< ((16 : Int32) &&& 0x3f).toInt64)) ||| ((((bt (((f_1 + (1 : Int32)) + (1 : Int32)) + (1 : Int32))) &&& (255 : Int32)).toInt64) <<< ((24 : Int32) &&& 0x3f).toInt64))), .second, .val (.int (32 : Int32))] [(.ref p_o), (.int s_1), (.int (32 : Int32))])) rfl rfl (hb hby own_d9_46)
          have pre138 : ∀ t, Steps p.tables e below (T135.setTop (mkF m 50 #[.val (.ref p_o), .val (.int i_1), .val (.long ((i_1.toInt64) * (b_1.toInt64))), .second, .val (.int ((((f_1 + (1 : Int32)) + (1 : Int32)) + (1 : Int32)) + (1 : Int32))), .val (.int s_1), .val (.long (((((0 : Int64) ||| ((((bt f_1) &&& (255 : Int32)).toInt64) <<< ((0 : Int32) &&& 0x3f).toInt64)) ||| ((((bt (f_1 + (1 : Int32))) &&& (255 : Int32)).toInt64) <<< ((8 : Int32) &&& 0x3f).toInt64)) ||| ((((bt ((f_1 + (1 : Int32)) + (1 : Int32))) &&& (255 : Int32)).toInt64) <<< ((16 : Int32) &&& 0x3f).toInt64)) ||| ((((bt (((f_1 + (1 : Int32)) + (1 : Int32)) + (1 : Int32))) &&& (255 : Int32)).toInt64) <<< ((24 : Int32) &&& 0x3f).toInt64))), .second, .val (.int (32 : Int32))] [(.int (s_1 + b_1)), (.int (32 : Int32))])) t → Steps p.tables e below (s₁.setTop (entryFrame m #[(.ref p_o), (.int i_1)] 9)) t := by
            intro t kt
            refine pre112 _ ?_
            show Steps p.tables e below (T109.setTop (mkF m 50 #[.val (.ref p_o), .val (.int i_1), .val (.long ((i_1.toInt64) * (b_1.toInt64))), .second, .val (.int (((f_1 + (1 : Int32)) + (1 : Int32)) + (1 : Int32))), .val (.int s_1), .val (.long ((((0 : Int64) ||| ((((bt f_1) &&& (255 : Int32)).toInt64) <<< ((0 : Int32) &&& 0x3f).toInt64)) ||| ((((bt (f_1 + (1 : Int32))) &&& (255 : Int32)).toInt64) <<< ((8 : Int32) &&& 0x3f).toInt64)) ||| ((((bt ((f_1 + (1 : Int32)) + (1 : Int32))) &&& (255 : Int32)).toInt64) <<< ((16 : Int32) &&& 0x3f).toInt64))), .second, .val (.int (24 : Int32))] [(.int (s_1 + b_1)), (.int (24 : Int32))])) _
            refine XS.icmpNo X109.here hx rfl (hb hby own_d9_50) rfl (tlt hc50_113).2.1 ?_
            show Steps p.tables e below (T109.setTop (mkF m 53 #[.val (.ref p_o), .val (.int i_1), .val (.long ((i_1.toInt64) * (b_1.toInt64))), .second, .val (.int (((f_1 + (1 : Int32)) + (1 : Int32)) + (1 : Int32))), .val (.int s_1), .val (.long ((((0 : Int64) ||| ((((bt f_1) &&& (255 : Int32)).toInt64) <<< ((0 : Int32) &&& 0x3f).toInt64)) ||| ((((bt (f_1 + (1 : Int32))) &&& (255 : Int32)).toInt64) <<< ((8 : Int32) &&& 0x3f).toInt64)) ||| ((((bt ((f_1 + (1 : Int32)) + (1 : Int32))) &&& (255 : Int32)).toInt64) <<< ((16 : Int32) &&& 0x3f).toInt64))), .second, .val (.int (24 : Int32))] [])) _
            refine XS.lload X109.here hx rfl (hb hby own_d9_53) rfl ?_
            show Steps p.tables e below (T109.setTop (mkF m 55 #[.val (.ref p_o), .val (.int i_1), .val (.long ((i_1.toInt64) * (b_1.toInt64))), .second, .val (.int (((f_1 + (1 : Int32)) + (1 : Int32)) + (1 : Int32))), .val (.int s_1), .val (.long ((((0 : Int64) ||| ((((bt f_1) &&& (255 : Int32)).toInt64) <<< ((0 : Int32) &&& 0x3f).toInt64)) ||| ((((bt (f_1 + (1 : Int32))) &&& (255 : Int32)).toInt64) <<< ((8 : Int32) &&& 0x3f).toInt64)) ||| ((((bt ((f_1 + (1 : Int32)) + (1 : Int32))) &&& (255 : Int32)).toInt64) <<< ((16 : Int32) &&& 0x3f).toInt64))), .second, .val (.int (24 : Int32))] [(.long ((((0 : Int64) ||| ((((bt f_1) &&& (255 : Int32)).toInt64) <<< ((0 : Int32) &&& 0x3f).toInt64)) ||| ((((bt (f_1 + (1 : Int32))) &&& (255 : Int32)).toInt64) <<< ((8 : Int32) &&& 0x3f).toInt64)) ||| ((((bt ((f_1 + (1 : Int32)) + (1 : Int32))) &&& (255 : Int32)).toInt64) <<< ((16 : Int32) &&& 0x3f).toInt64)))])) _
            refine XS.aloadN X109.here hx rfl (hb hby own_d9_55) rfl rfl ?_
            show Steps p.tables e below (T109.setTop (mkF m 56 #[.val (.ref p_o), .val (.int i_1), .val (.long ((i_1.toInt64) * (b_1.toInt64))), .second, .val (.int (((f_1 + (1 : Int32)) + (1 : Int32)) + (1 : Int32))), .val (.int s_1), .val (.long ((((0 : Int64) ||| ((((bt f_1) &&& (255 : Int32)).toInt64) <<< ((0 : Int32) &&& 0x3f).toInt64)) ||| ((((bt (f_1 + (1 : Int32))) &&& (255 : Int32)).toInt64) <<< ((8 : Int32) &&& 0x3f).toInt64)) ||| ((((bt ((f_1 + (1 : Int32)) + (1 : Int32))) &&& (255 : Int32)).toInt64) <<< ((16 : Int32) &&& 0x3f).toInt64))), .second, .val (.int (24 : Int32))] [(.ref p_o), (.long ((((0 : Int64) ||| ((((bt f_1) &&& (255 : Int32)).toInt64) <<< ((0 : Int32) &&& 0x3f).toInt64)) ||| ((((bt (f_1 + (1 : Int32))) &&& (255 : Int32)).toInt64) <<< ((8 : Int32) &&& 0x3f).toInt64)) ||| ((((bt ((f_1 + (1 : Int32)) + (1 : Int32))) &&& (255 : Int32)).toInt64) <<< ((16 : Int32) &&& 0x3f).toInt64)))])) _
            refine st117 _ ?_
            show Steps p.tables e below (T117.setTop (mkF m 59 #[.val (.ref p_o), .val (.int i_1), .val (.long ((i_1.toInt64) * (b_1.toInt64))), .second, .val (.int (((f_1 + (1 : Int32)) + (1 : Int32)) + (1 : Int32))), .val (.int s_1), .val (.long ((((0 : Int64) ||| ((((bt f_1) &&& (255 : Int32)).toInt64) <<< ((0 : Int32) &&& 0x3f).toInt64)) ||| ((((bt (f_1 + (1 : Int32))) &&& (255 : Int32)).toInt64) <<< ((8 : Int32) &&& 0x3f).toInt64)) ||| ((((bt ((f_1 + (1 : Int32)) + (1 : Int32))) &&& (255 : Int32)).toInt64) <<< ((16 : Int32) &&& 0x3f).toInt64))), .second, .val (.int (24 : Int32))] [(.ref r_o), (.long ((((0 : Int64) ||| ((((bt f_1) &&& (255 : Int32)).toInt64) <<< ((0 : Int32) &&& 0x3f).toInt64)) ||| ((((bt (f_1 + (1 : Int32))) &&& (255 : Int32)).toInt64) <<< ((8 : Int32) &&& 0x3f).toInt64)) ||| ((((bt ((f_1 + (1 : Int32)) + (1 : Int32))) &&& (255 : Int32)).toInt64) <<< ((16 : Int32) &&& 0x3f).toInt64)))])) _
            refine XS.iload X117.here hx rfl (hb hby own_d9_59) rfl ?_
            show Steps p.tables e below (T117.setTop (mkF m 61 #[.val (.ref p_o), .val (.int i_1), .val (.long ((i_1.toInt64) * (b_1.toInt64))), .second, .val (.int (((f_1 + (1 : Int32)) + (1 : Int32)) + (1 : Int32))), .val (.int s_1), .val (.long ((((0 : Int64) ||| ((((bt f_1) &&& (255 : Int32)).toInt64) <<< ((0 : Int32) &&& 0x3f).toInt64)) ||| ((((bt (f_1 + (1 : Int32))) &&& (255 : Int32)).toInt64) <<< ((8 : Int32) &&& 0x3f).toInt64)) ||| ((((bt ((f_1 + (1 : Int32)) + (1 : Int32))) &&& (255 : Int32)).toInt64) <<< ((16 : Int32) &&& 0x3f).toInt64))), .second, .val (.int (24 : Int32))] [(.int (((f_1 + (1 : Int32)) + (1 : Int32)) + (1 : Int32))), (.ref r_o), (.long ((((0 : Int64) ||| ((((bt f_1) &&& (255 : Int32)).toInt64) <<< ((0 : Int32) &&& 0x3f).toInt64)) ||| ((((bt (f_1 + (1 : Int32))) &&& (255 : Int32)).toInt64) <<< ((8 : Int32) &&& 0x3f).toInt64)) ||| ((((bt ((f_1 + (1 : Int32)) + (1 : Int32))) &&& (255 : Int32)).toInt64) <<< ((16 : Int32) &&& 0x3f).toInt64)))])) _
            refine XS.iinc X117.here hx rfl (hb hby own_d9_61) rfl (l' := #[.val (.ref p_o), .val (.int i_1), .val (.long ((i_1.toInt64) * (b_1.toInt64))), .second, .val (.int ((((f_1 + (1 : Int32)) + (1 : Int32)) + (1 : Int32)) + (1 : Int32))), .val (.int s_1), .val (.long ((((0 : Int64) ||| ((((bt f_1) &&& (255 : Int32)).toInt64) <<< ((0 : Int32) &&& 0x3f).toInt64)) ||| ((((bt (f_1 + (1 : Int32))) &&& (255 : Int32)).toInt64) <<< ((8 : Int32) &&& 0x3f).toInt64)) ||| ((((bt ((f_1 + (1 : Int32)) + (1 : Int32))) &&& (255 : Int32)).toInt64) <<< ((16 : Int32) &&& 0x3f).toInt64))), .second, .val (.int (24 : Int32))]) rfl ?_
            show Steps p.tables e below (T117.setTop (mkF m 64 #[.val (.ref p_o), .val (.int i_1), .val (.long ((i_1.toInt64) * (b_1.toInt64))), .second, .val (.int ((((f_1 + (1 : Int32)) + (1 : Int32)) + (1 : Int32)) + (1 : Int32))), .val (.int s_1), .val (.long ((((0 : Int64) ||| ((((bt f_1) &&& (255 : Int32)).toInt64) <<< ((0 : Int32) &&& 0x3f).toInt64)) ||| ((((bt (f_1 + (1 : Int32))) &&& (255 : Int32)).toInt64) <<< ((8 : Int32) &&& 0x3f).toInt64)) ||| ((((bt ((f_1 + (1 : Int32)) + (1 : Int32))) &&& (255 : Int32)).toInt64) <<< ((16 : Int32) &&& 0x3f).toInt64))), .second, .val (.int (24 : Int32))] [(.int (((f_1 + (1 : Int32)) + (1 : Int32)) + (1 : Int32))), (.ref r_o), (.long ((((0 : Int64) ||| ((((bt f_1) &&& (255 : Int32)).toInt64) <<< ((0 : Int32) &&& 0x3f).toInt64)) ||| ((((bt (f_1 + (1 : Int32))) &&& (255 : Int32)).toInt64) <<< ((8 : Int32) &&& 0x3f).toInt64)) ||| ((((bt ((f_1 + (1 : Int32)) + (1 : Int32))) &&& (255 : Int32)).toInt64) <<< ((16 : Int32) &&& 0x3f).toInt64)))])) _
            refine X117.baloadBytes hx (j := (((f_1 + (1 : Int32)) + (1 : Int32)) + (1 : Int32))) (v := (.int (bt (((f_1 + (1 : Int32)) + (1 : Int32)) + (1 : Int32))))) (by rw [e117]; exact Ar121.1) (State.isArrayOf_alike hZ.alike Ar121.2.1) Ar121.2.2 hin121 hat121 (g := (mkF m 64 #[.val (.ref p_o), .val (.int i_1), .val (.long ((i_1.toInt64) * (b_1.toInt64))), .second, .val (.int ((((f_1 + (1 : Int32)) + (1 : Int32)) + (1 : Int32)) + (1 : Int32))), .val (.int s_1), .val (.long ((((0 : Int64) ||| ((((bt f_1) &&& (255 : Int32)).toInt64) <<< ((0 : Int32) &&& 0x3f).toInt64)) ||| ((((bt (f_1 + (1 : Int32))) &&& (255 : Int32)).toInt64) <<< ((8 : Int32) &&& 0x3f).toInt64)) ||| ((((bt ((f_1 + (1 : Int32)) + (1 : Int32))) &&& (255 : Int32)).toInt64) <<< ((16 : Int32) &&& 0x3f).toInt64))), .second, .val (.int (24 : Int32))] [(.int (((f_1 + (1 : Int32)) + (1 : Int32)) + (1 : Int32))), (.ref r_o), (.long ((((0 : Int64) ||| ((((bt f_1) &&& (255 : Int32)).toInt64) <<< ((0 : Int32) &&& 0x3f).toInt64)) ||| ((((bt (f_1 + (1 : Int32))) &&& (255 : Int32)).toInt64) <<< ((8 : Int32) &&& 0x3f).toInt64)) ||| ((((bt ((f_1 + (1 : Int32)) + (1 : Int32))) &&& (255 : Int32)).toInt64) <<< ((16 : Int32) &&& 0x3f).toInt64)))])) rfl rfl (hb hby own_d9_64) _ ?_
            show Steps p.tables e below (T117.setTop (mkF m 65 #[.val (.ref p_o), .val (.int i_1), .val (.long ((i_1.toInt64) * (b_1.toInt64))), .second, .val (.int ((((f_1 + (1 : Int32)) + (1 : Int32)) + (1 : Int32)) + (1 : Int32))), .val (.int s_1), .val (.long ((((0 : Int64) ||| ((((bt f_1) &&& (255 : Int32)).toInt64) <<< ((0 : Int32) &&& 0x3f).toInt64)) ||| ((((bt (f_1 + (1 : Int32))) &&& (255 : Int32)).toInt64) <<< ((8 : Int32) &&& 0x3f).toInt64)) ||| ((((bt ((f_1 + (1 : Int32)) + (1 : Int32))) &&& (255 : Int32)).toInt64) <<< ((16 : Int32) &&& 0x3f).toInt64))), .second, .val (.int (24 : Int32))] [(.int (bt (((f_1 + (1 : Int32)) + (1 : Int32)) + (1 : Int32)))), (.long ((((0 : Int64) ||| ((((bt f_1) &&& (255 : Int32)).toInt64) <<< ((0 : Int32) &&& 0x3f).toInt64)) ||| ((((bt (f_1 + (1 : Int32))) &&& (255 : Int32)).toInt64) <<< ((8 : Int32) &&& 0x3f).toInt64)) ||| ((((bt ((f_1 + (1 : Int32)) + (1 : Int32))) &&& (255 : Int32)).toInt64) <<< ((16 : Int32) &&& 0x3f).toInt64)))])) _
            refine XS.sipush X117.here hx rfl (hb hby own_d9_65) ?_
            show Steps p.tables e below (T117.setTop (mkF m 68 #[.val (.ref p_o), .val (.int i_1), .val (.long ((i_1.toInt64) * (b_1.toInt64))), .second, .val (.int ((((f_1 + (1 : Int32)) + (1 : Int32)) + (1 : Int32)) + (1 : Int32))), .val (.int s_1), .val (.long ((((0 : Int64) ||| ((((bt f_1) &&& (255 : Int32)).toInt64) <<< ((0 : Int32) &&& 0x3f).toInt64)) ||| ((((bt (f_1 + (1 : Int32))) &&& (255 : Int32)).toInt64) <<< ((8 : Int32) &&& 0x3f).toInt64)) ||| ((((bt ((f_1 + (1 : Int32)) + (1 : Int32))) &&& (255 : Int32)).toInt64) <<< ((16 : Int32) &&& 0x3f).toInt64))), .second, .val (.int (24 : Int32))] [(.int (255 : Int32)), (.int (bt (((f_1 + (1 : Int32)) + (1 : Int32)) + (1 : Int32)))), (.long ((((0 : Int64) ||| ((((bt f_1) &&& (255 : Int32)).toInt64) <<< ((0 : Int32) &&& 0x3f).toInt64)) ||| ((((bt (f_1 + (1 : Int32))) &&& (255 : Int32)).toInt64) <<< ((8 : Int32) &&& 0x3f).toInt64)) ||| ((((bt ((f_1 + (1 : Int32)) + (1 : Int32))) &&& (255 : Int32)).toInt64) <<< ((16 : Int32) &&& 0x3f).toInt64)))])) _
            refine XS.iand X117.here hx rfl (hb hby own_d9_68) rfl ?_
            show Steps p.tables e below (T117.setTop (mkF m 69 #[.val (.ref p_o), .val (.int i_1), .val (.long ((i_1.toInt64) * (b_1.toInt64))), .second, .val (.int ((((f_1 + (1 : Int32)) + (1 : Int32)) + (1 : Int32)) + (1 : Int32))), .val (.int s_1), .val (.long ((((0 : Int64) ||| ((((bt f_1) &&& (255 : Int32)).toInt64) <<< ((0 : Int32) &&& 0x3f).toInt64)) ||| ((((bt (f_1 + (1 : Int32))) &&& (255 : Int32)).toInt64) <<< ((8 : Int32) &&& 0x3f).toInt64)) ||| ((((bt ((f_1 + (1 : Int32)) + (1 : Int32))) &&& (255 : Int32)).toInt64) <<< ((16 : Int32) &&& 0x3f).toInt64))), .second, .val (.int (24 : Int32))] [(.int ((bt (((f_1 + (1 : Int32)) + (1 : Int32)) + (1 : Int32))) &&& (255 : Int32))), (.long ((((0 : Int64) ||| ((((bt f_1) &&& (255 : Int32)).toInt64) <<< ((0 : Int32) &&& 0x3f).toInt64)) ||| ((((bt (f_1 + (1 : Int32))) &&& (255 : Int32)).toInt64) <<< ((8 : Int32) &&& 0x3f).toInt64)) ||| ((((bt ((f_1 + (1 : Int32)) + (1 : Int32))) &&& (255 : Int32)).toInt64) <<< ((16 : Int32) &&& 0x3f).toInt64)))])) _
            refine XS.i2l X117.here hx rfl (hb hby own_d9_69) rfl ?_
            show Steps p.tables e below (T117.setTop (mkF m 70 #[.val (.ref p_o), .val (.int i_1), .val (.long ((i_1.toInt64) * (b_1.toInt64))), .second, .val (.int ((((f_1 + (1 : Int32)) + (1 : Int32)) + (1 : Int32)) + (1 : Int32))), .val (.int s_1), .val (.long ((((0 : Int64) ||| ((((bt f_1) &&& (255 : Int32)).toInt64) <<< ((0 : Int32) &&& 0x3f).toInt64)) ||| ((((bt (f_1 + (1 : Int32))) &&& (255 : Int32)).toInt64) <<< ((8 : Int32) &&& 0x3f).toInt64)) ||| ((((bt ((f_1 + (1 : Int32)) + (1 : Int32))) &&& (255 : Int32)).toInt64) <<< ((16 : Int32) &&& 0x3f).toInt64))), .second, .val (.int (24 : Int32))] [(.long (((bt (((f_1 + (1 : Int32)) + (1 : Int32)) + (1 : Int32))) &&& (255 : Int32)).toInt64)), (.long ((((0 : Int64) ||| ((((bt f_1) &&& (255 : Int32)).toInt64) <<< ((0 : Int32) &&& 0x3f).toInt64)) ||| ((((bt (f_1 + (1 : Int32))) &&& (255 : Int32)).toInt64) <<< ((8 : Int32) &&& 0x3f).toInt64)) ||| ((((bt ((f_1 + (1 : Int32)) + (1 : Int32))) &&& (255 : Int32)).toInt64) <<< ((16 : Int32) &&& 0x3f).toInt64)))])) _
            refine XS.iload X117.here hx rfl (hb hby own_d9_70) rfl ?_
            show Steps p.tables e below (T117.setTop (mkF m 72 #[.val (.ref p_o), .val (.int i_1), .val (.long ((i_1.toInt64) * (b_1.toInt64))), .second, .val (.int ((((f_1 + (1 : Int32)) + (1 : Int32)) + (1 : Int32)) + (1 : Int32))), .val (.int s_1), .val (.long ((((0 : Int64) ||| ((((bt f_1) &&& (255 : Int32)).toInt64) <<< ((0 : Int32) &&& 0x3f).toInt64)) ||| ((((bt (f_1 + (1 : Int32))) &&& (255 : Int32)).toInt64) <<< ((8 : Int32) &&& 0x3f).toInt64)) ||| ((((bt ((f_1 + (1 : Int32)) + (1 : Int32))) &&& (255 : Int32)).toInt64) <<< ((16 : Int32) &&& 0x3f).toInt64))), .second, .val (.int (24 : Int32))] [(.int (24 : Int32)), (.long (((bt (((f_1 + (1 : Int32)) + (1 : Int32)) + (1 : Int32))) &&& (255 : Int32)).toInt64)), (.long ((((0 : Int64) ||| ((((bt f_1) &&& (255 : Int32)).toInt64) <<< ((0 : Int32) &&& 0x3f).toInt64)) ||| ((((bt (f_1 + (1 : Int32))) &&& (255 : Int32)).toInt64) <<< ((8 : Int32) &&& 0x3f).toInt64)) ||| ((((bt ((f_1 + (1 : Int32)) + (1 : Int32))) &&& (255 : Int32)).toInt64) <<< ((16 : Int32) &&& 0x3f).toInt64)))])) _
            refine XS.lshl X117.here hx rfl (hb hby own_d9_72) rfl ?_
            show Steps p.tables e below (T117.setTop (mkF m 73 #[.val (.ref p_o), .val (.int i_1), .val (.long ((i_1.toInt64) * (b_1.toInt64))), .second, .val (.int ((((f_1 + (1 : Int32)) + (1 : Int32)) + (1 : Int32)) + (1 : Int32))), .val (.int s_1), .val (.long ((((0 : Int64) ||| ((((bt f_1) &&& (255 : Int32)).toInt64) <<< ((0 : Int32) &&& 0x3f).toInt64)) ||| ((((bt (f_1 + (1 : Int32))) &&& (255 : Int32)).toInt64) <<< ((8 : Int32) &&& 0x3f).toInt64)) ||| ((((bt ((f_1 + (1 : Int32)) + (1 : Int32))) &&& (255 : Int32)).toInt64) <<< ((16 : Int32) &&& 0x3f).toInt64))), .second, .val (.int (24 : Int32))] [(.long ((((bt (((f_1 + (1 : Int32)) + (1 : Int32)) + (1 : Int32))) &&& (255 : Int32)).toInt64) <<< ((24 : Int32) &&& 0x3f).toInt64)), (.long ((((0 : Int64) ||| ((((bt f_1) &&& (255 : Int32)).toInt64) <<< ((0 : Int32) &&& 0x3f).toInt64)) ||| ((((bt (f_1 + (1 : Int32))) &&& (255 : Int32)).toInt64) <<< ((8 : Int32) &&& 0x3f).toInt64)) ||| ((((bt ((f_1 + (1 : Int32)) + (1 : Int32))) &&& (255 : Int32)).toInt64) <<< ((16 : Int32) &&& 0x3f).toInt64)))])) _
            refine XS.lor X117.here hx rfl (hb hby own_d9_73) rfl ?_
            show Steps p.tables e below (T117.setTop (mkF m 74 #[.val (.ref p_o), .val (.int i_1), .val (.long ((i_1.toInt64) * (b_1.toInt64))), .second, .val (.int ((((f_1 + (1 : Int32)) + (1 : Int32)) + (1 : Int32)) + (1 : Int32))), .val (.int s_1), .val (.long ((((0 : Int64) ||| ((((bt f_1) &&& (255 : Int32)).toInt64) <<< ((0 : Int32) &&& 0x3f).toInt64)) ||| ((((bt (f_1 + (1 : Int32))) &&& (255 : Int32)).toInt64) <<< ((8 : Int32) &&& 0x3f).toInt64)) ||| ((((bt ((f_1 + (1 : Int32)) + (1 : Int32))) &&& (255 : Int32)).toInt64) <<< ((16 : Int32) &&& 0x3f).toInt64))), .second, .val (.int (24 : Int32))] [(.long (((((0 : Int64) ||| ((((bt f_1) &&& (255 : Int32)).toInt64) <<< ((0 : Int32) &&& 0x3f).toInt64)) ||| ((((bt (f_1 + (1 : Int32))) &&& (255 : Int32)).toInt64) <<< ((8 : Int32) &&& 0x3f).toInt64)) ||| ((((bt ((f_1 + (1 : Int32)) + (1 : Int32))) &&& (255 : Int32)).toInt64) <<< ((16 : Int32) &&& 0x3f).toInt64)) ||| ((((bt (((f_1 + (1 : Int32)) + (1 : Int32)) + (1 : Int32))) &&& (255 : Int32)).toInt64) <<< ((24 : Int32) &&& 0x3f).toInt64)))])) _
            refine XS.lstore X117.here hx rfl (hb hby own_d9_74) rfl (l' := #[.val (.ref p_o), .val (.int i_1), .val (.long ((i_1.toInt64) * (b_1.toInt64))), .second, .val (.int ((((f_1 + (1 : Int32)) + (1 : Int32)) + (1 : Int32)) + (1 : Int32))), .val (.int s_1), .val (.long (((((0 : Int64) ||| ((((bt f_1) &&& (255 : Int32)).toInt64) <<< ((0 : Int32) &&& 0x3f).toInt64)) ||| ((((bt (f_1 + (1 : Int32))) &&& (255 : Int32)).toInt64) <<< ((8 : Int32) &&& 0x3f).toInt64)) ||| ((((bt ((f_1 + (1 : Int32)) + (1 : Int32))) &&& (255 : Int32)).toInt64) <<< ((16 : Int32) &&& 0x3f).toInt64)) ||| ((((bt (((f_1 + (1 : Int32)) + (1 : Int32)) + (1 : Int32))) &&& (255 : Int32)).toInt64) <<< ((24 : Int32) &&& 0x3f).toInt64))), .second, .val (.int (24 : Int32))]) rfl ?_
            show Steps p.tables e below (T117.setTop (mkF m 76 #[.val (.ref p_o), .val (.int i_1), .val (.long ((i_1.toInt64) * (b_1.toInt64))), .second, .val (.int ((((f_1 + (1 : Int32)) + (1 : Int32)) + (1 : Int32)) + (1 : Int32))), .val (.int s_1), .val (.long (((((0 : Int64) ||| ((((bt f_1) &&& (255 : Int32)).toInt64) <<< ((0 : Int32) &&& 0x3f).toInt64)) ||| ((((bt (f_1 + (1 : Int32))) &&& (255 : Int32)).toInt64) <<< ((8 : Int32) &&& 0x3f).toInt64)) ||| ((((bt ((f_1 + (1 : Int32)) + (1 : Int32))) &&& (255 : Int32)).toInt64) <<< ((16 : Int32) &&& 0x3f).toInt64)) ||| ((((bt (((f_1 + (1 : Int32)) + (1 : Int32)) + (1 : Int32))) &&& (255 : Int32)).toInt64) <<< ((24 : Int32) &&& 0x3f).toInt64))), .second, .val (.int (24 : Int32))] [])) _
            refine XS.iinc X117.here hx rfl (hb hby own_d9_76) rfl (l' := #[.val (.ref p_o), .val (.int i_1), .val (.long ((i_1.toInt64) * (b_1.toInt64))), .second, .val (.int ((((f_1 + (1 : Int32)) + (1 : Int32)) + (1 : Int32)) + (1 : Int32))), .val (.int s_1), .val (.long (((((0 : Int64) ||| ((((bt f_1) &&& (255 : Int32)).toInt64) <<< ((0 : Int32) &&& 0x3f).toInt64)) ||| ((((bt (f_1 + (1 : Int32))) &&& (255 : Int32)).toInt64) <<< ((8 : Int32) &&& 0x3f).toInt64)) ||| ((((bt ((f_1 + (1 : Int32)) + (1 : Int32))) &&& (255 : Int32)).toInt64) <<< ((16 : Int32) &&& 0x3f).toInt64)) ||| ((((bt (((f_1 + (1 : Int32)) + (1 : Int32)) + (1 : Int32))) &&& (255 : Int32)).toInt64) <<< ((24 : Int32) &&& 0x3f).toInt64))), .second, .val (.int (32 : Int32))]) rfl ?_
            show Steps p.tables e below (T117.setTop (mkF m 79 #[.val (.ref p_o), .val (.int i_1), .val (.long ((i_1.toInt64) * (b_1.toInt64))), .second, .val (.int ((((f_1 + (1 : Int32)) + (1 : Int32)) + (1 : Int32)) + (1 : Int32))), .val (.int s_1), .val (.long (((((0 : Int64) ||| ((((bt f_1) &&& (255 : Int32)).toInt64) <<< ((0 : Int32) &&& 0x3f).toInt64)) ||| ((((bt (f_1 + (1 : Int32))) &&& (255 : Int32)).toInt64) <<< ((8 : Int32) &&& 0x3f).toInt64)) ||| ((((bt ((f_1 + (1 : Int32)) + (1 : Int32))) &&& (255 : Int32)).toInt64) <<< ((16 : Int32) &&& 0x3f).toInt64)) ||| ((((bt (((f_1 + (1 : Int32)) + (1 : Int32)) + (1 : Int32))) &&& (255 : Int32)).toInt64) <<< ((24 : Int32) &&& 0x3f).toInt64))), .second, .val (.int (32 : Int32))] [])) _
            refine XS.goto X117.here hx rfl (pc0 := 79) (pc' := 41) rfl (hb hby own_d9_79) (by decide) (by decide) ?_
            show Steps p.tables e below (T117.setTop (mkF m 41 #[.val (.ref p_o), .val (.int i_1), .val (.long ((i_1.toInt64) * (b_1.toInt64))), .second, .val (.int ((((f_1 + (1 : Int32)) + (1 : Int32)) + (1 : Int32)) + (1 : Int32))), .val (.int s_1), .val (.long (((((0 : Int64) ||| ((((bt f_1) &&& (255 : Int32)).toInt64) <<< ((0 : Int32) &&& 0x3f).toInt64)) ||| ((((bt (f_1 + (1 : Int32))) &&& (255 : Int32)).toInt64) <<< ((8 : Int32) &&& 0x3f).toInt64)) ||| ((((bt ((f_1 + (1 : Int32)) + (1 : Int32))) &&& (255 : Int32)).toInt64) <<< ((16 : Int32) &&& 0x3f).toInt64)) ||| ((((bt (((f_1 + (1 : Int32)) + (1 : Int32)) + (1 : Int32))) &&& (255 : Int32)).toInt64) <<< ((24 : Int32) &&& 0x3f).toInt64))), .second, .val (.int (32 : Int32))] [])) _
            refine XS.iload X117.here hx rfl (hb hby own_d9_41) rfl ?_
            show Steps p.tables e below (T117.setTop (mkF m 43 #[.val (.ref p_o), .val (.int i_1), .val (.long ((i_1.toInt64) * (b_1.toInt64))), .second, .val (.int ((((f_1 + (1 : Int32)) + (1 : Int32)) + (1 : Int32)) + (1 : Int32))), .val (.int s_1), .val (.long (((((0 : Int64) ||| ((((bt f_1) &&& (255 : Int32)).toInt64) <<< ((0 : Int32) &&& 0x3f).toInt64)) ||| ((((bt (f_1 + (1 : Int32))) &&& (255 : Int32)).toInt64) <<< ((8 : Int32) &&& 0x3f).toInt64)) ||| ((((bt ((f_1 + (1 : Int32)) + (1 : Int32))) &&& (255 : Int32)).toInt64) <<< ((16 : Int32) &&& 0x3f).toInt64)) ||| ((((bt (((f_1 + (1 : Int32)) + (1 : Int32)) + (1 : Int32))) &&& (255 : Int32)).toInt64) <<< ((24 : Int32) &&& 0x3f).toInt64))), .second, .val (.int (32 : Int32))] [(.int (32 : Int32))])) _
            refine XS.iload X117.here hx rfl (hb hby own_d9_43) rfl ?_
            show Steps p.tables e below (T117.setTop (mkF m 45 #[.val (.ref p_o), .val (.int i_1), .val (.long ((i_1.toInt64) * (b_1.toInt64))), .second, .val (.int ((((f_1 + (1 : Int32)) + (1 : Int32)) + (1 : Int32)) + (1 : Int32))), .val (.int s_1), .val (.long (((((0 : Int64) ||| ((((bt f_1) &&& (255 : Int32)).toInt64) <<< ((0 : Int32) &&& 0x3f).toInt64)) ||| ((((bt (f_1 + (1 : Int32))) &&& (255 : Int32)).toInt64) <<< ((8 : Int32) &&& 0x3f).toInt64)) ||| ((((bt ((f_1 + (1 : Int32)) + (1 : Int32))) &&& (255 : Int32)).toInt64) <<< ((16 : Int32) &&& 0x3f).toInt64)) ||| ((((bt (((f_1 + (1 : Int32)) + (1 : Int32)) + (1 : Int32))) &&& (255 : Int32)).toInt64) <<< ((24 : Int32) &&& 0x3f).toInt64))), .second, .val (.int (32 : Int32))] [(.int s_1), (.int (32 : Int32))])) _
            refine XS.aloadN X117.here hx rfl (hb hby own_d9_45) rfl rfl ?_
            show Steps p.tables e below (T117.setTop (mkF m 46 #[.val (.ref p_o), .val (.int i_1), .val (.long ((i_1.toInt64) * (b_1.toInt64))), .second, .val (.int ((((f_1 + (1 : Int32)) + (1 : Int32)) + (1 : Int32)) + (1 : Int32))), .val (.int s_1), .val (.long (((((0 : Int64) ||| ((((bt f_1) &&& (255 : Int32)).toInt64) <<< ((0 : Int32) &&& 0x3f).toInt64)) ||| ((((bt (f_1 + (1 : Int32))) &&& (255 : Int32)).toInt64) <<< ((8 : Int32) &&& 0x3f).toInt64)) ||| ((((bt ((f_1 + (1 : Int32)) + (1 : Int32))) &&& (255 : Int32)).toInt64) <<< ((16 : Int32) &&& 0x3f).toInt64)) ||| ((((bt (((f_1 + (1 : Int32)) + (1 : Int32)) + (1 : Int32))) &&& (255 : Int32)).toInt64) <<< ((24 : Int32) &&& 0x3f).toInt64))), .second, .val (.int (32 : Int32))] [(.ref p_o), (.int s_1), (.int (32 : Int32))])) _
            refine st135 _ ?_
            show Steps p.tables e below (T135.setTop (mkF m 49 #[.val (.ref p_o), .val (.int i_1), .val (.long ((i_1.toInt64) * (b_1.toInt64))), .second, .val (.int ((((f_1 + (1 : Int32)) + (1 : Int32)) + (1 : Int32)) + (1 : Int32))), .val (.int s_1), .val (.long (((((0 : Int64) ||| ((((bt f_1) &&& (255 : Int32)).toInt64) <<< ((0 : Int32) &&& 0x3f).toInt64)) ||| ((((bt (f_1 + (1 : Int32))) &&& (255 : Int32)).toInt64) <<< ((8 : Int32) &&& 0x3f).toInt64)) ||| ((((bt ((f_1 + (1 : Int32)) + (1 : Int32))) &&& (255 : Int32)).toInt64) <<< ((16 : Int32) &&& 0x3f).toInt64)) ||| ((((bt (((f_1 + (1 : Int32)) + (1 : Int32)) + (1 : Int32))) &&& (255 : Int32)).toInt64) <<< ((24 : Int32) &&& 0x3f).toInt64))), .second, .val (.int (32 : Int32))] [(.int b_1), (.int s_1), (.int (32 : Int32))])) _
            refine XS.iadd X135.here hx rfl (hb hby own_d9_49) rfl ?_
            exact kt
          by_cases hc50_139 : (32 : Int32) < (s_1 + b_1)
          · obtain ⟨T143, X143, e143, st143⟩ := getF X135 hx hZ hown (host := "") (Or.inl (hw _ (List.mem_of_getElem? (i := 38) rfl))) Via.refl e135 F_k (g := (mkF m 56 #[.val (.ref p_o), .val (.int i_1), .val (.long ((i_1.toInt64) * (b_1.toInt64))), .second, .val (.int ((((f_1 + (1 : Int32)) + (1 : Int32)) + (1 : Int32)) + (1 : Int32))), .val (.int s_1), .val (.long (((((0 : Int64) ||| ((((bt f_1) &&& (255 : Int32)).toInt64) <<< ((0 : Int32) &&& 0x3f).toInt64)) ||| ((((bt (f_1 + (1 : Int32))) &&& (255 : Int32)).toInt64) <<< ((8 : Int32) &&& 0x3f).toInt64)) ||| ((((bt ((f_1 + (1 : Int32)) + (1 : Int32))) &&& (255 : Int32)).toInt64) <<< ((16 : Int32) &&& 0x3f).toInt64)) ||| ((((bt (((f_1 + (1 : Int32)) + (1 : Int32)) + (1 : Int32))) &&& (255 : Int32)).toInt64) <<< ((24 : Int32) &&& 0x3f).toInt64))), .second, .val (.int (32 : Int32))] [(.ref p_o), (.long (((((0 : Int64) ||| ((((bt f_1) &&& (255 : Int32)).toInt64) <<< ((0 : Int32) &&& 0x3f).toInt64)) ||| ((((bt (f_1 + (1 : Int32))) &&& (255 : Int32)).toInt64) <<< ((8 : Int32) &&& 0x3f).toInt64)) ||| ((((bt ((f_1 + (1 : Int32)) + (1 : Int32))) &&& (255 : Int32)).toInt64) <<< ((16 : Int32) &&& 0x3f).toInt64)) ||| ((((bt (((f_1 + (1 : Int32)) + (1 : Int32)) + (1 : Int32))) &&& (255 : Int32)).toInt64) <<< ((24 : Int32) &&& 0x3f).toInt64)))])) rfl rfl (hb hby own_d9_56)
            obtain ⟨cl147, Ar147, q147, S147, M147, H147, G147⟩ := id V_r
            have hin147 : ¬ (((((f_1 + (1 : Int32)) + (1 : Int32)) + (1 : Int32)) + (1 : Int32)) < 0 ∨ cl147.slots.size ≤ (((((f_1 + (1 : Int32)) + (1 : Int32)) + (1 : Int32)) + (1 : Int32))).toNatClampNeg) := inb_of S147 (hin4_ hc50_139)
            have hat147 : cl147.slots[(((((f_1 + (1 : Int32)) + (1 : Int32)) + (1 : Int32)) + (1 : Int32))).toNatClampNeg]? = some (.int (bt ((((f_1 + (1 : Int32)) + (1 : Int32)) + (1 : Int32)) + (1 : Int32)))) := H147.at hin147 (hbt _ (hin4_ hc50_139))
            obtain ⟨T161, X161, e161, st161⟩ := getF X143 hx hZ hown (host := "") (Or.inl (hw _ (List.mem_of_getElem? (i := 60) rfl))) Via.refl e143 F_b (g := (mkF m 46 #[.val (.ref p_o), .val (.int i_1), .val (.long ((i_1.toInt64) * (b_1.toInt64))), .second, .val (.int (((((f_1 + (1 : Int32)) + (1 : Int32)) + (1 : Int32)) + (1 : Int32)) + (1 : Int32))), .val (.int s_1), .val (.long ((((((0 : Int64) ||| ((((bt f_1) &&& (255 : Int32)).toInt64) <<< ((0 : Int32) &&& 0x3f).toInt64)) ||| ((((bt (f_1 + (1 : Int32))) &&& (255 : Int32)).toInt64) <<< ((8 : Int32) &&& 0x3f).toInt64)) ||| ((((bt ((f_1 + (1 : Int32)) + (1 : Int32))) &&& (255 : Int32)).toInt64) <<< ((16 : Int32) &&& 0x3f).toInt64)) ||| ((((bt (((f_1 + (1 : Int32)) + (1 : Int32)) + (1 : Int32))) &&& (255 : Int32)).toInt64) <<< ((24 : Int32) &&& 0x3f).toInt64)) ||| ((((bt ((((f_1 + (1 : Int32)) + (1 : Int32)) + (1 : Int32)) + (1 : Int32))) &&& (255 : Int32)).toInt64) <<< ((32 : Int32) &&& 0x3f).toInt64))), .second, .val (.int (40 : Int32))] [(.ref p_o), (.int s_1), (.int (40 : Int32))])) rfl rfl (hb hby own_d9_46)
            obtain ⟨T170, X170, e170, st170⟩ := getF X161 hx hZ hown (host := "") (Or.inl (hw _ (List.mem_of_getElem? (i := 60) rfl))) Via.refl e161 F_b (g := (mkF m 89 #[.val (.ref p_o), .val (.int i_1), .val (.long ((i_1.toInt64) * (b_1.toInt64))), .second, .val (.int (((((f_1 + (1 : Int32)) + (1 : Int32)) + (1 : Int32)) + (1 : Int32)) + (1 : Int32))), .val (.int s_1), .val (.long ((((((0 : Int64) ||| ((((bt f_1) &&& (255 : Int32)).toInt64) <<< ((0 : Int32) &&& 0x3f).toInt64)) ||| ((((bt (f_1 + (1 : Int32))) &&& (255 : Int32)).toInt64) <<< ((8 : Int32) &&& 0x3f).toInt64)) ||| ((((bt ((f_1 + (1 : Int32)) + (1 : Int32))) &&& (255 : Int32)).toInt64) <<< ((16 : Int32) &&& 0x3f).toInt64)) ||| ((((bt (((f_1 + (1 : Int32)) + (1 : Int32)) + (1 : Int32))) &&& (255 : Int32)).toInt64) <<< ((24 : Int32) &&& 0x3f).toInt64)) ||| ((((bt ((((f_1 + (1 : Int32)) + (1 : Int32)) + (1 : Int32)) + (1 : Int32))) &&& (255 : Int32)).toInt64) <<< ((32 : Int32) &&& 0x3f).toInt64))), .second, .val (.int (40 : Int32))] [(.ref p_o), (.long (1 : Int64)), (.long ((((((((0 : Int64) ||| ((((bt f_1) &&& (255 : Int32)).toInt64) <<< ((0 : Int32) &&& 0x3f).toInt64)) ||| ((((bt (f_1 + (1 : Int32))) &&& (255 : Int32)).toInt64) <<< ((8 : Int32) &&& 0x3f).toInt64)) ||| ((((bt ((f_1 + (1 : Int32)) + (1 : Int32))) &&& (255 : Int32)).toInt64) <<< ((16 : Int32) &&& 0x3f).toInt64)) ||| ((((bt (((f_1 + (1 : Int32)) + (1 : Int32)) + (1 : Int32))) &&& (255 : Int32)).toInt64) <<< ((24 : Int32) &&& 0x3f).toInt64)) ||| ((((bt ((((f_1 + (1 : Int32)) + (1 : Int32)) + (1 : Int32)) + (1 : Int32))) &&& (255 : Int32)).toInt64) <<< ((32 : Int32) &&& 0x3f).toInt64)).toUInt64 >>> (s_1 &&& 0x3f).toInt64.toUInt64).toInt64))])) rfl rfl (hb hby own_d9_89)
            obtain ⟨fs, hr, hrun, hended, hW, hsame⟩ := X170.leave (v := some (.int ((((((((((0 : Int64) ||| ((((bt f_1) &&& (255 : Int32)).toInt64) <<< ((0 : Int32) &&& 0x3f).toInt64)) ||| ((((bt (f_1 + (1 : Int32))) &&& (255 : Int32)).toInt64) <<< ((8 : Int32) &&& 0x3f).toInt64)) ||| ((((bt ((f_1 + (1 : Int32)) + (1 : Int32))) &&& (255 : Int32)).toInt64) <<< ((16 : Int32) &&& 0x3f).toInt64)) ||| ((((bt (((f_1 + (1 : Int32)) + (1 : Int32)) + (1 : Int32))) &&& (255 : Int32)).toInt64) <<< ((24 : Int32) &&& 0x3f).toInt64)) ||| ((((bt ((((f_1 + (1 : Int32)) + (1 : Int32)) + (1 : Int32)) + (1 : Int32))) &&& (255 : Int32)).toInt64) <<< ((32 : Int32) &&& 0x3f).toInt64)).toUInt64 >>> (s_1 &&& 0x3f).toInt64.toUInt64).toInt64) &&& (((1 : Int64) <<< (b_1 &&& 0x3f).toInt64) - (1 : Int64))).toInt32))) (fun h => by rw [Bd.returns] at h; cases h) (hlocks := BodyLoose.notSynchronized Bd)
            refine ⟨_, _, pre138 _ ?_, hrun, hended, _, _, rfl, ?_, ⟨_, rfl⟩, hW, hsame.mono (by decide) (by decide)⟩
            · show Steps p.tables e below (T135.setTop (mkF m 50 #[.val (.ref p_o), .val (.int i_1), .val (.long ((i_1.toInt64) * (b_1.toInt64))), .second, .val (.int ((((f_1 + (1 : Int32)) + (1 : Int32)) + (1 : Int32)) + (1 : Int32))), .val (.int s_1), .val (.long (((((0 : Int64) ||| ((((bt f_1) &&& (255 : Int32)).toInt64) <<< ((0 : Int32) &&& 0x3f).toInt64)) ||| ((((bt (f_1 + (1 : Int32))) &&& (255 : Int32)).toInt64) <<< ((8 : Int32) &&& 0x3f).toInt64)) ||| ((((bt ((f_1 + (1 : Int32)) + (1 : Int32))) &&& (255 : Int32)).toInt64) <<< ((16 : Int32) &&& 0x3f).toInt64)) ||| ((((bt (((f_1 + (1 : Int32)) + (1 : Int32)) + (1 : Int32))) &&& (255 : Int32)).toInt64) <<< ((24 : Int32) &&& 0x3f).toInt64))), .second, .val (.int (32 : Int32))] [(.int (s_1 + b_1)), (.int (32 : Int32))])) _
              refine XS.icmpNo X135.here hx rfl (hb hby own_d9_50) rfl (tlt hc50_139).2.1 ?_
              show Steps p.tables e below (T135.setTop (mkF m 53 #[.val (.ref p_o), .val (.int i_1), .val (.long ((i_1.toInt64) * (b_1.toInt64))), .second, .val (.int ((((f_1 + (1 : Int32)) + (1 : Int32)) + (1 : Int32)) + (1 : Int32))), .val (.int s_1), .val (.long (((((0 : Int64) ||| ((((bt f_1) &&& (255 : Int32)).toInt64) <<< ((0 : Int32) &&& 0x3f).toInt64)) ||| ((((bt (f_1 + (1 : Int32))) &&& (255 : Int32)).toInt64) <<< ((8 : Int32) &&& 0x3f).toInt64)) ||| ((((bt ((f_1 + (1 : Int32)) + (1 : Int32))) &&& (255 : Int32)).toInt64) <<< ((16 : Int32) &&& 0x3f).toInt64)) ||| ((((bt (((f_1 + (1 : Int32)) + (1 : Int32)) + (1 : Int32))) &&& (255 : Int32)).toInt64) <<< ((24 : Int32) &&& 0x3f).toInt64))), .second, .val (.int (32 : Int32))] [])) _
              refine XS.lload X135.here hx rfl (hb hby own_d9_53) rfl ?_
              show Steps p.tables e below (T135.setTop (mkF m 55 #[.val (.ref p_o), .val (.int i_1), .val (.long ((i_1.toInt64) * (b_1.toInt64))), .second, .val (.int ((((f_1 + (1 : Int32)) + (1 : Int32)) + (1 : Int32)) + (1 : Int32))), .val (.int s_1), .val (.long (((((0 : Int64) ||| ((((bt f_1) &&& (255 : Int32)).toInt64) <<< ((0 : Int32) &&& 0x3f).toInt64)) ||| ((((bt (f_1 + (1 : Int32))) &&& (255 : Int32)).toInt64) <<< ((8 : Int32) &&& 0x3f).toInt64)) ||| ((((bt ((f_1 + (1 : Int32)) + (1 : Int32))) &&& (255 : Int32)).toInt64) <<< ((16 : Int32) &&& 0x3f).toInt64)) ||| ((((bt (((f_1 + (1 : Int32)) + (1 : Int32)) + (1 : Int32))) &&& (255 : Int32)).toInt64) <<< ((24 : Int32) &&& 0x3f).toInt64))), .second, .val (.int (32 : Int32))] [(.long (((((0 : Int64) ||| ((((bt f_1) &&& (255 : Int32)).toInt64) <<< ((0 : Int32) &&& 0x3f).toInt64)) ||| ((((bt (f_1 + (1 : Int32))) &&& (255 : Int32)).toInt64) <<< ((8 : Int32) &&& 0x3f).toInt64)) ||| ((((bt ((f_1 + (1 : Int32)) + (1 : Int32))) &&& (255 : Int32)).toInt64) <<< ((16 : Int32) &&& 0x3f).toInt64)) ||| ((((bt (((f_1 + (1 : Int32)) + (1 : Int32)) + (1 : Int32))) &&& (255 : Int32)).toInt64) <<< ((24 : Int32) &&& 0x3f).toInt64)))])) _
              refine XS.aloadN X135.here hx rfl (hb hby own_d9_55) rfl rfl ?_
              show Steps p.tables e below (T135.setTop (mkF m 56 #[.val (.ref p_o), .val (.int i_1), .val (.long ((i_1.toInt64) * (b_1.toInt64))), .second, .val (.int ((((f_1 + (1 : Int32)) + (1 : Int32)) + (1 : Int32)) + (1 : Int32))), .val (.int s_1), .val (.long (((((0 : Int64) ||| ((((bt f_1) &&& (255 : Int32)).toInt64) <<< ((0 : Int32) &&& 0x3f).toInt64)) ||| ((((bt (f_1 + (1 : Int32))) &&& (255 : Int32)).toInt64) <<< ((8 : Int32) &&& 0x3f).toInt64)) ||| ((((bt ((f_1 + (1 : Int32)) + (1 : Int32))) &&& (255 : Int32)).toInt64) <<< ((16 : Int32) &&& 0x3f).toInt64)) ||| ((((bt (((f_1 + (1 : Int32)) + (1 : Int32)) + (1 : Int32))) &&& (255 : Int32)).toInt64) <<< ((24 : Int32) &&& 0x3f).toInt64))), .second, .val (.int (32 : Int32))] [(.ref p_o), (.long (((((0 : Int64) ||| ((((bt f_1) &&& (255 : Int32)).toInt64) <<< ((0 : Int32) &&& 0x3f).toInt64)) ||| ((((bt (f_1 + (1 : Int32))) &&& (255 : Int32)).toInt64) <<< ((8 : Int32) &&& 0x3f).toInt64)) ||| ((((bt ((f_1 + (1 : Int32)) + (1 : Int32))) &&& (255 : Int32)).toInt64) <<< ((16 : Int32) &&& 0x3f).toInt64)) ||| ((((bt (((f_1 + (1 : Int32)) + (1 : Int32)) + (1 : Int32))) &&& (255 : Int32)).toInt64) <<< ((24 : Int32) &&& 0x3f).toInt64)))])) _
              refine st143 _ ?_
              show Steps p.tables e below (T143.setTop (mkF m 59 #[.val (.ref p_o), .val (.int i_1), .val (.long ((i_1.toInt64) * (b_1.toInt64))), .second, .val (.int ((((f_1 + (1 : Int32)) + (1 : Int32)) + (1 : Int32)) + (1 : Int32))), .val (.int s_1), .val (.long (((((0 : Int64) ||| ((((bt f_1) &&& (255 : Int32)).toInt64) <<< ((0 : Int32) &&& 0x3f).toInt64)) ||| ((((bt (f_1 + (1 : Int32))) &&& (255 : Int32)).toInt64) <<< ((8 : Int32) &&& 0x3f).toInt64)) ||| ((((bt ((f_1 + (1 : Int32)) + (1 : Int32))) &&& (255 : Int32)).toInt64) <<< ((16 : Int32) &&& 0x3f).toInt64)) ||| ((((bt (((f_1 + (1 : Int32)) + (1 : Int32)) + (1 : Int32))) &&& (255 : Int32)).toInt64) <<< ((24 : Int32) &&& 0x3f).toInt64))), .second, .val (.int (32 : Int32))] [(.ref r_o), (.long (((((0 : Int64) ||| ((((bt f_1) &&& (255 : Int32)).toInt64) <<< ((0 : Int32) &&& 0x3f).toInt64)) ||| ((((bt (f_1 + (1 : Int32))) &&& (255 : Int32)).toInt64) <<< ((8 : Int32) &&& 0x3f).toInt64)) ||| ((((bt ((f_1 + (1 : Int32)) + (1 : Int32))) &&& (255 : Int32)).toInt64) <<< ((16 : Int32) &&& 0x3f).toInt64)) ||| ((((bt (((f_1 + (1 : Int32)) + (1 : Int32)) + (1 : Int32))) &&& (255 : Int32)).toInt64) <<< ((24 : Int32) &&& 0x3f).toInt64)))])) _
              refine XS.iload X143.here hx rfl (hb hby own_d9_59) rfl ?_
              show Steps p.tables e below (T143.setTop (mkF m 61 #[.val (.ref p_o), .val (.int i_1), .val (.long ((i_1.toInt64) * (b_1.toInt64))), .second, .val (.int ((((f_1 + (1 : Int32)) + (1 : Int32)) + (1 : Int32)) + (1 : Int32))), .val (.int s_1), .val (.long (((((0 : Int64) ||| ((((bt f_1) &&& (255 : Int32)).toInt64) <<< ((0 : Int32) &&& 0x3f).toInt64)) ||| ((((bt (f_1 + (1 : Int32))) &&& (255 : Int32)).toInt64) <<< ((8 : Int32) &&& 0x3f).toInt64)) ||| ((((bt ((f_1 + (1 : Int32)) + (1 : Int32))) &&& (255 : Int32)).toInt64) <<< ((16 : Int32) &&& 0x3f).toInt64)) ||| ((((bt (((f_1 + (1 : Int32)) + (1 : Int32)) + (1 : Int32))) &&& (255 : Int32)).toInt64) <<< ((24 : Int32) &&& 0x3f).toInt64))), .second, .val (.int (32 : Int32))] [(.int ((((f_1 + (1 : Int32)) + (1 : Int32)) + (1 : Int32)) + (1 : Int32))), (.ref r_o), (.long (((((0 : Int64) ||| ((((bt f_1) &&& (255 : Int32)).toInt64) <<< ((0 : Int32) &&& 0x3f).toInt64)) ||| ((((bt (f_1 + (1 : Int32))) &&& (255 : Int32)).toInt64) <<< ((8 : Int32) &&& 0x3f).toInt64)) ||| ((((bt ((f_1 + (1 : Int32)) + (1 : Int32))) &&& (255 : Int32)).toInt64) <<< ((16 : Int32) &&& 0x3f).toInt64)) ||| ((((bt (((f_1 + (1 : Int32)) + (1 : Int32)) + (1 : Int32))) &&& (255 : Int32)).toInt64) <<< ((24 : Int32) &&& 0x3f).toInt64)))])) _
              refine XS.iinc X143.here hx rfl (hb hby own_d9_61) rfl (l' := #[.val (.ref p_o), .val (.int i_1), .val (.long ((i_1.toInt64) * (b_1.toInt64))), .second, .val (.int (((((f_1 + (1 : Int32)) + (1 : Int32)) + (1 : Int32)) + (1 : Int32)) + (1 : Int32))), .val (.int s_1), .val (.long (((((0 : Int64) ||| ((((bt f_1) &&& (255 : Int32)).toInt64) <<< ((0 : Int32) &&& 0x3f).toInt64)) ||| ((((bt (f_1 + (1 : Int32))) &&& (255 : Int32)).toInt64) <<< ((8 : Int32) &&& 0x3f).toInt64)) ||| ((((bt ((f_1 + (1 : Int32)) + (1 : Int32))) &&& (255 : Int32)).toInt64) <<< ((16 : Int32) &&& 0x3f).toInt64)) ||| ((((bt (((f_1 + (1 : Int32)) + (1 : Int32)) + (1 : Int32))) &&& (255 : Int32)).toInt64) <<< ((24 : Int32) &&& 0x3f).toInt64))), .second, .val (.int (32 : Int32))]) rfl ?_
              show Steps p.tables e below (T143.setTop (mkF m 64 #[.val (.ref p_o), .val (.int i_1), .val (.long ((i_1.toInt64) * (b_1.toInt64))), .second, .val (.int (((((f_1 + (1 : Int32)) + (1 : Int32)) + (1 : Int32)) + (1 : Int32)) + (1 : Int32))), .val (.int s_1), .val (.long (((((0 : Int64) ||| ((((bt f_1) &&& (255 : Int32)).toInt64) <<< ((0 : Int32) &&& 0x3f).toInt64)) ||| ((((bt (f_1 + (1 : Int32))) &&& (255 : Int32)).toInt64) <<< ((8 : Int32) &&& 0x3f).toInt64)) ||| ((((bt ((f_1 + (1 : Int32)) + (1 : Int32))) &&& (255 : Int32)).toInt64) <<< ((16 : Int32) &&& 0x3f).toInt64)) ||| ((((bt (((f_1 + (1 : Int32)) + (1 : Int32)) + (1 : Int32))) &&& (255 : Int32)).toInt64) <<< ((24 : Int32) &&& 0x3f).toInt64))), .second, .val (.int (32 : Int32))] [(.int ((((f_1 + (1 : Int32)) + (1 : Int32)) + (1 : Int32)) + (1 : Int32))), (.ref r_o), (.long (((((0 : Int64) ||| ((((bt f_1) &&& (255 : Int32)).toInt64) <<< ((0 : Int32) &&& 0x3f).toInt64)) ||| ((((bt (f_1 + (1 : Int32))) &&& (255 : Int32)).toInt64) <<< ((8 : Int32) &&& 0x3f).toInt64)) ||| ((((bt ((f_1 + (1 : Int32)) + (1 : Int32))) &&& (255 : Int32)).toInt64) <<< ((16 : Int32) &&& 0x3f).toInt64)) ||| ((((bt (((f_1 + (1 : Int32)) + (1 : Int32)) + (1 : Int32))) &&& (255 : Int32)).toInt64) <<< ((24 : Int32) &&& 0x3f).toInt64)))])) _
              refine X143.baloadBytes hx (j := ((((f_1 + (1 : Int32)) + (1 : Int32)) + (1 : Int32)) + (1 : Int32))) (v := (.int (bt ((((f_1 + (1 : Int32)) + (1 : Int32)) + (1 : Int32)) + (1 : Int32))))) (by rw [e143]; exact Ar147.1) (State.isArrayOf_alike hZ.alike Ar147.2.1) Ar147.2.2 hin147 hat147 (g := (mkF m 64 #[.val (.ref p_o), .val (.int i_1), .val (.long ((i_1.toInt64) * (b_1.toInt64))), .second, .val (.int (((((f_1 + (1 : Int32)) + (1 : Int32)) + (1 : Int32)) + (1 : Int32)) + (1 : Int32))), .val (.int s_1), .val (.long (((((0 : Int64) ||| ((((bt f_1) &&& (255 : Int32)).toInt64) <<< ((0 : Int32) &&& 0x3f).toInt64)) ||| ((((bt (f_1 + (1 : Int32))) &&& (255 : Int32)).toInt64) <<< ((8 : Int32) &&& 0x3f).toInt64)) ||| ((((bt ((f_1 + (1 : Int32)) + (1 : Int32))) &&& (255 : Int32)).toInt64) <<< ((16 : Int32) &&& 0x3f).toInt64)) ||| ((((bt (((f_1 + (1 : Int32)) + (1 : Int32)) + (1 : Int32))) &&& (255 : Int32)).toInt64) <<< ((24 : Int32) &&& 0x3f).toInt64))), .second, .val (.int (32 : Int32))] [(.int ((((f_1 + (1 : Int32)) + (1 : Int32)) + (1 : Int32)) + (1 : Int32))), (.ref r_o), (.long (((((0 : Int64) ||| ((((bt f_1) &&& (255 : Int32)).toInt64) <<< ((0 : Int32) &&& 0x3f).toInt64)) ||| ((((bt (f_1 + (1 : Int32))) &&& (255 : Int32)).toInt64) <<< ((8 : Int32) &&& 0x3f).toInt64)) ||| ((((bt ((f_1 + (1 : Int32)) + (1 : Int32))) &&& (255 : Int32)).toInt64) <<< ((16 : Int32) &&& 0x3f).toInt64)) ||| ((((bt (((f_1 + (1 : Int32)) + (1 : Int32)) + (1 : Int32))) &&& (255 : Int32)).toInt64) <<< ((24 : Int32) &&& 0x3f).toInt64)))])) rfl rfl (hb hby own_d9_64) _ ?_
              show Steps p.tables e below (T143.setTop (mkF m 65 #[.val (.ref p_o), .val (.int i_1), .val (.long ((i_1.toInt64) * (b_1.toInt64))), .second, .val (.int (((((f_1 + (1 : Int32)) + (1 : Int32)) + (1 : Int32)) + (1 : Int32)) + (1 : Int32))), .val (.int s_1), .val (.long (((((0 : Int64) ||| ((((bt f_1) &&& (255 : Int32)).toInt64) <<< ((0 : Int32) &&& 0x3f).toInt64)) ||| ((((bt (f_1 + (1 : Int32))) &&& (255 : Int32)).toInt64) <<< ((8 : Int32) &&& 0x3f).toInt64)) ||| ((((bt ((f_1 + (1 : Int32)) + (1 : Int32))) &&& (255 : Int32)).toInt64) <<< ((16 : Int32) &&& 0x3f).toInt64)) ||| ((((bt (((f_1 + (1 : Int32)) + (1 : Int32)) + (1 : Int32))) &&& (255 : Int32)).toInt64) <<< ((24 : Int32) &&& 0x3f).toInt64))), .second, .val (.int (32 : Int32))] [(.int (bt ((((f_1 + (1 : Int32)) + (1 : Int32)) + (1 : Int32)) + (1 : Int32)))), (.long (((((0 : Int64) ||| ((((bt f_1) &&& (255 : Int32)).toInt64) <<< ((0 : Int32) &&& 0x3f).toInt64)) ||| ((((bt (f_1 + (1 : Int32))) &&& (255 : Int32)).toInt64) <<< ((8 : Int32) &&& 0x3f).toInt64)) ||| ((((bt ((f_1 + (1 : Int32)) + (1 : Int32))) &&& (255 : Int32)).toInt64) <<< ((16 : Int32) &&& 0x3f).toInt64)) ||| ((((bt (((f_1 + (1 : Int32)) + (1 : Int32)) + (1 : Int32))) &&& (255 : Int32)).toInt64) <<< ((24 : Int32) &&& 0x3f).toInt64)))])) _
              refine XS.sipush X143.here hx rfl (hb hby own_d9_65) ?_
              show Steps p.tables e below (T143.setTop (mkF m 68 #[.val (.ref p_o), .val (.int i_1), .val (.long ((i_1.toInt64) * (b_1.toInt64))), .second, .val (.int (((((f_1 + (1 : Int32)) + (1 : Int32)) + (1 : Int32)) + (1 : Int32)) + (1 : Int32))), .val (.int s_1), .val (.long (((((0 : Int64) ||| ((((bt f_1) &&& (255 : Int32)).toInt64) <<< ((0 : Int32) &&& 0x3f).toInt64)) ||| ((((bt (f_1 + (1 : Int32))) &&& (255 : Int32)).toInt64) <<< ((8 : Int32) &&& 0x3f).toInt64)) ||| ((((bt ((f_1 + (1 : Int32)) + (1 : Int32))) &&& (255 : Int32)).toInt64) <<< ((16 : Int32) &&& 0x3f).toInt64)) ||| ((((bt (((f_1 + (1 : Int32)) + (1 : Int32)) + (1 : Int32))) &&& (255 : Int32)).toInt64) <<< ((24 : Int32) &&& 0x3f).toInt64))), .second, .val (.int (32 : Int32))] [(.int (255 : Int32)), (.int (bt ((((f_1 + (1 : Int32)) + (1 : Int32)) + (1 : Int32)) + (1 : Int32)))), (.long (((((0 : Int64) ||| ((((bt f_1) &&& (255 : Int32)).toInt64) <<< ((0 : Int32) &&& 0x3f).toInt64)) ||| ((((bt (f_1 + (1 : Int32))) &&& (255 : Int32)).toInt64) <<< ((8 : Int32) &&& 0x3f).toInt64)) ||| ((((bt ((f_1 + (1 : Int32)) + (1 : Int32))) &&& (255 : Int32)).toInt64) <<< ((16 : Int32) &&& 0x3f).toInt64)) ||| ((((bt (((f_1 + (1 : Int32)) + (1 : Int32)) + (1 : Int32))) &&& (255 : Int32)).toInt64) <<< ((24 : Int32) &&& 0x3f).toInt64)))])) _
              refine XS.iand X143.here hx rfl (hb hby own_d9_68) rfl ?_
              show Steps p.tables e below (T143.setTop (mkF m 69 #[.val (.ref p_o), .val (.int i_1), .val (.long ((i_1.toInt64) * (b_1.toInt64))), .second, .val (.int (((((f_1 + (1 : Int32)) + (1 : Int32)) + (1 : Int32)) + (1 : Int32)) + (1 : Int32))), .val (.int s_1), .val (.long (((((0 : Int64) ||| ((((bt f_1) &&& (255 : Int32)).toInt64) <<< ((0 : Int32) &&& 0x3f).toInt64)) ||| ((((bt (f_1 + (1 : Int32))) &&& (255 : Int32)).toInt64) <<< ((8 : Int32) &&& 0x3f).toInt64)) ||| ((((bt ((f_1 + (1 : Int32)) + (1 : Int32))) &&& (255 : Int32)).toInt64) <<< ((16 : Int32) &&& 0x3f).toInt64)) ||| ((((bt (((f_1 + (1 : Int32)) + (1 : Int32)) + (1 : Int32))) &&& (255 : Int32)).toInt64) <<< ((24 : Int32) &&& 0x3f).toInt64))), .second, .val (.int (32 : Int32))] [(.int ((bt ((((f_1 + (1 : Int32)) + (1 : Int32)) + (1 : Int32)) + (1 : Int32))) &&& (255 : Int32))), (.long (((((0 : Int64) ||| ((((bt f_1) &&& (255 : Int32)).toInt64) <<< ((0 : Int32) &&& 0x3f).toInt64)) ||| ((((bt (f_1 + (1 : Int32))) &&& (255 : Int32)).toInt64) <<< ((8 : Int32) &&& 0x3f).toInt64)) ||| ((((bt ((f_1 + (1 : Int32)) + (1 : Int32))) &&& (255 : Int32)).toInt64) <<< ((16 : Int32) &&& 0x3f).toInt64)) ||| ((((bt (((f_1 + (1 : Int32)) + (1 : Int32)) + (1 : Int32))) &&& (255 : Int32)).toInt64) <<< ((24 : Int32) &&& 0x3f).toInt64)))])) _
              refine XS.i2l X143.here hx rfl (hb hby own_d9_69) rfl ?_
              show Steps p.tables e below (T143.setTop (mkF m 70 #[.val (.ref p_o), .val (.int i_1), .val (.long ((i_1.toInt64) * (b_1.toInt64))), .second, .val (.int (((((f_1 + (1 : Int32)) + (1 : Int32)) + (1 : Int32)) + (1 : Int32)) + (1 : Int32))), .val (.int s_1), .val (.long (((((0 : Int64) ||| ((((bt f_1) &&& (255 : Int32)).toInt64) <<< ((0 : Int32) &&& 0x3f).toInt64)) ||| ((((bt (f_1 + (1 : Int32))) &&& (255 : Int32)).toInt64) <<< ((8 : Int32) &&& 0x3f).toInt64)) ||| ((((bt ((f_1 + (1 : Int32)) + (1 : Int32))) &&& (255 : Int32)).toInt64) <<< ((16 : Int32) &&& 0x3f).toInt64)) ||| ((((bt (((f_1 + (1 : Int32)) + (1 : Int32)) + (1 : Int32))) &&& (255 : Int32)).toInt64) <<< ((24 : Int32) &&& 0x3f).toInt64))), .second, .val (.int (32 : Int32))] [(.long (((bt ((((f_1 + (1 : Int32)) + (1 : Int32)) + (1 : Int32)) + (1 : Int32))) &&& (255 : Int32)).toInt64)), (.long (((((0 : Int64) ||| ((((bt f_1) &&& (255 : Int32)).toInt64) <<< ((0 : Int32) &&& 0x3f).toInt64)) ||| ((((bt (f_1 + (1 : Int32))) &&& (255 : Int32)).toInt64) <<< ((8 : Int32) &&& 0x3f).toInt64)) ||| ((((bt ((f_1 + (1 : Int32)) + (1 : Int32))) &&& (255 : Int32)).toInt64) <<< ((16 : Int32) &&& 0x3f).toInt64)) ||| ((((bt (((f_1 + (1 : Int32)) + (1 : Int32)) + (1 : Int32))) &&& (255 : Int32)).toInt64) <<< ((24 : Int32) &&& 0x3f).toInt64)))])) _
              refine XS.iload X143.here hx rfl (hb hby own_d9_70) rfl ?_
              show Steps p.tables e below (T143.setTop (mkF m 72 #[.val (.ref p_o), .val (.int i_1), .val (.long ((i_1.toInt64) * (b_1.toInt64))), .second, .val (.int (((((f_1 + (1 : Int32)) + (1 : Int32)) + (1 : Int32)) + (1 : Int32)) + (1 : Int32))), .val (.int s_1), .val (.long (((((0 : Int64) ||| ((((bt f_1) &&& (255 : Int32)).toInt64) <<< ((0 : Int32) &&& 0x3f).toInt64)) ||| ((((bt (f_1 + (1 : Int32))) &&& (255 : Int32)).toInt64) <<< ((8 : Int32) &&& 0x3f).toInt64)) ||| ((((bt ((f_1 + (1 : Int32)) + (1 : Int32))) &&& (255 : Int32)).toInt64) <<< ((16 : Int32) &&& 0x3f).toInt64)) ||| ((((bt (((f_1 + (1 : Int32)) + (1 : Int32)) + (1 : Int32))) &&& (255 : Int32)).toInt64) <<< ((24 : Int32) &&& 0x3f).toInt64))), .second, .val (.int (32 : Int32))] [(.int (32 : Int32)), (.long (((bt ((((f_1 + (1 : Int32)) + (1 : Int32)) + (1 : Int32)) + (1 : Int32))) &&& (255 : Int32)).toInt64)), (.long (((((0 : Int64) ||| ((((bt f_1) &&& (255 : Int32)).toInt64) <<< ((0 : Int32) &&& 0x3f).toInt64)) ||| ((((bt (f_1 + (1 : Int32))) &&& (255 : Int32)).toInt64) <<< ((8 : Int32) &&& 0x3f).toInt64)) ||| ((((bt ((f_1 + (1 : Int32)) + (1 : Int32))) &&& (255 : Int32)).toInt64) <<< ((16 : Int32) &&& 0x3f).toInt64)) ||| ((((bt (((f_1 + (1 : Int32)) + (1 : Int32)) + (1 : Int32))) &&& (255 : Int32)).toInt64) <<< ((24 : Int32) &&& 0x3f).toInt64)))])) _
              refine XS.lshl X143.here hx rfl (hb hby own_d9_72) rfl ?_
              show Steps p.tables e below (T143.setTop (mkF m 73 #[.val (.ref p_o), .val (.int i_1), .val (.long ((i_1.toInt64) * (b_1.toInt64))), .second, .val (.int (((((f_1 + (1 : Int32)) + (1 : Int32)) + (1 : Int32)) + (1 : Int32)) + (1 : Int32))), .val (.int s_1), .val (.long (((((0 : Int64) ||| ((((bt f_1) &&& (255 : Int32)).toInt64) <<< ((0 : Int32) &&& 0x3f).toInt64)) ||| ((((bt (f_1 + (1 : Int32))) &&& (255 : Int32)).toInt64) <<< ((8 : Int32) &&& 0x3f).toInt64)) ||| ((((bt ((f_1 + (1 : Int32)) + (1 : Int32))) &&& (255 : Int32)).toInt64) <<< ((16 : Int32) &&& 0x3f).toInt64)) ||| ((((bt (((f_1 + (1 : Int32)) + (1 : Int32)) + (1 : Int32))) &&& (255 : Int32)).toInt64) <<< ((24 : Int32) &&& 0x3f).toInt64))), .second, .val (.int (32 : Int32))] [(.long ((((bt ((((f_1 + (1 : Int32)) + (1 : Int32)) + (1 : Int32)) + (1 : Int32))) &&& (255 : Int32)).toInt64) <<< ((32 : Int32) &&& 0x3f).toInt64)), (.long (((((0 : Int64) ||| ((((bt f_1) &&& (255 : Int32)).toInt64) <<< ((0 : Int32) &&& 0x3f).toInt64)) ||| ((((bt (f_1 + (1 : Int32))) &&& (255 : Int32)).toInt64) <<< ((8 : Int32) &&& 0x3f).toInt64)) ||| ((((bt ((f_1 + (1 : Int32)) + (1 : Int32))) &&& (255 : Int32)).toInt64) <<< ((16 : Int32) &&& 0x3f).toInt64)) ||| ((((bt (((f_1 + (1 : Int32)) + (1 : Int32)) + (1 : Int32))) &&& (255 : Int32)).toInt64) <<< ((24 : Int32) &&& 0x3f).toInt64)))])) _
              refine XS.lor X143.here hx rfl (hb hby own_d9_73) rfl ?_
              show Steps p.tables e below (T143.setTop (mkF m 74 #[.val (.ref p_o), .val (.int i_1), .val (.long ((i_1.toInt64) * (b_1.toInt64))), .second, .val (.int (((((f_1 + (1 : Int32)) + (1 : Int32)) + (1 : Int32)) + (1 : Int32)) + (1 : Int32))), .val (.int s_1), .val (.long (((((0 : Int64) ||| ((((bt f_1) &&& (255 : Int32)).toInt64) <<< ((0 : Int32) &&& 0x3f).toInt64)) ||| ((((bt (f_1 + (1 : Int32))) &&& (255 : Int32)).toInt64) <<< ((8 : Int32) &&& 0x3f).toInt64)) ||| ((((bt ((f_1 + (1 : Int32)) + (1 : Int32))) &&& (255 : Int32)).toInt64) <<< ((16 : Int32) &&& 0x3f).toInt64)) ||| ((((bt (((f_1 + (1 : Int32)) + (1 : Int32)) + (1 : Int32))) &&& (255 : Int32)).toInt64) <<< ((24 : Int32) &&& 0x3f).toInt64))), .second, .val (.int (32 : Int32))] [(.long ((((((0 : Int64) ||| ((((bt f_1) &&& (255 : Int32)).toInt64) <<< ((0 : Int32) &&& 0x3f).toInt64)) ||| ((((bt (f_1 + (1 : Int32))) &&& (255 : Int32)).toInt64) <<< ((8 : Int32) &&& 0x3f).toInt64)) ||| ((((bt ((f_1 + (1 : Int32)) + (1 : Int32))) &&& (255 : Int32)).toInt64) <<< ((16 : Int32) &&& 0x3f).toInt64)) ||| ((((bt (((f_1 + (1 : Int32)) + (1 : Int32)) + (1 : Int32))) &&& (255 : Int32)).toInt64) <<< ((24 : Int32) &&& 0x3f).toInt64)) ||| ((((bt ((((f_1 + (1 : Int32)) + (1 : Int32)) + (1 : Int32)) + (1 : Int32))) &&& (255 : Int32)).toInt64) <<< ((32 : Int32) &&& 0x3f).toInt64)))])) _
              refine XS.lstore X143.here hx rfl (hb hby own_d9_74) rfl (l' := #[.val (.ref p_o), .val (.int i_1), .val (.long ((i_1.toInt64) * (b_1.toInt64))), .second, .val (.int (((((f_1 + (1 : Int32)) + (1 : Int32)) + (1 : Int32)) + (1 : Int32)) + (1 : Int32))), .val (.int s_1), .val (.long ((((((0 : Int64) ||| ((((bt f_1) &&& (255 : Int32)).toInt64) <<< ((0 : Int32) &&& 0x3f).toInt64)) ||| ((((bt (f_1 + (1 : Int32))) &&& (255 : Int32)).toInt64) <<< ((8 : Int32) &&& 0x3f).toInt64)) ||| ((((bt ((f_1 + (1 : Int32)) + (1 : Int32))) &&& (255 : Int32)).toInt64) <<< ((16 : Int32) &&& 0x3f).toInt64)) ||| ((((bt (((f_1 + (1 : Int32)) + (1 : Int32)) + (1 : Int32))) &&& (255 : Int32)).toInt64) <<< ((24 : Int32) &&& 0x3f).toInt64)) ||| ((((bt ((((f_1 + (1 : Int32)) + (1 : Int32)) + (1 : Int32)) + (1 : Int32))) &&& (255 : Int32)).toInt64) <<< ((32 : Int32) &&& 0x3f).toInt64))), .second, .val (.int (32 : Int32))]) rfl ?_
              show Steps p.tables e below (T143.setTop (mkF m 76 #[.val (.ref p_o), .val (.int i_1), .val (.long ((i_1.toInt64) * (b_1.toInt64))), .second, .val (.int (((((f_1 + (1 : Int32)) + (1 : Int32)) + (1 : Int32)) + (1 : Int32)) + (1 : Int32))), .val (.int s_1), .val (.long ((((((0 : Int64) ||| ((((bt f_1) &&& (255 : Int32)).toInt64) <<< ((0 : Int32) &&& 0x3f).toInt64)) ||| ((((bt (f_1 + (1 : Int32))) &&& (255 : Int32)).toInt64) <<< ((8 : Int32) &&& 0x3f).toInt64)) ||| ((((bt ((f_1 + (1 : Int32)) + (1 : Int32))) &&& (255 : Int32)).toInt64) <<< ((16 : Int32) &&& 0x3f).toInt64)) ||| ((((bt (((f_1 + (1 : Int32)) + (1 : Int32)) + (1 : Int32))) &&& (255 : Int32)).toInt64) <<< ((24 : Int32) &&& 0x3f).toInt64)) ||| ((((bt ((((f_1 + (1 : Int32)) + (1 : Int32)) + (1 : Int32)) + (1 : Int32))) &&& (255 : Int32)).toInt64) <<< ((32 : Int32) &&& 0x3f).toInt64))), .second, .val (.int (32 : Int32))] [])) _
              refine XS.iinc X143.here hx rfl (hb hby own_d9_76) rfl (l' := #[.val (.ref p_o), .val (.int i_1), .val (.long ((i_1.toInt64) * (b_1.toInt64))), .second, .val (.int (((((f_1 + (1 : Int32)) + (1 : Int32)) + (1 : Int32)) + (1 : Int32)) + (1 : Int32))), .val (.int s_1), .val (.long ((((((0 : Int64) ||| ((((bt f_1) &&& (255 : Int32)).toInt64) <<< ((0 : Int32) &&& 0x3f).toInt64)) ||| ((((bt (f_1 + (1 : Int32))) &&& (255 : Int32)).toInt64) <<< ((8 : Int32) &&& 0x3f).toInt64)) ||| ((((bt ((f_1 + (1 : Int32)) + (1 : Int32))) &&& (255 : Int32)).toInt64) <<< ((16 : Int32) &&& 0x3f).toInt64)) ||| ((((bt (((f_1 + (1 : Int32)) + (1 : Int32)) + (1 : Int32))) &&& (255 : Int32)).toInt64) <<< ((24 : Int32) &&& 0x3f).toInt64)) ||| ((((bt ((((f_1 + (1 : Int32)) + (1 : Int32)) + (1 : Int32)) + (1 : Int32))) &&& (255 : Int32)).toInt64) <<< ((32 : Int32) &&& 0x3f).toInt64))), .second, .val (.int (40 : Int32))]) rfl ?_
              show Steps p.tables e below (T143.setTop (mkF m 79 #[.val (.ref p_o), .val (.int i_1), .val (.long ((i_1.toInt64) * (b_1.toInt64))), .second, .val (.int (((((f_1 + (1 : Int32)) + (1 : Int32)) + (1 : Int32)) + (1 : Int32)) + (1 : Int32))), .val (.int s_1), .val (.long ((((((0 : Int64) ||| ((((bt f_1) &&& (255 : Int32)).toInt64) <<< ((0 : Int32) &&& 0x3f).toInt64)) ||| ((((bt (f_1 + (1 : Int32))) &&& (255 : Int32)).toInt64) <<< ((8 : Int32) &&& 0x3f).toInt64)) ||| ((((bt ((f_1 + (1 : Int32)) + (1 : Int32))) &&& (255 : Int32)).toInt64) <<< ((16 : Int32) &&& 0x3f).toInt64)) ||| ((((bt (((f_1 + (1 : Int32)) + (1 : Int32)) + (1 : Int32))) &&& (255 : Int32)).toInt64) <<< ((24 : Int32) &&& 0x3f).toInt64)) ||| ((((bt ((((f_1 + (1 : Int32)) + (1 : Int32)) + (1 : Int32)) + (1 : Int32))) &&& (255 : Int32)).toInt64) <<< ((32 : Int32) &&& 0x3f).toInt64))), .second, .val (.int (40 : Int32))] [])) _
              refine XS.goto X143.here hx rfl (pc0 := 79) (pc' := 41) rfl (hb hby own_d9_79) (by decide) (by decide) ?_
              show Steps p.tables e below (T143.setTop (mkF m 41 #[.val (.ref p_o), .val (.int i_1), .val (.long ((i_1.toInt64) * (b_1.toInt64))), .second, .val (.int (((((f_1 + (1 : Int32)) + (1 : Int32)) + (1 : Int32)) + (1 : Int32)) + (1 : Int32))), .val (.int s_1), .val (.long ((((((0 : Int64) ||| ((((bt f_1) &&& (255 : Int32)).toInt64) <<< ((0 : Int32) &&& 0x3f).toInt64)) ||| ((((bt (f_1 + (1 : Int32))) &&& (255 : Int32)).toInt64) <<< ((8 : Int32) &&& 0x3f).toInt64)) ||| ((((bt ((f_1 + (1 : Int32)) + (1 : Int32))) &&& (255 : Int32)).toInt64) <<< ((16 : Int32) &&& 0x3f).toInt64)) ||| ((((bt (((f_1 + (1 : Int32)) + (1 : Int32)) + (1 : Int32))) &&& (255 : Int32)).toInt64) <<< ((24 : Int32) &&& 0x3f).toInt64)) ||| ((((bt ((((f_1 + (1 : Int32)) + (1 : Int32)) + (1 : Int32)) + (1 : Int32))) &&& (255 : Int32)).toInt64) <<< ((32 : Int32) &&& 0x3f).toInt64))), .second, .val (.int (40 : Int32))] [])) _
              refine XS.iload X143.here hx rfl (hb hby own_d9_41) rfl ?_
              show Steps p.tables e below (T143.setTop (mkF m 43 #[.val (.ref p_o), .val (.int i_1), .val (.long ((i_1.toInt64) * (b_1.toInt64))), .second, .val (.int (((((f_1 + (1 : Int32)) + (1 : Int32)) + (1 : Int32)) + (1 : Int32)) + (1 : Int32))), .val (.int s_1), .val (.long ((((((0 : Int64) ||| ((((bt f_1) &&& (255 : Int32)).toInt64) <<< ((0 : Int32) &&& 0x3f).toInt64)) ||| ((((bt (f_1 + (1 : Int32))) &&& (255 : Int32)).toInt64) <<< ((8 : Int32) &&& 0x3f).toInt64)) ||| ((((bt ((f_1 + (1 : Int32)) + (1 : Int32))) &&& (255 : Int32)).toInt64) <<< ((16 : Int32) &&& 0x3f).toInt64)) ||| ((((bt (((f_1 + (1 : Int32)) + (1 : Int32)) + (1 : Int32))) &&& (255 : Int32)).toInt64) <<< ((24 : Int32) &&& 0x3f).toInt64)) ||| ((((bt ((((f_1 + (1 : Int32)) + (1 : Int32)) + (1 : Int32)) + (1 : Int32))) &&& (255 : Int32)).toInt64) <<< ((32 : Int32) &&& 0x3f).toInt64))), .second, .val (.int (40 : Int32))] [(.int (40 : Int32))])) _
              refine XS.iload X143.here hx rfl (hb hby own_d9_43) rfl ?_
              show Steps p.tables e below (T143.setTop (mkF m 45 #[.val (.ref p_o), .val (.int i_1), .val (.long ((i_1.toInt64) * (b_1.toInt64))), .second, .val (.int (((((f_1 + (1 : Int32)) + (1 : Int32)) + (1 : Int32)) + (1 : Int32)) + (1 : Int32))), .val (.int s_1), .val (.long ((((((0 : Int64) ||| ((((bt f_1) &&& (255 : Int32)).toInt64) <<< ((0 : Int32) &&& 0x3f).toInt64)) ||| ((((bt (f_1 + (1 : Int32))) &&& (255 : Int32)).toInt64) <<< ((8 : Int32) &&& 0x3f).toInt64)) ||| ((((bt ((f_1 + (1 : Int32)) + (1 : Int32))) &&& (255 : Int32)).toInt64) <<< ((16 : Int32) &&& 0x3f).toInt64)) ||| ((((bt (((f_1 + (1 : Int32)) + (1 : Int32)) + (1 : Int32))) &&& (255 : Int32)).toInt64) <<< ((24 : Int32) &&& 0x3f).toInt64)) ||| ((((bt ((((f_1 + (1 : Int32)) + (1 : Int32)) + (1 : Int32)) + (1 : Int32))) &&& (255 : Int32)).toInt64) <<< ((32 : Int32) &&& 0x3f).toInt64))), .second, .val (.int (40 : Int32))] [(.int s_1), (.int (40 : Int32))])) _
              refine XS.aloadN X143.here hx rfl (hb hby own_d9_45) rfl rfl ?_
              show Steps p.tables e below (T143.setTop (mkF m 46 #[.val (.ref p_o), .val (.int i_1), .val (.long ((i_1.toInt64) * (b_1.toInt64))), .second, .val (.int (((((f_1 + (1 : Int32)) + (1 : Int32)) + (1 : Int32)) + (1 : Int32)) + (1 : Int32))), .val (.int s_1), .val (.long ((((((0 : Int64) ||| ((((bt f_1) &&& (255 : Int32)).toInt64) <<< ((0 : Int32) &&& 0x3f).toInt64)) ||| ((((bt (f_1 + (1 : Int32))) &&& (255 : Int32)).toInt64) <<< ((8 : Int32) &&& 0x3f).toInt64)) ||| ((((bt ((f_1 + (1 : Int32)) + (1 : Int32))) &&& (255 : Int32)).toInt64) <<< ((16 : Int32) &&& 0x3f).toInt64)) ||| ((((bt (((f_1 + (1 : Int32)) + (1 : Int32)) + (1 : Int32))) &&& (255 : Int32)).toInt64) <<< ((24 : Int32) &&& 0x3f).toInt64)) ||| ((((bt ((((f_1 + (1 : Int32)) + (1 : Int32)) + (1 : Int32)) + (1 : Int32))) &&& (255 : Int32)).toInt64) <<< ((32 : Int32) &&& 0x3f).toInt64))), .second, .val (.int (40 : Int32))] [(.ref p_o), (.int s_1), (.int (40 : Int32))])) _
              refine st161 _ ?_
              show Steps p.tables e below (T161.setTop (mkF m 49 #[.val (.ref p_o), .val (.int i_1), .val (.long ((i_1.toInt64) * (b_1.toInt64))), .second, .val (.int (((((f_1 + (1 : Int32)) + (1 : Int32)) + (1 : Int32)) + (1 : Int32)) + (1 : Int32))), .val (.int s_1), .val (.long ((((((0 : Int64) ||| ((((bt f_1) &&& (255 : Int32)).toInt64) <<< ((0 : Int32) &&& 0x3f).toInt64)) ||| ((((bt (f_1 + (1 : Int32))) &&& (255 : Int32)).toInt64) <<< ((8 : Int32) &&& 0x3f).toInt64)) ||| ((((bt ((f_1 + (1 : Int32)) + (1 : Int32))) &&& (255 : Int32)).toInt64) <<< ((16 : Int32) &&& 0x3f).toInt64)) ||| ((((bt (((f_1 + (1 : Int32)) + (1 : Int32)) + (1 : Int32))) &&& (255 : Int32)).toInt64) <<< ((24 : Int32) &&& 0x3f).toInt64)) ||| ((((bt ((((f_1 + (1 : Int32)) + (1 : Int32)) + (1 : Int32)) + (1 : Int32))) &&& (255 : Int32)).toInt64) <<< ((32 : Int32) &&& 0x3f).toInt64))), .second, .val (.int (40 : Int32))] [(.int b_1), (.int s_1), (.int (40 : Int32))])) _
              refine XS.iadd X161.here hx rfl (hb hby own_d9_49) rfl ?_
              show Steps p.tables e below (T161.setTop (mkF m 50 #[.val (.ref p_o), .val (.int i_1), .val (.long ((i_1.toInt64) * (b_1.toInt64))), .second, .val (.int (((((f_1 + (1 : Int32)) + (1 : Int32)) + (1 : Int32)) + (1 : Int32)) + (1 : Int32))), .val (.int s_1), .val (.long ((((((0 : Int64) ||| ((((bt f_1) &&& (255 : Int32)).toInt64) <<< ((0 : Int32) &&& 0x3f).toInt64)) ||| ((((bt (f_1 + (1 : Int32))) &&& (255 : Int32)).toInt64) <<< ((8 : Int32) &&& 0x3f).toInt64)) ||| ((((bt ((f_1 + (1 : Int32)) + (1 : Int32))) &&& (255 : Int32)).toInt64) <<< ((16 : Int32) &&& 0x3f).toInt64)) ||| ((((bt (((f_1 + (1 : Int32)) + (1 : Int32)) + (1 : Int32))) &&& (255 : Int32)).toInt64) <<< ((24 : Int32) &&& 0x3f).toInt64)) ||| ((((bt ((((f_1 + (1 : Int32)) + (1 : Int32)) + (1 : Int32)) + (1 : Int32))) &&& (255 : Int32)).toInt64) <<< ((32 : Int32) &&& 0x3f).toInt64))), .second, .val (.int (40 : Int32))] [(.int (s_1 + b_1)), (.int (40 : Int32))])) _
              refine XS.icmpYes X161.here hx rfl (pc0 := 50) (pc' := 82) rfl (hb hby own_d9_50) rfl (flt (h40 : ¬ ((40 : Int32) < (s_1 + b_1)))).2.1 (by decide) (by decide) ?_
              show Steps p.tables e below (T161.setTop (mkF m 82 #[.val (.ref p_o), .val (.int i_1), .val (.long ((i_1.toInt64) * (b_1.toInt64))), .second, .val (.int (((((f_1 + (1 : Int32)) + (1 : Int32)) + (1 : Int32)) + (1 : Int32)) + (1 : Int32))), .val (.int s_1), .val (.long ((((((0 : Int64) ||| ((((bt f_1) &&& (255 : Int32)).toInt64) <<< ((0 : Int32) &&& 0x3f).toInt64)) ||| ((((bt (f_1 + (1 : Int32))) &&& (255 : Int32)).toInt64) <<< ((8 : Int32) &&& 0x3f).toInt64)) ||| ((((bt ((f_1 + (1 : Int32)) + (1 : Int32))) &&& (255 : Int32)).toInt64) <<< ((16 : Int32) &&& 0x3f).toInt64)) ||| ((((bt (((f_1 + (1 : Int32)) + (1 : Int32)) + (1 : Int32))) &&& (255 : Int32)).toInt64) <<< ((24 : Int32) &&& 0x3f).toInt64)) ||| ((((bt ((((f_1 + (1 : Int32)) + (1 : Int32)) + (1 : Int32)) + (1 : Int32))) &&& (255 : Int32)).toInt64) <<< ((32 : Int32) &&& 0x3f).toInt64))), .second, .val (.int (40 : Int32))] [])) _
              refine XS.lload X161.here hx rfl (hb hby own_d9_82) rfl ?_
              show Steps p.tables e below (T161.setTop (mkF m 84 #[.val (.ref p_o), .val (.int i_1), .val (.long ((i_1.toInt64) * (b_1.toInt64))), .second, .val (.int (((((f_1 + (1 : Int32)) + (1 : Int32)) + (1 : Int32)) + (1 : Int32)) + (1 : Int32))), .val (.int s_1), .val (.long ((((((0 : Int64) ||| ((((bt f_1) &&& (255 : Int32)).toInt64) <<< ((0 : Int32) &&& 0x3f).toInt64)) ||| ((((bt (f_1 + (1 : Int32))) &&& (255 : Int32)).toInt64) <<< ((8 : Int32) &&& 0x3f).toInt64)) ||| ((((bt ((f_1 + (1 : Int32)) + (1 : Int32))) &&& (255 : Int32)).toInt64) <<< ((16 : Int32) &&& 0x3f).toInt64)) ||| ((((bt (((f_1 + (1 : Int32)) + (1 : Int32)) + (1 : Int32))) &&& (255 : Int32)).toInt64) <<< ((24 : Int32) &&& 0x3f).toInt64)) ||| ((((bt ((((f_1 + (1 : Int32)) + (1 : Int32)) + (1 : Int32)) + (1 : Int32))) &&& (255 : Int32)).toInt64) <<< ((32 : Int32) &&& 0x3f).toInt64))), .second, .val (.int (40 : Int32))] [(.long ((((((0 : Int64) ||| ((((bt f_1) &&& (255 : Int32)).toInt64) <<< ((0 : Int32) &&& 0x3f).toInt64)) ||| ((((bt (f_1 + (1 : Int32))) &&& (255 : Int32)).toInt64) <<< ((8 : Int32) &&& 0x3f).toInt64)) ||| ((((bt ((f_1 + (1 : Int32)) + (1 : Int32))) &&& (255 : Int32)).toInt64) <<< ((16 : Int32) &&& 0x3f).toInt64)) ||| ((((bt (((f_1 + (1 : Int32)) + (1 : Int32)) + (1 : Int32))) &&& (255 : Int32)).toInt64) <<< ((24 : Int32) &&& 0x3f).toInt64)) ||| ((((bt ((((f_1 + (1 : Int32)) + (1 : Int32)) + (1 : Int32)) + (1 : Int32))) &&& (255 : Int32)).toInt64) <<< ((32 : Int32) &&& 0x3f).toInt64)))])) _
              refine XS.iload X161.here hx rfl (hb hby own_d9_84) rfl ?_
              show Steps p.tables e below (T161.setTop (mkF m 86 #[.val (.ref p_o), .val (.int i_1), .val (.long ((i_1.toInt64) * (b_1.toInt64))), .second, .val (.int (((((f_1 + (1 : Int32)) + (1 : Int32)) + (1 : Int32)) + (1 : Int32)) + (1 : Int32))), .val (.int s_1), .val (.long ((((((0 : Int64) ||| ((((bt f_1) &&& (255 : Int32)).toInt64) <<< ((0 : Int32) &&& 0x3f).toInt64)) ||| ((((bt (f_1 + (1 : Int32))) &&& (255 : Int32)).toInt64) <<< ((8 : Int32) &&& 0x3f).toInt64)) ||| ((((bt ((f_1 + (1 : Int32)) + (1 : Int32))) &&& (255 : Int32)).toInt64) <<< ((16 : Int32) &&& 0x3f).toInt64)) ||| ((((bt (((f_1 + (1 : Int32)) + (1 : Int32)) + (1 : Int32))) &&& (255 : Int32)).toInt64) <<< ((24 : Int32) &&& 0x3f).toInt64)) ||| ((((bt ((((f_1 + (1 : Int32)) + (1 : Int32)) + (1 : Int32)) + (1 : Int32))) &&& (255 : Int32)).toInt64) <<< ((32 : Int32) &&& 0x3f).toInt64))), .second, .val (.int (40 : Int32))] [(.int s_1), (.long ((((((0 : Int64) ||| ((((bt f_1) &&& (255 : Int32)).toInt64) <<< ((0 : Int32) &&& 0x3f).toInt64)) ||| ((((bt (f_1 + (1 : Int32))) &&& (255 : Int32)).toInt64) <<< ((8 : Int32) &&& 0x3f).toInt64)) ||| ((((bt ((f_1 + (1 : Int32)) + (1 : Int32))) &&& (255 : Int32)).toInt64) <<< ((16 : Int32) &&& 0x3f).toInt64)) ||| ((((bt (((f_1 + (1 : Int32)) + (1 : Int32)) + (1 : Int32))) &&& (255 : Int32)).toInt64) <<< ((24 : Int32) &&& 0x3f).toInt64)) ||| ((((bt ((((f_1 + (1 : Int32)) + (1 : Int32)) + (1 : Int32)) + (1 : Int32))) &&& (255 : Int32)).toInt64) <<< ((32 : Int32) &&& 0x3f).toInt64)))])) _
              refine XS.lushr X161.here hx rfl (hb hby own_d9_86) rfl ?_
              show Steps p.tables e below (T161.setTop (mkF m 87 #[.val (.ref p_o), .val (.int i_1), .val (.long ((i_1.toInt64) * (b_1.toInt64))), .second, .val (.int (((((f_1 + (1 : Int32)) + (1 : Int32)) + (1 : Int32)) + (1 : Int32)) + (1 : Int32))), .val (.int s_1), .val (.long ((((((0 : Int64) ||| ((((bt f_1) &&& (255 : Int32)).toInt64) <<< ((0 : Int32) &&& 0x3f).toInt64)) ||| ((((bt (f_1 + (1 : Int32))) &&& (255 : Int32)).toInt64) <<< ((8 : Int32) &&& 0x3f).toInt64)) ||| ((((bt ((f_1 + (1 : Int32)) + (1 : Int32))) &&& (255 : Int32)).toInt64) <<< ((16 : Int32) &&& 0x3f).toInt64)) ||| ((((bt (((f_1 + (1 : Int32)) + (1 : Int32)) + (1 : Int32))) &&& (255 : Int32)).toInt64) <<< ((24 : Int32) &&& 0x3f).toInt64)) ||| ((((bt ((((f_1 + (1 : Int32)) + (1 : Int32)) + (1 : Int32)) + (1 : Int32))) &&& (255 : Int32)).toInt64) <<< ((32 : Int32) &&& 0x3f).toInt64))), .second, .val (.int (40 : Int32))] [(.long ((((((((0 : Int64) ||| ((((bt f_1) &&& (255 : Int32)).toInt64) <<< ((0 : Int32) &&& 0x3f).toInt64)) ||| ((((bt (f_1 + (1 : Int32))) &&& (255 : Int32)).toInt64) <<< ((8 : Int32) &&& 0x3f).toInt64)) ||| ((((bt ((f_1 + (1 : Int32)) + (1 : Int32))) &&& (255 : Int32)).toInt64) <<< ((16 : Int32) &&& 0x3f).toInt64)) ||| ((((bt (((f_1 + (1 : Int32)) + (1 : Int32)) + (1 : Int32))) &&& (255 : Int32)).toInt64) <<< ((24 : Int32) &&& 0x3f).toInt64)) ||| ((((bt ((((f_1 + (1 : Int32)) + (1 : Int32)) + (1 : Int32)) + (1 : Int32))) &&& (255 : Int32)).toInt64) <<< ((32 : Int32) &&& 0x3f).toInt64)).toUInt64 >>> (s_1 &&& 0x3f).toInt64.toUInt64).toInt64))])) _
              refine XS.lconst X161.here hx rfl (hb hby own_d9_87) ?_
              show Steps p.tables e below (T161.setTop (mkF m 88 #[.val (.ref p_o), .val (.int i_1), .val (.long ((i_1.toInt64) * (b_1.toInt64))), .second, .val (.int (((((f_1 + (1 : Int32)) + (1 : Int32)) + (1 : Int32)) + (1 : Int32)) + (1 : Int32))), .val (.int s_1), .val (.long ((((((0 : Int64) ||| ((((bt f_1) &&& (255 : Int32)).toInt64) <<< ((0 : Int32) &&& 0x3f).toInt64)) ||| ((((bt (f_1 + (1 : Int32))) &&& (255 : Int32)).toInt64) <<< ((8 : Int32) &&& 0x3f).toInt64)) ||| ((((bt ((f_1 + (1 : Int32)) + (1 : Int32))) &&& (255 : Int32)).toInt64) <<< ((16 : Int32) &&& 0x3f).toInt64)) ||| ((((bt (((f_1 + (1 : Int32)) + (1 : Int32)) + (1 : Int32))) &&& (255 : Int32)).toInt64) <<< ((24 : Int32) &&& 0x3f).toInt64)) ||| ((((bt ((((f_1 + (1 : Int32)) + (1 : Int32)) + (1 : Int32)) + (1 : Int32))) &&& (255 : Int32)).toInt64) <<< ((32 : Int32) &&& 0x3f).toInt64))), .second, .val (.int (40 : Int32))] [(.long (1 : Int64)), (.long ((((((((0 : Int64) ||| ((((bt f_1) &&& (255 : Int32)).toInt64) <<< ((0 : Int32) &&& 0x3f).toInt64)) ||| ((((bt (f_1 + (1 : Int32))) &&& (255 : Int32)).toInt64) <<< ((8 : Int32) &&& 0x3f).toInt64)) ||| ((((bt ((f_1 + (1 : Int32)) + (1 : Int32))) &&& (255 : Int32)).toInt64) <<< ((16 : Int32) &&& 0x3f).toInt64)) ||| ((((bt (((f_1 + (1 : Int32)) + (1 : Int32)) + (1 : Int32))) &&& (255 : Int32)).toInt64) <<< ((24 : Int32) &&& 0x3f).toInt64)) ||| ((((bt ((((f_1 + (1 : Int32)) + (1 : Int32)) + (1 : Int32)) + (1 : Int32))) &&& (255 : Int32)).toInt64) <<< ((32 : Int32) &&& 0x3f).toInt64)).toUInt64 >>> (s_1 &&& 0x3f).toInt64.toUInt64).toInt64))])) _
              refine XS.aloadN X161.here hx rfl (hb hby own_d9_88) rfl rfl ?_
              show Steps p.tables e below (T161.setTop (mkF m 89 #[.val (.ref p_o), .val (.int i_1), .val (.long ((i_1.toInt64) * (b_1.toInt64))), .second, .val (.int (((((f_1 + (1 : Int32)) + (1 : Int32)) + (1 : Int32)) + (1 : Int32)) + (1 : Int32))), .val (.int s_1), .val (.long ((((((0 : Int64) ||| ((((bt f_1) &&& (255 : Int32)).toInt64) <<< ((0 : Int32) &&& 0x3f).toInt64)) ||| ((((bt (f_1 + (1 : Int32))) &&& (255 : Int32)).toInt64) <<< ((8 : Int32) &&& 0x3f).toInt64)) ||| ((((bt ((f_1 + (1 : Int32)) + (1 : Int32))) &&& (255 : Int32)).toInt64) <<< ((16 : Int32) &&& 0x3f).toInt64)) ||| ((((bt (((f_1 + (1 : Int32)) + (1 : Int32)) + (1 : Int32))) &&& (255 : Int32)).toInt64) <<< ((24 : Int32) &&& 0x3f).toInt64)) ||| ((((bt ((((f_1 + (1 : Int32)) + (1 : Int32)) + (1 : Int32)) + (1 : Int32))) &&& (255 : Int32)).toInt64) <<< ((32 : Int32) &&& 0x3f).toInt64))), .second, .val (.int (40 : Int32))] [(.ref p_o), (.long (1 : Int64)), (.long ((((((((0 : Int64) ||| ((((bt f_1) &&& (255 : Int32)).toInt64) <<< ((0 : Int32) &&& 0x3f).toInt64)) ||| ((((bt (f_1 + (1 : Int32))) &&& (255 : Int32)).toInt64) <<< ((8 : Int32) &&& 0x3f).toInt64)) ||| ((((bt ((f_1 + (1 : Int32)) + (1 : Int32))) &&& (255 : Int32)).toInt64) <<< ((16 : Int32) &&& 0x3f).toInt64)) ||| ((((bt (((f_1 + (1 : Int32)) + (1 : Int32)) + (1 : Int32))) &&& (255 : Int32)).toInt64) <<< ((24 : Int32) &&& 0x3f).toInt64)) ||| ((((bt ((((f_1 + (1 : Int32)) + (1 : Int32)) + (1 : Int32)) + (1 : Int32))) &&& (255 : Int32)).toInt64) <<< ((32 : Int32) &&& 0x3f).toInt64)).toUInt64 >>> (s_1 &&& 0x3f).toInt64.toUInt64).toInt64))])) _
              refine st170 _ ?_
              show Steps p.tables e below (T170.setTop (mkF m 92 #[.val (.ref p_o), .val (.int i_1), .val (.long ((i_1.toInt64) * (b_1.toInt64))), .second, .val (.int (((((f_1 + (1 : Int32)) + (1 : Int32)) + (1 : Int32)) + (1 : Int32)) + (1 : Int32))), .val (.int s_1), .val (.long ((((((0 : Int64) ||| ((((bt f_1) &&& (255 : Int32)).toInt64) <<< ((0 : Int32) &&& 0x3f).toInt64)) ||| ((((bt (f_1 + (1 : Int32))) &&& (255 : Int32)).toInt64) <<< ((8 : Int32) &&& 0x3f).toInt64)) ||| ((((bt ((f_1 + (1 : Int32)) + (1 : Int32))) &&& (255 : Int32)).toInt64) <<< ((16 : Int32) &&& 0x3f).toInt64)) ||| ((((bt (((f_1 + (1 : Int32)) + (1 : Int32)) + (1 : Int32))) &&& (255 : Int32)).toInt64) <<< ((24 : Int32) &&& 0x3f).toInt64)) ||| ((((bt ((((f_1 + (1 : Int32)) + (1 : Int32)) + (1 : Int32)) + (1 : Int32))) &&& (255 : Int32)).toInt64) <<< ((32 : Int32) &&& 0x3f).toInt64))), .second, .val (.int (40 : Int32))] [(.int b_1), (.long (1 : Int64)), (.long ((((((((0 : Int64) ||| ((((bt f_1) &&& (255 : Int32)).toInt64) <<< ((0 : Int32) &&& 0x3f).toInt64)) ||| ((((bt (f_1 + (1 : Int32))) &&& (255 : Int32)).toInt64) <<< ((8 : Int32) &&& 0x3f).toInt64)) ||| ((((bt ((f_1 + (1 : Int32)) + (1 : Int32))) &&& (255 : Int32)).toInt64) <<< ((16 : Int32) &&& 0x3f).toInt64)) ||| ((((bt (((f_1 + (1 : Int32)) + (1 : Int32)) + (1 : Int32))) &&& (255 : Int32)).toInt64) <<< ((24 : Int32) &&& 0x3f).toInt64)) ||| ((((bt ((((f_1 + (1 : Int32)) + (1 : Int32)) + (1 : Int32)) + (1 : Int32))) &&& (255 : Int32)).toInt64) <<< ((32 : Int32) &&& 0x3f).toInt64)).toUInt64 >>> (s_1 &&& 0x3f).toInt64.toUInt64).toInt64))])) _
              refine XS.lshl X170.here hx rfl (hb hby own_d9_92) rfl ?_
              show Steps p.tables e below (T170.setTop (mkF m 93 #[.val (.ref p_o), .val (.int i_1), .val (.long ((i_1.toInt64) * (b_1.toInt64))), .second, .val (.int (((((f_1 + (1 : Int32)) + (1 : Int32)) + (1 : Int32)) + (1 : Int32)) + (1 : Int32))), .val (.int s_1), .val (.long ((((((0 : Int64) ||| ((((bt f_1) &&& (255 : Int32)).toInt64) <<< ((0 : Int32) &&& 0x3f).toInt64)) ||| ((((bt (f_1 + (1 : Int32))) &&& (255 : Int32)).toInt64) <<< ((8 : Int32) &&& 0x3f).toInt64)) ||| ((((bt ((f_1 + (1 : Int32)) + (1 : Int32))) &&& (255 : Int32)).toInt64) <<< ((16 : Int32) &&& 0x3f).toInt64)) ||| ((((bt (((f_1 + (1 : Int32)) + (1 : Int32)) + (1 : Int32))) &&& (255 : Int32)).toInt64) <<< ((24 : Int32) &&& 0x3f).toInt64)) ||| ((((bt ((((f_1 + (1 : Int32)) + (1 : Int32)) + (1 : Int32)) + (1 : Int32))) &&& (255 : Int32)).toInt64) <<< ((32 : Int32) &&& 0x3f).toInt64))), .second, .val (.int (40 : Int32))] [(.long ((1 : Int64) <<< (b_1 &&& 0x3f).toInt64)), (.long ((((((((0 : Int64) ||| ((((bt f_1) &&& (255 : Int32)).toInt64) <<< ((0 : Int32) &&& 0x3f).toInt64)) ||| ((((bt (f_1 + (1 : Int32))) &&& (255 : Int32)).toInt64) <<< ((8 : Int32) &&& 0x3f).toInt64)) ||| ((((bt ((f_1 + (1 : Int32)) + (1 : Int32))) &&& (255 : Int32)).toInt64) <<< ((16 : Int32) &&& 0x3f).toInt64)) ||| ((((bt (((f_1 + (1 : Int32)) + (1 : Int32)) + (1 : Int32))) &&& (255 : Int32)).toInt64) <<< ((24 : Int32) &&& 0x3f).toInt64)) ||| ((((bt ((((f_1 + (1 : Int32)) + (1 : Int32)) + (1 : Int32)) + (1 : Int32))) &&& (255 : Int32)).toInt64) <<< ((32 : Int32) &&& 0x3f).toInt64)).toUInt64 >>> (s_1 &&& 0x3f).toInt64.toUInt64).toInt64))])) _
              refine XS.lconst X170.here hx rfl (hb hby own_d9_93) ?_
              show Steps p.tables e below (T170.setTop (mkF m 94 #[.val (.ref p_o), .val (.int i_1), .val (.long ((i_1.toInt64) * (b_1.toInt64))), .second, .val (.int (((((f_1 + (1 : Int32)) + (1 : Int32)) + (1 : Int32)) + (1 : Int32)) + (1 : Int32))), .val (.int s_1), .val (.long ((((((0 : Int64) ||| ((((bt f_1) &&& (255 : Int32)).toInt64) <<< ((0 : Int32) &&& 0x3f).toInt64)) ||| ((((bt (f_1 + (1 : Int32))) &&& (255 : Int32)).toInt64) <<< ((8 : Int32) &&& 0x3f).toInt64)) ||| ((((bt ((f_1 + (1 : Int32)) + (1 : Int32))) &&& (255 : Int32)).toInt64) <<< ((16 : Int32) &&& 0x3f).toInt64)) ||| ((((bt (((f_1 + (1 : Int32)) + (1 : Int32)) + (1 : Int32))) &&& (255 : Int32)).toInt64) <<< ((24 : Int32) &&& 0x3f).toInt64)) ||| ((((bt ((((f_1 + (1 : Int32)) + (1 : Int32)) + (1 : Int32)) + (1 : Int32))) &&& (255 : Int32)).toInt64) <<< ((32 : Int32) &&& 0x3f).toInt64))), .second, .val (.int (40 : Int32))] [(.long (1 : Int64)), (.long ((1 : Int64) <<< (b_1 &&& 0x3f).toInt64)), (.long ((((((((0 : Int64) ||| ((((bt f_1) &&& (255 : Int32)).toInt64) <<< ((0 : Int32) &&& 0x3f).toInt64)) ||| ((((bt (f_1 + (1 : Int32))) &&& (255 : Int32)).toInt64) <<< ((8 : Int32) &&& 0x3f).toInt64)) ||| ((((bt ((f_1 + (1 : Int32)) + (1 : Int32))) &&& (255 : Int32)).toInt64) <<< ((16 : Int32) &&& 0x3f).toInt64)) ||| ((((bt (((f_1 + (1 : Int32)) + (1 : Int32)) + (1 : Int32))) &&& (255 : Int32)).toInt64) <<< ((24 : Int32) &&& 0x3f).toInt64)) ||| ((((bt ((((f_1 + (1 : Int32)) + (1 : Int32)) + (1 : Int32)) + (1 : Int32))) &&& (255 : Int32)).toInt64) <<< ((32 : Int32) &&& 0x3f).toInt64)).toUInt64 >>> (s_1 &&& 0x3f).toInt64.toUInt64).toInt64))])) _
              refine XS.lsub X170.here hx rfl (hb hby own_d9_94) rfl ?_
              show Steps p.tables e below (T170.setTop (mkF m 95 #[.val (.ref p_o), .val (.int i_1), .val (.long ((i_1.toInt64) * (b_1.toInt64))), .second, .val (.int (((((f_1 + (1 : Int32)) + (1 : Int32)) + (1 : Int32)) + (1 : Int32)) + (1 : Int32))), .val (.int s_1), .val (.long ((((((0 : Int64) ||| ((((bt f_1) &&& (255 : Int32)).toInt64) <<< ((0 : Int32) &&& 0x3f).toInt64)) ||| ((((bt (f_1 + (1 : Int32))) &&& (255 : Int32)).toInt64) <<< ((8 : Int32) &&& 0x3f).toInt64)) ||| ((((bt ((f_1 + (1 : Int32)) + (1 : Int32))) &&& (255 : Int32)).toInt64) <<< ((16 : Int32) &&& 0x3f).toInt64)) ||| ((((bt (((f_1 + (1 : Int32)) + (1 : Int32)) + (1 : Int32))) &&& (255 : Int32)).toInt64) <<< ((24 : Int32) &&& 0x3f).toInt64)) ||| ((((bt ((((f_1 + (1 : Int32)) + (1 : Int32)) + (1 : Int32)) + (1 : Int32))) &&& (255 : Int32)).toInt64) <<< ((32 : Int32) &&& 0x3f).toInt64))), .second, .val (.int (40 : Int32))] [(.long (((1 : Int64) <<< (b_1 &&& 0x3f).toInt64) - (1 : Int64))), (.long ((((((((0 : Int64) ||| ((((bt f_1) &&& (255 : Int32)).toInt64) <<< ((0 : Int32) &&& 0x3f).toInt64)) ||| ((((bt (f_1 + (1 : Int32))) &&& (255 : Int32)).toInt64) <<< ((8 : Int32) &&& 0x3f).toInt64)) ||| ((((bt ((f_1 + (1 : Int32)) + (1 : Int32))) &&& (255 : Int32)).toInt64) <<< ((16 : Int32) &&& 0x3f).toInt64)) ||| ((((bt (((f_1 + (1 : Int32)) + (1 : Int32)) + (1 : Int32))) &&& (255 : Int32)).toInt64) <<< ((24 : Int32) &&& 0x3f).toInt64)) ||| ((((bt ((((f_1 + (1 : Int32)) + (1 : Int32)) + (1 : Int32)) + (1 : Int32))) &&& (255 : Int32)).toInt64) <<< ((32 : Int32) &&& 0x3f).toInt64)).toUInt64 >>> (s_1 &&& 0x3f).toInt64.toUInt64).toInt64))])) _
              refine XS.land X170.here hx rfl (hb hby own_d9_95) rfl ?_
              show Steps p.tables e below (T170.setTop (mkF m 96 #[.val (.ref p_o), .val (.int i_1), .val (.long ((i_1.toInt64) * (b_1.toInt64))), .second, .val (.int (((((f_1 + (1 : Int32)) + (1 : Int32)) + (1 : Int32)) + (1 : Int32)) + (1 : Int32))), .val (.int s_1), .val (.long ((((((0 : Int64) ||| ((((bt f_1) &&& (255 : Int32)).toInt64) <<< ((0 : Int32) &&& 0x3f).toInt64)) ||| ((((bt (f_1 + (1 : Int32))) &&& (255 : Int32)).toInt64) <<< ((8 : Int32) &&& 0x3f).toInt64)) ||| ((((bt ((f_1 + (1 : Int32)) + (1 : Int32))) &&& (255 : Int32)).toInt64) <<< ((16 : Int32) &&& 0x3f).toInt64)) ||| ((((bt (((f_1 + (1 : Int32)) + (1 : Int32)) + (1 : Int32))) &&& (255 : Int32)).toInt64) <<< ((24 : Int32) &&& 0x3f).toInt64)) ||| ((((bt ((((f_1 + (1 : Int32)) + (1 : Int32)) + (1 : Int32)) + (1 : Int32))) &&& (255 : Int32)).toInt64) <<< ((32 : Int32) &&& 0x3f).toInt64))), .second, .val (.int (40 : Int32))] [(.long (((((((((0 : Int64) ||| ((((bt f_1) &&& (255 : Int32)).toInt64) <<< ((0 : Int32) &&& 0x3f).toInt64)) ||| ((((bt (f_1 + (1 : Int32))) &&& (255 : Int32)).toInt64) <<< ((8 : Int32) &&& 0x3f).toInt64)) ||| ((((bt ((f_1 + (1 : Int32)) + (1 : Int32))) &&& (255 : Int32)).toInt64) <<< ((16 : Int32) &&& 0x3f).toInt64)) ||| ((((bt (((f_1 + (1 : Int32)) + (1 : Int32)) + (1 : Int32))) &&& (255 : Int32)).toInt64) <<< ((24 : Int32) &&& 0x3f).toInt64)) ||| ((((bt ((((f_1 + (1 : Int32)) + (1 : Int32)) + (1 : Int32)) + (1 : Int32))) &&& (255 : Int32)).toInt64) <<< ((32 : Int32) &&& 0x3f).toInt64)).toUInt64 >>> (s_1 &&& 0x3f).toInt64.toUInt64).toInt64) &&& (((1 : Int64) <<< (b_1 &&& 0x3f).toInt64) - (1 : Int64))))])) _
              refine XS.l2i X170.here hx rfl (hb hby own_d9_96) rfl ?_
              show Steps p.tables e below (T170.setTop (mkF m 97 #[.val (.ref p_o), .val (.int i_1), .val (.long ((i_1.toInt64) * (b_1.toInt64))), .second, .val (.int (((((f_1 + (1 : Int32)) + (1 : Int32)) + (1 : Int32)) + (1 : Int32)) + (1 : Int32))), .val (.int s_1), .val (.long ((((((0 : Int64) ||| ((((bt f_1) &&& (255 : Int32)).toInt64) <<< ((0 : Int32) &&& 0x3f).toInt64)) ||| ((((bt (f_1 + (1 : Int32))) &&& (255 : Int32)).toInt64) <<< ((8 : Int32) &&& 0x3f).toInt64)) ||| ((((bt ((f_1 + (1 : Int32)) + (1 : Int32))) &&& (255 : Int32)).toInt64) <<< ((16 : Int32) &&& 0x3f).toInt64)) ||| ((((bt (((f_1 + (1 : Int32)) + (1 : Int32)) + (1 : Int32))) &&& (255 : Int32)).toInt64) <<< ((24 : Int32) &&& 0x3f).toInt64)) ||| ((((bt ((((f_1 + (1 : Int32)) + (1 : Int32)) + (1 : Int32)) + (1 : Int32))) &&& (255 : Int32)).toInt64) <<< ((32 : Int32) &&& 0x3f).toInt64))), .second, .val (.int (40 : Int32))] [(.int ((((((((((0 : Int64) ||| ((((bt f_1) &&& (255 : Int32)).toInt64) <<< ((0 : Int32) &&& 0x3f).toInt64)) ||| ((((bt (f_1 + (1 : Int32))) &&& (255 : Int32)).toInt64) <<< ((8 : Int32) &&& 0x3f).toInt64)) ||| ((((bt ((f_1 + (1 : Int32)) + (1 : Int32))) &&& (255 : Int32)).toInt64) <<< ((16 : Int32) &&& 0x3f).toInt64)) ||| ((((bt (((f_1 + (1 : Int32)) + (1 : Int32)) + (1 : Int32))) &&& (255 : Int32)).toInt64) <<< ((24 : Int32) &&& 0x3f).toInt64)) ||| ((((bt ((((f_1 + (1 : Int32)) + (1 : Int32)) + (1 : Int32)) + (1 : Int32))) &&& (255 : Int32)).toInt64) <<< ((32 : Int32) &&& 0x3f).toInt64)).toUInt64 >>> (s_1 &&& 0x3f).toInt64.toUInt64).toInt64) &&& (((1 : Int64) <<< (b_1 &&& 0x3f).toInt64) - (1 : Int64))).toInt32))])) _
              exact retI X170 hx Bd.returns (hb hby own_d9_97) hr
            · show Qown_g1 Z p_o i_1 b_1 f_1 s_1 n_1 r_o k_r ws_ bt h0 n0 _ T170.heap _
              rw [e170]
              have hv : (own_get_f f_1 s_1 b_1 bt) = ((((((((((0 : Int64) ||| ((((bt f_1) &&& (255 : Int32)).toInt64) <<< ((0 : Int32) &&& 0x3f).toInt64)) ||| ((((bt (f_1 + (1 : Int32))) &&& (255 : Int32)).toInt64) <<< ((8 : Int32) &&& 0x3f).toInt64)) ||| ((((bt ((f_1 + (1 : Int32)) + (1 : Int32))) &&& (255 : Int32)).toInt64) <<< ((16 : Int32) &&& 0x3f).toInt64)) ||| ((((bt (((f_1 + (1 : Int32)) + (1 : Int32)) + (1 : Int32))) &&& (255 : Int32)).toInt64) <<< ((24 : Int32) &&& 0x3f).toInt64)) ||| ((((bt ((((f_1 + (1 : Int32)) + (1 : Int32)) + (1 : Int32)) + (1 : Int32))) &&& (255 : Int32)).toInt64) <<< ((32 : Int32) &&& 0x3f).toInt64)).toUInt64 >>> (s_1 &&& 0x3f).toInt64.toUInt64).toInt64) &&& (((1 : Int64) <<< (b_1 &&& 0x3f).toInt64) - (1 : Int64))).toInt32) := by unfold own_get_f; rw [if_pos hc50_35, if_pos hc50_61, if_pos hc50_87, if_pos hc50_113, if_pos hc50_139]
              exact ⟨(by rw [hv]), N0, rfl⟩
          · obtain ⟨T183, X183, e183, st183⟩ := getF X135 hx hZ hown (host := "") (Or.inl (hw _ (List.mem_of_getElem? (i := 60) rfl))) Via.refl e135 F_b (g := (mkF m 89 #[.val (.ref p_o), .val (.int i_1), .val (.long ((i_1.toInt64) * (b_1.toInt64))), .second, .val (.int ((((f_1 + (1 : Int32)) + (1 : Int32)) + (1 : Int32)) + (1 : Int32))), .val (.int s_1), .val (.long (((((0 : Int64) ||| ((((bt f_1) &&& (255 : Int32)).toInt64) <<< ((0 : Int32) &&& 0x3f).toInt64)) ||| ((((bt (f_1 + (1 : Int32))) &&& (255 : Int32)).toInt64) <<< ((8 : Int32) &&& 0x3f).toInt64)) ||| ((((bt ((f_1 + (1 : Int32)) + (1 : Int32))) &&& (255 : Int32)).toInt64) <<< ((16 : Int32) &&& 0x3f).toInt64)) ||| ((((bt (((f_1 + (1 : Int32)) + (1 : Int32)) + (1 : Int32))) &&& (255 : Int32)).toInt64) <<< ((24 : Int32) &&& 0x3f).toInt64))), .second, .val (.int (32 : Int32))] [(.ref p_o), (.long (1 : Int64)), (.long (((((((0 : Int64) ||| ((((bt f_1) &&& (255 : Int32)).toInt64) <<< ((0 : Int32) &&& 0x3f).toInt64)) ||| ((((bt (f_1 + (1 : Int32))) &&& (255 : Int32)).toInt64) <<< ((8 : Int32) &&& 0x3f).toInt64)) ||| ((((bt ((f_1 + (1 : Int32)) + (1 : Int32))) &&& (255 : Int32)).toInt64) <<< ((16 : Int32) &&& 0x3f).toInt64)) ||| ((((bt (((f_1 + (1 : Int32)) + (1 : Int32)) + (1 : Int32))) &&& (255 : Int32)).toInt64) <<< ((24 : Int32) &&& 0x3f).toInt64)).toUInt64 >>> (s_1 &&& 0x3f).toInt64.toUInt64).toInt64))])) rfl rfl (hb hby own_d9_89)
            obtain ⟨fs, hr, hrun, hended, hW, hsame⟩ := X183.leave (v := some (.int (((((((((0 : Int64) ||| ((((bt f_1) &&& (255 : Int32)).toInt64) <<< ((0 : Int32) &&& 0x3f).toInt64)) ||| ((((bt (f_1 + (1 : Int32))) &&& (255 : Int32)).toInt64) <<< ((8 : Int32) &&& 0x3f).toInt64)) ||| ((((bt ((f_1 + (1 : Int32)) + (1 : Int32))) &&& (255 : Int32)).toInt64) <<< ((16 : Int32) &&& 0x3f).toInt64)) ||| ((((bt (((f_1 + (1 : Int32)) + (1 : Int32)) + (1 : Int32))) &&& (255 : Int32)).toInt64) <<< ((24 : Int32) &&& 0x3f).toInt64)).toUInt64 >>> (s_1 &&& 0x3f).toInt64.toUInt64).toInt64) &&& (((1 : Int64) <<< (b_1 &&& 0x3f).toInt64) - (1 : Int64))).toInt32))) (fun h => by rw [Bd.returns] at h; cases h) (hlocks := BodyLoose.notSynchronized Bd)
            refine ⟨_, _, pre138 _ ?_, hrun, hended, _, _, rfl, ?_, ⟨_, rfl⟩, hW, hsame.mono (by decide) (by decide)⟩
            · show Steps p.tables e below (T135.setTop (mkF m 50 #[.val (.ref p_o), .val (.int i_1), .val (.long ((i_1.toInt64) * (b_1.toInt64))), .second, .val (.int ((((f_1 + (1 : Int32)) + (1 : Int32)) + (1 : Int32)) + (1 : Int32))), .val (.int s_1), .val (.long (((((0 : Int64) ||| ((((bt f_1) &&& (255 : Int32)).toInt64) <<< ((0 : Int32) &&& 0x3f).toInt64)) ||| ((((bt (f_1 + (1 : Int32))) &&& (255 : Int32)).toInt64) <<< ((8 : Int32) &&& 0x3f).toInt64)) ||| ((((bt ((f_1 + (1 : Int32)) + (1 : Int32))) &&& (255 : Int32)).toInt64) <<< ((16 : Int32) &&& 0x3f).toInt64)) ||| ((((bt (((f_1 + (1 : Int32)) + (1 : Int32)) + (1 : Int32))) &&& (255 : Int32)).toInt64) <<< ((24 : Int32) &&& 0x3f).toInt64))), .second, .val (.int (32 : Int32))] [(.int (s_1 + b_1)), (.int (32 : Int32))])) _
              refine XS.icmpYes X135.here hx rfl (pc0 := 50) (pc' := 82) rfl (hb hby own_d9_50) rfl (flt hc50_139).2.1 (by decide) (by decide) ?_
              show Steps p.tables e below (T135.setTop (mkF m 82 #[.val (.ref p_o), .val (.int i_1), .val (.long ((i_1.toInt64) * (b_1.toInt64))), .second, .val (.int ((((f_1 + (1 : Int32)) + (1 : Int32)) + (1 : Int32)) + (1 : Int32))), .val (.int s_1), .val (.long (((((0 : Int64) ||| ((((bt f_1) &&& (255 : Int32)).toInt64) <<< ((0 : Int32) &&& 0x3f).toInt64)) ||| ((((bt (f_1 + (1 : Int32))) &&& (255 : Int32)).toInt64) <<< ((8 : Int32) &&& 0x3f).toInt64)) ||| ((((bt ((f_1 + (1 : Int32)) + (1 : Int32))) &&& (255 : Int32)).toInt64) <<< ((16 : Int32) &&& 0x3f).toInt64)) ||| ((((bt (((f_1 + (1 : Int32)) + (1 : Int32)) + (1 : Int32))) &&& (255 : Int32)).toInt64) <<< ((24 : Int32) &&& 0x3f).toInt64))), .second, .val (.int (32 : Int32))] [])) _
              refine XS.lload X135.here hx rfl (hb hby own_d9_82) rfl ?_
              show Steps p.tables e below (T135.setTop (mkF m 84 #[.val (.ref p_o), .val (.int i_1), .val (.long ((i_1.toInt64) * (b_1.toInt64))), .second, .val (.int ((((f_1 + (1 : Int32)) + (1 : Int32)) + (1 : Int32)) + (1 : Int32))), .val (.int s_1), .val (.long (((((0 : Int64) ||| ((((bt f_1) &&& (255 : Int32)).toInt64) <<< ((0 : Int32) &&& 0x3f).toInt64)) ||| ((((bt (f_1 + (1 : Int32))) &&& (255 : Int32)).toInt64) <<< ((8 : Int32) &&& 0x3f).toInt64)) ||| ((((bt ((f_1 + (1 : Int32)) + (1 : Int32))) &&& (255 : Int32)).toInt64) <<< ((16 : Int32) &&& 0x3f).toInt64)) ||| ((((bt (((f_1 + (1 : Int32)) + (1 : Int32)) + (1 : Int32))) &&& (255 : Int32)).toInt64) <<< ((24 : Int32) &&& 0x3f).toInt64))), .second, .val (.int (32 : Int32))] [(.long (((((0 : Int64) ||| ((((bt f_1) &&& (255 : Int32)).toInt64) <<< ((0 : Int32) &&& 0x3f).toInt64)) ||| ((((bt (f_1 + (1 : Int32))) &&& (255 : Int32)).toInt64) <<< ((8 : Int32) &&& 0x3f).toInt64)) ||| ((((bt ((f_1 + (1 : Int32)) + (1 : Int32))) &&& (255 : Int32)).toInt64) <<< ((16 : Int32) &&& 0x3f).toInt64)) ||| ((((bt (((f_1 + (1 : Int32)) + (1 : Int32)) + (1 : Int32))) &&& (255 : Int32)).toInt64) <<< ((24 : Int32) &&& 0x3f).toInt64)))])) _
              refine XS.iload X135.here hx rfl (hb hby own_d9_84) rfl ?_
              show Steps p.tables e below (T135.setTop (mkF m 86 #[.val (.ref p_o), .val (.int i_1), .val (.long ((i_1.toInt64) * (b_1.toInt64))), .second, .val (.int ((((f_1 + (1 : Int32)) + (1 : Int32)) + (1 : Int32)) + (1 : Int32))), .val (.int s_1), .val (.long (((((0 : Int64) ||| ((((bt f_1) &&& (255 : Int32)).toInt64) <<< ((0 : Int32) &&& 0x3f).toInt64)) ||| ((((bt (f_1 + (1 : Int32))) &&& (255 : Int32)).toInt64) <<< ((8 : Int32) &&& 0x3f).toInt64)) ||| ((((bt ((f_1 + (1 : Int32)) + (1 : Int32))) &&& (255 : Int32)).toInt64) <<< ((16 : Int32) &&& 0x3f).toInt64)) ||| ((((bt (((f_1 + (1 : Int32)) + (1 : Int32)) + (1 : Int32))) &&& (255 : Int32)).toInt64) <<< ((24 : Int32) &&& 0x3f).toInt64))), .second, .val (.int (32 : Int32))] [(.int s_1), (.long (((((0 : Int64) ||| ((((bt f_1) &&& (255 : Int32)).toInt64) <<< ((0 : Int32) &&& 0x3f).toInt64)) ||| ((((bt (f_1 + (1 : Int32))) &&& (255 : Int32)).toInt64) <<< ((8 : Int32) &&& 0x3f).toInt64)) ||| ((((bt ((f_1 + (1 : Int32)) + (1 : Int32))) &&& (255 : Int32)).toInt64) <<< ((16 : Int32) &&& 0x3f).toInt64)) ||| ((((bt (((f_1 + (1 : Int32)) + (1 : Int32)) + (1 : Int32))) &&& (255 : Int32)).toInt64) <<< ((24 : Int32) &&& 0x3f).toInt64)))])) _
              refine XS.lushr X135.here hx rfl (hb hby own_d9_86) rfl ?_
              show Steps p.tables e below (T135.setTop (mkF m 87 #[.val (.ref p_o), .val (.int i_1), .val (.long ((i_1.toInt64) * (b_1.toInt64))), .second, .val (.int ((((f_1 + (1 : Int32)) + (1 : Int32)) + (1 : Int32)) + (1 : Int32))), .val (.int s_1), .val (.long (((((0 : Int64) ||| ((((bt f_1) &&& (255 : Int32)).toInt64) <<< ((0 : Int32) &&& 0x3f).toInt64)) ||| ((((bt (f_1 + (1 : Int32))) &&& (255 : Int32)).toInt64) <<< ((8 : Int32) &&& 0x3f).toInt64)) ||| ((((bt ((f_1 + (1 : Int32)) + (1 : Int32))) &&& (255 : Int32)).toInt64) <<< ((16 : Int32) &&& 0x3f).toInt64)) ||| ((((bt (((f_1 + (1 : Int32)) + (1 : Int32)) + (1 : Int32))) &&& (255 : Int32)).toInt64) <<< ((24 : Int32) &&& 0x3f).toInt64))), .second, .val (.int (32 : Int32))] [(.long (((((((0 : Int64) ||| ((((bt f_1) &&& (255 : Int32)).toInt64) <<< ((0 : Int32) &&& 0x3f).toInt64)) ||| ((((bt (f_1 + (1 : Int32))) &&& (255 : Int32)).toInt64) <<< ((8 : Int32) &&& 0x3f).toInt64)) ||| ((((bt ((f_1 + (1 : Int32)) + (1 : Int32))) &&& (255 : Int32)).toInt64) <<< ((16 : Int32) &&& 0x3f).toInt64)) ||| ((((bt (((f_1 + (1 : Int32)) + (1 : Int32)) + (1 : Int32))) &&& (255 : Int32)).toInt64) <<< ((24 : Int32) &&& 0x3f).toInt64)).toUInt64 >>> (s_1 &&& 0x3f).toInt64.toUInt64).toInt64))])) _
              refine XS.lconst X135.here hx rfl (hb hby own_d9_87) ?_
              show Steps p.tables e below (T135.setTop (mkF m 88 #[.val (.ref p_o), .val (.int i_1), .val (.long ((i_1.toInt64) * (b_1.toInt64))), .second, .val (.int ((((f_1 + (1 : Int32)) + (1 : Int32)) + (1 : Int32)) + (1 : Int32))), .val (.int s_1), .val (.long (((((0 : Int64) ||| ((((bt f_1) &&& (255 : Int32)).toInt64) <<< ((0 : Int32) &&& 0x3f).toInt64)) ||| ((((bt (f_1 + (1 : Int32))) &&& (255 : Int32)).toInt64) <<< ((8 : Int32) &&& 0x3f).toInt64)) ||| ((((bt ((f_1 + (1 : Int32)) + (1 : Int32))) &&& (255 : Int32)).toInt64) <<< ((16 : Int32) &&& 0x3f).toInt64)) ||| ((((bt (((f_1 + (1 : Int32)) + (1 : Int32)) + (1 : Int32))) &&& (255 : Int32)).toInt64) <<< ((24 : Int32) &&& 0x3f).toInt64))), .second, .val (.int (32 : Int32))] [(.long (1 : Int64)), (.long (((((((0 : Int64) ||| ((((bt f_1) &&& (255 : Int32)).toInt64) <<< ((0 : Int32) &&& 0x3f).toInt64)) ||| ((((bt (f_1 + (1 : Int32))) &&& (255 : Int32)).toInt64) <<< ((8 : Int32) &&& 0x3f).toInt64)) ||| ((((bt ((f_1 + (1 : Int32)) + (1 : Int32))) &&& (255 : Int32)).toInt64) <<< ((16 : Int32) &&& 0x3f).toInt64)) ||| ((((bt (((f_1 + (1 : Int32)) + (1 : Int32)) + (1 : Int32))) &&& (255 : Int32)).toInt64) <<< ((24 : Int32) &&& 0x3f).toInt64)).toUInt64 >>> (s_1 &&& 0x3f).toInt64.toUInt64).toInt64))])) _
              refine XS.aloadN X135.here hx rfl (hb hby own_d9_88) rfl rfl ?_
              show Steps p.tables e below (T135.setTop (mkF m 89 #[.val (.ref p_o), .val (.int i_1), .val (.long ((i_1.toInt64) * (b_1.toInt64))), .second, .val (.int ((((f_1 + (1 : Int32)) + (1 : Int32)) + (1 : Int32)) + (1 : Int32))), .val (.int s_1), .val (.long (((((0 : Int64) ||| ((((bt f_1) &&& (255 : Int32)).toInt64) <<< ((0 : Int32) &&& 0x3f).toInt64)) ||| ((((bt (f_1 + (1 : Int32))) &&& (255 : Int32)).toInt64) <<< ((8 : Int32) &&& 0x3f).toInt64)) ||| ((((bt ((f_1 + (1 : Int32)) + (1 : Int32))) &&& (255 : Int32)).toInt64) <<< ((16 : Int32) &&& 0x3f).toInt64)) ||| ((((bt (((f_1 + (1 : Int32)) + (1 : Int32)) + (1 : Int32))) &&& (255 : Int32)).toInt64) <<< ((24 : Int32) &&& 0x3f).toInt64))), .second, .val (.int (32 : Int32))] [(.ref p_o), (.long (1 : Int64)), (.long (((((((0 : Int64) ||| ((((bt f_1) &&& (255 : Int32)).toInt64) <<< ((0 : Int32) &&& 0x3f).toInt64)) ||| ((((bt (f_1 + (1 : Int32))) &&& (255 : Int32)).toInt64) <<< ((8 : Int32) &&& 0x3f).toInt64)) ||| ((((bt ((f_1 + (1 : Int32)) + (1 : Int32))) &&& (255 : Int32)).toInt64) <<< ((16 : Int32) &&& 0x3f).toInt64)) ||| ((((bt (((f_1 + (1 : Int32)) + (1 : Int32)) + (1 : Int32))) &&& (255 : Int32)).toInt64) <<< ((24 : Int32) &&& 0x3f).toInt64)).toUInt64 >>> (s_1 &&& 0x3f).toInt64.toUInt64).toInt64))])) _
              refine st183 _ ?_
              show Steps p.tables e below (T183.setTop (mkF m 92 #[.val (.ref p_o), .val (.int i_1), .val (.long ((i_1.toInt64) * (b_1.toInt64))), .second, .val (.int ((((f_1 + (1 : Int32)) + (1 : Int32)) + (1 : Int32)) + (1 : Int32))), .val (.int s_1), .val (.long (((((0 : Int64) ||| ((((bt f_1) &&& (255 : Int32)).toInt64) <<< ((0 : Int32) &&& 0x3f).toInt64)) ||| ((((bt (f_1 + (1 : Int32))) &&& (255 : Int32)).toInt64) <<< ((8 : Int32) &&& 0x3f).toInt64)) ||| ((((bt ((f_1 + (1 : Int32)) + (1 : Int32))) &&& (255 : Int32)).toInt64) <<< ((16 : Int32) &&& 0x3f).toInt64)) ||| ((((bt (((f_1 + (1 : Int32)) + (1 : Int32)) + (1 : Int32))) &&& (255 : Int32)).toInt64) <<< ((24 : Int32) &&& 0x3f).toInt64))), .second, .val (.int (32 : Int32))] [(.int b_1), (.long (1 : Int64)), (.long (((((((0 : Int64) ||| ((((bt f_1) &&& (255 : Int32)).toInt64) <<< ((0 : Int32) &&& 0x3f).toInt64)) ||| ((((bt (f_1 + (1 : Int32))) &&& (255 : Int32)).toInt64) <<< ((8 : Int32) &&& 0x3f).toInt64)) ||| ((((bt ((f_1 + (1 : Int32)) + (1 : Int32))) &&& (255 : Int32)).toInt64) <<< ((16 : Int32) &&& 0x3f).toInt64)) ||| ((((bt (((f_1 + (1 : Int32)) + (1 : Int32)) + (1 : Int32))) &&& (255 : Int32)).toInt64) <<< ((24 : Int32) &&& 0x3f).toInt64)).toUInt64 >>> (s_1 &&& 0x3f).toInt64.toUInt64).toInt64))])) _
              refine XS.lshl X183.here hx rfl (hb hby own_d9_92) rfl ?_
              show Steps p.tables e below (T183.setTop (mkF m 93 #[.val (.ref p_o), .val (.int i_1), .val (.long ((i_1.toInt64) * (b_1.toInt64))), .second, .val (.int ((((f_1 + (1 : Int32)) + (1 : Int32)) + (1 : Int32)) + (1 : Int32))), .val (.int s_1), .val (.long (((((0 : Int64) ||| ((((bt f_1) &&& (255 : Int32)).toInt64) <<< ((0 : Int32) &&& 0x3f).toInt64)) ||| ((((bt (f_1 + (1 : Int32))) &&& (255 : Int32)).toInt64) <<< ((8 : Int32) &&& 0x3f).toInt64)) ||| ((((bt ((f_1 + (1 : Int32)) + (1 : Int32))) &&& (255 : Int32)).toInt64) <<< ((16 : Int32) &&& 0x3f).toInt64)) ||| ((((bt (((f_1 + (1 : Int32)) + (1 : Int32)) + (1 : Int32))) &&& (255 : Int32)).toInt64) <<< ((24 : Int32) &&& 0x3f).toInt64))), .second, .val (.int (32 : Int32))] [(.long ((1 : Int64) <<< (b_1 &&& 0x3f).toInt64)), (.long (((((((0 : Int64) ||| ((((bt f_1) &&& (255 : Int32)).toInt64) <<< ((0 : Int32) &&& 0x3f).toInt64)) ||| ((((bt (f_1 + (1 : Int32))) &&& (255 : Int32)).toInt64) <<< ((8 : Int32) &&& 0x3f).toInt64)) ||| ((((bt ((f_1 + (1 : Int32)) + (1 : Int32))) &&& (255 : Int32)).toInt64) <<< ((16 : Int32) &&& 0x3f).toInt64)) ||| ((((bt (((f_1 + (1 : Int32)) + (1 : Int32)) + (1 : Int32))) &&& (255 : Int32)).toInt64) <<< ((24 : Int32) &&& 0x3f).toInt64)).toUInt64 >>> (s_1 &&& 0x3f).toInt64.toUInt64).toInt64))])) _
              refine XS.lconst X183.here hx rfl (hb hby own_d9_93) ?_
              show Steps p.tables e below (T183.setTop (mkF m 94 #[.val (.ref p_o), .val (.int i_1), .val (.long ((i_1.toInt64) * (b_1.toInt64))), .second, .val (.int ((((f_1 + (1 : Int32)) + (1 : Int32)) + (1 : Int32)) + (1 : Int32))), .val (.int s_1), .val (.long (((((0 : Int64) ||| ((((bt f_1) &&& (255 : Int32)).toInt64) <<< ((0 : Int32) &&& 0x3f).toInt64)) ||| ((((bt (f_1 + (1 : Int32))) &&& (255 : Int32)).toInt64) <<< ((8 : Int32) &&& 0x3f).toInt64)) ||| ((((bt ((f_1 + (1 : Int32)) + (1 : Int32))) &&& (255 : Int32)).toInt64) <<< ((16 : Int32) &&& 0x3f).toInt64)) ||| ((((bt (((f_1 + (1 : Int32)) + (1 : Int32)) + (1 : Int32))) &&& (255 : Int32)).toInt64) <<< ((24 : Int32) &&& 0x3f).toInt64))), .second, .val (.int (32 : Int32))] [(.long (1 : Int64)), (.long ((1 : Int64) <<< (b_1 &&& 0x3f).toInt64)), (.long (((((((0 : Int64) ||| ((((bt f_1) &&& (255 : Int32)).toInt64) <<< ((0 : Int32) &&& 0x3f).toInt64)) ||| ((((bt (f_1 + (1 : Int32))) &&& (255 : Int32)).toInt64) <<< ((8 : Int32) &&& 0x3f).toInt64)) ||| ((((bt ((f_1 + (1 : Int32)) + (1 : Int32))) &&& (255 : Int32)).toInt64) <<< ((16 : Int32) &&& 0x3f).toInt64)) ||| ((((bt (((f_1 + (1 : Int32)) + (1 : Int32)) + (1 : Int32))) &&& (255 : Int32)).toInt64) <<< ((24 : Int32) &&& 0x3f).toInt64)).toUInt64 >>> (s_1 &&& 0x3f).toInt64.toUInt64).toInt64))])) _
              refine XS.lsub X183.here hx rfl (hb hby own_d9_94) rfl ?_
              show Steps p.tables e below (T183.setTop (mkF m 95 #[.val (.ref p_o), .val (.int i_1), .val (.long ((i_1.toInt64) * (b_1.toInt64))), .second, .val (.int ((((f_1 + (1 : Int32)) + (1 : Int32)) + (1 : Int32)) + (1 : Int32))), .val (.int s_1), .val (.long (((((0 : Int64) ||| ((((bt f_1) &&& (255 : Int32)).toInt64) <<< ((0 : Int32) &&& 0x3f).toInt64)) ||| ((((bt (f_1 + (1 : Int32))) &&& (255 : Int32)).toInt64) <<< ((8 : Int32) &&& 0x3f).toInt64)) ||| ((((bt ((f_1 + (1 : Int32)) + (1 : Int32))) &&& (255 : Int32)).toInt64) <<< ((16 : Int32) &&& 0x3f).toInt64)) ||| ((((bt (((f_1 + (1 : Int32)) + (1 : Int32)) + (1 : Int32))) &&& (255 : Int32)).toInt64) <<< ((24 : Int32) &&& 0x3f).toInt64))), .second, .val (.int (32 : Int32))] [(.long (((1 : Int64) <<< (b_1 &&& 0x3f).toInt64) - (1 : Int64))), (.long (((((((0 : Int64) ||| ((((bt f_1) &&& (255 : Int32)).toInt64) <<< ((0 : Int32) &&& 0x3f).toInt64)) ||| ((((bt (f_1 + (1 : Int32))) &&& (255 : Int32)).toInt64) <<< ((8 : Int32) &&& 0x3f).toInt64)) ||| ((((bt ((f_1 + (1 : Int32)) + (1 : Int32))) &&& (255 : Int32)).toInt64) <<< ((16 : Int32) &&& 0x3f).toInt64)) ||| ((((bt (((f_1 + (1 : Int32)) + (1 : Int32)) + (1 : Int32))) &&& (255 : Int32)).toInt64) <<< ((24 : Int32) &&& 0x3f).toInt64)).toUInt64 >>> (s_1 &&& 0x3f).toInt64.toUInt64).toInt64))])) _
              refine XS.land X183.here hx rfl (hb hby own_d9_95) rfl ?_
              show Steps p.tables e below (T183.setTop (mkF m 96 #[.val (.ref p_o), .val (.int i_1), .val (.long ((i_1.toInt64) * (b_1.toInt64))), .second, .val (.int ((((f_1 + (1 : Int32)) + (1 : Int32)) + (1 : Int32)) + (1 : Int32))), .val (.int s_1), .val (.long (((((0 : Int64) ||| ((((bt f_1) &&& (255 : Int32)).toInt64) <<< ((0 : Int32) &&& 0x3f).toInt64)) ||| ((((bt (f_1 + (1 : Int32))) &&& (255 : Int32)).toInt64) <<< ((8 : Int32) &&& 0x3f).toInt64)) ||| ((((bt ((f_1 + (1 : Int32)) + (1 : Int32))) &&& (255 : Int32)).toInt64) <<< ((16 : Int32) &&& 0x3f).toInt64)) ||| ((((bt (((f_1 + (1 : Int32)) + (1 : Int32)) + (1 : Int32))) &&& (255 : Int32)).toInt64) <<< ((24 : Int32) &&& 0x3f).toInt64))), .second, .val (.int (32 : Int32))] [(.long ((((((((0 : Int64) ||| ((((bt f_1) &&& (255 : Int32)).toInt64) <<< ((0 : Int32) &&& 0x3f).toInt64)) ||| ((((bt (f_1 + (1 : Int32))) &&& (255 : Int32)).toInt64) <<< ((8 : Int32) &&& 0x3f).toInt64)) ||| ((((bt ((f_1 + (1 : Int32)) + (1 : Int32))) &&& (255 : Int32)).toInt64) <<< ((16 : Int32) &&& 0x3f).toInt64)) ||| ((((bt (((f_1 + (1 : Int32)) + (1 : Int32)) + (1 : Int32))) &&& (255 : Int32)).toInt64) <<< ((24 : Int32) &&& 0x3f).toInt64)).toUInt64 >>> (s_1 &&& 0x3f).toInt64.toUInt64).toInt64) &&& (((1 : Int64) <<< (b_1 &&& 0x3f).toInt64) - (1 : Int64))))])) _
              refine XS.l2i X183.here hx rfl (hb hby own_d9_96) rfl ?_
              show Steps p.tables e below (T183.setTop (mkF m 97 #[.val (.ref p_o), .val (.int i_1), .val (.long ((i_1.toInt64) * (b_1.toInt64))), .second, .val (.int ((((f_1 + (1 : Int32)) + (1 : Int32)) + (1 : Int32)) + (1 : Int32))), .val (.int s_1), .val (.long (((((0 : Int64) ||| ((((bt f_1) &&& (255 : Int32)).toInt64) <<< ((0 : Int32) &&& 0x3f).toInt64)) ||| ((((bt (f_1 + (1 : Int32))) &&& (255 : Int32)).toInt64) <<< ((8 : Int32) &&& 0x3f).toInt64)) ||| ((((bt ((f_1 + (1 : Int32)) + (1 : Int32))) &&& (255 : Int32)).toInt64) <<< ((16 : Int32) &&& 0x3f).toInt64)) ||| ((((bt (((f_1 + (1 : Int32)) + (1 : Int32)) + (1 : Int32))) &&& (255 : Int32)).toInt64) <<< ((24 : Int32) &&& 0x3f).toInt64))), .second, .val (.int (32 : Int32))] [(.int (((((((((0 : Int64) ||| ((((bt f_1) &&& (255 : Int32)).toInt64) <<< ((0 : Int32) &&& 0x3f).toInt64)) ||| ((((bt (f_1 + (1 : Int32))) &&& (255 : Int32)).toInt64) <<< ((8 : Int32) &&& 0x3f).toInt64)) ||| ((((bt ((f_1 + (1 : Int32)) + (1 : Int32))) &&& (255 : Int32)).toInt64) <<< ((16 : Int32) &&& 0x3f).toInt64)) ||| ((((bt (((f_1 + (1 : Int32)) + (1 : Int32)) + (1 : Int32))) &&& (255 : Int32)).toInt64) <<< ((24 : Int32) &&& 0x3f).toInt64)).toUInt64 >>> (s_1 &&& 0x3f).toInt64.toUInt64).toInt64) &&& (((1 : Int64) <<< (b_1 &&& 0x3f).toInt64) - (1 : Int64))).toInt32))])) _
              exact retI X183 hx Bd.returns (hb hby own_d9_97) hr
            · show Qown_g1 Z p_o i_1 b_1 f_1 s_1 n_1 r_o k_r ws_ bt h0 n0 _ T183.heap _
              rw [e183]
              have hv : (own_get_f f_1 s_1 b_1 bt) = (((((((((0 : Int64) ||| ((((bt f_1) &&& (255 : Int32)).toInt64) <<< ((0 : Int32) &&& 0x3f).toInt64)) ||| ((((bt (f_1 + (1 : Int32))) &&& (255 : Int32)).toInt64) <<< ((8 : Int32) &&& 0x3f).toInt64)) ||| ((((bt ((f_1 + (1 : Int32)) + (1 : Int32))) &&& (255 : Int32)).toInt64) <<< ((16 : Int32) &&& 0x3f).toInt64)) ||| ((((bt (((f_1 + (1 : Int32)) + (1 : Int32)) + (1 : Int32))) &&& (255 : Int32)).toInt64) <<< ((24 : Int32) &&& 0x3f).toInt64)).toUInt64 >>> (s_1 &&& 0x3f).toInt64.toUInt64).toInt64) &&& (((1 : Int64) <<< (b_1 &&& 0x3f).toInt64) - (1 : Int64))).toInt32) := by unfold own_get_f; rw [if_pos hc50_35, if_pos hc50_61, if_pos hc50_87, if_pos hc50_113, if_neg hc50_139]
              exact ⟨(by rw [hv]), N0, rfl⟩
        · obtain ⟨T196, X196, e196, st196⟩ := getF X109 hx hZ hown (host := "") (Or.inl (hw _ (List.mem_of_getElem? (i := 60) rfl))) Via.refl e109 F_b (g := (mkF m 89 #[.val (.ref p_o), .val (.int i_1), .val (.long ((i_1.toInt64) * (b_1.toInt64))), .second, .val (.int (((f_1 + (1 : Int32)) + (1 : Int32)) + (1 : Int32))), .val (.int s_1), .val (.long ((((0 : Int64) ||| ((((bt f_1) &&& (255 : Int32)).toInt64) <<< ((0 : Int32) &&& 0x3f).toInt64)) ||| ((((bt (f_1 + (1 : Int32))) &&& (255 : Int32)).toInt64) <<< ((8 : Int32) &&& 0x3f).toInt64)) ||| ((((bt ((f_1 + (1 : Int32)) + (1 : Int32))) &&& (255 : Int32)).toInt64) <<< ((16 : Int32) &&& 0x3f).toInt64))), .second, .val (.int (24 : Int32))] [(.ref p_o), (.long (1 : Int64)), (.long ((((((0 : Int64) ||| ((((bt f_1) &&& (255 : Int32)).toInt64) <<< ((0 : Int32) &&& 0x3f).toInt64)) ||| ((((bt (f_1 + (1 : Int32))) &&& (255 : Int32)).toInt64) <<< ((8 : Int32) &&& 0x3f).toInt64)) ||| ((((bt ((f_1 + (1 : Int32)) + (1 : Int32))) &&& (255 : Int32)).toInt64) <<< ((16 : Int32) &&& 0x3f).toInt64)).toUInt64 >>> (s_1 &&& 0x3f).toInt64.toUInt64).toInt64))])) rfl rfl (hb hby own_d9_89)
          obtain ⟨fs, hr, hrun, hended, hW, hsame⟩ := X196.leave (v := some (.int ((((((((0 : Int64) ||| ((((bt f_1) &&& (255 : Int32)).toInt64) <<< ((0 : Int32) &&& 0x3f).toInt64)) ||| ((((bt (f_1 + (1 : Int32))) &&& (255 : Int32)).toInt64) <<< ((8 : Int32) &&& 0x3f).toInt64)) ||| ((((bt ((f_1 + (1 : Int32)) + (1 : Int32))) &&& (255 : Int32)).toInt64) <<< ((16 : Int32) &&& 0x3f).toInt64)).toUInt64 >>> (s_1 &&& 0x3f).toInt64.toUInt64).toInt64) &&& (((1 : Int64) <<< (b_1 &&& 0x3f).toInt64) - (1 : Int64))).toInt32))) (fun h => by rw [Bd.returns] at h; cases h) (hlocks := BodyLoose.notSynchronized Bd)
          refine ⟨_, _, pre112 _ ?_, hrun, hended, _, _, rfl, ?_, ⟨_, rfl⟩, hW, hsame.mono (by decide) (by decide)⟩
          · show Steps p.tables e below (T109.setTop (mkF m 50 #[.val (.ref p_o), .val (.int i_1), .val (.long ((i_1.toInt64) * (b_1.toInt64))), .second, .val (.int (((f_1 + (1 : Int32)) + (1 : Int32)) + (1 : Int32))), .val (.int s_1), .val (.long ((((0 : Int64) ||| ((((bt f_1) &&& (255 : Int32)).toInt64) <<< ((0 : Int32) &&& 0x3f).toInt64)) ||| ((((bt (f_1 + (1 : Int32))) &&& (255 : Int32)).toInt64) <<< ((8 : Int32) &&& 0x3f).toInt64)) ||| ((((bt ((f_1 + (1 : Int32)) + (1 : Int32))) &&& (255 : Int32)).toInt64) <<< ((16 : Int32) &&& 0x3f).toInt64))), .second, .val (.int (24 : Int32))] [(.int (s_1 + b_1)), (.int (24 : Int32))])) _
            refine XS.icmpYes X109.here hx rfl (pc0 := 50) (pc' := 82) rfl (hb hby own_d9_50) rfl (flt hc50_113).2.1 (by decide) (by decide) ?_
            show Steps p.tables e below (T109.setTop (mkF m 82 #[.val (.ref p_o), .val (.int i_1), .val (.long ((i_1.toInt64) * (b_1.toInt64))), .second, .val (.int (((f_1 + (1 : Int32)) + (1 : Int32)) + (1 : Int32))), .val (.int s_1), .val (.long ((((0 : Int64) ||| ((((bt f_1) &&& (255 : Int32)).toInt64) <<< ((0 : Int32) &&& 0x3f).toInt64)) ||| ((((bt (f_1 + (1 : Int32))) &&& (255 : Int32)).toInt64) <<< ((8 : Int32) &&& 0x3f).toInt64)) ||| ((((bt ((f_1 + (1 : Int32)) + (1 : Int32))) &&& (255 : Int32)).toInt64) <<< ((16 : Int32) &&& 0x3f).toInt64))), .second, .val (.int (24 : Int32))] [])) _
            refine XS.lload X109.here hx rfl (hb hby own_d9_82) rfl ?_
            show Steps p.tables e below (T109.setTop (mkF m 84 #[.val (.ref p_o), .val (.int i_1), .val (.long ((i_1.toInt64) * (b_1.toInt64))), .second, .val (.int (((f_1 + (1 : Int32)) + (1 : Int32)) + (1 : Int32))), .val (.int s_1), .val (.long ((((0 : Int64) ||| ((((bt f_1) &&& (255 : Int32)).toInt64) <<< ((0 : Int32) &&& 0x3f).toInt64)) ||| ((((bt (f_1 + (1 : Int32))) &&& (255 : Int32)).toInt64) <<< ((8 : Int32) &&& 0x3f).toInt64)) ||| ((((bt ((f_1 + (1 : Int32)) + (1 : Int32))) &&& (255 : Int32)).toInt64) <<< ((16 : Int32) &&& 0x3f).toInt64))), .second, .val (.int (24 : Int32))] [(.long ((((0 : Int64) ||| ((((bt f_1) &&& (255 : Int32)).toInt64) <<< ((0 : Int32) &&& 0x3f).toInt64)) ||| ((((bt (f_1 + (1 : Int32))) &&& (255 : Int32)).toInt64) <<< ((8 : Int32) &&& 0x3f).toInt64)) ||| ((((bt ((f_1 + (1 : Int32)) + (1 : Int32))) &&& (255 : Int32)).toInt64) <<< ((16 : Int32) &&& 0x3f).toInt64)))])) _
            refine XS.iload X109.here hx rfl (hb hby own_d9_84) rfl ?_
            show Steps p.tables e below (T109.setTop (mkF m 86 #[.val (.ref p_o), .val (.int i_1), .val (.long ((i_1.toInt64) * (b_1.toInt64))), .second, .val (.int (((f_1 + (1 : Int32)) + (1 : Int32)) + (1 : Int32))), .val (.int s_1), .val (.long ((((0 : Int64) ||| ((((bt f_1) &&& (255 : Int32)).toInt64) <<< ((0 : Int32) &&& 0x3f).toInt64)) ||| ((((bt (f_1 + (1 : Int32))) &&& (255 : Int32)).toInt64) <<< ((8 : Int32) &&& 0x3f).toInt64)) ||| ((((bt ((f_1 + (1 : Int32)) + (1 : Int32))) &&& (255 : Int32)).toInt64) <<< ((16 : Int32) &&& 0x3f).toInt64))), .second, .val (.int (24 : Int32))] [(.int s_1), (.long ((((0 : Int64) ||| ((((bt f_1) &&& (255 : Int32)).toInt64) <<< ((0 : Int32) &&& 0x3f).toInt64)) ||| ((((bt (f_1 + (1 : Int32))) &&& (255 : Int32)).toInt64) <<< ((8 : Int32) &&& 0x3f).toInt64)) ||| ((((bt ((f_1 + (1 : Int32)) + (1 : Int32))) &&& (255 : Int32)).toInt64) <<< ((16 : Int32) &&& 0x3f).toInt64)))])) _
            refine XS.lushr X109.here hx rfl (hb hby own_d9_86) rfl ?_
            show Steps p.tables e below (T109.setTop (mkF m 87 #[.val (.ref p_o), .val (.int i_1), .val (.long ((i_1.toInt64) * (b_1.toInt64))), .second, .val (.int (((f_1 + (1 : Int32)) + (1 : Int32)) + (1 : Int32))), .val (.int s_1), .val (.long ((((0 : Int64) ||| ((((bt f_1) &&& (255 : Int32)).toInt64) <<< ((0 : Int32) &&& 0x3f).toInt64)) ||| ((((bt (f_1 + (1 : Int32))) &&& (255 : Int32)).toInt64) <<< ((8 : Int32) &&& 0x3f).toInt64)) ||| ((((bt ((f_1 + (1 : Int32)) + (1 : Int32))) &&& (255 : Int32)).toInt64) <<< ((16 : Int32) &&& 0x3f).toInt64))), .second, .val (.int (24 : Int32))] [(.long ((((((0 : Int64) ||| ((((bt f_1) &&& (255 : Int32)).toInt64) <<< ((0 : Int32) &&& 0x3f).toInt64)) ||| ((((bt (f_1 + (1 : Int32))) &&& (255 : Int32)).toInt64) <<< ((8 : Int32) &&& 0x3f).toInt64)) ||| ((((bt ((f_1 + (1 : Int32)) + (1 : Int32))) &&& (255 : Int32)).toInt64) <<< ((16 : Int32) &&& 0x3f).toInt64)).toUInt64 >>> (s_1 &&& 0x3f).toInt64.toUInt64).toInt64))])) _
            refine XS.lconst X109.here hx rfl (hb hby own_d9_87) ?_
            show Steps p.tables e below (T109.setTop (mkF m 88 #[.val (.ref p_o), .val (.int i_1), .val (.long ((i_1.toInt64) * (b_1.toInt64))), .second, .val (.int (((f_1 + (1 : Int32)) + (1 : Int32)) + (1 : Int32))), .val (.int s_1), .val (.long ((((0 : Int64) ||| ((((bt f_1) &&& (255 : Int32)).toInt64) <<< ((0 : Int32) &&& 0x3f).toInt64)) ||| ((((bt (f_1 + (1 : Int32))) &&& (255 : Int32)).toInt64) <<< ((8 : Int32) &&& 0x3f).toInt64)) ||| ((((bt ((f_1 + (1 : Int32)) + (1 : Int32))) &&& (255 : Int32)).toInt64) <<< ((16 : Int32) &&& 0x3f).toInt64))), .second, .val (.int (24 : Int32))] [(.long (1 : Int64)), (.long ((((((0 : Int64) ||| ((((bt f_1) &&& (255 : Int32)).toInt64) <<< ((0 : Int32) &&& 0x3f).toInt64)) ||| ((((bt (f_1 + (1 : Int32))) &&& (255 : Int32)).toInt64) <<< ((8 : Int32) &&& 0x3f).toInt64)) ||| ((((bt ((f_1 + (1 : Int32)) + (1 : Int32))) &&& (255 : Int32)).toInt64) <<< ((16 : Int32) &&& 0x3f).toInt64)).toUInt64 >>> (s_1 &&& 0x3f).toInt64.toUInt64).toInt64))])) _
            refine XS.aloadN X109.here hx rfl (hb hby own_d9_88) rfl rfl ?_
            show Steps p.tables e below (T109.setTop (mkF m 89 #[.val (.ref p_o), .val (.int i_1), .val (.long ((i_1.toInt64) * (b_1.toInt64))), .second, .val (.int (((f_1 + (1 : Int32)) + (1 : Int32)) + (1 : Int32))), .val (.int s_1), .val (.long ((((0 : Int64) ||| ((((bt f_1) &&& (255 : Int32)).toInt64) <<< ((0 : Int32) &&& 0x3f).toInt64)) ||| ((((bt (f_1 + (1 : Int32))) &&& (255 : Int32)).toInt64) <<< ((8 : Int32) &&& 0x3f).toInt64)) ||| ((((bt ((f_1 + (1 : Int32)) + (1 : Int32))) &&& (255 : Int32)).toInt64) <<< ((16 : Int32) &&& 0x3f).toInt64))), .second, .val (.int (24 : Int32))] [(.ref p_o), (.long (1 : Int64)), (.long ((((((0 : Int64) ||| ((((bt f_1) &&& (255 : Int32)).toInt64) <<< ((0 : Int32) &&& 0x3f).toInt64)) ||| ((((bt (f_1 + (1 : Int32))) &&& (255 : Int32)).toInt64) <<< ((8 : Int32) &&& 0x3f).toInt64)) ||| ((((bt ((f_1 + (1 : Int32)) + (1 : Int32))) &&& (255 : Int32)).toInt64) <<< ((16 : Int32) &&& 0x3f).toInt64)).toUInt64 >>> (s_1 &&& 0x3f).toInt64.toUInt64).toInt64))])) _
            refine st196 _ ?_
            show Steps p.tables e below (T196.setTop (mkF m 92 #[.val (.ref p_o), .val (.int i_1), .val (.long ((i_1.toInt64) * (b_1.toInt64))), .second, .val (.int (((f_1 + (1 : Int32)) + (1 : Int32)) + (1 : Int32))), .val (.int s_1), .val (.long ((((0 : Int64) ||| ((((bt f_1) &&& (255 : Int32)).toInt64) <<< ((0 : Int32) &&& 0x3f).toInt64)) ||| ((((bt (f_1 + (1 : Int32))) &&& (255 : Int32)).toInt64) <<< ((8 : Int32) &&& 0x3f).toInt64)) ||| ((((bt ((f_1 + (1 : Int32)) + (1 : Int32))) &&& (255 : Int32)).toInt64) <<< ((16 : Int32) &&& 0x3f).toInt64))), .second, .val (.int (24 : Int32))] [(.int b_1), (.long (1 : Int64)), (.long ((((((0 : Int64) ||| ((((bt f_1) &&& (255 : Int32)).toInt64) <<< ((0 : Int32) &&& 0x3f).toInt64)) ||| ((((bt (f_1 + (1 : Int32))) &&& (255 : Int32)).toInt64) <<< ((8 : Int32) &&& 0x3f).toInt64)) ||| ((((bt ((f_1 + (1 : Int32)) + (1 : Int32))) &&& (255 : Int32)).toInt64) <<< ((16 : Int32) &&& 0x3f).toInt64)).toUInt64 >>> (s_1 &&& 0x3f).toInt64.toUInt64).toInt64))])) _
            refine XS.lshl X196.here hx rfl (hb hby own_d9_92) rfl ?_
            show Steps p.tables e below (T196.setTop (mkF m 93 #[.val (.ref p_o), .val (.int i_1), .val (.long ((i_1.toInt64) * (b_1.toInt64))), .second, .val (.int (((f_1 + (1 : Int32)) + (1 : Int32)) + (1 : Int32))), .val (.int s_1), .val (.long ((((0 : Int64) ||| ((((bt f_1) &&& (255 : Int32)).toInt64) <<< ((0 : Int32) &&& 0x3f).toInt64)) ||| ((((bt (f_1 + (1 : Int32))) &&& (255 : Int32)).toInt64) <<< ((8 : Int32) &&& 0x3f).toInt64)) ||| ((((bt ((f_1 + (1 : Int32)) + (1 : Int32))) &&& (255 : Int32)).toInt64) <<< ((16 : Int32) &&& 0x3f).toInt64))), .second, .val (.int (24 : Int32))] [(.long ((1 : Int64) <<< (b_1 &&& 0x3f).toInt64)), (.long ((((((0 : Int64) ||| ((((bt f_1) &&& (255 : Int32)).toInt64) <<< ((0 : Int32) &&& 0x3f).toInt64)) ||| ((((bt (f_1 + (1 : Int32))) &&& (255 : Int32)).toInt64) <<< ((8 : Int32) &&& 0x3f).toInt64)) ||| ((((bt ((f_1 + (1 : Int32)) + (1 : Int32))) &&& (255 : Int32)).toInt64) <<< ((16 : Int32) &&& 0x3f).toInt64)).toUInt64 >>> (s_1 &&& 0x3f).toInt64.toUInt64).toInt64))])) _
            refine XS.lconst X196.here hx rfl (hb hby own_d9_93) ?_
            show Steps p.tables e below (T196.setTop (mkF m 94 #[.val (.ref p_o), .val (.int i_1), .val (.long ((i_1.toInt64) * (b_1.toInt64))), .second, .val (.int (((f_1 + (1 : Int32)) + (1 : Int32)) + (1 : Int32))), .val (.int s_1), .val (.long ((((0 : Int64) ||| ((((bt f_1) &&& (255 : Int32)).toInt64) <<< ((0 : Int32) &&& 0x3f).toInt64)) ||| ((((bt (f_1 + (1 : Int32))) &&& (255 : Int32)).toInt64) <<< ((8 : Int32) &&& 0x3f).toInt64)) ||| ((((bt ((f_1 + (1 : Int32)) + (1 : Int32))) &&& (255 : Int32)).toInt64) <<< ((16 : Int32) &&& 0x3f).toInt64))), .second, .val (.int (24 : Int32))] [(.long (1 : Int64)), (.long ((1 : Int64) <<< (b_1 &&& 0x3f).toInt64)), (.long ((((((0 : Int64) ||| ((((bt f_1) &&& (255 : Int32)).toInt64) <<< ((0 : Int32) &&& 0x3f).toInt64)) ||| ((((bt (f_1 + (1 : Int32))) &&& (255 : Int32)).toInt64) <<< ((8 : Int32) &&& 0x3f).toInt64)) ||| ((((bt ((f_1 + (1 : Int32)) + (1 : Int32))) &&& (255 : Int32)).toInt64) <<< ((16 : Int32) &&& 0x3f).toInt64)).toUInt64 >>> (s_1 &&& 0x3f).toInt64.toUInt64).toInt64))])) _
            refine XS.lsub X196.here hx rfl (hb hby own_d9_94) rfl ?_
            show Steps p.tables e below (T196.setTop (mkF m 95 #[.val (.ref p_o), .val (.int i_1), .val (.long ((i_1.toInt64) * (b_1.toInt64))), .second, .val (.int (((f_1 + (1 : Int32)) + (1 : Int32)) + (1 : Int32))), .val (.int s_1), .val (.long ((((0 : Int64) ||| ((((bt f_1) &&& (255 : Int32)).toInt64) <<< ((0 : Int32) &&& 0x3f).toInt64)) ||| ((((bt (f_1 + (1 : Int32))) &&& (255 : Int32)).toInt64) <<< ((8 : Int32) &&& 0x3f).toInt64)) ||| ((((bt ((f_1 + (1 : Int32)) + (1 : Int32))) &&& (255 : Int32)).toInt64) <<< ((16 : Int32) &&& 0x3f).toInt64))), .second, .val (.int (24 : Int32))] [(.long (((1 : Int64) <<< (b_1 &&& 0x3f).toInt64) - (1 : Int64))), (.long ((((((0 : Int64) ||| ((((bt f_1) &&& (255 : Int32)).toInt64) <<< ((0 : Int32) &&& 0x3f).toInt64)) ||| ((((bt (f_1 + (1 : Int32))) &&& (255 : Int32)).toInt64) <<< ((8 : Int32) &&& 0x3f).toInt64)) ||| ((((bt ((f_1 + (1 : Int32)) + (1 : Int32))) &&& (255 : Int32)).toInt64) <<< ((16 : Int32) &&& 0x3f).toInt64)).toUInt64 >>> (s_1 &&& 0x3f).toInt64.toUInt64).toInt64))])) _
            refine XS.land X196.here hx rfl (hb hby own_d9_95) rfl ?_
            show Steps p.tables e below (T196.setTop (mkF m 96 #[.val (.ref p_o), .val (.int i_1), .val (.long ((i_1.toInt64) * (b_1.toInt64))), .second, .val (.int (((f_1 + (1 : Int32)) + (1 : Int32)) + (1 : Int32))), .val (.int s_1), .val (.long ((((0 : Int64) ||| ((((bt f_1) &&& (255 : Int32)).toInt64) <<< ((0 : Int32) &&& 0x3f).toInt64)) ||| ((((bt (f_1 + (1 : Int32))) &&& (255 : Int32)).toInt64) <<< ((8 : Int32) &&& 0x3f).toInt64)) ||| ((((bt ((f_1 + (1 : Int32)) + (1 : Int32))) &&& (255 : Int32)).toInt64) <<< ((16 : Int32) &&& 0x3f).toInt64))), .second, .val (.int (24 : Int32))] [(.long (((((((0 : Int64) ||| ((((bt f_1) &&& (255 : Int32)).toInt64) <<< ((0 : Int32) &&& 0x3f).toInt64)) ||| ((((bt (f_1 + (1 : Int32))) &&& (255 : Int32)).toInt64) <<< ((8 : Int32) &&& 0x3f).toInt64)) ||| ((((bt ((f_1 + (1 : Int32)) + (1 : Int32))) &&& (255 : Int32)).toInt64) <<< ((16 : Int32) &&& 0x3f).toInt64)).toUInt64 >>> (s_1 &&& 0x3f).toInt64.toUInt64).toInt64) &&& (((1 : Int64) <<< (b_1 &&& 0x3f).toInt64) - (1 : Int64))))])) _
            refine XS.l2i X196.here hx rfl (hb hby own_d9_96) rfl ?_
            show Steps p.tables e below (T196.setTop (mkF m 97 #[.val (.ref p_o), .val (.int i_1), .val (.long ((i_1.toInt64) * (b_1.toInt64))), .second, .val (.int (((f_1 + (1 : Int32)) + (1 : Int32)) + (1 : Int32))), .val (.int s_1), .val (.long ((((0 : Int64) ||| ((((bt f_1) &&& (255 : Int32)).toInt64) <<< ((0 : Int32) &&& 0x3f).toInt64)) ||| ((((bt (f_1 + (1 : Int32))) &&& (255 : Int32)).toInt64) <<< ((8 : Int32) &&& 0x3f).toInt64)) ||| ((((bt ((f_1 + (1 : Int32)) + (1 : Int32))) &&& (255 : Int32)).toInt64) <<< ((16 : Int32) &&& 0x3f).toInt64))), .second, .val (.int (24 : Int32))] [(.int ((((((((0 : Int64) ||| ((((bt f_1) &&& (255 : Int32)).toInt64) <<< ((0 : Int32) &&& 0x3f).toInt64)) ||| ((((bt (f_1 + (1 : Int32))) &&& (255 : Int32)).toInt64) <<< ((8 : Int32) &&& 0x3f).toInt64)) ||| ((((bt ((f_1 + (1 : Int32)) + (1 : Int32))) &&& (255 : Int32)).toInt64) <<< ((16 : Int32) &&& 0x3f).toInt64)).toUInt64 >>> (s_1 &&& 0x3f).toInt64.toUInt64).toInt64) &&& (((1 : Int64) <<< (b_1 &&& 0x3f).toInt64) - (1 : Int64))).toInt32))])) _
            exact retI X196 hx Bd.returns (hb hby own_d9_97) hr
          · show Qown_g1 Z p_o i_1 b_1 f_1 s_1 n_1 r_o k_r ws_ bt h0 n0 _ T196.heap _
            rw [e196]
            have hv : (own_get_f f_1 s_1 b_1 bt) = ((((((((0 : Int64) ||| ((((bt f_1) &&& (255 : Int32)).toInt64) <<< ((0 : Int32) &&& 0x3f).toInt64)) ||| ((((bt (f_1 + (1 : Int32))) &&& (255 : Int32)).toInt64) <<< ((8 : Int32) &&& 0x3f).toInt64)) ||| ((((bt ((f_1 + (1 : Int32)) + (1 : Int32))) &&& (255 : Int32)).toInt64) <<< ((16 : Int32) &&& 0x3f).toInt64)).toUInt64 >>> (s_1 &&& 0x3f).toInt64.toUInt64).toInt64) &&& (((1 : Int64) <<< (b_1 &&& 0x3f).toInt64) - (1 : Int64))).toInt32) := by unfold own_get_f; rw [if_pos hc50_35, if_pos hc50_61, if_pos hc50_87, if_neg hc50_113]
            exact ⟨(by rw [hv]), N0, rfl⟩
      · obtain ⟨T209, X209, e209, st209⟩ := getF X83 hx hZ hown (host := "") (Or.inl (hw _ (List.mem_of_getElem? (i := 60) rfl))) Via.refl e83 F_b (g := (mkF m 89 #[.val (.ref p_o), .val (.int i_1), .val (.long ((i_1.toInt64) * (b_1.toInt64))), .second, .val (.int ((f_1 + (1 : Int32)) + (1 : Int32))), .val (.int s_1), .val (.long (((0 : Int64) ||| ((((bt f_1) &&& (255 : Int32)).toInt64) <<< ((0 : Int32) &&& 0x3f).toInt64)) ||| ((((bt (f_1 + (1 : Int32))) &&& (255 : Int32)).toInt64) <<< ((8 : Int32) &&& 0x3f).toInt64))), .second, .val (.int (16 : Int32))] [(.ref p_o), (.long (1 : Int64)), (.long (((((0 : Int64) ||| ((((bt f_1) &&& (255 : Int32)).toInt64) <<< ((0 : Int32) &&& 0x3f).toInt64)) ||| ((((bt (f_1 + (1 : Int32))) &&& (255 : Int32)).toInt64) <<< ((8 : Int32) &&& 0x3f).toInt64)).toUInt64 >>> (s_1 &&& 0x3f).toInt64.toUInt64).toInt64))])) rfl rfl (hb hby own_d9_89)
        obtain ⟨fs, hr, hrun, hended, hW, hsame⟩ := X209.leave (v := some (.int (((((((0 : Int64) ||| ((((bt f_1) &&& (255 : Int32)).toInt64) <<< ((0 : Int32) &&& 0x3f).toInt64)) ||| ((((bt (f_1 + (1 : Int32))) &&& (255 : Int32)).toInt64) <<< ((8 : Int32) &&& 0x3f).toInt64)).toUInt64 >>> (s_1 &&& 0x3f).toInt64.toUInt64).toInt64) &&& (((1 : Int64) <<< (b_1 &&& 0x3f).toInt64) - (1 : Int64))).toInt32))) (fun h => by rw [Bd.returns] at h; cases h) (hlocks := BodyLoose.notSynchronized Bd)
        refine ⟨_, _, pre86 _ ?_, hrun, hended, _, _, rfl, ?_, ⟨_, rfl⟩, hW, hsame.mono (by decide) (by decide)⟩
        · show Steps p.tables e below (T83.setTop (mkF m 50 #[.val (.ref p_o), .val (.int i_1), .val (.long ((i_1.toInt64) * (b_1.toInt64))), .second, .val (.int ((f_1 + (1 : Int32)) + (1 : Int32))), .val (.int s_1), .val (.long (((0 : Int64) ||| ((((bt f_1) &&& (255 : Int32)).toInt64) <<< ((0 : Int32) &&& 0x3f).toInt64)) ||| ((((bt (f_1 + (1 : Int32))) &&& (255 : Int32)).toInt64) <<< ((8 : Int32) &&& 0x3f).toInt64))), .second, .val (.int (16 : Int32))] [(.int (s_1 + b_1)), (.int (16 : Int32))])) _
          refine XS.icmpYes X83.here hx rfl (pc0 := 50) (pc' := 82) rfl (hb hby own_d9_50) rfl (flt hc50_87).2.1 (by decide) (by decide) ?_
          show Steps p.tables e below (T83.setTop (mkF m 82 #[.val (.ref p_o), .val (.int i_1), .val (.long ((i_1.toInt64) * (b_1.toInt64))), .second, .val (.int ((f_1 + (1 : Int32)) + (1 : Int32))), .val (.int s_1), .val (.long (((0 : Int64) ||| ((((bt f_1) &&& (255 : Int32)).toInt64) <<< ((0 : Int32) &&& 0x3f).toInt64)) ||| ((((bt (f_1 + (1 : Int32))) &&& (255 : Int32)).toInt64) <<< ((8 : Int32) &&& 0x3f).toInt64))), .second, .val (.int (16 : Int32))] [])) _
          refine XS.lload X83.here hx rfl (hb hby own_d9_82) rfl ?_
          show Steps p.tables e below (T83.setTop (mkF m 84 #[.val (.ref p_o), .val (.int i_1), .val (.long ((i_1.toInt64) * (b_1.toInt64))), .second, .val (.int ((f_1 + (1 : Int32)) + (1 : Int32))), .val (.int s_1), .val (.long (((0 : Int64) ||| ((((bt f_1) &&& (255 : Int32)).toInt64) <<< ((0 : Int32) &&& 0x3f).toInt64)) ||| ((((bt (f_1 + (1 : Int32))) &&& (255 : Int32)).toInt64) <<< ((8 : Int32) &&& 0x3f).toInt64))), .second, .val (.int (16 : Int32))] [(.long (((0 : Int64) ||| ((((bt f_1) &&& (255 : Int32)).toInt64) <<< ((0 : Int32) &&& 0x3f).toInt64)) ||| ((((bt (f_1 + (1 : Int32))) &&& (255 : Int32)).toInt64) <<< ((8 : Int32) &&& 0x3f).toInt64)))])) _
          refine XS.iload X83.here hx rfl (hb hby own_d9_84) rfl ?_
          show Steps p.tables e below (T83.setTop (mkF m 86 #[.val (.ref p_o), .val (.int i_1), .val (.long ((i_1.toInt64) * (b_1.toInt64))), .second, .val (.int ((f_1 + (1 : Int32)) + (1 : Int32))), .val (.int s_1), .val (.long (((0 : Int64) ||| ((((bt f_1) &&& (255 : Int32)).toInt64) <<< ((0 : Int32) &&& 0x3f).toInt64)) ||| ((((bt (f_1 + (1 : Int32))) &&& (255 : Int32)).toInt64) <<< ((8 : Int32) &&& 0x3f).toInt64))), .second, .val (.int (16 : Int32))] [(.int s_1), (.long (((0 : Int64) ||| ((((bt f_1) &&& (255 : Int32)).toInt64) <<< ((0 : Int32) &&& 0x3f).toInt64)) ||| ((((bt (f_1 + (1 : Int32))) &&& (255 : Int32)).toInt64) <<< ((8 : Int32) &&& 0x3f).toInt64)))])) _
          refine XS.lushr X83.here hx rfl (hb hby own_d9_86) rfl ?_
          show Steps p.tables e below (T83.setTop (mkF m 87 #[.val (.ref p_o), .val (.int i_1), .val (.long ((i_1.toInt64) * (b_1.toInt64))), .second, .val (.int ((f_1 + (1 : Int32)) + (1 : Int32))), .val (.int s_1), .val (.long (((0 : Int64) ||| ((((bt f_1) &&& (255 : Int32)).toInt64) <<< ((0 : Int32) &&& 0x3f).toInt64)) ||| ((((bt (f_1 + (1 : Int32))) &&& (255 : Int32)).toInt64) <<< ((8 : Int32) &&& 0x3f).toInt64))), .second, .val (.int (16 : Int32))] [(.long (((((0 : Int64) ||| ((((bt f_1) &&& (255 : Int32)).toInt64) <<< ((0 : Int32) &&& 0x3f).toInt64)) ||| ((((bt (f_1 + (1 : Int32))) &&& (255 : Int32)).toInt64) <<< ((8 : Int32) &&& 0x3f).toInt64)).toUInt64 >>> (s_1 &&& 0x3f).toInt64.toUInt64).toInt64))])) _
          refine XS.lconst X83.here hx rfl (hb hby own_d9_87) ?_
          show Steps p.tables e below (T83.setTop (mkF m 88 #[.val (.ref p_o), .val (.int i_1), .val (.long ((i_1.toInt64) * (b_1.toInt64))), .second, .val (.int ((f_1 + (1 : Int32)) + (1 : Int32))), .val (.int s_1), .val (.long (((0 : Int64) ||| ((((bt f_1) &&& (255 : Int32)).toInt64) <<< ((0 : Int32) &&& 0x3f).toInt64)) ||| ((((bt (f_1 + (1 : Int32))) &&& (255 : Int32)).toInt64) <<< ((8 : Int32) &&& 0x3f).toInt64))), .second, .val (.int (16 : Int32))] [(.long (1 : Int64)), (.long (((((0 : Int64) ||| ((((bt f_1) &&& (255 : Int32)).toInt64) <<< ((0 : Int32) &&& 0x3f).toInt64)) ||| ((((bt (f_1 + (1 : Int32))) &&& (255 : Int32)).toInt64) <<< ((8 : Int32) &&& 0x3f).toInt64)).toUInt64 >>> (s_1 &&& 0x3f).toInt64.toUInt64).toInt64))])) _
          refine XS.aloadN X83.here hx rfl (hb hby own_d9_88) rfl rfl ?_
          show Steps p.tables e below (T83.setTop (mkF m 89 #[.val (.ref p_o), .val (.int i_1), .val (.long ((i_1.toInt64) * (b_1.toInt64))), .second, .val (.int ((f_1 + (1 : Int32)) + (1 : Int32))), .val (.int s_1), .val (.long (((0 : Int64) ||| ((((bt f_1) &&& (255 : Int32)).toInt64) <<< ((0 : Int32) &&& 0x3f).toInt64)) ||| ((((bt (f_1 + (1 : Int32))) &&& (255 : Int32)).toInt64) <<< ((8 : Int32) &&& 0x3f).toInt64))), .second, .val (.int (16 : Int32))] [(.ref p_o), (.long (1 : Int64)), (.long (((((0 : Int64) ||| ((((bt f_1) &&& (255 : Int32)).toInt64) <<< ((0 : Int32) &&& 0x3f).toInt64)) ||| ((((bt (f_1 + (1 : Int32))) &&& (255 : Int32)).toInt64) <<< ((8 : Int32) &&& 0x3f).toInt64)).toUInt64 >>> (s_1 &&& 0x3f).toInt64.toUInt64).toInt64))])) _
          refine st209 _ ?_
          show Steps p.tables e below (T209.setTop (mkF m 92 #[.val (.ref p_o), .val (.int i_1), .val (.long ((i_1.toInt64) * (b_1.toInt64))), .second, .val (.int ((f_1 + (1 : Int32)) + (1 : Int32))), .val (.int s_1), .val (.long (((0 : Int64) ||| ((((bt f_1) &&& (255 : Int32)).toInt64) <<< ((0 : Int32) &&& 0x3f).toInt64)) ||| ((((bt (f_1 + (1 : Int32))) &&& (255 : Int32)).toInt64) <<< ((8 : Int32) &&& 0x3f).toInt64))), .second, .val (.int (16 : Int32))] [(.int b_1), (.long (1 : Int64)), (.long (((((0 : Int64) ||| ((((bt f_1) &&& (255 : Int32)).toInt64) <<< ((0 : Int32) &&& 0x3f).toInt64)) ||| ((((bt (f_1 + (1 : Int32))) &&& (255 : Int32)).toInt64) <<< ((8 : Int32) &&& 0x3f).toInt64)).toUInt64 >>> (s_1 &&& 0x3f).toInt64.toUInt64).toInt64))])) _
          refine XS.lshl X209.here hx rfl (hb hby own_d9_92) rfl ?_
          show Steps p.tables e below (T209.setTop (mkF m 93 #[.val (.ref p_o), .val (.int i_1), .val (.long ((i_1.toInt64) * (b_1.toInt64))), .second, .val (.int ((f_1 + (1 : Int32)) + (1 : Int32))), .val (.int s_1), .val (.long (((0 : Int64) ||| ((((bt f_1) &&& (255 : Int32)).toInt64) <<< ((0 : Int32) &&& 0x3f).toInt64)) ||| ((((bt (f_1 + (1 : Int32))) &&& (255 : Int32)).toInt64) <<< ((8 : Int32) &&& 0x3f).toInt64))), .second, .val (.int (16 : Int32))] [(.long ((1 : Int64) <<< (b_1 &&& 0x3f).toInt64)), (.long (((((0 : Int64) ||| ((((bt f_1) &&& (255 : Int32)).toInt64) <<< ((0 : Int32) &&& 0x3f).toInt64)) ||| ((((bt (f_1 + (1 : Int32))) &&& (255 : Int32)).toInt64) <<< ((8 : Int32) &&& 0x3f).toInt64)).toUInt64 >>> (s_1 &&& 0x3f).toInt64.toUInt64).toInt64))])) _
          refine XS.lconst X209.here hx rfl (hb hby own_d9_93) ?_
          show Steps p.tables e below (T209.setTop (mkF m 94 #[.val (.ref p_o), .val (.int i_1), .val (.long ((i_1.toInt64) * (b_1.toInt64))), .second, .val (.int ((f_1 + (1 : Int32)) + (1 : Int32))), .val (.int s_1), .val (.long (((0 : Int64) ||| ((((bt f_1) &&& (255 : Int32)).toInt64) <<< ((0 : Int32) &&& 0x3f).toInt64)) ||| ((((bt (f_1 + (1 : Int32))) &&& (255 : Int32)).toInt64) <<< ((8 : Int32) &&& 0x3f).toInt64))), .second, .val (.int (16 : Int32))] [(.long (1 : Int64)), (.long ((1 : Int64) <<< (b_1 &&& 0x3f).toInt64)), (.long (((((0 : Int64) ||| ((((bt f_1) &&& (255 : Int32)).toInt64) <<< ((0 : Int32) &&& 0x3f).toInt64)) ||| ((((bt (f_1 + (1 : Int32))) &&& (255 : Int32)).toInt64) <<< ((8 : Int32) &&& 0x3f).toInt64)).toUInt64 >>> (s_1 &&& 0x3f).toInt64.toUInt64).toInt64))])) _
          refine XS.lsub X209.here hx rfl (hb hby own_d9_94) rfl ?_
          show Steps p.tables e below (T209.setTop (mkF m 95 #[.val (.ref p_o), .val (.int i_1), .val (.long ((i_1.toInt64) * (b_1.toInt64))), .second, .val (.int ((f_1 + (1 : Int32)) + (1 : Int32))), .val (.int s_1), .val (.long (((0 : Int64) ||| ((((bt f_1) &&& (255 : Int32)).toInt64) <<< ((0 : Int32) &&& 0x3f).toInt64)) ||| ((((bt (f_1 + (1 : Int32))) &&& (255 : Int32)).toInt64) <<< ((8 : Int32) &&& 0x3f).toInt64))), .second, .val (.int (16 : Int32))] [(.long (((1 : Int64) <<< (b_1 &&& 0x3f).toInt64) - (1 : Int64))), (.long (((((0 : Int64) ||| ((((bt f_1) &&& (255 : Int32)).toInt64) <<< ((0 : Int32) &&& 0x3f).toInt64)) ||| ((((bt (f_1 + (1 : Int32))) &&& (255 : Int32)).toInt64) <<< ((8 : Int32) &&& 0x3f).toInt64)).toUInt64 >>> (s_1 &&& 0x3f).toInt64.toUInt64).toInt64))])) _
          refine XS.land X209.here hx rfl (hb hby own_d9_95) rfl ?_
          show Steps p.tables e below (T209.setTop (mkF m 96 #[.val (.ref p_o), .val (.int i_1), .val (.long ((i_1.toInt64) * (b_1.toInt64))), .second, .val (.int ((f_1 + (1 : Int32)) + (1 : Int32))), .val (.int s_1), .val (.long (((0 : Int64) ||| ((((bt f_1) &&& (255 : Int32)).toInt64) <<< ((0 : Int32) &&& 0x3f).toInt64)) ||| ((((bt (f_1 + (1 : Int32))) &&& (255 : Int32)).toInt64) <<< ((8 : Int32) &&& 0x3f).toInt64))), .second, .val (.int (16 : Int32))] [(.long ((((((0 : Int64) ||| ((((bt f_1) &&& (255 : Int32)).toInt64) <<< ((0 : Int32) &&& 0x3f).toInt64)) ||| ((((bt (f_1 + (1 : Int32))) &&& (255 : Int32)).toInt64) <<< ((8 : Int32) &&& 0x3f).toInt64)).toUInt64 >>> (s_1 &&& 0x3f).toInt64.toUInt64).toInt64) &&& (((1 : Int64) <<< (b_1 &&& 0x3f).toInt64) - (1 : Int64))))])) _
          refine XS.l2i X209.here hx rfl (hb hby own_d9_96) rfl ?_
          show Steps p.tables e below (T209.setTop (mkF m 97 #[.val (.ref p_o), .val (.int i_1), .val (.long ((i_1.toInt64) * (b_1.toInt64))), .second, .val (.int ((f_1 + (1 : Int32)) + (1 : Int32))), .val (.int s_1), .val (.long (((0 : Int64) ||| ((((bt f_1) &&& (255 : Int32)).toInt64) <<< ((0 : Int32) &&& 0x3f).toInt64)) ||| ((((bt (f_1 + (1 : Int32))) &&& (255 : Int32)).toInt64) <<< ((8 : Int32) &&& 0x3f).toInt64))), .second, .val (.int (16 : Int32))] [(.int (((((((0 : Int64) ||| ((((bt f_1) &&& (255 : Int32)).toInt64) <<< ((0 : Int32) &&& 0x3f).toInt64)) ||| ((((bt (f_1 + (1 : Int32))) &&& (255 : Int32)).toInt64) <<< ((8 : Int32) &&& 0x3f).toInt64)).toUInt64 >>> (s_1 &&& 0x3f).toInt64.toUInt64).toInt64) &&& (((1 : Int64) <<< (b_1 &&& 0x3f).toInt64) - (1 : Int64))).toInt32))])) _
          exact retI X209 hx Bd.returns (hb hby own_d9_97) hr
        · show Qown_g1 Z p_o i_1 b_1 f_1 s_1 n_1 r_o k_r ws_ bt h0 n0 _ T209.heap _
          rw [e209]
          have hv : (own_get_f f_1 s_1 b_1 bt) = (((((((0 : Int64) ||| ((((bt f_1) &&& (255 : Int32)).toInt64) <<< ((0 : Int32) &&& 0x3f).toInt64)) ||| ((((bt (f_1 + (1 : Int32))) &&& (255 : Int32)).toInt64) <<< ((8 : Int32) &&& 0x3f).toInt64)).toUInt64 >>> (s_1 &&& 0x3f).toInt64.toUInt64).toInt64) &&& (((1 : Int64) <<< (b_1 &&& 0x3f).toInt64) - (1 : Int64))).toInt32) := by unfold own_get_f; rw [if_pos hc50_35, if_pos hc50_61, if_neg hc50_87]
          exact ⟨(by rw [hv]), N0, rfl⟩
    · obtain ⟨T222, X222, e222, st222⟩ := getF X57 hx hZ hown (host := "") (Or.inl (hw _ (List.mem_of_getElem? (i := 60) rfl))) Via.refl e57 F_b (g := (mkF m 89 #[.val (.ref p_o), .val (.int i_1), .val (.long ((i_1.toInt64) * (b_1.toInt64))), .second, .val (.int (f_1 + (1 : Int32))), .val (.int s_1), .val (.long ((0 : Int64) ||| ((((bt f_1) &&& (255 : Int32)).toInt64) <<< ((0 : Int32) &&& 0x3f).toInt64))), .second, .val (.int (8 : Int32))] [(.ref p_o), (.long (1 : Int64)), (.long ((((0 : Int64) ||| ((((bt f_1) &&& (255 : Int32)).toInt64) <<< ((0 : Int32) &&& 0x3f).toInt64)).toUInt64 >>> (s_1 &&& 0x3f).toInt64.toUInt64).toInt64))])) rfl rfl (hb hby own_d9_89)
      obtain ⟨fs, hr, hrun, hended, hW, hsame⟩ := X222.leave (v := some (.int ((((((0 : Int64) ||| ((((bt f_1) &&& (255 : Int32)).toInt64) <<< ((0 : Int32) &&& 0x3f).toInt64)).toUInt64 >>> (s_1 &&& 0x3f).toInt64.toUInt64).toInt64) &&& (((1 : Int64) <<< (b_1 &&& 0x3f).toInt64) - (1 : Int64))).toInt32))) (fun h => by rw [Bd.returns] at h; cases h) (hlocks := BodyLoose.notSynchronized Bd)
      refine ⟨_, _, pre60 _ ?_, hrun, hended, _, _, rfl, ?_, ⟨_, rfl⟩, hW, hsame.mono (by decide) (by decide)⟩
      · show Steps p.tables e below (T57.setTop (mkF m 50 #[.val (.ref p_o), .val (.int i_1), .val (.long ((i_1.toInt64) * (b_1.toInt64))), .second, .val (.int (f_1 + (1 : Int32))), .val (.int s_1), .val (.long ((0 : Int64) ||| ((((bt f_1) &&& (255 : Int32)).toInt64) <<< ((0 : Int32) &&& 0x3f).toInt64))), .second, .val (.int (8 : Int32))] [(.int (s_1 + b_1)), (.int (8 : Int32))])) _
        refine XS.icmpYes X57.here hx rfl (pc0 := 50) (pc' := 82) rfl (hb hby own_d9_50) rfl (flt hc50_61).2.1 (by decide) (by decide) ?_
        show Steps p.tables e below (T57.setTop (mkF m 82 #[.val (.ref p_o), .val (.int i_1), .val (.long ((i_1.toInt64) * (b_1.toInt64))), .second, .val (.int (f_1 + (1 : Int32))), .val (.int s_1), .val (.long ((0 : Int64) ||| ((((bt f_1) &&& (255 : Int32)).toInt64) <<< ((0 : Int32) &&& 0x3f).toInt64))), .second, .val (.int (8 : Int32))] [])) _
        refine XS.lload X57.here hx rfl (hb hby own_d9_82) rfl ?_
        show Steps p.tables e below (T57.setTop (mkF m 84 #[.val (.ref p_o), .val (.int i_1), .val (.long ((i_1.toInt64) * (b_1.toInt64))), .second, .val (.int (f_1 + (1 : Int32))), .val (.int s_1), .val (.long ((0 : Int64) ||| ((((bt f_1) &&& (255 : Int32)).toInt64) <<< ((0 : Int32) &&& 0x3f).toInt64))), .second, .val (.int (8 : Int32))] [(.long ((0 : Int64) ||| ((((bt f_1) &&& (255 : Int32)).toInt64) <<< ((0 : Int32) &&& 0x3f).toInt64)))])) _
        refine XS.iload X57.here hx rfl (hb hby own_d9_84) rfl ?_
        show Steps p.tables e below (T57.setTop (mkF m 86 #[.val (.ref p_o), .val (.int i_1), .val (.long ((i_1.toInt64) * (b_1.toInt64))), .second, .val (.int (f_1 + (1 : Int32))), .val (.int s_1), .val (.long ((0 : Int64) ||| ((((bt f_1) &&& (255 : Int32)).toInt64) <<< ((0 : Int32) &&& 0x3f).toInt64))), .second, .val (.int (8 : Int32))] [(.int s_1), (.long ((0 : Int64) ||| ((((bt f_1) &&& (255 : Int32)).toInt64) <<< ((0 : Int32) &&& 0x3f).toInt64)))])) _
        refine XS.lushr X57.here hx rfl (hb hby own_d9_86) rfl ?_
        show Steps p.tables e below (T57.setTop (mkF m 87 #[.val (.ref p_o), .val (.int i_1), .val (.long ((i_1.toInt64) * (b_1.toInt64))), .second, .val (.int (f_1 + (1 : Int32))), .val (.int s_1), .val (.long ((0 : Int64) ||| ((((bt f_1) &&& (255 : Int32)).toInt64) <<< ((0 : Int32) &&& 0x3f).toInt64))), .second, .val (.int (8 : Int32))] [(.long ((((0 : Int64) ||| ((((bt f_1) &&& (255 : Int32)).toInt64) <<< ((0 : Int32) &&& 0x3f).toInt64)).toUInt64 >>> (s_1 &&& 0x3f).toInt64.toUInt64).toInt64))])) _
        refine XS.lconst X57.here hx rfl (hb hby own_d9_87) ?_
        show Steps p.tables e below (T57.setTop (mkF m 88 #[.val (.ref p_o), .val (.int i_1), .val (.long ((i_1.toInt64) * (b_1.toInt64))), .second, .val (.int (f_1 + (1 : Int32))), .val (.int s_1), .val (.long ((0 : Int64) ||| ((((bt f_1) &&& (255 : Int32)).toInt64) <<< ((0 : Int32) &&& 0x3f).toInt64))), .second, .val (.int (8 : Int32))] [(.long (1 : Int64)), (.long ((((0 : Int64) ||| ((((bt f_1) &&& (255 : Int32)).toInt64) <<< ((0 : Int32) &&& 0x3f).toInt64)).toUInt64 >>> (s_1 &&& 0x3f).toInt64.toUInt64).toInt64))])) _
        refine XS.aloadN X57.here hx rfl (hb hby own_d9_88) rfl rfl ?_
        show Steps p.tables e below (T57.setTop (mkF m 89 #[.val (.ref p_o), .val (.int i_1), .val (.long ((i_1.toInt64) * (b_1.toInt64))), .second, .val (.int (f_1 + (1 : Int32))), .val (.int s_1), .val (.long ((0 : Int64) ||| ((((bt f_1) &&& (255 : Int32)).toInt64) <<< ((0 : Int32) &&& 0x3f).toInt64))), .second, .val (.int (8 : Int32))] [(.ref p_o), (.long (1 : Int64)), (.long ((((0 : Int64) ||| ((((bt f_1) &&& (255 : Int32)).toInt64) <<< ((0 : Int32) &&& 0x3f).toInt64)).toUInt64 >>> (s_1 &&& 0x3f).toInt64.toUInt64).toInt64))])) _
        refine st222 _ ?_
        show Steps p.tables e below (T222.setTop (mkF m 92 #[.val (.ref p_o), .val (.int i_1), .val (.long ((i_1.toInt64) * (b_1.toInt64))), .second, .val (.int (f_1 + (1 : Int32))), .val (.int s_1), .val (.long ((0 : Int64) ||| ((((bt f_1) &&& (255 : Int32)).toInt64) <<< ((0 : Int32) &&& 0x3f).toInt64))), .second, .val (.int (8 : Int32))] [(.int b_1), (.long (1 : Int64)), (.long ((((0 : Int64) ||| ((((bt f_1) &&& (255 : Int32)).toInt64) <<< ((0 : Int32) &&& 0x3f).toInt64)).toUInt64 >>> (s_1 &&& 0x3f).toInt64.toUInt64).toInt64))])) _
        refine XS.lshl X222.here hx rfl (hb hby own_d9_92) rfl ?_
        show Steps p.tables e below (T222.setTop (mkF m 93 #[.val (.ref p_o), .val (.int i_1), .val (.long ((i_1.toInt64) * (b_1.toInt64))), .second, .val (.int (f_1 + (1 : Int32))), .val (.int s_1), .val (.long ((0 : Int64) ||| ((((bt f_1) &&& (255 : Int32)).toInt64) <<< ((0 : Int32) &&& 0x3f).toInt64))), .second, .val (.int (8 : Int32))] [(.long ((1 : Int64) <<< (b_1 &&& 0x3f).toInt64)), (.long ((((0 : Int64) ||| ((((bt f_1) &&& (255 : Int32)).toInt64) <<< ((0 : Int32) &&& 0x3f).toInt64)).toUInt64 >>> (s_1 &&& 0x3f).toInt64.toUInt64).toInt64))])) _
        refine XS.lconst X222.here hx rfl (hb hby own_d9_93) ?_
        show Steps p.tables e below (T222.setTop (mkF m 94 #[.val (.ref p_o), .val (.int i_1), .val (.long ((i_1.toInt64) * (b_1.toInt64))), .second, .val (.int (f_1 + (1 : Int32))), .val (.int s_1), .val (.long ((0 : Int64) ||| ((((bt f_1) &&& (255 : Int32)).toInt64) <<< ((0 : Int32) &&& 0x3f).toInt64))), .second, .val (.int (8 : Int32))] [(.long (1 : Int64)), (.long ((1 : Int64) <<< (b_1 &&& 0x3f).toInt64)), (.long ((((0 : Int64) ||| ((((bt f_1) &&& (255 : Int32)).toInt64) <<< ((0 : Int32) &&& 0x3f).toInt64)).toUInt64 >>> (s_1 &&& 0x3f).toInt64.toUInt64).toInt64))])) _
        refine XS.lsub X222.here hx rfl (hb hby own_d9_94) rfl ?_
        show Steps p.tables e below (T222.setTop (mkF m 95 #[.val (.ref p_o), .val (.int i_1), .val (.long ((i_1.toInt64) * (b_1.toInt64))), .second, .val (.int (f_1 + (1 : Int32))), .val (.int s_1), .val (.long ((0 : Int64) ||| ((((bt f_1) &&& (255 : Int32)).toInt64) <<< ((0 : Int32) &&& 0x3f).toInt64))), .second, .val (.int (8 : Int32))] [(.long (((1 : Int64) <<< (b_1 &&& 0x3f).toInt64) - (1 : Int64))), (.long ((((0 : Int64) ||| ((((bt f_1) &&& (255 : Int32)).toInt64) <<< ((0 : Int32) &&& 0x3f).toInt64)).toUInt64 >>> (s_1 &&& 0x3f).toInt64.toUInt64).toInt64))])) _
        refine XS.land X222.here hx rfl (hb hby own_d9_95) rfl ?_
        show Steps p.tables e below (T222.setTop (mkF m 96 #[.val (.ref p_o), .val (.int i_1), .val (.long ((i_1.toInt64) * (b_1.toInt64))), .second, .val (.int (f_1 + (1 : Int32))), .val (.int s_1), .val (.long ((0 : Int64) ||| ((((bt f_1) &&& (255 : Int32)).toInt64) <<< ((0 : Int32) &&& 0x3f).toInt64))), .second, .val (.int (8 : Int32))] [(.long (((((0 : Int64) ||| ((((bt f_1) &&& (255 : Int32)).toInt64) <<< ((0 : Int32) &&& 0x3f).toInt64)).toUInt64 >>> (s_1 &&& 0x3f).toInt64.toUInt64).toInt64) &&& (((1 : Int64) <<< (b_1 &&& 0x3f).toInt64) - (1 : Int64))))])) _
        refine XS.l2i X222.here hx rfl (hb hby own_d9_96) rfl ?_
        show Steps p.tables e below (T222.setTop (mkF m 97 #[.val (.ref p_o), .val (.int i_1), .val (.long ((i_1.toInt64) * (b_1.toInt64))), .second, .val (.int (f_1 + (1 : Int32))), .val (.int s_1), .val (.long ((0 : Int64) ||| ((((bt f_1) &&& (255 : Int32)).toInt64) <<< ((0 : Int32) &&& 0x3f).toInt64))), .second, .val (.int (8 : Int32))] [(.int ((((((0 : Int64) ||| ((((bt f_1) &&& (255 : Int32)).toInt64) <<< ((0 : Int32) &&& 0x3f).toInt64)).toUInt64 >>> (s_1 &&& 0x3f).toInt64.toUInt64).toInt64) &&& (((1 : Int64) <<< (b_1 &&& 0x3f).toInt64) - (1 : Int64))).toInt32))])) _
        exact retI X222 hx Bd.returns (hb hby own_d9_97) hr
      · show Qown_g1 Z p_o i_1 b_1 f_1 s_1 n_1 r_o k_r ws_ bt h0 n0 _ T222.heap _
        rw [e222]
        have hv : (own_get_f f_1 s_1 b_1 bt) = ((((((0 : Int64) ||| ((((bt f_1) &&& (255 : Int32)).toInt64) <<< ((0 : Int32) &&& 0x3f).toInt64)).toUInt64 >>> (s_1 &&& 0x3f).toInt64.toUInt64).toInt64) &&& (((1 : Int64) <<< (b_1 &&& 0x3f).toInt64) - (1 : Int64))).toInt32) := by unfold own_get_f; rw [if_pos hc50_35, if_neg hc50_61]
        exact ⟨(by rw [hv]), N0, rfl⟩
  · obtain ⟨T235, X235, e235, st235⟩ := getF X31 hx hZ hown (host := "") (Or.inl (hw _ (List.mem_of_getElem? (i := 60) rfl))) Via.refl e31 F_b (g := (mkF m 89 #[.val (.ref p_o), .val (.int i_1), .val (.long ((i_1.toInt64) * (b_1.toInt64))), .second, .val (.int f_1), .val (.int s_1), .val (.long (0 : Int64)), .second, .val (.int (0 : Int32))] [(.ref p_o), (.long (1 : Int64)), (.long (((0 : Int64).toUInt64 >>> (s_1 &&& 0x3f).toInt64.toUInt64).toInt64))])) rfl rfl (hb hby own_d9_89)
    obtain ⟨fs, hr, hrun, hended, hW, hsame⟩ := X235.leave (v := some (.int (((((0 : Int64).toUInt64 >>> (s_1 &&& 0x3f).toInt64.toUInt64).toInt64) &&& (((1 : Int64) <<< (b_1 &&& 0x3f).toInt64) - (1 : Int64))).toInt32))) (fun h => by rw [Bd.returns] at h; cases h) (hlocks := BodyLoose.notSynchronized Bd)
    refine ⟨_, _, pre34 _ ?_, hrun, hended, _, _, rfl, ?_, ⟨_, rfl⟩, hW, hsame.mono (by decide) (by decide)⟩
    · show Steps p.tables e below (T31.setTop (mkF m 50 #[.val (.ref p_o), .val (.int i_1), .val (.long ((i_1.toInt64) * (b_1.toInt64))), .second, .val (.int f_1), .val (.int s_1), .val (.long (0 : Int64)), .second, .val (.int (0 : Int32))] [(.int (s_1 + b_1)), (.int (0 : Int32))])) _
      refine XS.icmpYes X31.here hx rfl (pc0 := 50) (pc' := 82) rfl (hb hby own_d9_50) rfl (flt hc50_35).2.1 (by decide) (by decide) ?_
      show Steps p.tables e below (T31.setTop (mkF m 82 #[.val (.ref p_o), .val (.int i_1), .val (.long ((i_1.toInt64) * (b_1.toInt64))), .second, .val (.int f_1), .val (.int s_1), .val (.long (0 : Int64)), .second, .val (.int (0 : Int32))] [])) _
      refine XS.lload X31.here hx rfl (hb hby own_d9_82) rfl ?_
      show Steps p.tables e below (T31.setTop (mkF m 84 #[.val (.ref p_o), .val (.int i_1), .val (.long ((i_1.toInt64) * (b_1.toInt64))), .second, .val (.int f_1), .val (.int s_1), .val (.long (0 : Int64)), .second, .val (.int (0 : Int32))] [(.long (0 : Int64))])) _
      refine XS.iload X31.here hx rfl (hb hby own_d9_84) rfl ?_
      show Steps p.tables e below (T31.setTop (mkF m 86 #[.val (.ref p_o), .val (.int i_1), .val (.long ((i_1.toInt64) * (b_1.toInt64))), .second, .val (.int f_1), .val (.int s_1), .val (.long (0 : Int64)), .second, .val (.int (0 : Int32))] [(.int s_1), (.long (0 : Int64))])) _
      refine XS.lushr X31.here hx rfl (hb hby own_d9_86) rfl ?_
      show Steps p.tables e below (T31.setTop (mkF m 87 #[.val (.ref p_o), .val (.int i_1), .val (.long ((i_1.toInt64) * (b_1.toInt64))), .second, .val (.int f_1), .val (.int s_1), .val (.long (0 : Int64)), .second, .val (.int (0 : Int32))] [(.long (((0 : Int64).toUInt64 >>> (s_1 &&& 0x3f).toInt64.toUInt64).toInt64))])) _
      refine XS.lconst X31.here hx rfl (hb hby own_d9_87) ?_
      show Steps p.tables e below (T31.setTop (mkF m 88 #[.val (.ref p_o), .val (.int i_1), .val (.long ((i_1.toInt64) * (b_1.toInt64))), .second, .val (.int f_1), .val (.int s_1), .val (.long (0 : Int64)), .second, .val (.int (0 : Int32))] [(.long (1 : Int64)), (.long (((0 : Int64).toUInt64 >>> (s_1 &&& 0x3f).toInt64.toUInt64).toInt64))])) _
      refine XS.aloadN X31.here hx rfl (hb hby own_d9_88) rfl rfl ?_
      show Steps p.tables e below (T31.setTop (mkF m 89 #[.val (.ref p_o), .val (.int i_1), .val (.long ((i_1.toInt64) * (b_1.toInt64))), .second, .val (.int f_1), .val (.int s_1), .val (.long (0 : Int64)), .second, .val (.int (0 : Int32))] [(.ref p_o), (.long (1 : Int64)), (.long (((0 : Int64).toUInt64 >>> (s_1 &&& 0x3f).toInt64.toUInt64).toInt64))])) _
      refine st235 _ ?_
      show Steps p.tables e below (T235.setTop (mkF m 92 #[.val (.ref p_o), .val (.int i_1), .val (.long ((i_1.toInt64) * (b_1.toInt64))), .second, .val (.int f_1), .val (.int s_1), .val (.long (0 : Int64)), .second, .val (.int (0 : Int32))] [(.int b_1), (.long (1 : Int64)), (.long (((0 : Int64).toUInt64 >>> (s_1 &&& 0x3f).toInt64.toUInt64).toInt64))])) _
      refine XS.lshl X235.here hx rfl (hb hby own_d9_92) rfl ?_
      show Steps p.tables e below (T235.setTop (mkF m 93 #[.val (.ref p_o), .val (.int i_1), .val (.long ((i_1.toInt64) * (b_1.toInt64))), .second, .val (.int f_1), .val (.int s_1), .val (.long (0 : Int64)), .second, .val (.int (0 : Int32))] [(.long ((1 : Int64) <<< (b_1 &&& 0x3f).toInt64)), (.long (((0 : Int64).toUInt64 >>> (s_1 &&& 0x3f).toInt64.toUInt64).toInt64))])) _
      refine XS.lconst X235.here hx rfl (hb hby own_d9_93) ?_
      show Steps p.tables e below (T235.setTop (mkF m 94 #[.val (.ref p_o), .val (.int i_1), .val (.long ((i_1.toInt64) * (b_1.toInt64))), .second, .val (.int f_1), .val (.int s_1), .val (.long (0 : Int64)), .second, .val (.int (0 : Int32))] [(.long (1 : Int64)), (.long ((1 : Int64) <<< (b_1 &&& 0x3f).toInt64)), (.long (((0 : Int64).toUInt64 >>> (s_1 &&& 0x3f).toInt64.toUInt64).toInt64))])) _
      refine XS.lsub X235.here hx rfl (hb hby own_d9_94) rfl ?_
      show Steps p.tables e below (T235.setTop (mkF m 95 #[.val (.ref p_o), .val (.int i_1), .val (.long ((i_1.toInt64) * (b_1.toInt64))), .second, .val (.int f_1), .val (.int s_1), .val (.long (0 : Int64)), .second, .val (.int (0 : Int32))] [(.long (((1 : Int64) <<< (b_1 &&& 0x3f).toInt64) - (1 : Int64))), (.long (((0 : Int64).toUInt64 >>> (s_1 &&& 0x3f).toInt64.toUInt64).toInt64))])) _
      refine XS.land X235.here hx rfl (hb hby own_d9_95) rfl ?_
      show Steps p.tables e below (T235.setTop (mkF m 96 #[.val (.ref p_o), .val (.int i_1), .val (.long ((i_1.toInt64) * (b_1.toInt64))), .second, .val (.int f_1), .val (.int s_1), .val (.long (0 : Int64)), .second, .val (.int (0 : Int32))] [(.long ((((0 : Int64).toUInt64 >>> (s_1 &&& 0x3f).toInt64.toUInt64).toInt64) &&& (((1 : Int64) <<< (b_1 &&& 0x3f).toInt64) - (1 : Int64))))])) _
      refine XS.l2i X235.here hx rfl (hb hby own_d9_96) rfl ?_
      show Steps p.tables e below (T235.setTop (mkF m 97 #[.val (.ref p_o), .val (.int i_1), .val (.long ((i_1.toInt64) * (b_1.toInt64))), .second, .val (.int f_1), .val (.int s_1), .val (.long (0 : Int64)), .second, .val (.int (0 : Int32))] [(.int (((((0 : Int64).toUInt64 >>> (s_1 &&& 0x3f).toInt64.toUInt64).toInt64) &&& (((1 : Int64) <<< (b_1 &&& 0x3f).toInt64) - (1 : Int64))).toInt32))])) _
      exact retI X235 hx Bd.returns (hb hby own_d9_97) hr
    · show Qown_g1 Z p_o i_1 b_1 f_1 s_1 n_1 r_o k_r ws_ bt h0 n0 _ T235.heap _
      rw [e235]
      have hv : (own_get_f f_1 s_1 b_1 bt) = (((((0 : Int64).toUInt64 >>> (s_1 &&& 0x3f).toInt64.toUInt64).toInt64) &&& (((1 : Int64) <<< (b_1 &&& 0x3f).toInt64) - (1 : Int64))).toInt32) := by unfold own_get_f; rw [if_neg hc50_35]
      exact ⟨(by rw [hv]), N0, rfl⟩
theorem own_pn2 : plainName "fieldstone/PackedIntsGetPinLaw" = true := by first | (simp [plainName, overriddenIn]; done) | decide +kernel
theorem own_ef_own_pl1 (m : MethodId) (b_o : Addr) (x_1 : Int64) : entryFrame m #[(.ref b_o), (.int (1 : Int32)), (.long x_1)] 4 = mkF m 0 #[.val (.ref b_o), .val (.int (1 : Int32)), .val (.long x_1), .second] [] := by first | (simp [entryFrame, mkF, argsToLocals, Value.category]; done) | rfl
theorem own_d10_0 : decode method_2_code 0 = .ok (.aload_n 0, 1) := by decide +kernel
theorem own_d10_1 : decode method_2_code 1 = .ok (.iload_n 1, 1) := by decide +kernel
theorem own_d10_2 : decode method_2_code 2 = .ok (.lload_n 2, 1) := by decide +kernel
theorem own_d10_3 : decode method_2_code 3 = .ok (.l2i, 1) := by decide +kernel
theorem own_d10_4 : decode method_2_code 4 = .ok (.i2b, 1) := by decide +kernel
theorem own_d10_5 : decode method_2_code 5 = .ok (.bastore, 1) := by decide +kernel
theorem own_d10_6 : decode method_2_code 6 = .ok (.aload_n 0, 1) := by decide +kernel
theorem own_d10_7 : decode method_2_code 7 = .ok (.iload_n 1, 1) := by decide +kernel
theorem own_d10_8 : decode method_2_code 8 = .ok (.iconst 1, 1) := by decide +kernel
theorem own_d10_9 : decode method_2_code 9 = .ok (.iadd, 1) := by decide +kernel
theorem own_d10_10 : decode method_2_code 10 = .ok (.lload_n 2, 1) := by decide +kernel
theorem own_d10_11 : decode method_2_code 11 = .ok (.bipush 8, 2) := by decide +kernel
theorem own_d10_13 : decode method_2_code 13 = .ok (.lushr, 1) := by decide +kernel
theorem own_d10_14 : decode method_2_code 14 = .ok (.l2i, 1) := by decide +kernel
theorem own_d10_15 : decode method_2_code 15 = .ok (.i2b, 1) := by decide +kernel
theorem own_d10_16 : decode method_2_code 16 = .ok (.bastore, 1) := by decide +kernel
theorem own_d10_17 : decode method_2_code 17 = .ok (.aload_n 0, 1) := by decide +kernel
theorem own_d10_18 : decode method_2_code 18 = .ok (.iload_n 1, 1) := by decide +kernel
theorem own_d10_19 : decode method_2_code 19 = .ok (.iconst 2, 1) := by decide +kernel
theorem own_d10_20 : decode method_2_code 20 = .ok (.iadd, 1) := by decide +kernel
theorem own_d10_21 : decode method_2_code 21 = .ok (.lload_n 2, 1) := by decide +kernel
theorem own_d10_22 : decode method_2_code 22 = .ok (.bipush 16, 2) := by decide +kernel
theorem own_d10_24 : decode method_2_code 24 = .ok (.lushr, 1) := by decide +kernel
theorem own_d10_25 : decode method_2_code 25 = .ok (.l2i, 1) := by decide +kernel
theorem own_d10_26 : decode method_2_code 26 = .ok (.i2b, 1) := by decide +kernel
theorem own_d10_27 : decode method_2_code 27 = .ok (.bastore, 1) := by decide +kernel
theorem own_d10_28 : decode method_2_code 28 = .ok (.aload_n 0, 1) := by decide +kernel
theorem own_d10_29 : decode method_2_code 29 = .ok (.iload_n 1, 1) := by decide +kernel
theorem own_d10_30 : decode method_2_code 30 = .ok (.iconst 3, 1) := by decide +kernel
theorem own_d10_31 : decode method_2_code 31 = .ok (.iadd, 1) := by decide +kernel
theorem own_d10_32 : decode method_2_code 32 = .ok (.lload_n 2, 1) := by decide +kernel
theorem own_d10_33 : decode method_2_code 33 = .ok (.bipush 24, 2) := by decide +kernel
theorem own_d10_35 : decode method_2_code 35 = .ok (.lushr, 1) := by decide +kernel
theorem own_d10_36 : decode method_2_code 36 = .ok (.l2i, 1) := by decide +kernel
theorem own_d10_37 : decode method_2_code 37 = .ok (.i2b, 1) := by decide +kernel
theorem own_d10_38 : decode method_2_code 38 = .ok (.bastore, 1) := by decide +kernel
theorem own_d10_39 : decode method_2_code 39 = .ok (.aload_n 0, 1) := by decide +kernel
theorem own_d10_40 : decode method_2_code 40 = .ok (.iload_n 1, 1) := by decide +kernel
theorem own_d10_41 : decode method_2_code 41 = .ok (.iconst 4, 1) := by decide +kernel
theorem own_d10_42 : decode method_2_code 42 = .ok (.iadd, 1) := by decide +kernel
theorem own_d10_43 : decode method_2_code 43 = .ok (.lload_n 2, 1) := by decide +kernel
theorem own_d10_44 : decode method_2_code 44 = .ok (.bipush 32, 2) := by decide +kernel
theorem own_d10_46 : decode method_2_code 46 = .ok (.lushr, 1) := by decide +kernel
theorem own_d10_47 : decode method_2_code 47 = .ok (.l2i, 1) := by decide +kernel
theorem own_d10_48 : decode method_2_code 48 = .ok (.i2b, 1) := by decide +kernel
theorem own_d10_49 : decode method_2_code 49 = .ok (.bastore, 1) := by decide +kernel
theorem own_d10_50 : decode method_2_code 50 = .ok (.aload_n 0, 1) := by decide +kernel
theorem own_d10_51 : decode method_2_code 51 = .ok (.iload_n 1, 1) := by decide +kernel
theorem own_d10_52 : decode method_2_code 52 = .ok (.iconst 5, 1) := by decide +kernel
theorem own_d10_53 : decode method_2_code 53 = .ok (.iadd, 1) := by decide +kernel
theorem own_d10_54 : decode method_2_code 54 = .ok (.lload_n 2, 1) := by decide +kernel
theorem own_d10_55 : decode method_2_code 55 = .ok (.bipush 40, 2) := by decide +kernel
theorem own_d10_57 : decode method_2_code 57 = .ok (.lushr, 1) := by decide +kernel
theorem own_d10_58 : decode method_2_code 58 = .ok (.l2i, 1) := by decide +kernel
theorem own_d10_59 : decode method_2_code 59 = .ok (.i2b, 1) := by decide +kernel
theorem own_d10_60 : decode method_2_code 60 = .ok (.bastore, 1) := by decide +kernel
theorem own_d10_61 : decode method_2_code 61 = .ok (.aload_n 0, 1) := by decide +kernel
theorem own_d10_62 : decode method_2_code 62 = .ok (.iload_n 1, 1) := by decide +kernel
theorem own_d10_63 : decode method_2_code 63 = .ok (.bipush 6, 2) := by decide +kernel
theorem own_d10_65 : decode method_2_code 65 = .ok (.iadd, 1) := by decide +kernel
theorem own_d10_66 : decode method_2_code 66 = .ok (.lload_n 2, 1) := by decide +kernel
theorem own_d10_67 : decode method_2_code 67 = .ok (.bipush 48, 2) := by decide +kernel
theorem own_d10_69 : decode method_2_code 69 = .ok (.lushr, 1) := by decide +kernel
theorem own_d10_70 : decode method_2_code 70 = .ok (.l2i, 1) := by decide +kernel
theorem own_d10_71 : decode method_2_code 71 = .ok (.i2b, 1) := by decide +kernel
theorem own_d10_72 : decode method_2_code 72 = .ok (.bastore, 1) := by decide +kernel
theorem own_d10_73 : decode method_2_code 73 = .ok (.aload_n 0, 1) := by decide +kernel
theorem own_d10_74 : decode method_2_code 74 = .ok (.iload_n 1, 1) := by decide +kernel
theorem own_d10_75 : decode method_2_code 75 = .ok (.bipush 7, 2) := by decide +kernel
theorem own_d10_77 : decode method_2_code 77 = .ok (.iadd, 1) := by decide +kernel
theorem own_d10_78 : decode method_2_code 78 = .ok (.lload_n 2, 1) := by decide +kernel
theorem own_d10_79 : decode method_2_code 79 = .ok (.bipush 56, 2) := by decide +kernel
theorem own_d10_81 : decode method_2_code 81 = .ok (.lushr, 1) := by decide +kernel
theorem own_d10_82 : decode method_2_code 82 = .ok (.l2i, 1) := by decide +kernel
theorem own_d10_83 : decode method_2_code 83 = .ok (.i2b, 1) := by decide +kernel
theorem own_d10_84 : decode method_2_code 84 = .ok (.bastore, 1) := by decide +kernel
theorem own_d10_85 : decode method_2_code 85 = .ok (.return_, 1) := by decide +kernel
def Qown_pl1 (Z : State) (b_o : Addr) (x_1 : Int64) (k_b : ClassId) (v_0 : Value) (v_1 : Value) (v_2 : Value) (v_3 : Value) (v_4 : Value) (v_5 : Value) (v_6 : Value) (v_7 : Value) (v_8 : Value) (v_9 : Value) (v_10 : Value) (v_11 : Value) (v_12 : Value) (v_13 : Value) (v_14 : Value) (v_15 : Value) (v_16 : Value) (h0 : Heap) (n0 : Nat) (v : Option Value) (h : Heap) (L : List Loc) : Prop := v = none ∧ Fr n0 L ∧ Keep h0 h [b_o] ∧ Arv Z h b_o k_b .byte (17 : Int32) [v_0, (.int (own_by0 x_1)), (.int (own_by1 x_1)), (.int (own_by2 x_1)), (.int (own_by3 x_1)), (.int (own_by4 x_1)), (.int (own_by5 x_1)), (.int (own_by6 x_1)), (.int (own_by7 x_1)), v_9, v_10, v_11, v_12, v_13, v_14, v_15, v_16] (.int (0 : Int32))
set_option maxRecDepth 65536 in
set_option maxHeartbeats 40000000 in
theorem own_pl1 (l : Launch) (Z : State) (a0 : Array Value) (hw : ∀ d ∈ tables_1, d.before a0 Z = true) (ws : List Jvm.Cond) (b_o : Addr) (x_1 : Int64) (k_b : ClassId) (v_0 : Value) (v_1 : Value) (v_2 : Value) (v_3 : Value) (v_4 : Value) (v_5 : Value) (v_6 : Value) (v_7 : Value) (v_8 : Value) (v_9 : Value) (v_10 : Value) (v_11 : Value) (v_12 : Value) (v_13 : Value) (v_14 : Value) (v_15 : Value) (v_16 : Value) (h0 : Heap) (n0 : Nat) (Z0 : n0 ≤ h0.size) (V_b : Arv Z h0 b_o k_b .byte (17 : Int32) [v_0, v_1, v_2, v_3, v_4, v_5, v_6, v_7, v_8, v_9, v_10, v_11, v_12, v_13, v_14, v_15, v_16] (.int (0 : Int32))) (gb : n0 ≤ b_o) :
    MetFree l (⟨"fieldstone/PackedIntsGetPinLaw", "putLong", "([BIJ)V"⟩ : MethodName) (head1 (Jvm.Cond.code (⟨"fieldstone/PackedIntsGetPinLaw", "putLong", "([BIJ)V"⟩ : MethodName) method_2_code 4 none :: ws) ({ frames := 0, cells := 0, slots := 0, locals := 0 } : Room)) (fun a U => a = #[(.ref b_o), (.int (1 : Int32)), (.long x_1)] ∧ Z.Warmed39 U.vm ∧ U.heap = h0) (fun _ _ _ _ _ => True) (fun _ U o U' => ∃ v L, o = .returned v ∧ Qown_pl1 Z b_o x_1 k_b v_0 v_1 v_2 v_3 v_4 v_5 v_6 v_7 v_8 v_9 v_10 v_11 v_12 v_13 v_14 v_15 v_16 h0 n0 v U'.heap L ∧ FrameEnd U o U' L ({ frames := 0, cells := 0, slots := 0, locals := 0 } : Room).cells ({ frames := 0, cells := 0, slots := 0, locals := 0 } : Room).slots) := by
  refine MetFree.of_bodySF (plainFor_of_name own_pn2) hisR ?_
  intro p e s m args below meth c s₁ Bd hml0 hP hK
  obtain ⟨rfl, hZ, hh⟩ := hP
  have hx := Bd.exec
  have hby := Bd.bytes
  have hml : c.maxLocals = 4 := hml0
  have hown : s.vm.findClass "fieldstone/PackedIntsGetPinLaw" = some m.cls := findClass_of_methodNamed Bd.named
  have hnm := (name_of_methodNamed Bd.named Bd.method).1
  have X0 : Stand p l e ({ frames := 0, cells := 0, slots := 0, locals := 0 } : Room) s m #[(.ref b_o), (.int (1 : Int32)), (.long x_1)] below meth c s₁ [] 0 0 := Stand.of_body Bd
  have e0 : s₁.heap = h0 := by rw [← hh, Bd.state]; rfl
  have N0 := Fr.nil n0
  have pre0 : ∀ t, Steps p.tables e below (s₁.setTop (mkF m 0 #[.val (.ref b_o), .val (.int (1 : Int32)), .val (.long x_1), .second] [])) t → Steps p.tables e below (s₁.setTop (entryFrame m #[(.ref b_o), (.int (1 : Int32)), (.long x_1)] 4)) t := fun t k => castTop (own_ef_own_pl1 m b_o x_1) k
  obtain ⟨cl7, Ar7, q7, S7, M7, H7, G7⟩ := id V_b
  have hin7 : ¬ ((1 : Int32) < 0 ∨ cl7.slots.size ≤ ((1 : Int32)).toNatClampNeg) := inb_of S7 ⟨by decide, by decide⟩
  obtain ⟨T8, h8, X8, e8, W8, st8⟩ := stB X0 hx hZ e0 Ar7 (j := (1 : Int32)) hin7 (g := (mkF m 5 #[.val (.ref b_o), .val (.int (1 : Int32)), .val (.long x_1), .second] [(.int ((x_1.toInt32).toInt8.toInt32)), (.int (1 : Int32)), (.ref b_o)])) rfl rfl (hb hby own_d10_5)
  have Kc10 : Keep h0 h8 [b_o] := (Keep.refl h0 [b_o]).wr W8 (Or.inl (List.mem_of_getElem? (i := 0) rfl))
  have Zs11 : n0 ≤ h8.size := Nat.le_trans Z0 (Keep.of_wr W8).1
  have N12 := Fr.snoc X8 N0 gb
  have Vm9 : Arv Z h8 b_o k_b .byte (17 : Int32) [v_0, (.int (nar .byte ((x_1.toInt32).toInt8.toInt32))), v_2, v_3, v_4, v_5, v_6, v_7, v_8, v_9, v_10, v_11, v_12, v_13, v_14, v_15, v_16] (.int (0 : Int32)) := Arv.set Ar7 q7 S7 M7 H7 G7 (fits_nar_byte _) W8 1 rfl (Nat.le_of_ble_eq_true rfl)
  obtain ⟨cl23, Ar23, q23, S23, M23, H23, G23⟩ := id Vm9
  have hin23 : ¬ ((2 : Int32) < 0 ∨ cl23.slots.size ≤ ((2 : Int32)).toNatClampNeg) := inb_of S23 ⟨by decide, by decide⟩
  obtain ⟨T24, h24, X24, e24, W24, st24⟩ := stB X8 hx hZ e8 Ar23 (j := (2 : Int32)) hin23 (g := (mkF m 16 #[.val (.ref b_o), .val (.int (1 : Int32)), .val (.long x_1), .second] [(.int ((((x_1.toUInt64 >>> ((8 : Int32) &&& 0x3f).toInt64.toUInt64).toInt64).toInt32).toInt8.toInt32)), (.int (2 : Int32)), (.ref b_o)])) rfl rfl (hb hby own_d10_16)
  have Kc26 : Keep h0 h24 [b_o] := Kc10.wr W24 (Or.inl (List.mem_of_getElem? (i := 0) rfl))
  have Zs27 : n0 ≤ h24.size := Nat.le_trans Zs11 (Keep.of_wr W24).1
  have N28 := Fr.snoc X24 N12 gb
  have Vm25 : Arv Z h24 b_o k_b .byte (17 : Int32) [v_0, (.int (nar .byte ((x_1.toInt32).toInt8.toInt32))), (.int (nar .byte ((((x_1.toUInt64 >>> ((8 : Int32) &&& 0x3f).toInt64.toUInt64).toInt64).toInt32).toInt8.toInt32))), v_3, v_4, v_5, v_6, v_7, v_8, v_9, v_10, v_11, v_12, v_13, v_14, v_15, v_16] (.int (0 : Int32)) := Arv.set Ar23 q23 S23 M23 H23 G23 (fits_nar_byte _) W24 2 rfl (Nat.le_of_ble_eq_true rfl)
  obtain ⟨cl39, Ar39, q39, S39, M39, H39, G39⟩ := id Vm25
  have hin39 : ¬ ((3 : Int32) < 0 ∨ cl39.slots.size ≤ ((3 : Int32)).toNatClampNeg) := inb_of S39 ⟨by decide, by decide⟩
  obtain ⟨T40, h40, X40, e40, W40, st40⟩ := stB X24 hx hZ e24 Ar39 (j := (3 : Int32)) hin39 (g := (mkF m 27 #[.val (.ref b_o), .val (.int (1 : Int32)), .val (.long x_1), .second] [(.int ((((x_1.toUInt64 >>> ((16 : Int32) &&& 0x3f).toInt64.toUInt64).toInt64).toInt32).toInt8.toInt32)), (.int (3 : Int32)), (.ref b_o)])) rfl rfl (hb hby own_d10_27)
  have Kc42 : Keep h0 h40 [b_o] := Kc26.wr W40 (Or.inl (List.mem_of_getElem? (i := 0) rfl))
  have Zs43 : n0 ≤ h40.size := Nat.le_trans Zs27 (Keep.of_wr W40).1
  have N44 := Fr.snoc X40 N28 gb
  have Vm41 : Arv Z h40 b_o k_b .byte (17 : Int32) [v_0, (.int (nar .byte ((x_1.toInt32).toInt8.toInt32))), (.int (nar .byte ((((x_1.toUInt64 >>> ((8 : Int32) &&& 0x3f).toInt64.toUInt64).toInt64).toInt32).toInt8.toInt32))), (.int (nar .byte ((((x_1.toUInt64 >>> ((16 : Int32) &&& 0x3f).toInt64.toUInt64).toInt64).toInt32).toInt8.toInt32))), v_4, v_5, v_6, v_7, v_8, v_9, v_10, v_11, v_12, v_13, v_14, v_15, v_16] (.int (0 : Int32)) := Arv.set Ar39 q39 S39 M39 H39 G39 (fits_nar_byte _) W40 3 rfl (Nat.le_of_ble_eq_true rfl)
  obtain ⟨cl55, Ar55, q55, S55, M55, H55, G55⟩ := id Vm41
  have hin55 : ¬ ((4 : Int32) < 0 ∨ cl55.slots.size ≤ ((4 : Int32)).toNatClampNeg) := inb_of S55 ⟨by decide, by decide⟩
  obtain ⟨T56, h56, X56, e56, W56, st56⟩ := stB X40 hx hZ e40 Ar55 (j := (4 : Int32)) hin55 (g := (mkF m 38 #[.val (.ref b_o), .val (.int (1 : Int32)), .val (.long x_1), .second] [(.int ((((x_1.toUInt64 >>> ((24 : Int32) &&& 0x3f).toInt64.toUInt64).toInt64).toInt32).toInt8.toInt32)), (.int (4 : Int32)), (.ref b_o)])) rfl rfl (hb hby own_d10_38)
  have Kc58 : Keep h0 h56 [b_o] := Kc42.wr W56 (Or.inl (List.mem_of_getElem? (i := 0) rfl))
  have Zs59 : n0 ≤ h56.size := Nat.le_trans Zs43 (Keep.of_wr W56).1
  have N60 := Fr.snoc X56 N44 gb
  have Vm57 : Arv Z h56 b_o k_b .byte (17 : Int32) [v_0, (.int (nar .byte ((x_1.toInt32).toInt8.toInt32))), (.int (nar .byte ((((x_1.toUInt64 >>> ((8 : Int32) &&& 0x3f).toInt64.toUInt64).toInt64).toInt32).toInt8.toInt32))), (.int (nar .byte ((((x_1.toUInt64 >>> ((16 : Int32) &&& 0x3f).toInt64.toUInt64).toInt64).toInt32).toInt8.toInt32))), (.int (nar .byte ((((x_1.toUInt64 >>> ((24 : Int32) &&& 0x3f).toInt64.toUInt64).toInt64).toInt32).toInt8.toInt32))), v_5, v_6, v_7, v_8, v_9, v_10, v_11, v_12, v_13, v_14, v_15, v_16] (.int (0 : Int32)) := Arv.set Ar55 q55 S55 M55 H55 G55 (fits_nar_byte _) W56 4 rfl (Nat.le_of_ble_eq_true rfl)
  obtain ⟨cl71, Ar71, q71, S71, M71, H71, G71⟩ := id Vm57
  have hin71 : ¬ ((5 : Int32) < 0 ∨ cl71.slots.size ≤ ((5 : Int32)).toNatClampNeg) := inb_of S71 ⟨by decide, by decide⟩
  obtain ⟨T72, h72, X72, e72, W72, st72⟩ := stB X56 hx hZ e56 Ar71 (j := (5 : Int32)) hin71 (g := (mkF m 49 #[.val (.ref b_o), .val (.int (1 : Int32)), .val (.long x_1), .second] [(.int ((((x_1.toUInt64 >>> ((32 : Int32) &&& 0x3f).toInt64.toUInt64).toInt64).toInt32).toInt8.toInt32)), (.int (5 : Int32)), (.ref b_o)])) rfl rfl (hb hby own_d10_49)
  have Kc74 : Keep h0 h72 [b_o] := Kc58.wr W72 (Or.inl (List.mem_of_getElem? (i := 0) rfl))
  have Zs75 : n0 ≤ h72.size := Nat.le_trans Zs59 (Keep.of_wr W72).1
  have N76 := Fr.snoc X72 N60 gb
  have Vm73 : Arv Z h72 b_o k_b .byte (17 : Int32) [v_0, (.int (nar .byte ((x_1.toInt32).toInt8.toInt32))), (.int (nar .byte ((((x_1.toUInt64 >>> ((8 : Int32) &&& 0x3f).toInt64.toUInt64).toInt64).toInt32).toInt8.toInt32))), (.int (nar .byte ((((x_1.toUInt64 >>> ((16 : Int32) &&& 0x3f).toInt64.toUInt64).toInt64).toInt32).toInt8.toInt32))), (.int (nar .byte ((((x_1.toUInt64 >>> ((24 : Int32) &&& 0x3f).toInt64.toUInt64).toInt64).toInt32).toInt8.toInt32))), (.int (nar .byte ((((x_1.toUInt64 >>> ((32 : Int32) &&& 0x3f).toInt64.toUInt64).toInt64).toInt32).toInt8.toInt32))), v_6, v_7, v_8, v_9, v_10, v_11, v_12, v_13, v_14, v_15, v_16] (.int (0 : Int32)) := Arv.set Ar71 q71 S71 M71 H71 G71 (fits_nar_byte _) W72 5 rfl (Nat.le_of_ble_eq_true rfl)
  obtain ⟨cl87, Ar87, q87, S87, M87, H87, G87⟩ := id Vm73
  have hin87 : ¬ ((6 : Int32) < 0 ∨ cl87.slots.size ≤ ((6 : Int32)).toNatClampNeg) := inb_of S87 ⟨by decide, by decide⟩
  obtain ⟨T88, h88, X88, e88, W88, st88⟩ := stB X72 hx hZ e72 Ar87 (j := (6 : Int32)) hin87 (g := (mkF m 60 #[.val (.ref b_o), .val (.int (1 : Int32)), .val (.long x_1), .second] [(.int ((((x_1.toUInt64 >>> ((40 : Int32) &&& 0x3f).toInt64.toUInt64).toInt64).toInt32).toInt8.toInt32)), (.int (6 : Int32)), (.ref b_o)])) rfl rfl (hb hby own_d10_60)
  have Kc90 : Keep h0 h88 [b_o] := Kc74.wr W88 (Or.inl (List.mem_of_getElem? (i := 0) rfl))
  have Zs91 : n0 ≤ h88.size := Nat.le_trans Zs75 (Keep.of_wr W88).1
  have N92 := Fr.snoc X88 N76 gb
  have Vm89 : Arv Z h88 b_o k_b .byte (17 : Int32) [v_0, (.int (nar .byte ((x_1.toInt32).toInt8.toInt32))), (.int (nar .byte ((((x_1.toUInt64 >>> ((8 : Int32) &&& 0x3f).toInt64.toUInt64).toInt64).toInt32).toInt8.toInt32))), (.int (nar .byte ((((x_1.toUInt64 >>> ((16 : Int32) &&& 0x3f).toInt64.toUInt64).toInt64).toInt32).toInt8.toInt32))), (.int (nar .byte ((((x_1.toUInt64 >>> ((24 : Int32) &&& 0x3f).toInt64.toUInt64).toInt64).toInt32).toInt8.toInt32))), (.int (nar .byte ((((x_1.toUInt64 >>> ((32 : Int32) &&& 0x3f).toInt64.toUInt64).toInt64).toInt32).toInt8.toInt32))), (.int (nar .byte ((((x_1.toUInt64 >>> ((40 : Int32) &&& 0x3f).toInt64.toUInt64).toInt64).toInt32).toInt8.toInt32))), v_7, v_8, v_9, v_10, v_11, v_12, v_13, v_14, v_15, v_16] (.int (0 : Int32)) := Arv.set Ar87 q87 S87 M87 H87 G87 (fits_nar_byte _) W88 6 rfl (Nat.le_of_ble_eq_true rfl)
  obtain ⟨cl103, Ar103, q103, S103, M103, H103, G103⟩ := id Vm89
  have hin103 : ¬ ((7 : Int32) < 0 ∨ cl103.slots.size ≤ ((7 : Int32)).toNatClampNeg) := inb_of S103 ⟨by decide, by decide⟩
  obtain ⟨T104, h104, X104, e104, W104, st104⟩ := stB X88 hx hZ e88 Ar103 (j := (7 : Int32)) hin103 (g := (mkF m 72 #[.val (.ref b_o), .val (.int (1 : Int32)), .val (.long x_1), .second] [(.int ((((x_1.toUInt64 >>> ((48 : Int32) &&& 0x3f).toInt64.toUInt64).toInt64).toInt32).toInt8.toInt32)), (.int (7 : Int32)), (.ref b_o)])) rfl rfl (hb hby own_d10_72)
  have Kc106 : Keep h0 h104 [b_o] := Kc90.wr W104 (Or.inl (List.mem_of_getElem? (i := 0) rfl))
  have Zs107 : n0 ≤ h104.size := Nat.le_trans Zs91 (Keep.of_wr W104).1
  have N108 := Fr.snoc X104 N92 gb
  have Vm105 : Arv Z h104 b_o k_b .byte (17 : Int32) [v_0, (.int (nar .byte ((x_1.toInt32).toInt8.toInt32))), (.int (nar .byte ((((x_1.toUInt64 >>> ((8 : Int32) &&& 0x3f).toInt64.toUInt64).toInt64).toInt32).toInt8.toInt32))), (.int (nar .byte ((((x_1.toUInt64 >>> ((16 : Int32) &&& 0x3f).toInt64.toUInt64).toInt64).toInt32).toInt8.toInt32))), (.int (nar .byte ((((x_1.toUInt64 >>> ((24 : Int32) &&& 0x3f).toInt64.toUInt64).toInt64).toInt32).toInt8.toInt32))), (.int (nar .byte ((((x_1.toUInt64 >>> ((32 : Int32) &&& 0x3f).toInt64.toUInt64).toInt64).toInt32).toInt8.toInt32))), (.int (nar .byte ((((x_1.toUInt64 >>> ((40 : Int32) &&& 0x3f).toInt64.toUInt64).toInt64).toInt32).toInt8.toInt32))), (.int (nar .byte ((((x_1.toUInt64 >>> ((48 : Int32) &&& 0x3f).toInt64.toUInt64).toInt64).toInt32).toInt8.toInt32))), v_8, v_9, v_10, v_11, v_12, v_13, v_14, v_15, v_16] (.int (0 : Int32)) := Arv.set Ar103 q103 S103 M103 H103 G103 (fits_nar_byte _) W104 7 rfl (Nat.le_of_ble_eq_true rfl)
  obtain ⟨cl119, Ar119, q119, S119, M119, H119, G119⟩ := id Vm105
  have hin119 : ¬ ((8 : Int32) < 0 ∨ cl119.slots.size ≤ ((8 : Int32)).toNatClampNeg) := inb_of S119 ⟨by decide, by decide⟩
  obtain ⟨T120, h120, X120, e120, W120, st120⟩ := stB X104 hx hZ e104 Ar119 (j := (8 : Int32)) hin119 (g := (mkF m 84 #[.val (.ref b_o), .val (.int (1 : Int32)), .val (.long x_1), .second] [(.int ((((x_1.toUInt64 >>> ((56 : Int32) &&& 0x3f).toInt64.toUInt64).toInt64).toInt32).toInt8.toInt32)), (.int (8 : Int32)), (.ref b_o)])) rfl rfl (hb hby own_d10_84)
  have Kc122 : Keep h0 h120 [b_o] := Kc106.wr W120 (Or.inl (List.mem_of_getElem? (i := 0) rfl))
  have Zs123 : n0 ≤ h120.size := Nat.le_trans Zs107 (Keep.of_wr W120).1
  have N124 := Fr.snoc X120 N108 gb
  have Vm121 : Arv Z h120 b_o k_b .byte (17 : Int32) [v_0, (.int (nar .byte ((x_1.toInt32).toInt8.toInt32))), (.int (nar .byte ((((x_1.toUInt64 >>> ((8 : Int32) &&& 0x3f).toInt64.toUInt64).toInt64).toInt32).toInt8.toInt32))), (.int (nar .byte ((((x_1.toUInt64 >>> ((16 : Int32) &&& 0x3f).toInt64.toUInt64).toInt64).toInt32).toInt8.toInt32))), (.int (nar .byte ((((x_1.toUInt64 >>> ((24 : Int32) &&& 0x3f).toInt64.toUInt64).toInt64).toInt32).toInt8.toInt32))), (.int (nar .byte ((((x_1.toUInt64 >>> ((32 : Int32) &&& 0x3f).toInt64.toUInt64).toInt64).toInt32).toInt8.toInt32))), (.int (nar .byte ((((x_1.toUInt64 >>> ((40 : Int32) &&& 0x3f).toInt64.toUInt64).toInt64).toInt32).toInt8.toInt32))), (.int (nar .byte ((((x_1.toUInt64 >>> ((48 : Int32) &&& 0x3f).toInt64.toUInt64).toInt64).toInt32).toInt8.toInt32))), (.int (nar .byte ((((x_1.toUInt64 >>> ((56 : Int32) &&& 0x3f).toInt64.toUInt64).toInt64).toInt32).toInt8.toInt32))), v_9, v_10, v_11, v_12, v_13, v_14, v_15, v_16] (.int (0 : Int32)) := Arv.set Ar119 q119 S119 M119 H119 G119 (fits_nar_byte _) W120 8 rfl (Nat.le_of_ble_eq_true rfl)
  obtain ⟨fs, hr, hrun, hended, hW, hsame⟩ := X120.leave (v := none) (fun _ => rfl) (hlocks := BodyLoose.notSynchronized Bd)
  refine ⟨_, _, pre0 _ ?_, hrun, hended, _, _, rfl, ?_, ⟨_, rfl⟩, hW, hsame.mono (by decide) (by decide)⟩
  · show Steps p.tables e below (s₁.setTop (mkF m 0 #[.val (.ref b_o), .val (.int (1 : Int32)), .val (.long x_1), .second] [])) _
    refine XS.aloadN X0.here hx rfl (hb hby own_d10_0) rfl rfl ?_
    show Steps p.tables e below (s₁.setTop (mkF m 1 #[.val (.ref b_o), .val (.int (1 : Int32)), .val (.long x_1), .second] [(.ref b_o)])) _
    refine XS.iloadN X0.here hx rfl (hb hby own_d10_1) rfl ?_
    show Steps p.tables e below (s₁.setTop (mkF m 2 #[.val (.ref b_o), .val (.int (1 : Int32)), .val (.long x_1), .second] [(.int (1 : Int32)), (.ref b_o)])) _
    refine XS.lloadN X0.here hx rfl (hb hby own_d10_2) rfl ?_
    show Steps p.tables e below (s₁.setTop (mkF m 3 #[.val (.ref b_o), .val (.int (1 : Int32)), .val (.long x_1), .second] [(.long x_1), (.int (1 : Int32)), (.ref b_o)])) _
    refine XS.l2i X0.here hx rfl (hb hby own_d10_3) rfl ?_
    show Steps p.tables e below (s₁.setTop (mkF m 4 #[.val (.ref b_o), .val (.int (1 : Int32)), .val (.long x_1), .second] [(.int (x_1.toInt32)), (.int (1 : Int32)), (.ref b_o)])) _
    refine XS.i2b X0.here hx rfl (hb hby own_d10_4) rfl ?_
    show Steps p.tables e below (s₁.setTop (mkF m 5 #[.val (.ref b_o), .val (.int (1 : Int32)), .val (.long x_1), .second] [(.int ((x_1.toInt32).toInt8.toInt32)), (.int (1 : Int32)), (.ref b_o)])) _
    refine st8 _ ?_
    show Steps p.tables e below (T8.setTop (mkF m 6 #[.val (.ref b_o), .val (.int (1 : Int32)), .val (.long x_1), .second] [])) _
    refine XS.aloadN X8.here hx rfl (hb hby own_d10_6) rfl rfl ?_
    show Steps p.tables e below (T8.setTop (mkF m 7 #[.val (.ref b_o), .val (.int (1 : Int32)), .val (.long x_1), .second] [(.ref b_o)])) _
    refine XS.iloadN X8.here hx rfl (hb hby own_d10_7) rfl ?_
    show Steps p.tables e below (T8.setTop (mkF m 8 #[.val (.ref b_o), .val (.int (1 : Int32)), .val (.long x_1), .second] [(.int (1 : Int32)), (.ref b_o)])) _
    refine XS.iconst X8.here hx rfl (hb hby own_d10_8) ?_
    show Steps p.tables e below (T8.setTop (mkF m 9 #[.val (.ref b_o), .val (.int (1 : Int32)), .val (.long x_1), .second] [(.int (1 : Int32)), (.int (1 : Int32)), (.ref b_o)])) _
    refine XS.iadd X8.here hx rfl (hb hby own_d10_9) rfl ?_
    show Steps p.tables e below (T8.setTop (mkF m 10 #[.val (.ref b_o), .val (.int (1 : Int32)), .val (.long x_1), .second] [(.int (2 : Int32)), (.ref b_o)])) _
    refine XS.lloadN X8.here hx rfl (hb hby own_d10_10) rfl ?_
    show Steps p.tables e below (T8.setTop (mkF m 11 #[.val (.ref b_o), .val (.int (1 : Int32)), .val (.long x_1), .second] [(.long x_1), (.int (2 : Int32)), (.ref b_o)])) _
    refine XS.bipush X8.here hx rfl (hb hby own_d10_11) ?_
    show Steps p.tables e below (T8.setTop (mkF m 13 #[.val (.ref b_o), .val (.int (1 : Int32)), .val (.long x_1), .second] [(.int (8 : Int32)), (.long x_1), (.int (2 : Int32)), (.ref b_o)])) _
    refine XS.lushr X8.here hx rfl (hb hby own_d10_13) rfl ?_
    show Steps p.tables e below (T8.setTop (mkF m 14 #[.val (.ref b_o), .val (.int (1 : Int32)), .val (.long x_1), .second] [(.long ((x_1.toUInt64 >>> ((8 : Int32) &&& 0x3f).toInt64.toUInt64).toInt64)), (.int (2 : Int32)), (.ref b_o)])) _
    refine XS.l2i X8.here hx rfl (hb hby own_d10_14) rfl ?_
    show Steps p.tables e below (T8.setTop (mkF m 15 #[.val (.ref b_o), .val (.int (1 : Int32)), .val (.long x_1), .second] [(.int (((x_1.toUInt64 >>> ((8 : Int32) &&& 0x3f).toInt64.toUInt64).toInt64).toInt32)), (.int (2 : Int32)), (.ref b_o)])) _
    refine XS.i2b X8.here hx rfl (hb hby own_d10_15) rfl ?_
    show Steps p.tables e below (T8.setTop (mkF m 16 #[.val (.ref b_o), .val (.int (1 : Int32)), .val (.long x_1), .second] [(.int ((((x_1.toUInt64 >>> ((8 : Int32) &&& 0x3f).toInt64.toUInt64).toInt64).toInt32).toInt8.toInt32)), (.int (2 : Int32)), (.ref b_o)])) _
    refine st24 _ ?_
    show Steps p.tables e below (T24.setTop (mkF m 17 #[.val (.ref b_o), .val (.int (1 : Int32)), .val (.long x_1), .second] [])) _
    refine XS.aloadN X24.here hx rfl (hb hby own_d10_17) rfl rfl ?_
    show Steps p.tables e below (T24.setTop (mkF m 18 #[.val (.ref b_o), .val (.int (1 : Int32)), .val (.long x_1), .second] [(.ref b_o)])) _
    refine XS.iloadN X24.here hx rfl (hb hby own_d10_18) rfl ?_
    show Steps p.tables e below (T24.setTop (mkF m 19 #[.val (.ref b_o), .val (.int (1 : Int32)), .val (.long x_1), .second] [(.int (1 : Int32)), (.ref b_o)])) _
    refine XS.iconst X24.here hx rfl (hb hby own_d10_19) ?_
    show Steps p.tables e below (T24.setTop (mkF m 20 #[.val (.ref b_o), .val (.int (1 : Int32)), .val (.long x_1), .second] [(.int (2 : Int32)), (.int (1 : Int32)), (.ref b_o)])) _
    refine XS.iadd X24.here hx rfl (hb hby own_d10_20) rfl ?_
    show Steps p.tables e below (T24.setTop (mkF m 21 #[.val (.ref b_o), .val (.int (1 : Int32)), .val (.long x_1), .second] [(.int (3 : Int32)), (.ref b_o)])) _
    refine XS.lloadN X24.here hx rfl (hb hby own_d10_21) rfl ?_
    show Steps p.tables e below (T24.setTop (mkF m 22 #[.val (.ref b_o), .val (.int (1 : Int32)), .val (.long x_1), .second] [(.long x_1), (.int (3 : Int32)), (.ref b_o)])) _
    refine XS.bipush X24.here hx rfl (hb hby own_d10_22) ?_
    show Steps p.tables e below (T24.setTop (mkF m 24 #[.val (.ref b_o), .val (.int (1 : Int32)), .val (.long x_1), .second] [(.int (16 : Int32)), (.long x_1), (.int (3 : Int32)), (.ref b_o)])) _
    refine XS.lushr X24.here hx rfl (hb hby own_d10_24) rfl ?_
    show Steps p.tables e below (T24.setTop (mkF m 25 #[.val (.ref b_o), .val (.int (1 : Int32)), .val (.long x_1), .second] [(.long ((x_1.toUInt64 >>> ((16 : Int32) &&& 0x3f).toInt64.toUInt64).toInt64)), (.int (3 : Int32)), (.ref b_o)])) _
    refine XS.l2i X24.here hx rfl (hb hby own_d10_25) rfl ?_
    show Steps p.tables e below (T24.setTop (mkF m 26 #[.val (.ref b_o), .val (.int (1 : Int32)), .val (.long x_1), .second] [(.int (((x_1.toUInt64 >>> ((16 : Int32) &&& 0x3f).toInt64.toUInt64).toInt64).toInt32)), (.int (3 : Int32)), (.ref b_o)])) _
    refine XS.i2b X24.here hx rfl (hb hby own_d10_26) rfl ?_
    show Steps p.tables e below (T24.setTop (mkF m 27 #[.val (.ref b_o), .val (.int (1 : Int32)), .val (.long x_1), .second] [(.int ((((x_1.toUInt64 >>> ((16 : Int32) &&& 0x3f).toInt64.toUInt64).toInt64).toInt32).toInt8.toInt32)), (.int (3 : Int32)), (.ref b_o)])) _
    refine st40 _ ?_
    show Steps p.tables e below (T40.setTop (mkF m 28 #[.val (.ref b_o), .val (.int (1 : Int32)), .val (.long x_1), .second] [])) _
    refine XS.aloadN X40.here hx rfl (hb hby own_d10_28) rfl rfl ?_
    show Steps p.tables e below (T40.setTop (mkF m 29 #[.val (.ref b_o), .val (.int (1 : Int32)), .val (.long x_1), .second] [(.ref b_o)])) _
    refine XS.iloadN X40.here hx rfl (hb hby own_d10_29) rfl ?_
    show Steps p.tables e below (T40.setTop (mkF m 30 #[.val (.ref b_o), .val (.int (1 : Int32)), .val (.long x_1), .second] [(.int (1 : Int32)), (.ref b_o)])) _
    refine XS.iconst X40.here hx rfl (hb hby own_d10_30) ?_
    show Steps p.tables e below (T40.setTop (mkF m 31 #[.val (.ref b_o), .val (.int (1 : Int32)), .val (.long x_1), .second] [(.int (3 : Int32)), (.int (1 : Int32)), (.ref b_o)])) _
    refine XS.iadd X40.here hx rfl (hb hby own_d10_31) rfl ?_
    show Steps p.tables e below (T40.setTop (mkF m 32 #[.val (.ref b_o), .val (.int (1 : Int32)), .val (.long x_1), .second] [(.int (4 : Int32)), (.ref b_o)])) _
    refine XS.lloadN X40.here hx rfl (hb hby own_d10_32) rfl ?_
    show Steps p.tables e below (T40.setTop (mkF m 33 #[.val (.ref b_o), .val (.int (1 : Int32)), .val (.long x_1), .second] [(.long x_1), (.int (4 : Int32)), (.ref b_o)])) _
    refine XS.bipush X40.here hx rfl (hb hby own_d10_33) ?_
    show Steps p.tables e below (T40.setTop (mkF m 35 #[.val (.ref b_o), .val (.int (1 : Int32)), .val (.long x_1), .second] [(.int (24 : Int32)), (.long x_1), (.int (4 : Int32)), (.ref b_o)])) _
    refine XS.lushr X40.here hx rfl (hb hby own_d10_35) rfl ?_
    show Steps p.tables e below (T40.setTop (mkF m 36 #[.val (.ref b_o), .val (.int (1 : Int32)), .val (.long x_1), .second] [(.long ((x_1.toUInt64 >>> ((24 : Int32) &&& 0x3f).toInt64.toUInt64).toInt64)), (.int (4 : Int32)), (.ref b_o)])) _
    refine XS.l2i X40.here hx rfl (hb hby own_d10_36) rfl ?_
    show Steps p.tables e below (T40.setTop (mkF m 37 #[.val (.ref b_o), .val (.int (1 : Int32)), .val (.long x_1), .second] [(.int (((x_1.toUInt64 >>> ((24 : Int32) &&& 0x3f).toInt64.toUInt64).toInt64).toInt32)), (.int (4 : Int32)), (.ref b_o)])) _
    refine XS.i2b X40.here hx rfl (hb hby own_d10_37) rfl ?_
    show Steps p.tables e below (T40.setTop (mkF m 38 #[.val (.ref b_o), .val (.int (1 : Int32)), .val (.long x_1), .second] [(.int ((((x_1.toUInt64 >>> ((24 : Int32) &&& 0x3f).toInt64.toUInt64).toInt64).toInt32).toInt8.toInt32)), (.int (4 : Int32)), (.ref b_o)])) _
    refine st56 _ ?_
    show Steps p.tables e below (T56.setTop (mkF m 39 #[.val (.ref b_o), .val (.int (1 : Int32)), .val (.long x_1), .second] [])) _
    refine XS.aloadN X56.here hx rfl (hb hby own_d10_39) rfl rfl ?_
    show Steps p.tables e below (T56.setTop (mkF m 40 #[.val (.ref b_o), .val (.int (1 : Int32)), .val (.long x_1), .second] [(.ref b_o)])) _
    refine XS.iloadN X56.here hx rfl (hb hby own_d10_40) rfl ?_
    show Steps p.tables e below (T56.setTop (mkF m 41 #[.val (.ref b_o), .val (.int (1 : Int32)), .val (.long x_1), .second] [(.int (1 : Int32)), (.ref b_o)])) _
    refine XS.iconst X56.here hx rfl (hb hby own_d10_41) ?_
    show Steps p.tables e below (T56.setTop (mkF m 42 #[.val (.ref b_o), .val (.int (1 : Int32)), .val (.long x_1), .second] [(.int (4 : Int32)), (.int (1 : Int32)), (.ref b_o)])) _
    refine XS.iadd X56.here hx rfl (hb hby own_d10_42) rfl ?_
    show Steps p.tables e below (T56.setTop (mkF m 43 #[.val (.ref b_o), .val (.int (1 : Int32)), .val (.long x_1), .second] [(.int (5 : Int32)), (.ref b_o)])) _
    refine XS.lloadN X56.here hx rfl (hb hby own_d10_43) rfl ?_
    show Steps p.tables e below (T56.setTop (mkF m 44 #[.val (.ref b_o), .val (.int (1 : Int32)), .val (.long x_1), .second] [(.long x_1), (.int (5 : Int32)), (.ref b_o)])) _
    refine XS.bipush X56.here hx rfl (hb hby own_d10_44) ?_
    show Steps p.tables e below (T56.setTop (mkF m 46 #[.val (.ref b_o), .val (.int (1 : Int32)), .val (.long x_1), .second] [(.int (32 : Int32)), (.long x_1), (.int (5 : Int32)), (.ref b_o)])) _
    refine XS.lushr X56.here hx rfl (hb hby own_d10_46) rfl ?_
    show Steps p.tables e below (T56.setTop (mkF m 47 #[.val (.ref b_o), .val (.int (1 : Int32)), .val (.long x_1), .second] [(.long ((x_1.toUInt64 >>> ((32 : Int32) &&& 0x3f).toInt64.toUInt64).toInt64)), (.int (5 : Int32)), (.ref b_o)])) _
    refine XS.l2i X56.here hx rfl (hb hby own_d10_47) rfl ?_
    show Steps p.tables e below (T56.setTop (mkF m 48 #[.val (.ref b_o), .val (.int (1 : Int32)), .val (.long x_1), .second] [(.int (((x_1.toUInt64 >>> ((32 : Int32) &&& 0x3f).toInt64.toUInt64).toInt64).toInt32)), (.int (5 : Int32)), (.ref b_o)])) _
    refine XS.i2b X56.here hx rfl (hb hby own_d10_48) rfl ?_
    show Steps p.tables e below (T56.setTop (mkF m 49 #[.val (.ref b_o), .val (.int (1 : Int32)), .val (.long x_1), .second] [(.int ((((x_1.toUInt64 >>> ((32 : Int32) &&& 0x3f).toInt64.toUInt64).toInt64).toInt32).toInt8.toInt32)), (.int (5 : Int32)), (.ref b_o)])) _
    refine st72 _ ?_
    show Steps p.tables e below (T72.setTop (mkF m 50 #[.val (.ref b_o), .val (.int (1 : Int32)), .val (.long x_1), .second] [])) _
    refine XS.aloadN X72.here hx rfl (hb hby own_d10_50) rfl rfl ?_
    show Steps p.tables e below (T72.setTop (mkF m 51 #[.val (.ref b_o), .val (.int (1 : Int32)), .val (.long x_1), .second] [(.ref b_o)])) _
    refine XS.iloadN X72.here hx rfl (hb hby own_d10_51) rfl ?_
    show Steps p.tables e below (T72.setTop (mkF m 52 #[.val (.ref b_o), .val (.int (1 : Int32)), .val (.long x_1), .second] [(.int (1 : Int32)), (.ref b_o)])) _
    refine XS.iconst X72.here hx rfl (hb hby own_d10_52) ?_
    show Steps p.tables e below (T72.setTop (mkF m 53 #[.val (.ref b_o), .val (.int (1 : Int32)), .val (.long x_1), .second] [(.int (5 : Int32)), (.int (1 : Int32)), (.ref b_o)])) _
    refine XS.iadd X72.here hx rfl (hb hby own_d10_53) rfl ?_
    show Steps p.tables e below (T72.setTop (mkF m 54 #[.val (.ref b_o), .val (.int (1 : Int32)), .val (.long x_1), .second] [(.int (6 : Int32)), (.ref b_o)])) _
    refine XS.lloadN X72.here hx rfl (hb hby own_d10_54) rfl ?_
    show Steps p.tables e below (T72.setTop (mkF m 55 #[.val (.ref b_o), .val (.int (1 : Int32)), .val (.long x_1), .second] [(.long x_1), (.int (6 : Int32)), (.ref b_o)])) _
    refine XS.bipush X72.here hx rfl (hb hby own_d10_55) ?_
    show Steps p.tables e below (T72.setTop (mkF m 57 #[.val (.ref b_o), .val (.int (1 : Int32)), .val (.long x_1), .second] [(.int (40 : Int32)), (.long x_1), (.int (6 : Int32)), (.ref b_o)])) _
    refine XS.lushr X72.here hx rfl (hb hby own_d10_57) rfl ?_
    show Steps p.tables e below (T72.setTop (mkF m 58 #[.val (.ref b_o), .val (.int (1 : Int32)), .val (.long x_1), .second] [(.long ((x_1.toUInt64 >>> ((40 : Int32) &&& 0x3f).toInt64.toUInt64).toInt64)), (.int (6 : Int32)), (.ref b_o)])) _
    refine XS.l2i X72.here hx rfl (hb hby own_d10_58) rfl ?_
    show Steps p.tables e below (T72.setTop (mkF m 59 #[.val (.ref b_o), .val (.int (1 : Int32)), .val (.long x_1), .second] [(.int (((x_1.toUInt64 >>> ((40 : Int32) &&& 0x3f).toInt64.toUInt64).toInt64).toInt32)), (.int (6 : Int32)), (.ref b_o)])) _
    refine XS.i2b X72.here hx rfl (hb hby own_d10_59) rfl ?_
    show Steps p.tables e below (T72.setTop (mkF m 60 #[.val (.ref b_o), .val (.int (1 : Int32)), .val (.long x_1), .second] [(.int ((((x_1.toUInt64 >>> ((40 : Int32) &&& 0x3f).toInt64.toUInt64).toInt64).toInt32).toInt8.toInt32)), (.int (6 : Int32)), (.ref b_o)])) _
    refine st88 _ ?_
    show Steps p.tables e below (T88.setTop (mkF m 61 #[.val (.ref b_o), .val (.int (1 : Int32)), .val (.long x_1), .second] [])) _
    refine XS.aloadN X88.here hx rfl (hb hby own_d10_61) rfl rfl ?_
    show Steps p.tables e below (T88.setTop (mkF m 62 #[.val (.ref b_o), .val (.int (1 : Int32)), .val (.long x_1), .second] [(.ref b_o)])) _
    refine XS.iloadN X88.here hx rfl (hb hby own_d10_62) rfl ?_
    show Steps p.tables e below (T88.setTop (mkF m 63 #[.val (.ref b_o), .val (.int (1 : Int32)), .val (.long x_1), .second] [(.int (1 : Int32)), (.ref b_o)])) _
    refine XS.bipush X88.here hx rfl (hb hby own_d10_63) ?_
    show Steps p.tables e below (T88.setTop (mkF m 65 #[.val (.ref b_o), .val (.int (1 : Int32)), .val (.long x_1), .second] [(.int (6 : Int32)), (.int (1 : Int32)), (.ref b_o)])) _
    refine XS.iadd X88.here hx rfl (hb hby own_d10_65) rfl ?_
    show Steps p.tables e below (T88.setTop (mkF m 66 #[.val (.ref b_o), .val (.int (1 : Int32)), .val (.long x_1), .second] [(.int (7 : Int32)), (.ref b_o)])) _
    refine XS.lloadN X88.here hx rfl (hb hby own_d10_66) rfl ?_
    show Steps p.tables e below (T88.setTop (mkF m 67 #[.val (.ref b_o), .val (.int (1 : Int32)), .val (.long x_1), .second] [(.long x_1), (.int (7 : Int32)), (.ref b_o)])) _
    refine XS.bipush X88.here hx rfl (hb hby own_d10_67) ?_
    show Steps p.tables e below (T88.setTop (mkF m 69 #[.val (.ref b_o), .val (.int (1 : Int32)), .val (.long x_1), .second] [(.int (48 : Int32)), (.long x_1), (.int (7 : Int32)), (.ref b_o)])) _
    refine XS.lushr X88.here hx rfl (hb hby own_d10_69) rfl ?_
    show Steps p.tables e below (T88.setTop (mkF m 70 #[.val (.ref b_o), .val (.int (1 : Int32)), .val (.long x_1), .second] [(.long ((x_1.toUInt64 >>> ((48 : Int32) &&& 0x3f).toInt64.toUInt64).toInt64)), (.int (7 : Int32)), (.ref b_o)])) _
    refine XS.l2i X88.here hx rfl (hb hby own_d10_70) rfl ?_
    show Steps p.tables e below (T88.setTop (mkF m 71 #[.val (.ref b_o), .val (.int (1 : Int32)), .val (.long x_1), .second] [(.int (((x_1.toUInt64 >>> ((48 : Int32) &&& 0x3f).toInt64.toUInt64).toInt64).toInt32)), (.int (7 : Int32)), (.ref b_o)])) _
    refine XS.i2b X88.here hx rfl (hb hby own_d10_71) rfl ?_
    show Steps p.tables e below (T88.setTop (mkF m 72 #[.val (.ref b_o), .val (.int (1 : Int32)), .val (.long x_1), .second] [(.int ((((x_1.toUInt64 >>> ((48 : Int32) &&& 0x3f).toInt64.toUInt64).toInt64).toInt32).toInt8.toInt32)), (.int (7 : Int32)), (.ref b_o)])) _
    refine st104 _ ?_
    show Steps p.tables e below (T104.setTop (mkF m 73 #[.val (.ref b_o), .val (.int (1 : Int32)), .val (.long x_1), .second] [])) _
    refine XS.aloadN X104.here hx rfl (hb hby own_d10_73) rfl rfl ?_
    show Steps p.tables e below (T104.setTop (mkF m 74 #[.val (.ref b_o), .val (.int (1 : Int32)), .val (.long x_1), .second] [(.ref b_o)])) _
    refine XS.iloadN X104.here hx rfl (hb hby own_d10_74) rfl ?_
    show Steps p.tables e below (T104.setTop (mkF m 75 #[.val (.ref b_o), .val (.int (1 : Int32)), .val (.long x_1), .second] [(.int (1 : Int32)), (.ref b_o)])) _
    refine XS.bipush X104.here hx rfl (hb hby own_d10_75) ?_
    show Steps p.tables e below (T104.setTop (mkF m 77 #[.val (.ref b_o), .val (.int (1 : Int32)), .val (.long x_1), .second] [(.int (7 : Int32)), (.int (1 : Int32)), (.ref b_o)])) _
    refine XS.iadd X104.here hx rfl (hb hby own_d10_77) rfl ?_
    show Steps p.tables e below (T104.setTop (mkF m 78 #[.val (.ref b_o), .val (.int (1 : Int32)), .val (.long x_1), .second] [(.int (8 : Int32)), (.ref b_o)])) _
    refine XS.lloadN X104.here hx rfl (hb hby own_d10_78) rfl ?_
    show Steps p.tables e below (T104.setTop (mkF m 79 #[.val (.ref b_o), .val (.int (1 : Int32)), .val (.long x_1), .second] [(.long x_1), (.int (8 : Int32)), (.ref b_o)])) _
    refine XS.bipush X104.here hx rfl (hb hby own_d10_79) ?_
    show Steps p.tables e below (T104.setTop (mkF m 81 #[.val (.ref b_o), .val (.int (1 : Int32)), .val (.long x_1), .second] [(.int (56 : Int32)), (.long x_1), (.int (8 : Int32)), (.ref b_o)])) _
    refine XS.lushr X104.here hx rfl (hb hby own_d10_81) rfl ?_
    show Steps p.tables e below (T104.setTop (mkF m 82 #[.val (.ref b_o), .val (.int (1 : Int32)), .val (.long x_1), .second] [(.long ((x_1.toUInt64 >>> ((56 : Int32) &&& 0x3f).toInt64.toUInt64).toInt64)), (.int (8 : Int32)), (.ref b_o)])) _
    refine XS.l2i X104.here hx rfl (hb hby own_d10_82) rfl ?_
    show Steps p.tables e below (T104.setTop (mkF m 83 #[.val (.ref b_o), .val (.int (1 : Int32)), .val (.long x_1), .second] [(.int (((x_1.toUInt64 >>> ((56 : Int32) &&& 0x3f).toInt64.toUInt64).toInt64).toInt32)), (.int (8 : Int32)), (.ref b_o)])) _
    refine XS.i2b X104.here hx rfl (hb hby own_d10_83) rfl ?_
    show Steps p.tables e below (T104.setTop (mkF m 84 #[.val (.ref b_o), .val (.int (1 : Int32)), .val (.long x_1), .second] [(.int ((((x_1.toUInt64 >>> ((56 : Int32) &&& 0x3f).toInt64.toUInt64).toInt64).toInt32).toInt8.toInt32)), (.int (8 : Int32)), (.ref b_o)])) _
    refine st120 _ ?_
    show Steps p.tables e below (T120.setTop (mkF m 85 #[.val (.ref b_o), .val (.int (1 : Int32)), .val (.long x_1), .second] [])) _
    exact X120.returnOut hx Bd.returns (hb hby own_d10_85) hr
  · show Qown_pl1 Z b_o x_1 k_b v_0 v_1 v_2 v_3 v_4 v_5 v_6 v_7 v_8 v_9 v_10 v_11 v_12 v_13 v_14 v_15 v_16 h0 n0 _ T120.heap _
    rw [e120]
    exact ⟨rfl, N124, Kc122, Vm121⟩
theorem own_ef_own_pl9 (m : MethodId) (b_o : Addr) (x_1 : Int64) : entryFrame m #[(.ref b_o), (.int (9 : Int32)), (.long x_1)] 4 = mkF m 0 #[.val (.ref b_o), .val (.int (9 : Int32)), .val (.long x_1), .second] [] := by first | (simp [entryFrame, mkF, argsToLocals, Value.category]; done) | rfl
def Qown_pl9 (Z : State) (b_o : Addr) (x_1 : Int64) (k_b : ClassId) (v_0 : Value) (v_1 : Value) (v_2 : Value) (v_3 : Value) (v_4 : Value) (v_5 : Value) (v_6 : Value) (v_7 : Value) (v_8 : Value) (v_9 : Value) (v_10 : Value) (v_11 : Value) (v_12 : Value) (v_13 : Value) (v_14 : Value) (v_15 : Value) (v_16 : Value) (h0 : Heap) (n0 : Nat) (v : Option Value) (h : Heap) (L : List Loc) : Prop := v = none ∧ Fr n0 L ∧ Keep h0 h [b_o] ∧ Arv Z h b_o k_b .byte (17 : Int32) [v_0, v_1, v_2, v_3, v_4, v_5, v_6, v_7, v_8, (.int (own_by0 x_1)), (.int (own_by1 x_1)), (.int (own_by2 x_1)), (.int (own_by3 x_1)), (.int (own_by4 x_1)), (.int (own_by5 x_1)), (.int (own_by6 x_1)), (.int (own_by7 x_1))] (.int (0 : Int32))
set_option maxRecDepth 65536 in
set_option maxHeartbeats 40000000 in
theorem own_pl9 (l : Launch) (Z : State) (a0 : Array Value) (hw : ∀ d ∈ tables_1, d.before a0 Z = true) (ws : List Jvm.Cond) (b_o : Addr) (x_1 : Int64) (k_b : ClassId) (v_0 : Value) (v_1 : Value) (v_2 : Value) (v_3 : Value) (v_4 : Value) (v_5 : Value) (v_6 : Value) (v_7 : Value) (v_8 : Value) (v_9 : Value) (v_10 : Value) (v_11 : Value) (v_12 : Value) (v_13 : Value) (v_14 : Value) (v_15 : Value) (v_16 : Value) (h0 : Heap) (n0 : Nat) (Z0 : n0 ≤ h0.size) (V_b : Arv Z h0 b_o k_b .byte (17 : Int32) [v_0, v_1, v_2, v_3, v_4, v_5, v_6, v_7, v_8, v_9, v_10, v_11, v_12, v_13, v_14, v_15, v_16] (.int (0 : Int32))) (gb : n0 ≤ b_o) :
    MetFree l (⟨"fieldstone/PackedIntsGetPinLaw", "putLong", "([BIJ)V"⟩ : MethodName) (head1 (Jvm.Cond.code (⟨"fieldstone/PackedIntsGetPinLaw", "putLong", "([BIJ)V"⟩ : MethodName) method_2_code 4 none :: ws) ({ frames := 0, cells := 0, slots := 0, locals := 0 } : Room)) (fun a U => a = #[(.ref b_o), (.int (9 : Int32)), (.long x_1)] ∧ Z.Warmed39 U.vm ∧ U.heap = h0) (fun _ _ _ _ _ => True) (fun _ U o U' => ∃ v L, o = .returned v ∧ Qown_pl9 Z b_o x_1 k_b v_0 v_1 v_2 v_3 v_4 v_5 v_6 v_7 v_8 v_9 v_10 v_11 v_12 v_13 v_14 v_15 v_16 h0 n0 v U'.heap L ∧ FrameEnd U o U' L ({ frames := 0, cells := 0, slots := 0, locals := 0 } : Room).cells ({ frames := 0, cells := 0, slots := 0, locals := 0 } : Room).slots) := by
  refine MetFree.of_bodySF (plainFor_of_name own_pn2) hisR ?_
  intro p e s m args below meth c s₁ Bd hml0 hP hK
  obtain ⟨rfl, hZ, hh⟩ := hP
  have hx := Bd.exec
  have hby := Bd.bytes
  have hml : c.maxLocals = 4 := hml0
  have hown : s.vm.findClass "fieldstone/PackedIntsGetPinLaw" = some m.cls := findClass_of_methodNamed Bd.named
  have hnm := (name_of_methodNamed Bd.named Bd.method).1
  have X0 : Stand p l e ({ frames := 0, cells := 0, slots := 0, locals := 0 } : Room) s m #[(.ref b_o), (.int (9 : Int32)), (.long x_1)] below meth c s₁ [] 0 0 := Stand.of_body Bd
  have e0 : s₁.heap = h0 := by rw [← hh, Bd.state]; rfl
  have N0 := Fr.nil n0
  have pre0 : ∀ t, Steps p.tables e below (s₁.setTop (mkF m 0 #[.val (.ref b_o), .val (.int (9 : Int32)), .val (.long x_1), .second] [])) t → Steps p.tables e below (s₁.setTop (entryFrame m #[(.ref b_o), (.int (9 : Int32)), (.long x_1)] 4)) t := fun t k => castTop (own_ef_own_pl9 m b_o x_1) k
  obtain ⟨cl7, Ar7, q7, S7, M7, H7, G7⟩ := id V_b
  have hin7 : ¬ ((9 : Int32) < 0 ∨ cl7.slots.size ≤ ((9 : Int32)).toNatClampNeg) := inb_of S7 ⟨by decide, by decide⟩
  obtain ⟨T8, h8, X8, e8, W8, st8⟩ := stB X0 hx hZ e0 Ar7 (j := (9 : Int32)) hin7 (g := (mkF m 5 #[.val (.ref b_o), .val (.int (9 : Int32)), .val (.long x_1), .second] [(.int ((x_1.toInt32).toInt8.toInt32)), (.int (9 : Int32)), (.ref b_o)])) rfl rfl (hb hby own_d10_5)
  have Kc10 : Keep h0 h8 [b_o] := (Keep.refl h0 [b_o]).wr W8 (Or.inl (List.mem_of_getElem? (i := 0) rfl))
  have Zs11 : n0 ≤ h8.size := Nat.le_trans Z0 (Keep.of_wr W8).1
  have N12 := Fr.snoc X8 N0 gb
  have Vm9 : Arv Z h8 b_o k_b .byte (17 : Int32) [v_0, v_1, v_2, v_3, v_4, v_5, v_6, v_7, v_8, (.int (nar .byte ((x_1.toInt32).toInt8.toInt32))), v_10, v_11, v_12, v_13, v_14, v_15, v_16] (.int (0 : Int32)) := Arv.set Ar7 q7 S7 M7 H7 G7 (fits_nar_byte _) W8 9 rfl (Nat.le_of_ble_eq_true rfl)
  obtain ⟨cl23, Ar23, q23, S23, M23, H23, G23⟩ := id Vm9
  have hin23 : ¬ ((10 : Int32) < 0 ∨ cl23.slots.size ≤ ((10 : Int32)).toNatClampNeg) := inb_of S23 ⟨by decide, by decide⟩
  obtain ⟨T24, h24, X24, e24, W24, st24⟩ := stB X8 hx hZ e8 Ar23 (j := (10 : Int32)) hin23 (g := (mkF m 16 #[.val (.ref b_o), .val (.int (9 : Int32)), .val (.long x_1), .second] [(.int ((((x_1.toUInt64 >>> ((8 : Int32) &&& 0x3f).toInt64.toUInt64).toInt64).toInt32).toInt8.toInt32)), (.int (10 : Int32)), (.ref b_o)])) rfl rfl (hb hby own_d10_16)
  have Kc26 : Keep h0 h24 [b_o] := Kc10.wr W24 (Or.inl (List.mem_of_getElem? (i := 0) rfl))
  have Zs27 : n0 ≤ h24.size := Nat.le_trans Zs11 (Keep.of_wr W24).1
  have N28 := Fr.snoc X24 N12 gb
  have Vm25 : Arv Z h24 b_o k_b .byte (17 : Int32) [v_0, v_1, v_2, v_3, v_4, v_5, v_6, v_7, v_8, (.int (nar .byte ((x_1.toInt32).toInt8.toInt32))), (.int (nar .byte ((((x_1.toUInt64 >>> ((8 : Int32) &&& 0x3f).toInt64.toUInt64).toInt64).toInt32).toInt8.toInt32))), v_11, v_12, v_13, v_14, v_15, v_16] (.int (0 : Int32)) := Arv.set Ar23 q23 S23 M23 H23 G23 (fits_nar_byte _) W24 10 rfl (Nat.le_of_ble_eq_true rfl)
  obtain ⟨cl39, Ar39, q39, S39, M39, H39, G39⟩ := id Vm25
  have hin39 : ¬ ((11 : Int32) < 0 ∨ cl39.slots.size ≤ ((11 : Int32)).toNatClampNeg) := inb_of S39 ⟨by decide, by decide⟩
  obtain ⟨T40, h40, X40, e40, W40, st40⟩ := stB X24 hx hZ e24 Ar39 (j := (11 : Int32)) hin39 (g := (mkF m 27 #[.val (.ref b_o), .val (.int (9 : Int32)), .val (.long x_1), .second] [(.int ((((x_1.toUInt64 >>> ((16 : Int32) &&& 0x3f).toInt64.toUInt64).toInt64).toInt32).toInt8.toInt32)), (.int (11 : Int32)), (.ref b_o)])) rfl rfl (hb hby own_d10_27)
  have Kc42 : Keep h0 h40 [b_o] := Kc26.wr W40 (Or.inl (List.mem_of_getElem? (i := 0) rfl))
  have Zs43 : n0 ≤ h40.size := Nat.le_trans Zs27 (Keep.of_wr W40).1
  have N44 := Fr.snoc X40 N28 gb
  have Vm41 : Arv Z h40 b_o k_b .byte (17 : Int32) [v_0, v_1, v_2, v_3, v_4, v_5, v_6, v_7, v_8, (.int (nar .byte ((x_1.toInt32).toInt8.toInt32))), (.int (nar .byte ((((x_1.toUInt64 >>> ((8 : Int32) &&& 0x3f).toInt64.toUInt64).toInt64).toInt32).toInt8.toInt32))), (.int (nar .byte ((((x_1.toUInt64 >>> ((16 : Int32) &&& 0x3f).toInt64.toUInt64).toInt64).toInt32).toInt8.toInt32))), v_12, v_13, v_14, v_15, v_16] (.int (0 : Int32)) := Arv.set Ar39 q39 S39 M39 H39 G39 (fits_nar_byte _) W40 11 rfl (Nat.le_of_ble_eq_true rfl)
  obtain ⟨cl55, Ar55, q55, S55, M55, H55, G55⟩ := id Vm41
  have hin55 : ¬ ((12 : Int32) < 0 ∨ cl55.slots.size ≤ ((12 : Int32)).toNatClampNeg) := inb_of S55 ⟨by decide, by decide⟩
  obtain ⟨T56, h56, X56, e56, W56, st56⟩ := stB X40 hx hZ e40 Ar55 (j := (12 : Int32)) hin55 (g := (mkF m 38 #[.val (.ref b_o), .val (.int (9 : Int32)), .val (.long x_1), .second] [(.int ((((x_1.toUInt64 >>> ((24 : Int32) &&& 0x3f).toInt64.toUInt64).toInt64).toInt32).toInt8.toInt32)), (.int (12 : Int32)), (.ref b_o)])) rfl rfl (hb hby own_d10_38)
  have Kc58 : Keep h0 h56 [b_o] := Kc42.wr W56 (Or.inl (List.mem_of_getElem? (i := 0) rfl))
  have Zs59 : n0 ≤ h56.size := Nat.le_trans Zs43 (Keep.of_wr W56).1
  have N60 := Fr.snoc X56 N44 gb
  have Vm57 : Arv Z h56 b_o k_b .byte (17 : Int32) [v_0, v_1, v_2, v_3, v_4, v_5, v_6, v_7, v_8, (.int (nar .byte ((x_1.toInt32).toInt8.toInt32))), (.int (nar .byte ((((x_1.toUInt64 >>> ((8 : Int32) &&& 0x3f).toInt64.toUInt64).toInt64).toInt32).toInt8.toInt32))), (.int (nar .byte ((((x_1.toUInt64 >>> ((16 : Int32) &&& 0x3f).toInt64.toUInt64).toInt64).toInt32).toInt8.toInt32))), (.int (nar .byte ((((x_1.toUInt64 >>> ((24 : Int32) &&& 0x3f).toInt64.toUInt64).toInt64).toInt32).toInt8.toInt32))), v_13, v_14, v_15, v_16] (.int (0 : Int32)) := Arv.set Ar55 q55 S55 M55 H55 G55 (fits_nar_byte _) W56 12 rfl (Nat.le_of_ble_eq_true rfl)
  obtain ⟨cl71, Ar71, q71, S71, M71, H71, G71⟩ := id Vm57
  have hin71 : ¬ ((13 : Int32) < 0 ∨ cl71.slots.size ≤ ((13 : Int32)).toNatClampNeg) := inb_of S71 ⟨by decide, by decide⟩
  obtain ⟨T72, h72, X72, e72, W72, st72⟩ := stB X56 hx hZ e56 Ar71 (j := (13 : Int32)) hin71 (g := (mkF m 49 #[.val (.ref b_o), .val (.int (9 : Int32)), .val (.long x_1), .second] [(.int ((((x_1.toUInt64 >>> ((32 : Int32) &&& 0x3f).toInt64.toUInt64).toInt64).toInt32).toInt8.toInt32)), (.int (13 : Int32)), (.ref b_o)])) rfl rfl (hb hby own_d10_49)
  have Kc74 : Keep h0 h72 [b_o] := Kc58.wr W72 (Or.inl (List.mem_of_getElem? (i := 0) rfl))
  have Zs75 : n0 ≤ h72.size := Nat.le_trans Zs59 (Keep.of_wr W72).1
  have N76 := Fr.snoc X72 N60 gb
  have Vm73 : Arv Z h72 b_o k_b .byte (17 : Int32) [v_0, v_1, v_2, v_3, v_4, v_5, v_6, v_7, v_8, (.int (nar .byte ((x_1.toInt32).toInt8.toInt32))), (.int (nar .byte ((((x_1.toUInt64 >>> ((8 : Int32) &&& 0x3f).toInt64.toUInt64).toInt64).toInt32).toInt8.toInt32))), (.int (nar .byte ((((x_1.toUInt64 >>> ((16 : Int32) &&& 0x3f).toInt64.toUInt64).toInt64).toInt32).toInt8.toInt32))), (.int (nar .byte ((((x_1.toUInt64 >>> ((24 : Int32) &&& 0x3f).toInt64.toUInt64).toInt64).toInt32).toInt8.toInt32))), (.int (nar .byte ((((x_1.toUInt64 >>> ((32 : Int32) &&& 0x3f).toInt64.toUInt64).toInt64).toInt32).toInt8.toInt32))), v_14, v_15, v_16] (.int (0 : Int32)) := Arv.set Ar71 q71 S71 M71 H71 G71 (fits_nar_byte _) W72 13 rfl (Nat.le_of_ble_eq_true rfl)
  obtain ⟨cl87, Ar87, q87, S87, M87, H87, G87⟩ := id Vm73
  have hin87 : ¬ ((14 : Int32) < 0 ∨ cl87.slots.size ≤ ((14 : Int32)).toNatClampNeg) := inb_of S87 ⟨by decide, by decide⟩
  obtain ⟨T88, h88, X88, e88, W88, st88⟩ := stB X72 hx hZ e72 Ar87 (j := (14 : Int32)) hin87 (g := (mkF m 60 #[.val (.ref b_o), .val (.int (9 : Int32)), .val (.long x_1), .second] [(.int ((((x_1.toUInt64 >>> ((40 : Int32) &&& 0x3f).toInt64.toUInt64).toInt64).toInt32).toInt8.toInt32)), (.int (14 : Int32)), (.ref b_o)])) rfl rfl (hb hby own_d10_60)
  have Kc90 : Keep h0 h88 [b_o] := Kc74.wr W88 (Or.inl (List.mem_of_getElem? (i := 0) rfl))
  have Zs91 : n0 ≤ h88.size := Nat.le_trans Zs75 (Keep.of_wr W88).1
  have N92 := Fr.snoc X88 N76 gb
  have Vm89 : Arv Z h88 b_o k_b .byte (17 : Int32) [v_0, v_1, v_2, v_3, v_4, v_5, v_6, v_7, v_8, (.int (nar .byte ((x_1.toInt32).toInt8.toInt32))), (.int (nar .byte ((((x_1.toUInt64 >>> ((8 : Int32) &&& 0x3f).toInt64.toUInt64).toInt64).toInt32).toInt8.toInt32))), (.int (nar .byte ((((x_1.toUInt64 >>> ((16 : Int32) &&& 0x3f).toInt64.toUInt64).toInt64).toInt32).toInt8.toInt32))), (.int (nar .byte ((((x_1.toUInt64 >>> ((24 : Int32) &&& 0x3f).toInt64.toUInt64).toInt64).toInt32).toInt8.toInt32))), (.int (nar .byte ((((x_1.toUInt64 >>> ((32 : Int32) &&& 0x3f).toInt64.toUInt64).toInt64).toInt32).toInt8.toInt32))), (.int (nar .byte ((((x_1.toUInt64 >>> ((40 : Int32) &&& 0x3f).toInt64.toUInt64).toInt64).toInt32).toInt8.toInt32))), v_15, v_16] (.int (0 : Int32)) := Arv.set Ar87 q87 S87 M87 H87 G87 (fits_nar_byte _) W88 14 rfl (Nat.le_of_ble_eq_true rfl)
  obtain ⟨cl103, Ar103, q103, S103, M103, H103, G103⟩ := id Vm89
  have hin103 : ¬ ((15 : Int32) < 0 ∨ cl103.slots.size ≤ ((15 : Int32)).toNatClampNeg) := inb_of S103 ⟨by decide, by decide⟩
  obtain ⟨T104, h104, X104, e104, W104, st104⟩ := stB X88 hx hZ e88 Ar103 (j := (15 : Int32)) hin103 (g := (mkF m 72 #[.val (.ref b_o), .val (.int (9 : Int32)), .val (.long x_1), .second] [(.int ((((x_1.toUInt64 >>> ((48 : Int32) &&& 0x3f).toInt64.toUInt64).toInt64).toInt32).toInt8.toInt32)), (.int (15 : Int32)), (.ref b_o)])) rfl rfl (hb hby own_d10_72)
  have Kc106 : Keep h0 h104 [b_o] := Kc90.wr W104 (Or.inl (List.mem_of_getElem? (i := 0) rfl))
  have Zs107 : n0 ≤ h104.size := Nat.le_trans Zs91 (Keep.of_wr W104).1
  have N108 := Fr.snoc X104 N92 gb
  have Vm105 : Arv Z h104 b_o k_b .byte (17 : Int32) [v_0, v_1, v_2, v_3, v_4, v_5, v_6, v_7, v_8, (.int (nar .byte ((x_1.toInt32).toInt8.toInt32))), (.int (nar .byte ((((x_1.toUInt64 >>> ((8 : Int32) &&& 0x3f).toInt64.toUInt64).toInt64).toInt32).toInt8.toInt32))), (.int (nar .byte ((((x_1.toUInt64 >>> ((16 : Int32) &&& 0x3f).toInt64.toUInt64).toInt64).toInt32).toInt8.toInt32))), (.int (nar .byte ((((x_1.toUInt64 >>> ((24 : Int32) &&& 0x3f).toInt64.toUInt64).toInt64).toInt32).toInt8.toInt32))), (.int (nar .byte ((((x_1.toUInt64 >>> ((32 : Int32) &&& 0x3f).toInt64.toUInt64).toInt64).toInt32).toInt8.toInt32))), (.int (nar .byte ((((x_1.toUInt64 >>> ((40 : Int32) &&& 0x3f).toInt64.toUInt64).toInt64).toInt32).toInt8.toInt32))), (.int (nar .byte ((((x_1.toUInt64 >>> ((48 : Int32) &&& 0x3f).toInt64.toUInt64).toInt64).toInt32).toInt8.toInt32))), v_16] (.int (0 : Int32)) := Arv.set Ar103 q103 S103 M103 H103 G103 (fits_nar_byte _) W104 15 rfl (Nat.le_of_ble_eq_true rfl)
  obtain ⟨cl119, Ar119, q119, S119, M119, H119, G119⟩ := id Vm105
  have hin119 : ¬ ((16 : Int32) < 0 ∨ cl119.slots.size ≤ ((16 : Int32)).toNatClampNeg) := inb_of S119 ⟨by decide, by decide⟩
  obtain ⟨T120, h120, X120, e120, W120, st120⟩ := stB X104 hx hZ e104 Ar119 (j := (16 : Int32)) hin119 (g := (mkF m 84 #[.val (.ref b_o), .val (.int (9 : Int32)), .val (.long x_1), .second] [(.int ((((x_1.toUInt64 >>> ((56 : Int32) &&& 0x3f).toInt64.toUInt64).toInt64).toInt32).toInt8.toInt32)), (.int (16 : Int32)), (.ref b_o)])) rfl rfl (hb hby own_d10_84)
  have Kc122 : Keep h0 h120 [b_o] := Kc106.wr W120 (Or.inl (List.mem_of_getElem? (i := 0) rfl))
  have Zs123 : n0 ≤ h120.size := Nat.le_trans Zs107 (Keep.of_wr W120).1
  have N124 := Fr.snoc X120 N108 gb
  have Vm121 : Arv Z h120 b_o k_b .byte (17 : Int32) [v_0, v_1, v_2, v_3, v_4, v_5, v_6, v_7, v_8, (.int (nar .byte ((x_1.toInt32).toInt8.toInt32))), (.int (nar .byte ((((x_1.toUInt64 >>> ((8 : Int32) &&& 0x3f).toInt64.toUInt64).toInt64).toInt32).toInt8.toInt32))), (.int (nar .byte ((((x_1.toUInt64 >>> ((16 : Int32) &&& 0x3f).toInt64.toUInt64).toInt64).toInt32).toInt8.toInt32))), (.int (nar .byte ((((x_1.toUInt64 >>> ((24 : Int32) &&& 0x3f).toInt64.toUInt64).toInt64).toInt32).toInt8.toInt32))), (.int (nar .byte ((((x_1.toUInt64 >>> ((32 : Int32) &&& 0x3f).toInt64.toUInt64).toInt64).toInt32).toInt8.toInt32))), (.int (nar .byte ((((x_1.toUInt64 >>> ((40 : Int32) &&& 0x3f).toInt64.toUInt64).toInt64).toInt32).toInt8.toInt32))), (.int (nar .byte ((((x_1.toUInt64 >>> ((48 : Int32) &&& 0x3f).toInt64.toUInt64).toInt64).toInt32).toInt8.toInt32))), (.int (nar .byte ((((x_1.toUInt64 >>> ((56 : Int32) &&& 0x3f).toInt64.toUInt64).toInt64).toInt32).toInt8.toInt32)))] (.int (0 : Int32)) := Arv.set Ar119 q119 S119 M119 H119 G119 (fits_nar_byte _) W120 16 rfl (Nat.le_of_ble_eq_true rfl)
  obtain ⟨fs, hr, hrun, hended, hW, hsame⟩ := X120.leave (v := none) (fun _ => rfl) (hlocks := BodyLoose.notSynchronized Bd)
  refine ⟨_, _, pre0 _ ?_, hrun, hended, _, _, rfl, ?_, ⟨_, rfl⟩, hW, hsame.mono (by decide) (by decide)⟩
  · show Steps p.tables e below (s₁.setTop (mkF m 0 #[.val (.ref b_o), .val (.int (9 : Int32)), .val (.long x_1), .second] [])) _
    refine XS.aloadN X0.here hx rfl (hb hby own_d10_0) rfl rfl ?_
    show Steps p.tables e below (s₁.setTop (mkF m 1 #[.val (.ref b_o), .val (.int (9 : Int32)), .val (.long x_1), .second] [(.ref b_o)])) _
    refine XS.iloadN X0.here hx rfl (hb hby own_d10_1) rfl ?_
    show Steps p.tables e below (s₁.setTop (mkF m 2 #[.val (.ref b_o), .val (.int (9 : Int32)), .val (.long x_1), .second] [(.int (9 : Int32)), (.ref b_o)])) _
    refine XS.lloadN X0.here hx rfl (hb hby own_d10_2) rfl ?_
    show Steps p.tables e below (s₁.setTop (mkF m 3 #[.val (.ref b_o), .val (.int (9 : Int32)), .val (.long x_1), .second] [(.long x_1), (.int (9 : Int32)), (.ref b_o)])) _
    refine XS.l2i X0.here hx rfl (hb hby own_d10_3) rfl ?_
    show Steps p.tables e below (s₁.setTop (mkF m 4 #[.val (.ref b_o), .val (.int (9 : Int32)), .val (.long x_1), .second] [(.int (x_1.toInt32)), (.int (9 : Int32)), (.ref b_o)])) _
    refine XS.i2b X0.here hx rfl (hb hby own_d10_4) rfl ?_
    show Steps p.tables e below (s₁.setTop (mkF m 5 #[.val (.ref b_o), .val (.int (9 : Int32)), .val (.long x_1), .second] [(.int ((x_1.toInt32).toInt8.toInt32)), (.int (9 : Int32)), (.ref b_o)])) _
    refine st8 _ ?_
    show Steps p.tables e below (T8.setTop (mkF m 6 #[.val (.ref b_o), .val (.int (9 : Int32)), .val (.long x_1), .second] [])) _
    refine XS.aloadN X8.here hx rfl (hb hby own_d10_6) rfl rfl ?_
    show Steps p.tables e below (T8.setTop (mkF m 7 #[.val (.ref b_o), .val (.int (9 : Int32)), .val (.long x_1), .second] [(.ref b_o)])) _
    refine XS.iloadN X8.here hx rfl (hb hby own_d10_7) rfl ?_
    show Steps p.tables e below (T8.setTop (mkF m 8 #[.val (.ref b_o), .val (.int (9 : Int32)), .val (.long x_1), .second] [(.int (9 : Int32)), (.ref b_o)])) _
    refine XS.iconst X8.here hx rfl (hb hby own_d10_8) ?_
    show Steps p.tables e below (T8.setTop (mkF m 9 #[.val (.ref b_o), .val (.int (9 : Int32)), .val (.long x_1), .second] [(.int (1 : Int32)), (.int (9 : Int32)), (.ref b_o)])) _
    refine XS.iadd X8.here hx rfl (hb hby own_d10_9) rfl ?_
    show Steps p.tables e below (T8.setTop (mkF m 10 #[.val (.ref b_o), .val (.int (9 : Int32)), .val (.long x_1), .second] [(.int (10 : Int32)), (.ref b_o)])) _
    refine XS.lloadN X8.here hx rfl (hb hby own_d10_10) rfl ?_
    show Steps p.tables e below (T8.setTop (mkF m 11 #[.val (.ref b_o), .val (.int (9 : Int32)), .val (.long x_1), .second] [(.long x_1), (.int (10 : Int32)), (.ref b_o)])) _
    refine XS.bipush X8.here hx rfl (hb hby own_d10_11) ?_
    show Steps p.tables e below (T8.setTop (mkF m 13 #[.val (.ref b_o), .val (.int (9 : Int32)), .val (.long x_1), .second] [(.int (8 : Int32)), (.long x_1), (.int (10 : Int32)), (.ref b_o)])) _
    refine XS.lushr X8.here hx rfl (hb hby own_d10_13) rfl ?_
    show Steps p.tables e below (T8.setTop (mkF m 14 #[.val (.ref b_o), .val (.int (9 : Int32)), .val (.long x_1), .second] [(.long ((x_1.toUInt64 >>> ((8 : Int32) &&& 0x3f).toInt64.toUInt64).toInt64)), (.int (10 : Int32)), (.ref b_o)])) _
    refine XS.l2i X8.here hx rfl (hb hby own_d10_14) rfl ?_
    show Steps p.tables e below (T8.setTop (mkF m 15 #[.val (.ref b_o), .val (.int (9 : Int32)), .val (.long x_1), .second] [(.int (((x_1.toUInt64 >>> ((8 : Int32) &&& 0x3f).toInt64.toUInt64).toInt64).toInt32)), (.int (10 : Int32)), (.ref b_o)])) _
    refine XS.i2b X8.here hx rfl (hb hby own_d10_15) rfl ?_
    show Steps p.tables e below (T8.setTop (mkF m 16 #[.val (.ref b_o), .val (.int (9 : Int32)), .val (.long x_1), .second] [(.int ((((x_1.toUInt64 >>> ((8 : Int32) &&& 0x3f).toInt64.toUInt64).toInt64).toInt32).toInt8.toInt32)), (.int (10 : Int32)), (.ref b_o)])) _
    refine st24 _ ?_
    show Steps p.tables e below (T24.setTop (mkF m 17 #[.val (.ref b_o), .val (.int (9 : Int32)), .val (.long x_1), .second] [])) _
    refine XS.aloadN X24.here hx rfl (hb hby own_d10_17) rfl rfl ?_
    show Steps p.tables e below (T24.setTop (mkF m 18 #[.val (.ref b_o), .val (.int (9 : Int32)), .val (.long x_1), .second] [(.ref b_o)])) _
    refine XS.iloadN X24.here hx rfl (hb hby own_d10_18) rfl ?_
    show Steps p.tables e below (T24.setTop (mkF m 19 #[.val (.ref b_o), .val (.int (9 : Int32)), .val (.long x_1), .second] [(.int (9 : Int32)), (.ref b_o)])) _
    refine XS.iconst X24.here hx rfl (hb hby own_d10_19) ?_
    show Steps p.tables e below (T24.setTop (mkF m 20 #[.val (.ref b_o), .val (.int (9 : Int32)), .val (.long x_1), .second] [(.int (2 : Int32)), (.int (9 : Int32)), (.ref b_o)])) _
    refine XS.iadd X24.here hx rfl (hb hby own_d10_20) rfl ?_
    show Steps p.tables e below (T24.setTop (mkF m 21 #[.val (.ref b_o), .val (.int (9 : Int32)), .val (.long x_1), .second] [(.int (11 : Int32)), (.ref b_o)])) _
    refine XS.lloadN X24.here hx rfl (hb hby own_d10_21) rfl ?_
    show Steps p.tables e below (T24.setTop (mkF m 22 #[.val (.ref b_o), .val (.int (9 : Int32)), .val (.long x_1), .second] [(.long x_1), (.int (11 : Int32)), (.ref b_o)])) _
    refine XS.bipush X24.here hx rfl (hb hby own_d10_22) ?_
    show Steps p.tables e below (T24.setTop (mkF m 24 #[.val (.ref b_o), .val (.int (9 : Int32)), .val (.long x_1), .second] [(.int (16 : Int32)), (.long x_1), (.int (11 : Int32)), (.ref b_o)])) _
    refine XS.lushr X24.here hx rfl (hb hby own_d10_24) rfl ?_
    show Steps p.tables e below (T24.setTop (mkF m 25 #[.val (.ref b_o), .val (.int (9 : Int32)), .val (.long x_1), .second] [(.long ((x_1.toUInt64 >>> ((16 : Int32) &&& 0x3f).toInt64.toUInt64).toInt64)), (.int (11 : Int32)), (.ref b_o)])) _
    refine XS.l2i X24.here hx rfl (hb hby own_d10_25) rfl ?_
    show Steps p.tables e below (T24.setTop (mkF m 26 #[.val (.ref b_o), .val (.int (9 : Int32)), .val (.long x_1), .second] [(.int (((x_1.toUInt64 >>> ((16 : Int32) &&& 0x3f).toInt64.toUInt64).toInt64).toInt32)), (.int (11 : Int32)), (.ref b_o)])) _
    refine XS.i2b X24.here hx rfl (hb hby own_d10_26) rfl ?_
    show Steps p.tables e below (T24.setTop (mkF m 27 #[.val (.ref b_o), .val (.int (9 : Int32)), .val (.long x_1), .second] [(.int ((((x_1.toUInt64 >>> ((16 : Int32) &&& 0x3f).toInt64.toUInt64).toInt64).toInt32).toInt8.toInt32)), (.int (11 : Int32)), (.ref b_o)])) _
    refine st40 _ ?_
    show Steps p.tables e below (T40.setTop (mkF m 28 #[.val (.ref b_o), .val (.int (9 : Int32)), .val (.long x_1), .second] [])) _
    refine XS.aloadN X40.here hx rfl (hb hby own_d10_28) rfl rfl ?_
    show Steps p.tables e below (T40.setTop (mkF m 29 #[.val (.ref b_o), .val (.int (9 : Int32)), .val (.long x_1), .second] [(.ref b_o)])) _
    refine XS.iloadN X40.here hx rfl (hb hby own_d10_29) rfl ?_
    show Steps p.tables e below (T40.setTop (mkF m 30 #[.val (.ref b_o), .val (.int (9 : Int32)), .val (.long x_1), .second] [(.int (9 : Int32)), (.ref b_o)])) _
    refine XS.iconst X40.here hx rfl (hb hby own_d10_30) ?_
    show Steps p.tables e below (T40.setTop (mkF m 31 #[.val (.ref b_o), .val (.int (9 : Int32)), .val (.long x_1), .second] [(.int (3 : Int32)), (.int (9 : Int32)), (.ref b_o)])) _
    refine XS.iadd X40.here hx rfl (hb hby own_d10_31) rfl ?_
    show Steps p.tables e below (T40.setTop (mkF m 32 #[.val (.ref b_o), .val (.int (9 : Int32)), .val (.long x_1), .second] [(.int (12 : Int32)), (.ref b_o)])) _
    refine XS.lloadN X40.here hx rfl (hb hby own_d10_32) rfl ?_
    show Steps p.tables e below (T40.setTop (mkF m 33 #[.val (.ref b_o), .val (.int (9 : Int32)), .val (.long x_1), .second] [(.long x_1), (.int (12 : Int32)), (.ref b_o)])) _
    refine XS.bipush X40.here hx rfl (hb hby own_d10_33) ?_
    show Steps p.tables e below (T40.setTop (mkF m 35 #[.val (.ref b_o), .val (.int (9 : Int32)), .val (.long x_1), .second] [(.int (24 : Int32)), (.long x_1), (.int (12 : Int32)), (.ref b_o)])) _
    refine XS.lushr X40.here hx rfl (hb hby own_d10_35) rfl ?_
    show Steps p.tables e below (T40.setTop (mkF m 36 #[.val (.ref b_o), .val (.int (9 : Int32)), .val (.long x_1), .second] [(.long ((x_1.toUInt64 >>> ((24 : Int32) &&& 0x3f).toInt64.toUInt64).toInt64)), (.int (12 : Int32)), (.ref b_o)])) _
    refine XS.l2i X40.here hx rfl (hb hby own_d10_36) rfl ?_
    show Steps p.tables e below (T40.setTop (mkF m 37 #[.val (.ref b_o), .val (.int (9 : Int32)), .val (.long x_1), .second] [(.int (((x_1.toUInt64 >>> ((24 : Int32) &&& 0x3f).toInt64.toUInt64).toInt64).toInt32)), (.int (12 : Int32)), (.ref b_o)])) _
    refine XS.i2b X40.here hx rfl (hb hby own_d10_37) rfl ?_
    show Steps p.tables e below (T40.setTop (mkF m 38 #[.val (.ref b_o), .val (.int (9 : Int32)), .val (.long x_1), .second] [(.int ((((x_1.toUInt64 >>> ((24 : Int32) &&& 0x3f).toInt64.toUInt64).toInt64).toInt32).toInt8.toInt32)), (.int (12 : Int32)), (.ref b_o)])) _
    refine st56 _ ?_
    show Steps p.tables e below (T56.setTop (mkF m 39 #[.val (.ref b_o), .val (.int (9 : Int32)), .val (.long x_1), .second] [])) _
    refine XS.aloadN X56.here hx rfl (hb hby own_d10_39) rfl rfl ?_
    show Steps p.tables e below (T56.setTop (mkF m 40 #[.val (.ref b_o), .val (.int (9 : Int32)), .val (.long x_1), .second] [(.ref b_o)])) _
    refine XS.iloadN X56.here hx rfl (hb hby own_d10_40) rfl ?_
    show Steps p.tables e below (T56.setTop (mkF m 41 #[.val (.ref b_o), .val (.int (9 : Int32)), .val (.long x_1), .second] [(.int (9 : Int32)), (.ref b_o)])) _
    refine XS.iconst X56.here hx rfl (hb hby own_d10_41) ?_
    show Steps p.tables e below (T56.setTop (mkF m 42 #[.val (.ref b_o), .val (.int (9 : Int32)), .val (.long x_1), .second] [(.int (4 : Int32)), (.int (9 : Int32)), (.ref b_o)])) _
    refine XS.iadd X56.here hx rfl (hb hby own_d10_42) rfl ?_
    show Steps p.tables e below (T56.setTop (mkF m 43 #[.val (.ref b_o), .val (.int (9 : Int32)), .val (.long x_1), .second] [(.int (13 : Int32)), (.ref b_o)])) _
    refine XS.lloadN X56.here hx rfl (hb hby own_d10_43) rfl ?_
    show Steps p.tables e below (T56.setTop (mkF m 44 #[.val (.ref b_o), .val (.int (9 : Int32)), .val (.long x_1), .second] [(.long x_1), (.int (13 : Int32)), (.ref b_o)])) _
    refine XS.bipush X56.here hx rfl (hb hby own_d10_44) ?_
    show Steps p.tables e below (T56.setTop (mkF m 46 #[.val (.ref b_o), .val (.int (9 : Int32)), .val (.long x_1), .second] [(.int (32 : Int32)), (.long x_1), (.int (13 : Int32)), (.ref b_o)])) _
    refine XS.lushr X56.here hx rfl (hb hby own_d10_46) rfl ?_
    show Steps p.tables e below (T56.setTop (mkF m 47 #[.val (.ref b_o), .val (.int (9 : Int32)), .val (.long x_1), .second] [(.long ((x_1.toUInt64 >>> ((32 : Int32) &&& 0x3f).toInt64.toUInt64).toInt64)), (.int (13 : Int32)), (.ref b_o)])) _
    refine XS.l2i X56.here hx rfl (hb hby own_d10_47) rfl ?_
    show Steps p.tables e below (T56.setTop (mkF m 48 #[.val (.ref b_o), .val (.int (9 : Int32)), .val (.long x_1), .second] [(.int (((x_1.toUInt64 >>> ((32 : Int32) &&& 0x3f).toInt64.toUInt64).toInt64).toInt32)), (.int (13 : Int32)), (.ref b_o)])) _
    refine XS.i2b X56.here hx rfl (hb hby own_d10_48) rfl ?_
    show Steps p.tables e below (T56.setTop (mkF m 49 #[.val (.ref b_o), .val (.int (9 : Int32)), .val (.long x_1), .second] [(.int ((((x_1.toUInt64 >>> ((32 : Int32) &&& 0x3f).toInt64.toUInt64).toInt64).toInt32).toInt8.toInt32)), (.int (13 : Int32)), (.ref b_o)])) _
    refine st72 _ ?_
    show Steps p.tables e below (T72.setTop (mkF m 50 #[.val (.ref b_o), .val (.int (9 : Int32)), .val (.long x_1), .second] [])) _
    refine XS.aloadN X72.here hx rfl (hb hby own_d10_50) rfl rfl ?_
    show Steps p.tables e below (T72.setTop (mkF m 51 #[.val (.ref b_o), .val (.int (9 : Int32)), .val (.long x_1), .second] [(.ref b_o)])) _
    refine XS.iloadN X72.here hx rfl (hb hby own_d10_51) rfl ?_
    show Steps p.tables e below (T72.setTop (mkF m 52 #[.val (.ref b_o), .val (.int (9 : Int32)), .val (.long x_1), .second] [(.int (9 : Int32)), (.ref b_o)])) _
    refine XS.iconst X72.here hx rfl (hb hby own_d10_52) ?_
    show Steps p.tables e below (T72.setTop (mkF m 53 #[.val (.ref b_o), .val (.int (9 : Int32)), .val (.long x_1), .second] [(.int (5 : Int32)), (.int (9 : Int32)), (.ref b_o)])) _
    refine XS.iadd X72.here hx rfl (hb hby own_d10_53) rfl ?_
    show Steps p.tables e below (T72.setTop (mkF m 54 #[.val (.ref b_o), .val (.int (9 : Int32)), .val (.long x_1), .second] [(.int (14 : Int32)), (.ref b_o)])) _
    refine XS.lloadN X72.here hx rfl (hb hby own_d10_54) rfl ?_
    show Steps p.tables e below (T72.setTop (mkF m 55 #[.val (.ref b_o), .val (.int (9 : Int32)), .val (.long x_1), .second] [(.long x_1), (.int (14 : Int32)), (.ref b_o)])) _
    refine XS.bipush X72.here hx rfl (hb hby own_d10_55) ?_
    show Steps p.tables e below (T72.setTop (mkF m 57 #[.val (.ref b_o), .val (.int (9 : Int32)), .val (.long x_1), .second] [(.int (40 : Int32)), (.long x_1), (.int (14 : Int32)), (.ref b_o)])) _
    refine XS.lushr X72.here hx rfl (hb hby own_d10_57) rfl ?_
    show Steps p.tables e below (T72.setTop (mkF m 58 #[.val (.ref b_o), .val (.int (9 : Int32)), .val (.long x_1), .second] [(.long ((x_1.toUInt64 >>> ((40 : Int32) &&& 0x3f).toInt64.toUInt64).toInt64)), (.int (14 : Int32)), (.ref b_o)])) _
    refine XS.l2i X72.here hx rfl (hb hby own_d10_58) rfl ?_
    show Steps p.tables e below (T72.setTop (mkF m 59 #[.val (.ref b_o), .val (.int (9 : Int32)), .val (.long x_1), .second] [(.int (((x_1.toUInt64 >>> ((40 : Int32) &&& 0x3f).toInt64.toUInt64).toInt64).toInt32)), (.int (14 : Int32)), (.ref b_o)])) _
    refine XS.i2b X72.here hx rfl (hb hby own_d10_59) rfl ?_
    show Steps p.tables e below (T72.setTop (mkF m 60 #[.val (.ref b_o), .val (.int (9 : Int32)), .val (.long x_1), .second] [(.int ((((x_1.toUInt64 >>> ((40 : Int32) &&& 0x3f).toInt64.toUInt64).toInt64).toInt32).toInt8.toInt32)), (.int (14 : Int32)), (.ref b_o)])) _
    refine st88 _ ?_
    show Steps p.tables e below (T88.setTop (mkF m 61 #[.val (.ref b_o), .val (.int (9 : Int32)), .val (.long x_1), .second] [])) _
    refine XS.aloadN X88.here hx rfl (hb hby own_d10_61) rfl rfl ?_
    show Steps p.tables e below (T88.setTop (mkF m 62 #[.val (.ref b_o), .val (.int (9 : Int32)), .val (.long x_1), .second] [(.ref b_o)])) _
    refine XS.iloadN X88.here hx rfl (hb hby own_d10_62) rfl ?_
    show Steps p.tables e below (T88.setTop (mkF m 63 #[.val (.ref b_o), .val (.int (9 : Int32)), .val (.long x_1), .second] [(.int (9 : Int32)), (.ref b_o)])) _
    refine XS.bipush X88.here hx rfl (hb hby own_d10_63) ?_
    show Steps p.tables e below (T88.setTop (mkF m 65 #[.val (.ref b_o), .val (.int (9 : Int32)), .val (.long x_1), .second] [(.int (6 : Int32)), (.int (9 : Int32)), (.ref b_o)])) _
    refine XS.iadd X88.here hx rfl (hb hby own_d10_65) rfl ?_
    show Steps p.tables e below (T88.setTop (mkF m 66 #[.val (.ref b_o), .val (.int (9 : Int32)), .val (.long x_1), .second] [(.int (15 : Int32)), (.ref b_o)])) _
    refine XS.lloadN X88.here hx rfl (hb hby own_d10_66) rfl ?_
    show Steps p.tables e below (T88.setTop (mkF m 67 #[.val (.ref b_o), .val (.int (9 : Int32)), .val (.long x_1), .second] [(.long x_1), (.int (15 : Int32)), (.ref b_o)])) _
    refine XS.bipush X88.here hx rfl (hb hby own_d10_67) ?_
    show Steps p.tables e below (T88.setTop (mkF m 69 #[.val (.ref b_o), .val (.int (9 : Int32)), .val (.long x_1), .second] [(.int (48 : Int32)), (.long x_1), (.int (15 : Int32)), (.ref b_o)])) _
    refine XS.lushr X88.here hx rfl (hb hby own_d10_69) rfl ?_
    show Steps p.tables e below (T88.setTop (mkF m 70 #[.val (.ref b_o), .val (.int (9 : Int32)), .val (.long x_1), .second] [(.long ((x_1.toUInt64 >>> ((48 : Int32) &&& 0x3f).toInt64.toUInt64).toInt64)), (.int (15 : Int32)), (.ref b_o)])) _
    refine XS.l2i X88.here hx rfl (hb hby own_d10_70) rfl ?_
    show Steps p.tables e below (T88.setTop (mkF m 71 #[.val (.ref b_o), .val (.int (9 : Int32)), .val (.long x_1), .second] [(.int (((x_1.toUInt64 >>> ((48 : Int32) &&& 0x3f).toInt64.toUInt64).toInt64).toInt32)), (.int (15 : Int32)), (.ref b_o)])) _
    refine XS.i2b X88.here hx rfl (hb hby own_d10_71) rfl ?_
    show Steps p.tables e below (T88.setTop (mkF m 72 #[.val (.ref b_o), .val (.int (9 : Int32)), .val (.long x_1), .second] [(.int ((((x_1.toUInt64 >>> ((48 : Int32) &&& 0x3f).toInt64.toUInt64).toInt64).toInt32).toInt8.toInt32)), (.int (15 : Int32)), (.ref b_o)])) _
    refine st104 _ ?_
    show Steps p.tables e below (T104.setTop (mkF m 73 #[.val (.ref b_o), .val (.int (9 : Int32)), .val (.long x_1), .second] [])) _
    refine XS.aloadN X104.here hx rfl (hb hby own_d10_73) rfl rfl ?_
    show Steps p.tables e below (T104.setTop (mkF m 74 #[.val (.ref b_o), .val (.int (9 : Int32)), .val (.long x_1), .second] [(.ref b_o)])) _
    refine XS.iloadN X104.here hx rfl (hb hby own_d10_74) rfl ?_
    show Steps p.tables e below (T104.setTop (mkF m 75 #[.val (.ref b_o), .val (.int (9 : Int32)), .val (.long x_1), .second] [(.int (9 : Int32)), (.ref b_o)])) _
    refine XS.bipush X104.here hx rfl (hb hby own_d10_75) ?_
    show Steps p.tables e below (T104.setTop (mkF m 77 #[.val (.ref b_o), .val (.int (9 : Int32)), .val (.long x_1), .second] [(.int (7 : Int32)), (.int (9 : Int32)), (.ref b_o)])) _
    refine XS.iadd X104.here hx rfl (hb hby own_d10_77) rfl ?_
    show Steps p.tables e below (T104.setTop (mkF m 78 #[.val (.ref b_o), .val (.int (9 : Int32)), .val (.long x_1), .second] [(.int (16 : Int32)), (.ref b_o)])) _
    refine XS.lloadN X104.here hx rfl (hb hby own_d10_78) rfl ?_
    show Steps p.tables e below (T104.setTop (mkF m 79 #[.val (.ref b_o), .val (.int (9 : Int32)), .val (.long x_1), .second] [(.long x_1), (.int (16 : Int32)), (.ref b_o)])) _
    refine XS.bipush X104.here hx rfl (hb hby own_d10_79) ?_
    show Steps p.tables e below (T104.setTop (mkF m 81 #[.val (.ref b_o), .val (.int (9 : Int32)), .val (.long x_1), .second] [(.int (56 : Int32)), (.long x_1), (.int (16 : Int32)), (.ref b_o)])) _
    refine XS.lushr X104.here hx rfl (hb hby own_d10_81) rfl ?_
    show Steps p.tables e below (T104.setTop (mkF m 82 #[.val (.ref b_o), .val (.int (9 : Int32)), .val (.long x_1), .second] [(.long ((x_1.toUInt64 >>> ((56 : Int32) &&& 0x3f).toInt64.toUInt64).toInt64)), (.int (16 : Int32)), (.ref b_o)])) _
    refine XS.l2i X104.here hx rfl (hb hby own_d10_82) rfl ?_
    show Steps p.tables e below (T104.setTop (mkF m 83 #[.val (.ref b_o), .val (.int (9 : Int32)), .val (.long x_1), .second] [(.int (((x_1.toUInt64 >>> ((56 : Int32) &&& 0x3f).toInt64.toUInt64).toInt64).toInt32)), (.int (16 : Int32)), (.ref b_o)])) _
    refine XS.i2b X104.here hx rfl (hb hby own_d10_83) rfl ?_
    show Steps p.tables e below (T104.setTop (mkF m 84 #[.val (.ref b_o), .val (.int (9 : Int32)), .val (.long x_1), .second] [(.int ((((x_1.toUInt64 >>> ((56 : Int32) &&& 0x3f).toInt64.toUInt64).toInt64).toInt32).toInt8.toInt32)), (.int (16 : Int32)), (.ref b_o)])) _
    refine st120 _ ?_
    show Steps p.tables e below (T120.setTop (mkF m 85 #[.val (.ref b_o), .val (.int (9 : Int32)), .val (.long x_1), .second] [])) _
    exact X120.returnOut hx Bd.returns (hb hby own_d10_85) hr
  · show Qown_pl9 Z b_o x_1 k_b v_0 v_1 v_2 v_3 v_4 v_5 v_6 v_7 v_8 v_9 v_10 v_11 v_12 v_13 v_14 v_15 v_16 h0 n0 _ T120.heap _
    rw [e120]
    exact ⟨rfl, N124, Kc122, Vm121⟩
theorem own_ef_own_ext (m : MethodId) (q0 : Int64) (q1 : Int64) (p2 : Int32) (p3 : Int32) : entryFrame m #[(.long q0), (.long q1), (.int p2), (.int p3)] 10 = mkF m 0 #[.val (.long q0), .second, .val (.long q1), .second, .val (.int p2), .val (.int p3), .unset, .unset, .unset, .unset] [] := by first | (simp [entryFrame, mkF, argsToLocals, Value.category]; done) | rfl
theorem own_d11_0 : decode method_3_code 0 = .ok (.lconst 1, 1) := by decide +kernel
theorem own_d11_1 : decode method_3_code 1 = .ok (.iload 5, 2) := by decide +kernel
theorem own_d11_3 : decode method_3_code 3 = .ok (.lshl, 1) := by decide +kernel
theorem own_d11_4 : decode method_3_code 4 = .ok (.lconst 1, 1) := by decide +kernel
theorem own_d11_5 : decode method_3_code 5 = .ok (.lsub, 1) := by decide +kernel
theorem own_d11_6 : decode method_3_code 6 = .ok (.lstore 6, 2) := by decide +kernel
theorem own_d11_8 : decode method_3_code 8 = .ok (.iload 4, 2) := by decide +kernel
theorem own_d11_10 : decode method_3_code 10 = .ok (.iload 5, 2) := by decide +kernel
theorem own_d11_12 : decode method_3_code 12 = .ok (.iadd, 1) := by decide +kernel
theorem own_d11_13 : decode method_3_code 13 = .ok (.bipush 64, 2) := by decide +kernel
theorem own_d11_15 : decode method_3_code 15 = .ok (.if_icmp .gt 12, 3) := by decide +kernel
theorem own_d11_18 : decode method_3_code 18 = .ok (.lload_n 0, 1) := by decide +kernel
theorem own_d11_19 : decode method_3_code 19 = .ok (.iload 4, 2) := by decide +kernel
theorem own_d11_21 : decode method_3_code 21 = .ok (.lushr, 1) := by decide +kernel
theorem own_d11_22 : decode method_3_code 22 = .ok (.lstore 8, 2) := by decide +kernel
theorem own_d11_24 : decode method_3_code 24 = .ok (.goto 36, 3) := by decide +kernel
theorem own_d11_27 : decode method_3_code 27 = .ok (.iload 4, 2) := by decide +kernel
theorem own_d11_29 : decode method_3_code 29 = .ok (.bipush 64, 2) := by decide +kernel
theorem own_d11_31 : decode method_3_code 31 = .ok (.if_icmp .lt 15, 3) := by decide +kernel
theorem own_d11_34 : decode method_3_code 34 = .ok (.lload_n 2, 1) := by decide +kernel
theorem own_d11_35 : decode method_3_code 35 = .ok (.iload 4, 2) := by decide +kernel
theorem own_d11_37 : decode method_3_code 37 = .ok (.bipush 64, 2) := by decide +kernel
theorem own_d11_39 : decode method_3_code 39 = .ok (.isub, 1) := by decide +kernel
theorem own_d11_40 : decode method_3_code 40 = .ok (.lushr, 1) := by decide +kernel
theorem own_d11_41 : decode method_3_code 41 = .ok (.lstore 8, 2) := by decide +kernel
theorem own_d11_43 : decode method_3_code 43 = .ok (.goto 17, 3) := by decide +kernel
theorem own_d11_46 : decode method_3_code 46 = .ok (.lload_n 0, 1) := by decide +kernel
theorem own_d11_47 : decode method_3_code 47 = .ok (.iload 4, 2) := by decide +kernel
theorem own_d11_49 : decode method_3_code 49 = .ok (.lushr, 1) := by decide +kernel
theorem own_d11_50 : decode method_3_code 50 = .ok (.lload_n 2, 1) := by decide +kernel
theorem own_d11_51 : decode method_3_code 51 = .ok (.bipush 64, 2) := by decide +kernel
theorem own_d11_53 : decode method_3_code 53 = .ok (.iload 4, 2) := by decide +kernel
theorem own_d11_55 : decode method_3_code 55 = .ok (.isub, 1) := by decide +kernel
theorem own_d11_56 : decode method_3_code 56 = .ok (.lshl, 1) := by decide +kernel
theorem own_d11_57 : decode method_3_code 57 = .ok (.lor, 1) := by decide +kernel
theorem own_d11_58 : decode method_3_code 58 = .ok (.lstore 8, 2) := by decide +kernel
theorem own_d11_60 : decode method_3_code 60 = .ok (.lload 8, 2) := by decide +kernel
theorem own_d11_62 : decode method_3_code 62 = .ok (.lload 6, 2) := by decide +kernel
theorem own_d11_64 : decode method_3_code 64 = .ok (.land, 1) := by decide +kernel
theorem own_d11_65 : decode method_3_code 65 = .ok (.l2i, 1) := by decide +kernel
theorem own_d11_66 : decode method_3_code 66 = .ok (.ireturn, 1) := by decide +kernel
def own_ext_f (q0 : Int64) (q1 : Int64) (p2 : Int32) (p3 : Int32) : Int32 := (if (64 : Int32) < (p2 + p3) then (if p2 < (64 : Int32) then (((((q0.toUInt64 >>> (p2 &&& 0x3f).toInt64.toUInt64).toInt64) ||| (q1 <<< (((64 : Int32) - p2) &&& 0x3f).toInt64)) &&& (((1 : Int64) <<< (p3 &&& 0x3f).toInt64) - (1 : Int64))).toInt32) else ((((q1.toUInt64 >>> ((p2 - (64 : Int32)) &&& 0x3f).toInt64.toUInt64).toInt64) &&& (((1 : Int64) <<< (p3 &&& 0x3f).toInt64) - (1 : Int64))).toInt32)) else ((((q0.toUInt64 >>> (p2 &&& 0x3f).toInt64.toUInt64).toInt64) &&& (((1 : Int64) <<< (p3 &&& 0x3f).toInt64) - (1 : Int64))).toInt32))
def Qown_ext (Z : State) (q0 : Int64) (q1 : Int64) (p2 : Int32) (p3 : Int32) (h0 : Heap) (n0 : Nat) (v : Option Value) (h : Heap) (L : List Loc) : Prop := v = some (.int (own_ext_f q0 q1 p2 p3)) ∧ Fr n0 L ∧ h = h0
set_option maxRecDepth 65536 in
set_option maxHeartbeats 40000000 in
theorem own_ext (l : Launch) (Z : State) (a0 : Array Value) (hw : ∀ d ∈ tables_1, d.before a0 Z = true) (ws : List Jvm.Cond) (q0 : Int64) (q1 : Int64) (p2 : Int32) (p3 : Int32) (h0 : Heap) (n0 : Nat) (Z0 : n0 ≤ h0.size) :
    MetFree l (⟨"fieldstone/PackedIntsGetPinLaw", "extract", "(JJII)I"⟩ : MethodName) (head1 (Jvm.Cond.code (⟨"fieldstone/PackedIntsGetPinLaw", "extract", "(JJII)I"⟩ : MethodName) method_3_code 10 (some .int) :: ws) ({ frames := 0, cells := 0, slots := 0, locals := 0 } : Room)) (fun a U => a = #[(.long q0), (.long q1), (.int p2), (.int p3)] ∧ Z.Warmed39 U.vm ∧ U.heap = h0) (fun _ _ _ _ _ => True) (fun _ U o U' => ∃ v L, o = .returned v ∧ Qown_ext Z q0 q1 p2 p3 h0 n0 v U'.heap L ∧ FrameEnd U o U' L ({ frames := 0, cells := 0, slots := 0, locals := 0 } : Room).cells ({ frames := 0, cells := 0, slots := 0, locals := 0 } : Room).slots) := by
  refine MetFree.of_bodySF (plainFor_of_name own_pn2) hisR ?_
  intro p e s m args below meth c s₁ Bd hml0 hP hK
  obtain ⟨rfl, hZ, hh⟩ := hP
  have hx := Bd.exec
  have hby := Bd.bytes
  have hml : c.maxLocals = 10 := hml0
  have hown : s.vm.findClass "fieldstone/PackedIntsGetPinLaw" = some m.cls := findClass_of_methodNamed Bd.named
  have hnm := (name_of_methodNamed Bd.named Bd.method).1
  have X0 : Stand p l e ({ frames := 0, cells := 0, slots := 0, locals := 0 } : Room) s m #[(.long q0), (.long q1), (.int p2), (.int p3)] below meth c s₁ [] 0 0 := Stand.of_body Bd
  have e0 : s₁.heap = h0 := by rw [← hh, Bd.state]; rfl
  have N0 := Fr.nil n0
  have pre0 : ∀ t, Steps p.tables e below (s₁.setTop (mkF m 0 #[.val (.long q0), .second, .val (.long q1), .second, .val (.int p2), .val (.int p3), .unset, .unset, .unset, .unset] [])) t → Steps p.tables e below (s₁.setTop (entryFrame m #[(.long q0), (.long q1), (.int p2), (.int p3)] 10)) t := fun t k => castTop (own_ef_own_ext m q0 q1 p2 p3) k
  have pre12 : ∀ t, Steps p.tables e below (s₁.setTop (mkF m 15 #[.val (.long q0), .second, .val (.long q1), .second, .val (.int p2), .val (.int p3), .val (.long (((1 : Int64) <<< (p3 &&& 0x3f).toInt64) - (1 : Int64))), .second, .unset, .unset] [(.int (64 : Int32)), (.int (p2 + p3))])) t → Steps p.tables e below (s₁.setTop (entryFrame m #[(.long q0), (.long q1), (.int p2), (.int p3)] 10)) t := by
    intro t kt
    refine pre0 _ ?_
    show Steps p.tables e below (s₁.setTop (mkF m 0 #[.val (.long q0), .second, .val (.long q1), .second, .val (.int p2), .val (.int p3), .unset, .unset, .unset, .unset] [])) _
    refine XS.lconst X0.here hx rfl (hb hby own_d11_0) ?_
    show Steps p.tables e below (s₁.setTop (mkF m 1 #[.val (.long q0), .second, .val (.long q1), .second, .val (.int p2), .val (.int p3), .unset, .unset, .unset, .unset] [(.long (1 : Int64))])) _
    refine XS.iload X0.here hx rfl (hb hby own_d11_1) rfl ?_
    show Steps p.tables e below (s₁.setTop (mkF m 3 #[.val (.long q0), .second, .val (.long q1), .second, .val (.int p2), .val (.int p3), .unset, .unset, .unset, .unset] [(.int p3), (.long (1 : Int64))])) _
    refine XS.lshl X0.here hx rfl (hb hby own_d11_3) rfl ?_
    show Steps p.tables e below (s₁.setTop (mkF m 4 #[.val (.long q0), .second, .val (.long q1), .second, .val (.int p2), .val (.int p3), .unset, .unset, .unset, .unset] [(.long ((1 : Int64) <<< (p3 &&& 0x3f).toInt64))])) _
    refine XS.lconst X0.here hx rfl (hb hby own_d11_4) ?_
    show Steps p.tables e below (s₁.setTop (mkF m 5 #[.val (.long q0), .second, .val (.long q1), .second, .val (.int p2), .val (.int p3), .unset, .unset, .unset, .unset] [(.long (1 : Int64)), (.long ((1 : Int64) <<< (p3 &&& 0x3f).toInt64))])) _
    refine XS.lsub X0.here hx rfl (hb hby own_d11_5) rfl ?_
    show Steps p.tables e below (s₁.setTop (mkF m 6 #[.val (.long q0), .second, .val (.long q1), .second, .val (.int p2), .val (.int p3), .unset, .unset, .unset, .unset] [(.long (((1 : Int64) <<< (p3 &&& 0x3f).toInt64) - (1 : Int64)))])) _
    refine XS.lstore X0.here hx rfl (hb hby own_d11_6) rfl (l' := #[.val (.long q0), .second, .val (.long q1), .second, .val (.int p2), .val (.int p3), .val (.long (((1 : Int64) <<< (p3 &&& 0x3f).toInt64) - (1 : Int64))), .second, .unset, .unset]) rfl ?_
    show Steps p.tables e below (s₁.setTop (mkF m 8 #[.val (.long q0), .second, .val (.long q1), .second, .val (.int p2), .val (.int p3), .val (.long (((1 : Int64) <<< (p3 &&& 0x3f).toInt64) - (1 : Int64))), .second, .unset, .unset] [])) _
    refine XS.iload X0.here hx rfl (hb hby own_d11_8) rfl ?_
    show Steps p.tables e below (s₁.setTop (mkF m 10 #[.val (.long q0), .second, .val (.long q1), .second, .val (.int p2), .val (.int p3), .val (.long (((1 : Int64) <<< (p3 &&& 0x3f).toInt64) - (1 : Int64))), .second, .unset, .unset] [(.int p2)])) _
    refine XS.iload X0.here hx rfl (hb hby own_d11_10) rfl ?_
    show Steps p.tables e below (s₁.setTop (mkF m 12 #[.val (.long q0), .second, .val (.long q1), .second, .val (.int p2), .val (.int p3), .val (.long (((1 : Int64) <<< (p3 &&& 0x3f).toInt64) - (1 : Int64))), .second, .unset, .unset] [(.int p3), (.int p2)])) _
    refine XS.iadd X0.here hx rfl (hb hby own_d11_12) rfl ?_
    show Steps p.tables e below (s₁.setTop (mkF m 13 #[.val (.long q0), .second, .val (.long q1), .second, .val (.int p2), .val (.int p3), .val (.long (((1 : Int64) <<< (p3 &&& 0x3f).toInt64) - (1 : Int64))), .second, .unset, .unset] [(.int (p2 + p3))])) _
    refine XS.bipush X0.here hx rfl (hb hby own_d11_13) ?_
    exact kt
  by_cases hc15_13 : (64 : Int32) < (p2 + p3)
  · have pre17 : ∀ t, Steps p.tables e below (s₁.setTop (mkF m 31 #[.val (.long q0), .second, .val (.long q1), .second, .val (.int p2), .val (.int p3), .val (.long (((1 : Int64) <<< (p3 &&& 0x3f).toInt64) - (1 : Int64))), .second, .unset, .unset] [(.int (64 : Int32)), (.int p2)])) t → Steps p.tables e below (s₁.setTop (entryFrame m #[(.long q0), (.long q1), (.int p2), (.int p3)] 10)) t := by
      intro t kt
      refine pre12 _ ?_
      show Steps p.tables e below (s₁.setTop (mkF m 15 #[.val (.long q0), .second, .val (.long q1), .second, .val (.int p2), .val (.int p3), .val (.long (((1 : Int64) <<< (p3 &&& 0x3f).toInt64) - (1 : Int64))), .second, .unset, .unset] [(.int (64 : Int32)), (.int (p2 + p3))])) _
      refine XS.icmpYes X0.here hx rfl (pc0 := 15) (pc' := 27) rfl (hb hby own_d11_15) rfl (tlt hc15_13).2.2.1 (by decide) (by decide) ?_
      show Steps p.tables e below (s₁.setTop (mkF m 27 #[.val (.long q0), .second, .val (.long q1), .second, .val (.int p2), .val (.int p3), .val (.long (((1 : Int64) <<< (p3 &&& 0x3f).toInt64) - (1 : Int64))), .second, .unset, .unset] [])) _
      refine XS.iload X0.here hx rfl (hb hby own_d11_27) rfl ?_
      show Steps p.tables e below (s₁.setTop (mkF m 29 #[.val (.long q0), .second, .val (.long q1), .second, .val (.int p2), .val (.int p3), .val (.long (((1 : Int64) <<< (p3 &&& 0x3f).toInt64) - (1 : Int64))), .second, .unset, .unset] [(.int p2)])) _
      refine XS.bipush X0.here hx rfl (hb hby own_d11_29) ?_
      exact kt
    by_cases hc31_18 : p2 < (64 : Int32)
    · obtain ⟨fs, hr, hrun, hended, hW, hsame⟩ := X0.leave (v := some (.int (((((q0.toUInt64 >>> (p2 &&& 0x3f).toInt64.toUInt64).toInt64) ||| (q1 <<< (((64 : Int32) - p2) &&& 0x3f).toInt64)) &&& (((1 : Int64) <<< (p3 &&& 0x3f).toInt64) - (1 : Int64))).toInt32))) (fun h => by rw [Bd.returns] at h; cases h) (hlocks := BodyLoose.notSynchronized Bd)
      refine ⟨_, _, pre17 _ ?_, hrun, hended, _, _, rfl, ?_, ⟨_, rfl⟩, hW, hsame.mono (by decide) (by decide)⟩
      · show Steps p.tables e below (s₁.setTop (mkF m 31 #[.val (.long q0), .second, .val (.long q1), .second, .val (.int p2), .val (.int p3), .val (.long (((1 : Int64) <<< (p3 &&& 0x3f).toInt64) - (1 : Int64))), .second, .unset, .unset] [(.int (64 : Int32)), (.int p2)])) _
        refine XS.icmpYes X0.here hx rfl (pc0 := 31) (pc' := 46) rfl (hb hby own_d11_31) rfl (tlt hc31_18).1 (by decide) (by decide) ?_
        show Steps p.tables e below (s₁.setTop (mkF m 46 #[.val (.long q0), .second, .val (.long q1), .second, .val (.int p2), .val (.int p3), .val (.long (((1 : Int64) <<< (p3 &&& 0x3f).toInt64) - (1 : Int64))), .second, .unset, .unset] [])) _
        refine XS.lloadN X0.here hx rfl (hb hby own_d11_46) rfl ?_
        show Steps p.tables e below (s₁.setTop (mkF m 47 #[.val (.long q0), .second, .val (.long q1), .second, .val (.int p2), .val (.int p3), .val (.long (((1 : Int64) <<< (p3 &&& 0x3f).toInt64) - (1 : Int64))), .second, .unset, .unset] [(.long q0)])) _
        refine XS.iload X0.here hx rfl (hb hby own_d11_47) rfl ?_
        show Steps p.tables e below (s₁.setTop (mkF m 49 #[.val (.long q0), .second, .val (.long q1), .second, .val (.int p2), .val (.int p3), .val (.long (((1 : Int64) <<< (p3 &&& 0x3f).toInt64) - (1 : Int64))), .second, .unset, .unset] [(.int p2), (.long q0)])) _
        refine XS.lushr X0.here hx rfl (hb hby own_d11_49) rfl ?_
        show Steps p.tables e below (s₁.setTop (mkF m 50 #[.val (.long q0), .second, .val (.long q1), .second, .val (.int p2), .val (.int p3), .val (.long (((1 : Int64) <<< (p3 &&& 0x3f).toInt64) - (1 : Int64))), .second, .unset, .unset] [(.long ((q0.toUInt64 >>> (p2 &&& 0x3f).toInt64.toUInt64).toInt64))])) _
        refine XS.lloadN X0.here hx rfl (hb hby own_d11_50) rfl ?_
        show Steps p.tables e below (s₁.setTop (mkF m 51 #[.val (.long q0), .second, .val (.long q1), .second, .val (.int p2), .val (.int p3), .val (.long (((1 : Int64) <<< (p3 &&& 0x3f).toInt64) - (1 : Int64))), .second, .unset, .unset] [(.long q1), (.long ((q0.toUInt64 >>> (p2 &&& 0x3f).toInt64.toUInt64).toInt64))])) _
        refine XS.bipush X0.here hx rfl (hb hby own_d11_51) ?_
        show Steps p.tables e below (s₁.setTop (mkF m 53 #[.val (.long q0), .second, .val (.long q1), .second, .val (.int p2), .val (.int p3), .val (.long (((1 : Int64) <<< (p3 &&& 0x3f).toInt64) - (1 : Int64))), .second, .unset, .unset] [(.int (64 : Int32)), (.long q1), (.long ((q0.toUInt64 >>> (p2 &&& 0x3f).toInt64.toUInt64).toInt64))])) _
        refine XS.iload X0.here hx rfl (hb hby own_d11_53) rfl ?_
        show Steps p.tables e below (s₁.setTop (mkF m 55 #[.val (.long q0), .second, .val (.long q1), .second, .val (.int p2), .val (.int p3), .val (.long (((1 : Int64) <<< (p3 &&& 0x3f).toInt64) - (1 : Int64))), .second, .unset, .unset] [(.int p2), (.int (64 : Int32)), (.long q1), (.long ((q0.toUInt64 >>> (p2 &&& 0x3f).toInt64.toUInt64).toInt64))])) _
        refine XS.isub X0.here hx rfl (hb hby own_d11_55) rfl ?_
        show Steps p.tables e below (s₁.setTop (mkF m 56 #[.val (.long q0), .second, .val (.long q1), .second, .val (.int p2), .val (.int p3), .val (.long (((1 : Int64) <<< (p3 &&& 0x3f).toInt64) - (1 : Int64))), .second, .unset, .unset] [(.int ((64 : Int32) - p2)), (.long q1), (.long ((q0.toUInt64 >>> (p2 &&& 0x3f).toInt64.toUInt64).toInt64))])) _
        refine XS.lshl X0.here hx rfl (hb hby own_d11_56) rfl ?_
        show Steps p.tables e below (s₁.setTop (mkF m 57 #[.val (.long q0), .second, .val (.long q1), .second, .val (.int p2), .val (.int p3), .val (.long (((1 : Int64) <<< (p3 &&& 0x3f).toInt64) - (1 : Int64))), .second, .unset, .unset] [(.long (q1 <<< (((64 : Int32) - p2) &&& 0x3f).toInt64)), (.long ((q0.toUInt64 >>> (p2 &&& 0x3f).toInt64.toUInt64).toInt64))])) _
        refine XS.lor X0.here hx rfl (hb hby own_d11_57) rfl ?_
        show Steps p.tables e below (s₁.setTop (mkF m 58 #[.val (.long q0), .second, .val (.long q1), .second, .val (.int p2), .val (.int p3), .val (.long (((1 : Int64) <<< (p3 &&& 0x3f).toInt64) - (1 : Int64))), .second, .unset, .unset] [(.long (((q0.toUInt64 >>> (p2 &&& 0x3f).toInt64.toUInt64).toInt64) ||| (q1 <<< (((64 : Int32) - p2) &&& 0x3f).toInt64)))])) _
        refine XS.lstore X0.here hx rfl (hb hby own_d11_58) rfl (l' := #[.val (.long q0), .second, .val (.long q1), .second, .val (.int p2), .val (.int p3), .val (.long (((1 : Int64) <<< (p3 &&& 0x3f).toInt64) - (1 : Int64))), .second, .val (.long (((q0.toUInt64 >>> (p2 &&& 0x3f).toInt64.toUInt64).toInt64) ||| (q1 <<< (((64 : Int32) - p2) &&& 0x3f).toInt64))), .second]) rfl ?_
        show Steps p.tables e below (s₁.setTop (mkF m 60 #[.val (.long q0), .second, .val (.long q1), .second, .val (.int p2), .val (.int p3), .val (.long (((1 : Int64) <<< (p3 &&& 0x3f).toInt64) - (1 : Int64))), .second, .val (.long (((q0.toUInt64 >>> (p2 &&& 0x3f).toInt64.toUInt64).toInt64) ||| (q1 <<< (((64 : Int32) - p2) &&& 0x3f).toInt64))), .second] [])) _
        refine XS.lload X0.here hx rfl (hb hby own_d11_60) rfl ?_
        show Steps p.tables e below (s₁.setTop (mkF m 62 #[.val (.long q0), .second, .val (.long q1), .second, .val (.int p2), .val (.int p3), .val (.long (((1 : Int64) <<< (p3 &&& 0x3f).toInt64) - (1 : Int64))), .second, .val (.long (((q0.toUInt64 >>> (p2 &&& 0x3f).toInt64.toUInt64).toInt64) ||| (q1 <<< (((64 : Int32) - p2) &&& 0x3f).toInt64))), .second] [(.long (((q0.toUInt64 >>> (p2 &&& 0x3f).toInt64.toUInt64).toInt64) ||| (q1 <<< (((64 : Int32) - p2) &&& 0x3f).toInt64)))])) _
        refine XS.lload X0.here hx rfl (hb hby own_d11_62) rfl ?_
        show Steps p.tables e below (s₁.setTop (mkF m 64 #[.val (.long q0), .second, .val (.long q1), .second, .val (.int p2), .val (.int p3), .val (.long (((1 : Int64) <<< (p3 &&& 0x3f).toInt64) - (1 : Int64))), .second, .val (.long (((q0.toUInt64 >>> (p2 &&& 0x3f).toInt64.toUInt64).toInt64) ||| (q1 <<< (((64 : Int32) - p2) &&& 0x3f).toInt64))), .second] [(.long (((1 : Int64) <<< (p3 &&& 0x3f).toInt64) - (1 : Int64))), (.long (((q0.toUInt64 >>> (p2 &&& 0x3f).toInt64.toUInt64).toInt64) ||| (q1 <<< (((64 : Int32) - p2) &&& 0x3f).toInt64)))])) _
        refine XS.land X0.here hx rfl (hb hby own_d11_64) rfl ?_
        show Steps p.tables e below (s₁.setTop (mkF m 65 #[.val (.long q0), .second, .val (.long q1), .second, .val (.int p2), .val (.int p3), .val (.long (((1 : Int64) <<< (p3 &&& 0x3f).toInt64) - (1 : Int64))), .second, .val (.long (((q0.toUInt64 >>> (p2 &&& 0x3f).toInt64.toUInt64).toInt64) ||| (q1 <<< (((64 : Int32) - p2) &&& 0x3f).toInt64))), .second] [(.long ((((q0.toUInt64 >>> (p2 &&& 0x3f).toInt64.toUInt64).toInt64) ||| (q1 <<< (((64 : Int32) - p2) &&& 0x3f).toInt64)) &&& (((1 : Int64) <<< (p3 &&& 0x3f).toInt64) - (1 : Int64))))])) _
        refine XS.l2i X0.here hx rfl (hb hby own_d11_65) rfl ?_
        show Steps p.tables e below (s₁.setTop (mkF m 66 #[.val (.long q0), .second, .val (.long q1), .second, .val (.int p2), .val (.int p3), .val (.long (((1 : Int64) <<< (p3 &&& 0x3f).toInt64) - (1 : Int64))), .second, .val (.long (((q0.toUInt64 >>> (p2 &&& 0x3f).toInt64.toUInt64).toInt64) ||| (q1 <<< (((64 : Int32) - p2) &&& 0x3f).toInt64))), .second] [(.int (((((q0.toUInt64 >>> (p2 &&& 0x3f).toInt64.toUInt64).toInt64) ||| (q1 <<< (((64 : Int32) - p2) &&& 0x3f).toInt64)) &&& (((1 : Int64) <<< (p3 &&& 0x3f).toInt64) - (1 : Int64))).toInt32))])) _
        exact retI X0 hx Bd.returns (hb hby own_d11_66) hr
      · show Qown_ext Z q0 q1 p2 p3 h0 n0 _ s₁.heap _
        rw [e0]
        have hv : (own_ext_f q0 q1 p2 p3) = (((((q0.toUInt64 >>> (p2 &&& 0x3f).toInt64.toUInt64).toInt64) ||| (q1 <<< (((64 : Int32) - p2) &&& 0x3f).toInt64)) &&& (((1 : Int64) <<< (p3 &&& 0x3f).toInt64) - (1 : Int64))).toInt32) := by unfold own_ext_f; rw [if_pos hc15_13, if_pos hc31_18]
        exact ⟨(by rw [hv]), N0, rfl⟩
    · obtain ⟨fs, hr, hrun, hended, hW, hsame⟩ := X0.leave (v := some (.int ((((q1.toUInt64 >>> ((p2 - (64 : Int32)) &&& 0x3f).toInt64.toUInt64).toInt64) &&& (((1 : Int64) <<< (p3 &&& 0x3f).toInt64) - (1 : Int64))).toInt32))) (fun h => by rw [Bd.returns] at h; cases h) (hlocks := BodyLoose.notSynchronized Bd)
      refine ⟨_, _, pre17 _ ?_, hrun, hended, _, _, rfl, ?_, ⟨_, rfl⟩, hW, hsame.mono (by decide) (by decide)⟩
      · show Steps p.tables e below (s₁.setTop (mkF m 31 #[.val (.long q0), .second, .val (.long q1), .second, .val (.int p2), .val (.int p3), .val (.long (((1 : Int64) <<< (p3 &&& 0x3f).toInt64) - (1 : Int64))), .second, .unset, .unset] [(.int (64 : Int32)), (.int p2)])) _
        refine XS.icmpNo X0.here hx rfl (hb hby own_d11_31) rfl (flt hc31_18).1 ?_
        show Steps p.tables e below (s₁.setTop (mkF m 34 #[.val (.long q0), .second, .val (.long q1), .second, .val (.int p2), .val (.int p3), .val (.long (((1 : Int64) <<< (p3 &&& 0x3f).toInt64) - (1 : Int64))), .second, .unset, .unset] [])) _
        refine XS.lloadN X0.here hx rfl (hb hby own_d11_34) rfl ?_
        show Steps p.tables e below (s₁.setTop (mkF m 35 #[.val (.long q0), .second, .val (.long q1), .second, .val (.int p2), .val (.int p3), .val (.long (((1 : Int64) <<< (p3 &&& 0x3f).toInt64) - (1 : Int64))), .second, .unset, .unset] [(.long q1)])) _
        refine XS.iload X0.here hx rfl (hb hby own_d11_35) rfl ?_
        show Steps p.tables e below (s₁.setTop (mkF m 37 #[.val (.long q0), .second, .val (.long q1), .second, .val (.int p2), .val (.int p3), .val (.long (((1 : Int64) <<< (p3 &&& 0x3f).toInt64) - (1 : Int64))), .second, .unset, .unset] [(.int p2), (.long q1)])) _
        refine XS.bipush X0.here hx rfl (hb hby own_d11_37) ?_
        show Steps p.tables e below (s₁.setTop (mkF m 39 #[.val (.long q0), .second, .val (.long q1), .second, .val (.int p2), .val (.int p3), .val (.long (((1 : Int64) <<< (p3 &&& 0x3f).toInt64) - (1 : Int64))), .second, .unset, .unset] [(.int (64 : Int32)), (.int p2), (.long q1)])) _
        refine XS.isub X0.here hx rfl (hb hby own_d11_39) rfl ?_
        show Steps p.tables e below (s₁.setTop (mkF m 40 #[.val (.long q0), .second, .val (.long q1), .second, .val (.int p2), .val (.int p3), .val (.long (((1 : Int64) <<< (p3 &&& 0x3f).toInt64) - (1 : Int64))), .second, .unset, .unset] [(.int (p2 - (64 : Int32))), (.long q1)])) _
        refine XS.lushr X0.here hx rfl (hb hby own_d11_40) rfl ?_
        show Steps p.tables e below (s₁.setTop (mkF m 41 #[.val (.long q0), .second, .val (.long q1), .second, .val (.int p2), .val (.int p3), .val (.long (((1 : Int64) <<< (p3 &&& 0x3f).toInt64) - (1 : Int64))), .second, .unset, .unset] [(.long ((q1.toUInt64 >>> ((p2 - (64 : Int32)) &&& 0x3f).toInt64.toUInt64).toInt64))])) _
        refine XS.lstore X0.here hx rfl (hb hby own_d11_41) rfl (l' := #[.val (.long q0), .second, .val (.long q1), .second, .val (.int p2), .val (.int p3), .val (.long (((1 : Int64) <<< (p3 &&& 0x3f).toInt64) - (1 : Int64))), .second, .val (.long ((q1.toUInt64 >>> ((p2 - (64 : Int32)) &&& 0x3f).toInt64.toUInt64).toInt64)), .second]) rfl ?_
        show Steps p.tables e below (s₁.setTop (mkF m 43 #[.val (.long q0), .second, .val (.long q1), .second, .val (.int p2), .val (.int p3), .val (.long (((1 : Int64) <<< (p3 &&& 0x3f).toInt64) - (1 : Int64))), .second, .val (.long ((q1.toUInt64 >>> ((p2 - (64 : Int32)) &&& 0x3f).toInt64.toUInt64).toInt64)), .second] [])) _
        refine XS.goto X0.here hx rfl (pc0 := 43) (pc' := 60) rfl (hb hby own_d11_43) (by decide) (by decide) ?_
        show Steps p.tables e below (s₁.setTop (mkF m 60 #[.val (.long q0), .second, .val (.long q1), .second, .val (.int p2), .val (.int p3), .val (.long (((1 : Int64) <<< (p3 &&& 0x3f).toInt64) - (1 : Int64))), .second, .val (.long ((q1.toUInt64 >>> ((p2 - (64 : Int32)) &&& 0x3f).toInt64.toUInt64).toInt64)), .second] [])) _
        refine XS.lload X0.here hx rfl (hb hby own_d11_60) rfl ?_
        show Steps p.tables e below (s₁.setTop (mkF m 62 #[.val (.long q0), .second, .val (.long q1), .second, .val (.int p2), .val (.int p3), .val (.long (((1 : Int64) <<< (p3 &&& 0x3f).toInt64) - (1 : Int64))), .second, .val (.long ((q1.toUInt64 >>> ((p2 - (64 : Int32)) &&& 0x3f).toInt64.toUInt64).toInt64)), .second] [(.long ((q1.toUInt64 >>> ((p2 - (64 : Int32)) &&& 0x3f).toInt64.toUInt64).toInt64))])) _
        refine XS.lload X0.here hx rfl (hb hby own_d11_62) rfl ?_
        show Steps p.tables e below (s₁.setTop (mkF m 64 #[.val (.long q0), .second, .val (.long q1), .second, .val (.int p2), .val (.int p3), .val (.long (((1 : Int64) <<< (p3 &&& 0x3f).toInt64) - (1 : Int64))), .second, .val (.long ((q1.toUInt64 >>> ((p2 - (64 : Int32)) &&& 0x3f).toInt64.toUInt64).toInt64)), .second] [(.long (((1 : Int64) <<< (p3 &&& 0x3f).toInt64) - (1 : Int64))), (.long ((q1.toUInt64 >>> ((p2 - (64 : Int32)) &&& 0x3f).toInt64.toUInt64).toInt64))])) _
        refine XS.land X0.here hx rfl (hb hby own_d11_64) rfl ?_
        show Steps p.tables e below (s₁.setTop (mkF m 65 #[.val (.long q0), .second, .val (.long q1), .second, .val (.int p2), .val (.int p3), .val (.long (((1 : Int64) <<< (p3 &&& 0x3f).toInt64) - (1 : Int64))), .second, .val (.long ((q1.toUInt64 >>> ((p2 - (64 : Int32)) &&& 0x3f).toInt64.toUInt64).toInt64)), .second] [(.long (((q1.toUInt64 >>> ((p2 - (64 : Int32)) &&& 0x3f).toInt64.toUInt64).toInt64) &&& (((1 : Int64) <<< (p3 &&& 0x3f).toInt64) - (1 : Int64))))])) _
        refine XS.l2i X0.here hx rfl (hb hby own_d11_65) rfl ?_
        show Steps p.tables e below (s₁.setTop (mkF m 66 #[.val (.long q0), .second, .val (.long q1), .second, .val (.int p2), .val (.int p3), .val (.long (((1 : Int64) <<< (p3 &&& 0x3f).toInt64) - (1 : Int64))), .second, .val (.long ((q1.toUInt64 >>> ((p2 - (64 : Int32)) &&& 0x3f).toInt64.toUInt64).toInt64)), .second] [(.int ((((q1.toUInt64 >>> ((p2 - (64 : Int32)) &&& 0x3f).toInt64.toUInt64).toInt64) &&& (((1 : Int64) <<< (p3 &&& 0x3f).toInt64) - (1 : Int64))).toInt32))])) _
        exact retI X0 hx Bd.returns (hb hby own_d11_66) hr
      · show Qown_ext Z q0 q1 p2 p3 h0 n0 _ s₁.heap _
        rw [e0]
        have hv : (own_ext_f q0 q1 p2 p3) = ((((q1.toUInt64 >>> ((p2 - (64 : Int32)) &&& 0x3f).toInt64.toUInt64).toInt64) &&& (((1 : Int64) <<< (p3 &&& 0x3f).toInt64) - (1 : Int64))).toInt32) := by unfold own_ext_f; rw [if_pos hc15_13, if_neg hc31_18]
        exact ⟨(by rw [hv]), N0, rfl⟩
  · obtain ⟨fs, hr, hrun, hended, hW, hsame⟩ := X0.leave (v := some (.int ((((q0.toUInt64 >>> (p2 &&& 0x3f).toInt64.toUInt64).toInt64) &&& (((1 : Int64) <<< (p3 &&& 0x3f).toInt64) - (1 : Int64))).toInt32))) (fun h => by rw [Bd.returns] at h; cases h) (hlocks := BodyLoose.notSynchronized Bd)
    refine ⟨_, _, pre12 _ ?_, hrun, hended, _, _, rfl, ?_, ⟨_, rfl⟩, hW, hsame.mono (by decide) (by decide)⟩
    · show Steps p.tables e below (s₁.setTop (mkF m 15 #[.val (.long q0), .second, .val (.long q1), .second, .val (.int p2), .val (.int p3), .val (.long (((1 : Int64) <<< (p3 &&& 0x3f).toInt64) - (1 : Int64))), .second, .unset, .unset] [(.int (64 : Int32)), (.int (p2 + p3))])) _
      refine XS.icmpNo X0.here hx rfl (hb hby own_d11_15) rfl (flt hc15_13).2.2.1 ?_
      show Steps p.tables e below (s₁.setTop (mkF m 18 #[.val (.long q0), .second, .val (.long q1), .second, .val (.int p2), .val (.int p3), .val (.long (((1 : Int64) <<< (p3 &&& 0x3f).toInt64) - (1 : Int64))), .second, .unset, .unset] [])) _
      refine XS.lloadN X0.here hx rfl (hb hby own_d11_18) rfl ?_
      show Steps p.tables e below (s₁.setTop (mkF m 19 #[.val (.long q0), .second, .val (.long q1), .second, .val (.int p2), .val (.int p3), .val (.long (((1 : Int64) <<< (p3 &&& 0x3f).toInt64) - (1 : Int64))), .second, .unset, .unset] [(.long q0)])) _
      refine XS.iload X0.here hx rfl (hb hby own_d11_19) rfl ?_
      show Steps p.tables e below (s₁.setTop (mkF m 21 #[.val (.long q0), .second, .val (.long q1), .second, .val (.int p2), .val (.int p3), .val (.long (((1 : Int64) <<< (p3 &&& 0x3f).toInt64) - (1 : Int64))), .second, .unset, .unset] [(.int p2), (.long q0)])) _
      refine XS.lushr X0.here hx rfl (hb hby own_d11_21) rfl ?_
      show Steps p.tables e below (s₁.setTop (mkF m 22 #[.val (.long q0), .second, .val (.long q1), .second, .val (.int p2), .val (.int p3), .val (.long (((1 : Int64) <<< (p3 &&& 0x3f).toInt64) - (1 : Int64))), .second, .unset, .unset] [(.long ((q0.toUInt64 >>> (p2 &&& 0x3f).toInt64.toUInt64).toInt64))])) _
      refine XS.lstore X0.here hx rfl (hb hby own_d11_22) rfl (l' := #[.val (.long q0), .second, .val (.long q1), .second, .val (.int p2), .val (.int p3), .val (.long (((1 : Int64) <<< (p3 &&& 0x3f).toInt64) - (1 : Int64))), .second, .val (.long ((q0.toUInt64 >>> (p2 &&& 0x3f).toInt64.toUInt64).toInt64)), .second]) rfl ?_
      show Steps p.tables e below (s₁.setTop (mkF m 24 #[.val (.long q0), .second, .val (.long q1), .second, .val (.int p2), .val (.int p3), .val (.long (((1 : Int64) <<< (p3 &&& 0x3f).toInt64) - (1 : Int64))), .second, .val (.long ((q0.toUInt64 >>> (p2 &&& 0x3f).toInt64.toUInt64).toInt64)), .second] [])) _
      refine XS.goto X0.here hx rfl (pc0 := 24) (pc' := 60) rfl (hb hby own_d11_24) (by decide) (by decide) ?_
      show Steps p.tables e below (s₁.setTop (mkF m 60 #[.val (.long q0), .second, .val (.long q1), .second, .val (.int p2), .val (.int p3), .val (.long (((1 : Int64) <<< (p3 &&& 0x3f).toInt64) - (1 : Int64))), .second, .val (.long ((q0.toUInt64 >>> (p2 &&& 0x3f).toInt64.toUInt64).toInt64)), .second] [])) _
      refine XS.lload X0.here hx rfl (hb hby own_d11_60) rfl ?_
      show Steps p.tables e below (s₁.setTop (mkF m 62 #[.val (.long q0), .second, .val (.long q1), .second, .val (.int p2), .val (.int p3), .val (.long (((1 : Int64) <<< (p3 &&& 0x3f).toInt64) - (1 : Int64))), .second, .val (.long ((q0.toUInt64 >>> (p2 &&& 0x3f).toInt64.toUInt64).toInt64)), .second] [(.long ((q0.toUInt64 >>> (p2 &&& 0x3f).toInt64.toUInt64).toInt64))])) _
      refine XS.lload X0.here hx rfl (hb hby own_d11_62) rfl ?_
      show Steps p.tables e below (s₁.setTop (mkF m 64 #[.val (.long q0), .second, .val (.long q1), .second, .val (.int p2), .val (.int p3), .val (.long (((1 : Int64) <<< (p3 &&& 0x3f).toInt64) - (1 : Int64))), .second, .val (.long ((q0.toUInt64 >>> (p2 &&& 0x3f).toInt64.toUInt64).toInt64)), .second] [(.long (((1 : Int64) <<< (p3 &&& 0x3f).toInt64) - (1 : Int64))), (.long ((q0.toUInt64 >>> (p2 &&& 0x3f).toInt64.toUInt64).toInt64))])) _
      refine XS.land X0.here hx rfl (hb hby own_d11_64) rfl ?_
      show Steps p.tables e below (s₁.setTop (mkF m 65 #[.val (.long q0), .second, .val (.long q1), .second, .val (.int p2), .val (.int p3), .val (.long (((1 : Int64) <<< (p3 &&& 0x3f).toInt64) - (1 : Int64))), .second, .val (.long ((q0.toUInt64 >>> (p2 &&& 0x3f).toInt64.toUInt64).toInt64)), .second] [(.long (((q0.toUInt64 >>> (p2 &&& 0x3f).toInt64.toUInt64).toInt64) &&& (((1 : Int64) <<< (p3 &&& 0x3f).toInt64) - (1 : Int64))))])) _
      refine XS.l2i X0.here hx rfl (hb hby own_d11_65) rfl ?_
      show Steps p.tables e below (s₁.setTop (mkF m 66 #[.val (.long q0), .second, .val (.long q1), .second, .val (.int p2), .val (.int p3), .val (.long (((1 : Int64) <<< (p3 &&& 0x3f).toInt64) - (1 : Int64))), .second, .val (.long ((q0.toUInt64 >>> (p2 &&& 0x3f).toInt64.toUInt64).toInt64)), .second] [(.int ((((q0.toUInt64 >>> (p2 &&& 0x3f).toInt64.toUInt64).toInt64) &&& (((1 : Int64) <<< (p3 &&& 0x3f).toInt64) - (1 : Int64))).toInt32))])) _
      exact retI X0 hx Bd.returns (hb hby own_d11_66) hr
    · show Qown_ext Z q0 q1 p2 p3 h0 n0 _ s₁.heap _
      rw [e0]
      have hv : (own_ext_f q0 q1 p2 p3) = ((((q0.toUInt64 >>> (p2 &&& 0x3f).toInt64.toUInt64).toInt64) &&& (((1 : Int64) <<< (p3 &&& 0x3f).toInt64) - (1 : Int64))).toInt32) := by unfold own_ext_f; rw [if_neg hc15_13]
      exact ⟨(by rw [hv]), N0, rfl⟩
def own_U (x : Int64) : Nat := x.toBitVec.toNat
theorem own_small {x : Int32} (h : 0 ≤ x.toInt) : (x.toBitVec.toNat : Int) = x.toInt := by
  have e : x.toInt = x.toBitVec.toInt := rfl
  have hb := x.toBitVec.isLt
  rw [e, BitVec.toInt_eq_toNat_cond] at h ⊢
  by_cases hc : 2 * x.toBitVec.toNat < 2 ^ 32
  · rw [if_pos hc]
  · rw [if_neg hc] at h; omega
theorem own_U32 {x : Int32} (h : 0 ≤ x.toInt) : (own_U x.toInt64 : Int) = x.toInt := by
  have e : x.toInt64.toInt = x.toInt := Jvm.Kit.i64_of_i32 x
  have hb := x.toInt64.toBitVec.isLt
  have e2 : x.toInt64.toInt = x.toInt64.toBitVec.toInt := rfl
  rw [e2, BitVec.toInt_eq_toNat_cond] at e
  unfold own_U
  by_cases hc : 2 * x.toInt64.toBitVec.toNat < 2 ^ 64
  · rw [if_pos hc] at e; omega
  · rw [if_neg hc] at e; omega
/-- the shift's count -/
theorem own_cnt {b : Int32} {B : Nat} (hb : b.toInt = B) (hB : B < 64) : own_U (b &&& (0x3f : Int32)).toInt64 = B := by
  have e := Jvm.Kit.i32_mask b 63 (k := 6) (by decide) (by decide)
  have h : (b &&& (0x3f : Int32)).toInt = B := by rw [e, hb]; omega
  have := own_U32 (x := b &&& (0x3f : Int32)) (by omega)
  omega
theorem own_shl (x : Int64) {b : Int32} {B : Nat} (hb : b.toInt = B) (hB : B < 64) : own_U (x <<< (b &&& (0x3f : Int32)).toInt64) = (own_U x * 2 ^ B) % 2 ^ 64 := by
  have h := own_cnt hb hB
  generalize (b &&& (0x3f : Int32)).toInt64 = n at h ⊢
  have hn : (n.toBitVec.smod 64).toNat = B := by
    have e1 : n.toBitVec = BitVec.ofNat 64 B := BitVec.eq_of_toNat_eq (by unfold own_U at h; rw [h, BitVec.toNat_ofNat]; omega)
    rw [e1]
    have : ∀ k : Fin 64, ((BitVec.ofNat 64 k.val).smod 64).toNat = k.val := by decide +kernel
    exact this ⟨B, hB⟩
  have e : (x <<< n).toBitVec = x.toBitVec <<< (n.toBitVec.smod 64) := rfl
  unfold own_U
  rw [e, BitVec.shiftLeft_eq', BitVec.toNat_shiftLeft, hn, Nat.shiftLeft_eq]
theorem own_shr (x : Int64) {b : Int32} {B : Nat} (hb : b.toInt = B) (hB : B < 64) : own_U ((x.toUInt64 >>> (b &&& (0x3f : Int32)).toInt64.toUInt64).toInt64) = own_U x / 2 ^ B := by
  have h := own_cnt hb hB
  generalize (b &&& (0x3f : Int32)).toInt64 = n at h ⊢
  unfold own_U at h ⊢
  simp only [UInt64.toBitVec_toInt64, UInt64.toBitVec_shiftRight, Int64.toBitVec_toUInt64]
  have h2 : n.toUInt64.toNat = B := h
  simp [BitVec.toNat_ushiftRight, Nat.shiftRight_eq_div_pow, h, h2, Nat.mod_eq_of_lt hB]
theorem own_or (x y : Int64) {k : Nat} {t : Nat} (hx : own_U x < 2 ^ k) (hy : own_U y = t * 2 ^ k) : own_U (x ||| y) = own_U x + own_U y := by
  unfold own_U at *
  rw [Int64.toBitVec_or, BitVec.toNat_or, hy, ← Nat.shiftLeft_eq, Nat.or_comm, ← Nat.shiftLeft_add_eq_or_of_lt hx, Nat.add_comm]
theorem own_mask (x : Int64) {b : Int32} {B : Nat} (hb : b.toInt = B) (h1 : 1 ≤ B) (hB : B < 32) : ((x &&& (((1 : Int64) <<< (b &&& (0x3f : Int32)).toInt64) - (1 : Int64))).toInt32).toBitVec.toNat = own_U x % 2 ^ B := by
  have e1 := own_shl 1 hb (by omega)
  have hp : 2 ^ B ≤ 2 ^ 31 := Nat.pow_le_pow_right (by decide) (by omega)
  have hpos : 0 < 2 ^ B := Nat.pow_pos (by decide)
  have o : own_U 1 = 1 := rfl
  rw [o, Nat.one_mul, Nat.mod_eq_of_lt (by omega)] at e1
  have e2 : own_U (((1 : Int64) <<< (b &&& (0x3f : Int32)).toInt64) - (1 : Int64)) = 2 ^ B - 1 := by
    unfold own_U at e1 ⊢
    have o2 : (1 : Int64).toBitVec.toNat = 1 := rfl
    rw [Int64.toBitVec_sub, BitVec.toNat_sub, e1, o2]
    omega
  have e3 : own_U (x &&& (((1 : Int64) <<< (b &&& (0x3f : Int32)).toInt64) - (1 : Int64))) = own_U x % 2 ^ B := by
    unfold own_U at e2 ⊢
    rw [Int64.toBitVec_and, BitVec.toNat_and, e2, Nat.and_two_pow_sub_one_eq_mod]
  generalize x &&& (((1 : Int64) <<< (b &&& (0x3f : Int32)).toInt64) - (1 : Int64)) = z at e3 ⊢
  have e4 : z.toInt32.toBitVec = z.toBitVec.signExtend 32 := rfl
  unfold own_U at e3
  have hlt : own_U x % 2 ^ B < 2 ^ B := Nat.mod_lt _ hpos
  rw [e4, BitVec.signExtend_eq_setWidth_of_le _ (by decide), BitVec.toNat_setWidth, e3, Nat.mod_eq_of_lt (by unfold own_U at hlt; omega)]
  rfl

theorem own_bm (x : Int) (m : Nat) (h : 256 ∣ (m : Int)) : x.bmod m % 256 = x % 256 := by
  rw [← Int.emod_emod_of_dvd (x.bmod m) h, Int.bmod_emod, Int.emod_emod_of_dvd _ h]
theorem own_b1 (w : Int32) : (w.toInt8.toInt32 &&& (255 : Int32)).toInt = w.toInt % 256 := by
  have e := Jvm.Kit.i32_mask w.toInt8.toInt32 255 (k := 8) (by decide) (by decide)
  rw [e, Int8.toInt_toInt32, Int32.toInt_toInt8]
  exact own_bm _ _ (by decide)
theorem own_b2 (w : Int32) : w.toInt8.toInt32.toInt % 256 = w.toInt % 256 := by
  rw [Int8.toInt_toInt32, Int32.toInt_toInt8]
  exact own_bm _ _ (by decide)
/-- the value of a byte of a long -/
theorem own_byte (z : Int64) : own_U (((Jvm.RoadKit.nar .byte (z.toInt32.toInt8.toInt32)) &&& (255 : Int32)).toInt64) = own_U z % 256 := by
  have h1 : ((Jvm.RoadKit.nar .byte (z.toInt32.toInt8.toInt32)) &&& (255 : Int32)).toInt = z.toInt % 256 := by
    show ((z.toInt32.toInt8.toInt32).toInt8.toInt32 &&& (255 : Int32)).toInt = _
    rw [own_b1, own_b2, Int64.toInt_toInt32]
    exact own_bm _ _ (by decide)
  have h2 := own_U32 (x := (Jvm.RoadKit.nar .byte (z.toInt32.toInt8.toInt32)) &&& (255 : Int32)) (by omega)
  have h3 : z.toInt = (own_U z : Int).bmod (2 ^ 64) := BitVec.toInt_eq_toNat_bmod _
  have h4 : z.toInt % 256 = (own_U z : Int) % 256 := by rw [h3]; exact own_bm _ _ (by decide)
  omega
theorem own_sum (X k : Nat) : X % 2 ^ k + (X / 2 ^ k % 256) * 2 ^ k = X % 2 ^ (k + 8) := by
  rw [Nat.pow_add, Nat.mod_mul, Nat.mul_comm (X / 2 ^ k % 256)]
theorem own_cutm (X s b m : Nat) (h : s + b ≤ m) : (X % 2 ^ m / 2 ^ s) % 2 ^ b = (X / 2 ^ s) % 2 ^ b := by
  have e : 2 ^ m = 2 ^ s * 2 ^ (m - s) := by rw [← Nat.pow_add]; congr 1; omega
  rw [e, Nat.mod_mul_right_div_self, Nat.mod_mod_of_dvd _ (Nat.pow_dvd_pow 2 (by omega))]
theorem own_N (L H k : Nat) (hk : k ≤ 64) : (L + 2 ^ 64 * H) / 2 ^ k = L / 2 ^ k + 2 ^ (64 - k) * H := by
  have e : 2 ^ 64 = 2 ^ k * 2 ^ (64 - k) := by rw [← Nat.pow_add]; congr 1; omega
  rw [e, Nat.mul_assoc, Nat.add_mul_div_left _ _ (Nat.pow_pos (by decide))]
theorem own_N2 (L H k : Nat) (hL : L < 2 ^ 64) : (L + 2 ^ 64 * H) / 2 ^ (64 + k) = H / 2 ^ k := by
  rw [Nat.pow_add, ← Nat.div_div_eq_div_mul, Nat.add_mul_div_left _ _ (by decide), Nat.div_eq_of_lt hL, Nat.zero_add]
def own_bl (lo hi : Int64) : List Int32 := [own_by0 lo, own_by1 lo, own_by2 lo, own_by3 lo, own_by4 lo, own_by5 lo, own_by6 lo, own_by7 lo, own_by0 hi, own_by1 hi, own_by2 hi, own_by3 hi, own_by4 hi, own_by5 hi, own_by6 hi, own_by7 hi]
def own_bt (lo hi : Int64) (j : Int32) : Int32 := (own_bl lo hi).getD j.toNatClampNeg 0
theorem own_Nm (L H k : Nat) (hk : k ≤ 56) : ((L + 2 ^ 64 * H) / 2 ^ k) % 256 = (L / 2 ^ k) % 256 := by
  rw [own_N L H k (by omega)]
  have e : 2 ^ (64 - k) = 256 * 2 ^ (56 - k) := by rw [show (256 : Nat) = 2 ^ 8 from rfl, ← Nat.pow_add]; congr 1; omega
  rw [e, Nat.mul_assoc, Nat.add_mul_mod_self_left]
theorem own_by0v (x : Int64) : own_U ((own_by0 x &&& (255 : Int32)).toInt64) = (own_U x / 2 ^ 0) % 256 := by
  rw [Nat.pow_zero, Nat.div_one]; exact own_byte x
theorem own_by1v (x : Int64) : own_U ((own_by1 x &&& (255 : Int32)).toInt64) = (own_U x / 2 ^ 8) % 256 := by
  have h := own_byte ((x.toUInt64 >>> ((8 : Int32) &&& 0x3f).toInt64.toUInt64).toInt64)
  rw [own_shr x (B := 8) rfl (by decide)] at h
  exact h
theorem own_by2v (x : Int64) : own_U ((own_by2 x &&& (255 : Int32)).toInt64) = (own_U x / 2 ^ 16) % 256 := by
  have h := own_byte ((x.toUInt64 >>> ((16 : Int32) &&& 0x3f).toInt64.toUInt64).toInt64)
  rw [own_shr x (B := 16) rfl (by decide)] at h
  exact h
theorem own_by3v (x : Int64) : own_U ((own_by3 x &&& (255 : Int32)).toInt64) = (own_U x / 2 ^ 24) % 256 := by
  have h := own_byte ((x.toUInt64 >>> ((24 : Int32) &&& 0x3f).toInt64.toUInt64).toInt64)
  rw [own_shr x (B := 24) rfl (by decide)] at h
  exact h
theorem own_by4v (x : Int64) : own_U ((own_by4 x &&& (255 : Int32)).toInt64) = (own_U x / 2 ^ 32) % 256 := by
  have h := own_byte ((x.toUInt64 >>> ((32 : Int32) &&& 0x3f).toInt64.toUInt64).toInt64)
  rw [own_shr x (B := 32) rfl (by decide)] at h
  exact h
theorem own_by5v (x : Int64) : own_U ((own_by5 x &&& (255 : Int32)).toInt64) = (own_U x / 2 ^ 40) % 256 := by
  have h := own_byte ((x.toUInt64 >>> ((40 : Int32) &&& 0x3f).toInt64.toUInt64).toInt64)
  rw [own_shr x (B := 40) rfl (by decide)] at h
  exact h
theorem own_by6v (x : Int64) : own_U ((own_by6 x &&& (255 : Int32)).toInt64) = (own_U x / 2 ^ 48) % 256 := by
  have h := own_byte ((x.toUInt64 >>> ((48 : Int32) &&& 0x3f).toInt64.toUInt64).toInt64)
  rw [own_shr x (B := 48) rfl (by decide)] at h
  exact h
theorem own_by7v (x : Int64) : own_U ((own_by7 x &&& (255 : Int32)).toInt64) = (own_U x / 2 ^ 56) % 256 := by
  have h := own_byte ((x.toUInt64 >>> ((56 : Int32) &&& 0x3f).toInt64.toUInt64).toInt64)
  rw [own_shr x (B := 56) rfl (by decide)] at h
  exact h

theorem own_btv (lo hi : Int64) {j : Int32} {J : Nat} (hj : j.toInt = J) (hJ : J < 16) : own_U ((own_bt lo hi j &&& (255 : Int32)).toInt64) = ((own_U lo + 2 ^ 64 * own_U hi) / 2 ^ (8 * J)) % 256 := by
  have e : j.toNatClampNeg = J := by show j.toInt.toNat = J; omega
  have hL : own_U lo < 2 ^ 64 := lo.toBitVec.isLt
  unfold own_bt
  rw [e]
  match J, hJ with
  | 0, _ => rw [own_Nm _ _ _ (by decide)]; exact own_by0v lo
  | 1, _ => rw [own_Nm _ _ _ (by decide)]; exact own_by1v lo
  | 2, _ => rw [own_Nm _ _ _ (by decide)]; exact own_by2v lo
  | 3, _ => rw [own_Nm _ _ _ (by decide)]; exact own_by3v lo
  | 4, _ => rw [own_Nm _ _ _ (by decide)]; exact own_by4v lo
  | 5, _ => rw [own_Nm _ _ _ (by decide)]; exact own_by5v lo
  | 6, _ => rw [own_Nm _ _ _ (by decide)]; exact own_by6v lo
  | 7, _ => rw [own_Nm _ _ _ (by decide)]; exact own_by7v lo
  | 8, _ => rw [show 8 * 8 = 64 + 0 from rfl, own_N2 _ _ _ hL]; exact own_by0v hi
  | 9, _ => rw [show 8 * 9 = 64 + 8 from rfl, own_N2 _ _ _ hL]; exact own_by1v hi
  | 10, _ => rw [show 8 * 10 = 64 + 16 from rfl, own_N2 _ _ _ hL]; exact own_by2v hi
  | 11, _ => rw [show 8 * 11 = 64 + 24 from rfl, own_N2 _ _ _ hL]; exact own_by3v hi
  | 12, _ => rw [show 8 * 12 = 64 + 32 from rfl, own_N2 _ _ _ hL]; exact own_by4v hi
  | 13, _ => rw [show 8 * 13 = 64 + 40 from rfl, own_N2 _ _ _ hL]; exact own_by5v hi
  | 14, _ => rw [show 8 * 14 = 64 + 48 from rfl, own_N2 _ _ _ hL]; exact own_by6v hi
  | 15, _ => rw [show 8 * 15 = 64 + 56 from rfl, own_N2 _ _ _ hL]; exact own_by7v hi
  | J + 16, h => exact absurd h (by omega)

theorem own_step (acc : Int64) (y : Int32) {k : Nat} {kk : Int32} (hkk : kk.toInt = k) (hk : k ≤ 32) {X : Nat} (h1 : own_U acc = X % 2 ^ k) (h2 : own_U y.toInt64 = (X / 2 ^ k) % 256) :
    own_U (acc ||| (y.toInt64 <<< (kk &&& (0x3f : Int32)).toInt64)) = X % 2 ^ (k + 8) := by
  have e := own_shl y.toInt64 hkk (by omega)
  have hp : 2 ^ k ≤ 2 ^ 32 := Nat.pow_le_pow_right (by decide) hk
  have hpos : 0 < 2 ^ k := Nat.pow_pos (by decide)
  have hy : own_U y.toInt64 < 256 := by rw [h2]; exact Nat.mod_lt _ (by decide)
  have hm : own_U y.toInt64 * 2 ^ k < 2 ^ 64 := Nat.lt_of_lt_of_le (Nat.mul_lt_mul_of_pos_right hy hpos) (Nat.le_trans (Nat.mul_le_mul_left 256 hp) (by decide))
  rw [Nat.mod_eq_of_lt hm] at e
  rw [own_or _ _ (by rw [h1]; exact Nat.mod_lt _ hpos) e, e, h1, h2, own_sum]
theorem own_fin (acc : Int64) {s b : Int32} {S B m X : Nat} (hs : s.toInt = S) (hb : b.toInt = B) (hS : S < 8) (h1 : 1 ≤ B) (h31 : B < 32) (ha : own_U acc = X % 2 ^ m) (hm : S + B ≤ m) :
    ((((acc.toUInt64 >>> (s &&& (0x3f : Int32)).toInt64.toUInt64).toInt64) &&& (((1 : Int64) <<< (b &&& (0x3f : Int32)).toInt64) - (1 : Int64))).toInt32).toBitVec.toNat = X / 2 ^ S % 2 ^ B := by
  rw [own_mask _ hb h1 h31, own_shr _ hs (by omega), ha, own_cutm _ _ _ _ hm]
theorem own_idx {f : Int32} {F : Nat} (hf : f.toInt = F) (hF : F < 1000) : (f + (1 : Int32)).toInt = (F + 1 : Nat) := by
  have e : (1 : Int32).toInt = 1 := rfl
  rw [Jvm.Kit.i32_add (by omega) (by omega)]; omega
theorem own_get_main (lo hi : Int64) {f s b : Int32} {F S B : Nat} (hf : f.toInt = F) (hs : s.toInt = S) (hb : b.toInt = B) (hS : S < 8) (h1 : 1 ≤ B) (h31 : B < 32) (hO : 8 * F + S + B ≤ 128) :
    (own_get_f f s b (own_bt lo hi)).toBitVec.toNat = ((own_U lo + 2 ^ 64 * own_U hi) / 2 ^ (8 * F + S)) % 2 ^ B := by
  have hsb : (s + b).toInt = (S + B : Nat) := by rw [Jvm.Kit.i32_add (by omega) (by omega)]; omega
  have c : ∀ k : Int32, ∀ K : Nat, k.toInt = K → (k < (s + b) ↔ K < S + B) := fun k K hk => by rw [Int32.lt_iff_toInt_lt, hk, hsb]; omega
  rw [Nat.pow_add, ← Nat.div_div_eq_div_mul]
  generalize hN : own_U lo + 2 ^ 64 * own_U hi = N
  have bv : ∀ {j : Int32} {t : Nat}, j.toInt = (F + t : Nat) → F + t < 16 → own_U ((own_bt lo hi j &&& (255 : Int32)).toInt64) = (N / 2 ^ (8 * F) / 2 ^ (8 * t)) % 256 := fun {j t} hj ht => by
    rw [own_btv lo hi hj ht, hN, Nat.mul_add, Nat.pow_add, Nat.div_div_eq_div_mul]
  generalize N / 2 ^ (8 * F) = X at bv ⊢
  have j1 := own_idx hf (by omega)
  have j2 := own_idx j1 (by omega)
  have j3 := own_idx j2 (by omega)
  have j4 := own_idx j3 (by omega)
  have z : own_U (0 : Int64) = X % 2 ^ 0 := by rw [Nat.pow_zero, Nat.mod_one]; rfl
  unfold own_get_f
  rw [if_pos ((c 0 0 rfl).mpr (by omega))]
  have a0 := own_step (0 : Int64) (own_bt lo hi f &&& (255 : Int32)) (k := 0) (kk := 0) rfl (by decide) z (bv (t := 0) hf (by omega))
  by_cases c1 : 8 < S + B
  · rw [if_pos ((c 8 8 rfl).mpr c1)]
    have a1 := own_step _ (own_bt lo hi (f + (1 : Int32)) &&& (255 : Int32)) (k := 8) (kk := 8) rfl (by decide) a0 (bv (t := 1) j1 (by omega))
    by_cases c2 : 16 < S + B
    · rw [if_pos ((c 16 16 rfl).mpr c2)]
      have a2 := own_step _ (own_bt lo hi ((f + (1 : Int32)) + (1 : Int32)) &&& (255 : Int32)) (k := 16) (kk := 16) rfl (by decide) a1 (bv (t := 2) j2 (by omega))
      by_cases c3 : 24 < S + B
      · rw [if_pos ((c 24 24 rfl).mpr c3)]
        have a3 := own_step _ (own_bt lo hi (((f + (1 : Int32)) + (1 : Int32)) + (1 : Int32)) &&& (255 : Int32)) (k := 24) (kk := 24) rfl (by decide) a2 (bv (t := 3) j3 (by omega))
        by_cases c4 : 32 < S + B
        · rw [if_pos ((c 32 32 rfl).mpr c4)]
          have a4 := own_step _ (own_bt lo hi ((((f + (1 : Int32)) + (1 : Int32)) + (1 : Int32)) + (1 : Int32)) &&& (255 : Int32)) (k := 32) (kk := 32) rfl (by decide) a3 (bv (t := 4) j4 (by omega))
          exact own_fin _ hs hb hS h1 h31 a4 (by omega)
        · rw [if_neg (fun q => c4 ((c 32 32 rfl).mp q))]; exact own_fin _ hs hb hS h1 h31 a3 (by omega)
      · rw [if_neg (fun q => c3 ((c 24 24 rfl).mp q))]; exact own_fin _ hs hb hS h1 h31 a2 (by omega)
    · rw [if_neg (fun q => c2 ((c 16 16 rfl).mp q))]; exact own_fin _ hs hb hS h1 h31 a1 (by omega)
  · rw [if_neg (fun q => c1 ((c 8 8 rfl).mp q))]; exact own_fin _ hs hb hS h1 h31 a0 (by omega)
theorem own_ext_main (lo hi : Int64) {o b : Int32} {O B : Nat} (ho : o.toInt = O) (hb : b.toInt = B) (h1 : 1 ≤ B) (h31 : B < 32) (hO : O + B ≤ 128) :
    (own_ext_f lo hi o b).toBitVec.toNat = ((own_U lo + 2 ^ 64 * own_U hi) / 2 ^ O) % 2 ^ B := by
  have hL : own_U lo < 2 ^ 64 := lo.toBitVec.isLt
  have e64 : (64 : Int32).toInt = 64 := rfl
  have hob : (o + b).toInt = (O + B : Nat) := by rw [Jvm.Kit.i32_add (by omega) (by omega)]; omega
  unfold own_ext_f
  by_cases c1 : 64 < O + B
  · rw [if_pos (by rw [Int32.lt_iff_toInt_lt, hob]; omega)]
    by_cases c2 : O < 64
    · rw [if_pos (by rw [Int32.lt_iff_toInt_lt]; omega)]
      have hm : ((64 : Int32) - o).toInt = (64 - O : Nat) := by rw [Jvm.Kit.i32_sub (by omega) (by omega)]; omega
      have s1 := own_shr lo ho c2
      have s2 := own_shl hi hm (by omega)
      have e : 2 ^ 64 = 2 ^ O * 2 ^ (64 - O) := by rw [← Nat.pow_add]; congr 1; omega
      have s3 : own_U (hi <<< (((64 : Int32) - o) &&& (0x3f : Int32)).toInt64) = own_U hi % 2 ^ O * 2 ^ (64 - O) := by rw [s2, e, Nat.mul_mod_mul_right]
      have hlt : own_U lo / 2 ^ O < 2 ^ (64 - O) := Nat.div_lt_of_lt_mul (by rw [← e]; exact hL)
      rw [own_mask _ hb h1 h31, own_or _ _ (by rw [s1]; exact hlt) s3, s1, s2, own_N _ _ _ (by omega), Nat.add_mod, Nat.mod_mod_of_dvd _ (Nat.pow_dvd_pow 2 (by omega)), ← Nat.add_mod, Nat.mul_comm (own_U hi)]
    · rw [if_neg (by rw [Int32.lt_iff_toInt_lt]; omega)]
      have hm : (o - (64 : Int32)).toInt = (O - 64 : Nat) := by rw [Jvm.Kit.i32_sub (by omega) (by omega)]; omega
      have e2 := own_N2 (own_U lo) (own_U hi) (O - 64) hL
      rw [show 64 + (O - 64) = O by omega] at e2
      rw [own_mask _ hb h1 h31, own_shr hi hm (by omega), e2]
  · rw [if_neg (by rw [Int32.lt_iff_toInt_lt, hob]; omega)]
    have e : 2 ^ (64 - O) = 2 ^ B * 2 ^ (64 - O - B) := by rw [← Nat.pow_add]; congr 1; omega
    rw [own_mask _ hb h1 h31, own_shr lo ho (by omega), own_N _ _ _ (by omega), e, Nat.mul_assoc, Nat.add_mul_mod_self_left]

theorem own_eq32 {x y : Int32} (h : x.toBitVec.toNat = y.toBitVec.toNat) : x = y := Int32.toBitVec_inj.mp (BitVec.eq_of_toNat_eq h)
theorem own_nm (p : Int32) : ∃ B : Nat, B < 32 ∧ (p &&& (31 : Int32)).toInt = B := by
  have e := Jvm.Kit.i32_mask p 31 (k := 5) (by decide) (by decide)
  exact ⟨(p.toInt % 32).toNat, by omega, by omega⟩
/-- the place in the bits, as a long -/
theorem own_at {i b : Int32} {I B : Nat} (hi : i.toInt = I) (hb : b.toInt = B) (hIB : I * B ≤ 128) : ((i.toInt64) * (b.toInt64)).toInt = (I * B : Nat) := by
  have e1 : i.toInt64.toInt = I := by rw [Jvm.Kit.i64_of_i32, hi]
  have e2 : b.toInt64.toInt = B := by rw [Jvm.Kit.i64_of_i32, hb]
  have e3 : i.toInt64.toInt * b.toInt64.toInt = (I * B : Nat) := by rw [e1, e2, Int.natCast_mul]
  rw [Jvm.Kit.i64_mul (by omega) (by omega), e3]
theorem own_from {i b : Int32} {I B : Nat} (hi : i.toInt = I) (hb : b.toInt = B) (hIB : I * B ≤ 128) :
    (((((i.toInt64) * (b.toInt64)).toUInt64 >>> ((3 : Int32) &&& 0x3f).toInt64.toUInt64).toInt64).toInt32).toInt = (I * B / 8 : Nat) := by
  have e := own_at hi hb hIB
  have e4 := Jvm.Kit.i64_lushr (x := (i.toInt64) * (b.toInt64)) (Jvm.Kit.i64_nonneg.mpr (by omega)) (n := ((3 : Int32) &&& 0x3f).toInt64.toUInt64) (k := 3) (by decide) (by decide)
  rw [Jvm.Kit.i32_of_i64 (by omega) (by omega), e4, e]
  omega
theorem own_shift {i b : Int32} {I B : Nat} (hi : i.toInt = I) (hb : b.toInt = B) (hIB : I * B ≤ 128) :
    ((((i.toInt64) * (b.toInt64)) &&& (7 : Int64)).toInt32).toInt = (I * B % 8 : Nat) := by
  have e := own_at hi hb hIB
  have e4 := Jvm.Kit.i64_mask ((i.toInt64) * (b.toInt64)) 7 (k := 3) (by decide) (by decide)
  rw [Jvm.Kit.i32_of_i64 (by omega) (by omega), e4, e]
  omega
theorem own_mul {i b : Int32} {I B : Nat} (hi : i.toInt = I) (hb : b.toInt = B) (hIB : I * B ≤ 128) : (i * b).toInt = (I * B : Nat) := by
  have e3 : i.toInt * b.toInt = (I * B : Nat) := by rw [hi, hb, Int.natCast_mul]
  rw [Jvm.Kit.i32_mul (by omega) (by omega), e3]
theorem own_big (lo hi : Int64) {i b : Int32} {I B : Nat} (hI : i.toInt = I) (hb : b.toInt = B) (h1 : 1 ≤ B) (h31 : B < 32) (hIB : I * B + B ≤ 128) :
    own_get_f (((((i.toInt64) * (b.toInt64)).toUInt64 >>> ((3 : Int32) &&& 0x3f).toInt64.toUInt64).toInt64).toInt32) ((((i.toInt64) * (b.toInt64)) &&& (7 : Int64)).toInt32) b (own_bt lo hi) = own_ext_f lo hi (i * b) b := by
  apply own_eq32
  rw [own_get_main lo hi (own_from hI hb (by omega)) (own_shift hI hb (by omega)) hb (by omega) h1 h31 (by omega), own_ext_main lo hi (own_mul hI hb (by omega)) hb h1 h31 hIB]
  rw [show 8 * (I * B / 8) + I * B % 8 = I * B by omega]
/-- count, place, length -/
theorem own_cnt128 {b : Int32} {B : Nat} (hb : b.toInt = B) (h1 : 1 ≤ B) (h31 : B < 32) : ((128 : Int32) / b).toInt = (128 / B : Nat) := by
  have e : (128 : Int32).toInt = 128 := rfl
  rw [Jvm.Kit.i32_div (by omega), e, hb]
  rfl
theorem own_place (t : Int32) {c : Int32} {K : Nat} (hc : c.toInt = K) (hK : 1 ≤ K) (hK2 : K ≤ 128) : ∃ I : Nat, I < K ∧ ((t &&& (2147483647 : Int32)) % c).toInt = I := by
  have e := Jvm.Kit.i32_mask t 2147483647 (k := 31) (by decide) (by decide)
  have r := Jvm.Kit.i32_rem_nonneg (x := t &&& 2147483647) (y := c) (by omega)
  have b1 := Int.emod_nonneg (t &&& (2147483647 : Int32)).toInt (b := c.toInt) (by omega)
  have b2 := Int.emod_lt_of_pos (t &&& (2147483647 : Int32)).toInt (b := c.toInt) (by omega)
  exact ⟨((t &&& (2147483647 : Int32)).toInt % c.toInt).toNat, by omega, by omega⟩
theorem own_room {B : Nat} (h1 : 1 ≤ B) (h31 : B < 32) : 97 ≤ 128 / B * B ∧ 128 / B * B ≤ 128 := by
  have h := Nat.div_add_mod 128 B
  have h2 := Nat.mod_lt 128 (show B > 0 by omega)
  rw [Nat.mul_comm] at h
  omega
theorem own_lenv {c b : Int32} {K B : Nat} (hc : c.toInt = K) (hb : b.toInt = B) (h : 97 ≤ K * B ∧ K * B ≤ 128) :
    ((own_min_f (2147483647 : Int64) ((((c.toInt64) * (b.toInt64)) + (7 : Int64)) / (8 : Int64))).toInt32).toInt = ((K * B + 7) / 8 : Nat) := by
  have e := own_at hc hb h.2
  have e7 : (7 : Int64).toInt = 7 := rfl
  have e8 : (8 : Int64).toInt = 8 := rfl
  have em : (2147483647 : Int64).toInt = 2147483647 := rfl
  have e1 : (((c.toInt64) * (b.toInt64)) + (7 : Int64)).toInt = (K * B + 7 : Nat) := by rw [Jvm.Kit.i64_add (by omega) (by omega)]; omega
  have e2 : ((((c.toInt64) * (b.toInt64)) + (7 : Int64)) / (8 : Int64)).toInt = ((K * B + 7) / 8 : Nat) := by
    rw [Jvm.Kit.i64_div (by omega), e1, e8]
    rfl
  unfold own_min_f
  rw [if_pos (by rw [Int64.lt_iff_toInt_lt]; omega), Jvm.Kit.i32_of_i64 (by omega) (by omega), e2]
theorem own_y0 {b : Int32} {B : Nat} (hb : b.toInt = B) (hB : B < 128) : nar .byte (b.toInt8.toInt32) = b := by
  have e : ∀ w : Int32, w.toInt = B → w.toInt8.toInt32.toInt = B := fun w hw => by
    rw [Int8.toInt_toInt32, Int32.toInt_toInt8, hw]
    rw [Int.bmod_def]; omega
  apply Int32.toInt_inj.mp
  show (b.toInt8.toInt32.toInt8.toInt32).toInt = b.toInt
  rw [e _ (e _ hb), hb]
theorem own_all128 : ∀ n : Fin 256, ((Int32.ofNat n.val &&& (128 : Int32) = (0 : Int32)) ↔ n.val < 128) := by decide +kernel
theorem own_bit7 (y : Int32) : (y &&& (128 : Int32) = (0 : Int32)) ↔ y.toInt % 256 < 128 := by
  have m := Jvm.Kit.i32_mask y 255 (k := 8) (by decide) (by decide)
  have e : y &&& (128 : Int32) = (y &&& (255 : Int32)) &&& (128 : Int32) := by rw [Int32.and_assoc]; rfl
  rw [e]
  generalize y &&& (255 : Int32) = x at m ⊢
  have hx : x = Int32.ofNat x.toInt.toNat := by
    apply Int32.toInt_inj.mp
    rw [Int32.toInt_ofNat_of_lt (by omega)]; omega
  have q := own_all128 ⟨x.toInt.toNat, by omega⟩
  rw [← hx] at q
  exact q.trans (by show x.toInt.toNat < 128 ↔ _; omega)
theorem own_Ui {w : Int64} {X : Nat} (hw : own_U w = X) (hX : X < 2147483648) : w.toInt = X := by
  have e : w.toInt = (own_U w : Int).bmod (2 ^ 64) := BitVec.toInt_eq_toNat_bmod _
  rw [e, hw, Int.bmod_def]; omega
theorem own_v1 (p0 : Int32) : ((nar .byte ((p0 &&& (31 : Int32)).toInt8.toInt32)) &&& (128 : Int32)) = (0 : Int32) ∧ ¬ (own_vl1 (nar .byte ((p0 &&& (31 : Int32)).toInt8.toInt32))) < (0 : Int64) ∧ ¬ (31 : Int64) < (own_vl1 (nar .byte ((p0 &&& (31 : Int32)).toInt8.toInt32))) ∧ ((own_vl1 (nar .byte ((p0 &&& (31 : Int32)).toInt8.toInt32))).toInt32) = (p0 &&& (31 : Int32)) := by
  obtain ⟨B, hB, hb⟩ := own_nm p0
  rw [own_y0 hb (by omega)]
  generalize (p0 &&& (31 : Int32)) = b at hb ⊢
  have m := Jvm.Kit.i32_mask b 127 (k := 7) (by decide) (by decide)
  have u := own_U32 (x := b &&& (127 : Int32)) (by omega)
  have z : own_U (0 : Int64) = B % 2 ^ 0 := by rw [Nat.pow_zero, Nat.mod_one]; rfl
  have st := own_step (0 : Int64) (b &&& (127 : Int32)) (k := 0) (kk := 0) rfl (by decide) (X := B) z (by rw [Nat.pow_zero, Nat.div_one]; omega)
  have v : own_U (own_vl1 b) = B := by unfold own_vl1; rw [st]; omega
  have vi : (own_vl1 b).toInt = B := own_Ui v (by omega)
  have e0 : (0 : Int64).toInt = 0 := rfl
  have e31 : (31 : Int64).toInt = 31 := rfl
  refine ⟨(own_bit7 b).mpr (by omega), by rw [Int64.lt_iff_toInt_lt]; omega, by rw [Int64.lt_iff_toInt_lt]; omega, ?_⟩
  apply Int32.toInt_inj.mp
  rw [Jvm.Kit.i32_of_i64 (by omega) (by omega)]; omega
theorem own_step7 (acc : Int64) (y : Int32) {k : Nat} {kk : Int32} (hkk : kk.toInt = k) (hk : k ≤ 32) {X : Nat} (h1 : own_U acc = X % 2 ^ k) (h2 : own_U y.toInt64 = (X / 2 ^ k) % 128) :
    own_U (acc ||| (y.toInt64 <<< (kk &&& (0x3f : Int32)).toInt64)) = X % 2 ^ (k + 7) := by
  have e := own_shl y.toInt64 hkk (by omega)
  have hp : 2 ^ k ≤ 2 ^ 32 := Nat.pow_le_pow_right (by decide) hk
  have hpos : 0 < 2 ^ k := Nat.pow_pos (by decide)
  have hy : own_U y.toInt64 < 128 := by rw [h2]; exact Nat.mod_lt _ (by decide)
  have hm : own_U y.toInt64 * 2 ^ k < 2 ^ 64 := Nat.lt_of_lt_of_le (Nat.mul_lt_mul_of_pos_right hy hpos) (Nat.le_trans (Nat.mul_le_mul_left 128 hp) (by decide))
  rw [Nat.mod_eq_of_lt hm] at e
  rw [own_or _ _ (by rw [h1]; exact Nat.mod_lt _ hpos) e, e, h1, h2, Nat.pow_add, Nat.mod_mul, Nat.mul_comm (X / 2 ^ k % 128)]
theorem own_or128 {x : Int32} (h : 0 ≤ x.toInt ∧ x.toInt < 128) : (x ||| (128 : Int32)).toInt = x.toInt + 128 := by
  have ex := own_small (x := x) h.1
  have e8 : (128 : Int32).toBitVec.toNat = 128 := rfl
  have e3 : (x ||| (128 : Int32)).toBitVec.toNat = 128 + x.toBitVec.toNat := by
    have q := Nat.shiftLeft_add_eq_or_of_lt (b := x.toBitVec.toNat) (i := 7) (by omega) 1
    rw [Int32.toBitVec_or, BitVec.toNat_or, e8, Nat.or_comm]; exact q.symm
  have e4 : (x ||| (128 : Int32)).toInt = (x ||| (128 : Int32)).toBitVec.toInt := rfl
  rw [e4, BitVec.toInt_eq_toNat_cond, e3, if_pos (by omega)]
  omega
theorem own_n2 (w : Int32) : (nar .byte (w.toInt8.toInt32)).toInt % 256 = w.toInt % 256 := by
  show (w.toInt8.toInt32.toInt8.toInt32).toInt % 256 = _
  rw [own_b2, own_b2]
/-- a byte of a varint that goes on -/
theorem own_go {x : Int32} {X : Nat} (hx : x.toInt = X) : ¬ ((nar .byte (((x &&& (127 : Int32)) ||| (128 : Int32)).toInt8.toInt32) &&& (128 : Int32)) = (0 : Int32)) ∧ own_U ((nar .byte (((x &&& (127 : Int32)) ||| (128 : Int32)).toInt8.toInt32) &&& (127 : Int32)).toInt64) = X % 128 := by
  have m := Jvm.Kit.i32_mask x 127 (k := 7) (by decide) (by decide)
  have o := own_or128 (x := x &&& (127 : Int32)) (by omega)
  have q := own_n2 ((x &&& (127 : Int32)) ||| (128 : Int32))
  generalize nar .byte (((x &&& (127 : Int32)) ||| (128 : Int32)).toInt8.toInt32) = y at q ⊢
  have m2 := Jvm.Kit.i32_mask y 127 (k := 7) (by decide) (by decide)
  have u := own_U32 (x := y &&& (127 : Int32)) (by omega)
  refine ⟨fun h => ?_, by omega⟩
  have := (own_bit7 y).mp h
  omega
theorem own_end {x : Int32} {X : Nat} (hx : x.toInt = X) (hX : X < 128) : (nar .byte (x.toInt8.toInt32) &&& (128 : Int32)) = (0 : Int32) ∧ own_U ((nar .byte (x.toInt8.toInt32) &&& (127 : Int32)).toInt64) = X % 128 := by
  rw [own_y0 hx hX]
  have m2 := Jvm.Kit.i32_mask x 127 (k := 7) (by decide) (by decide)
  have u := own_U32 (x := x &&& (127 : Int32)) (by omega)
  exact ⟨(own_bit7 x).mpr (by omega), by omega⟩
theorem own_key {X : Nat} {v : Int32} (hX : X < 2147483648) (hv : v.toInt = X) (w : Int64) (hw : own_U w = X) : ¬ w < (0 : Int64) ∧ ¬ (2147483647 : Int64) < w ∧ w.toInt32 = v := by
  have e2 := own_Ui hw hX
  have e0 : (0 : Int64).toInt = 0 := rfl
  have em : (2147483647 : Int64).toInt = 2147483647 := rfl
  refine ⟨by rw [Int64.lt_iff_toInt_lt]; omega, by rw [Int64.lt_iff_toInt_lt]; omega, ?_⟩
  apply Int32.toInt_inj.mp
  rw [Jvm.Kit.i32_of_i64 (by omega) (by omega)]; omega
theorem own_v5 (p4 : Int32) : (¬ ((nar .byte ((((p4 &&& (2147483647 : Int32)) &&& (127 : Int32)) ||| (128 : Int32)).toInt8.toInt32)) &&& (128 : Int32)) = (0 : Int32)) ∧ (¬ ((nar .byte ((((((p4 &&& (2147483647 : Int32)).toUInt32 >>> ((7 : Int32) &&& 31).toUInt32).toInt32) &&& (127 : Int32)) ||| (128 : Int32)).toInt8.toInt32)) &&& (128 : Int32)) = (0 : Int32)) ∧ (¬ ((nar .byte ((((((p4 &&& (2147483647 : Int32)).toUInt32 >>> ((14 : Int32) &&& 31).toUInt32).toInt32) &&& (127 : Int32)) ||| (128 : Int32)).toInt8.toInt32)) &&& (128 : Int32)) = (0 : Int32)) ∧ (¬ ((nar .byte ((((((p4 &&& (2147483647 : Int32)).toUInt32 >>> ((21 : Int32) &&& 31).toUInt32).toInt32) &&& (127 : Int32)) ||| (128 : Int32)).toInt8.toInt32)) &&& (128 : Int32)) = (0 : Int32)) ∧ ((nar .byte ((((p4 &&& (2147483647 : Int32)).toUInt32 >>> ((28 : Int32) &&& 31).toUInt32).toInt32).toInt8.toInt32)) &&& (128 : Int32)) = (0 : Int32) ∧
    ¬ (own_vl5 (nar .byte ((((p4 &&& (2147483647 : Int32)) &&& (127 : Int32)) ||| (128 : Int32)).toInt8.toInt32)) (nar .byte ((((((p4 &&& (2147483647 : Int32)).toUInt32 >>> ((7 : Int32) &&& 31).toUInt32).toInt32) &&& (127 : Int32)) ||| (128 : Int32)).toInt8.toInt32)) (nar .byte ((((((p4 &&& (2147483647 : Int32)).toUInt32 >>> ((14 : Int32) &&& 31).toUInt32).toInt32) &&& (127 : Int32)) ||| (128 : Int32)).toInt8.toInt32)) (nar .byte ((((((p4 &&& (2147483647 : Int32)).toUInt32 >>> ((21 : Int32) &&& 31).toUInt32).toInt32) &&& (127 : Int32)) ||| (128 : Int32)).toInt8.toInt32)) (nar .byte ((((p4 &&& (2147483647 : Int32)).toUInt32 >>> ((28 : Int32) &&& 31).toUInt32).toInt32).toInt8.toInt32))) < (0 : Int64) ∧ ¬ (2147483647 : Int64) < (own_vl5 (nar .byte ((((p4 &&& (2147483647 : Int32)) &&& (127 : Int32)) ||| (128 : Int32)).toInt8.toInt32)) (nar .byte ((((((p4 &&& (2147483647 : Int32)).toUInt32 >>> ((7 : Int32) &&& 31).toUInt32).toInt32) &&& (127 : Int32)) ||| (128 : Int32)).toInt8.toInt32)) (nar .byte ((((((p4 &&& (2147483647 : Int32)).toUInt32 >>> ((14 : Int32) &&& 31).toUInt32).toInt32) &&& (127 : Int32)) ||| (128 : Int32)).toInt8.toInt32)) (nar .byte ((((((p4 &&& (2147483647 : Int32)).toUInt32 >>> ((21 : Int32) &&& 31).toUInt32).toInt32) &&& (127 : Int32)) ||| (128 : Int32)).toInt8.toInt32)) (nar .byte ((((p4 &&& (2147483647 : Int32)).toUInt32 >>> ((28 : Int32) &&& 31).toUInt32).toInt32).toInt8.toInt32))) ∧ ((own_vl5 (nar .byte ((((p4 &&& (2147483647 : Int32)) &&& (127 : Int32)) ||| (128 : Int32)).toInt8.toInt32)) (nar .byte ((((((p4 &&& (2147483647 : Int32)).toUInt32 >>> ((7 : Int32) &&& 31).toUInt32).toInt32) &&& (127 : Int32)) ||| (128 : Int32)).toInt8.toInt32)) (nar .byte ((((((p4 &&& (2147483647 : Int32)).toUInt32 >>> ((14 : Int32) &&& 31).toUInt32).toInt32) &&& (127 : Int32)) ||| (128 : Int32)).toInt8.toInt32)) (nar .byte ((((((p4 &&& (2147483647 : Int32)).toUInt32 >>> ((21 : Int32) &&& 31).toUInt32).toInt32) &&& (127 : Int32)) ||| (128 : Int32)).toInt8.toInt32)) (nar .byte ((((p4 &&& (2147483647 : Int32)).toUInt32 >>> ((28 : Int32) &&& 31).toUInt32).toInt32).toInt8.toInt32))).toInt32) = (p4 &&& (2147483647 : Int32)) := by
  have mv := Jvm.Kit.i32_mask p4 2147483647 (k := 31) (by decide) (by decide)
  generalize (p4 &&& (2147483647 : Int32)) = v at mv ⊢
  obtain ⟨X, hX, hv⟩ : ∃ X : Nat, X < 2147483648 ∧ v.toInt = X := ⟨v.toInt.toNat, by omega, by omega⟩
  have h0 : 0 ≤ v := Jvm.Kit.i32_nonneg.mpr (by omega)
  have s7 : ((v.toUInt32 >>> ((7 : Int32) &&& 31).toUInt32).toInt32).toInt = (X / 2 ^ 7 : Nat) := by rw [Jvm.Kit.i32_iushr h0 (k := 7) (by decide) (by decide)]; omega
  have s14 : ((v.toUInt32 >>> ((14 : Int32) &&& 31).toUInt32).toInt32).toInt = (X / 2 ^ 14 : Nat) := by rw [Jvm.Kit.i32_iushr h0 (k := 14) (by decide) (by decide)]; omega
  have s21 : ((v.toUInt32 >>> ((21 : Int32) &&& 31).toUInt32).toInt32).toInt = (X / 2 ^ 21 : Nat) := by rw [Jvm.Kit.i32_iushr h0 (k := 21) (by decide) (by decide)]; omega
  have s28 : ((v.toUInt32 >>> ((28 : Int32) &&& 31).toUInt32).toInt32).toInt = (X / 2 ^ 28 : Nat) := by rw [Jvm.Kit.i32_iushr h0 (k := 28) (by decide) (by decide)]; omega
  obtain ⟨g1, a1⟩ := own_go hv
  obtain ⟨g2, a2⟩ := own_go s7
  obtain ⟨g3, a3⟩ := own_go s14
  obtain ⟨g4, a4⟩ := own_go s21
  obtain ⟨g5, a5⟩ := own_end s28 (by omega)
  refine ⟨g1, g2, g3, g4, g5, ?_⟩
  have z : own_U (0 : Int64) = X % 2 ^ 0 := by rw [Nat.pow_zero, Nat.mod_one]; rfl
  have t1 := own_step7 (0 : Int64) _ (k := 0) (kk := 0) rfl (by decide) z (by rw [Nat.pow_zero, Nat.div_one]; exact a1)
  have t2 := own_step7 _ _ (k := 7) (kk := 7) rfl (by decide) t1 a2
  have t3 := own_step7 _ _ (k := 14) (kk := 14) rfl (by decide) t2 a3
  have t4 := own_step7 _ _ (k := 21) (kk := 21) rfl (by decide) t3 a4
  have t5 := own_step7 _ _ (k := 28) (kk := 28) rfl (by decide) t4 a5
  rw [Nat.mod_eq_of_lt (by omega)] at t5
  exact own_key hX hv _ t5
theorem own_pos {p0 : Int32} (h : ¬ (p0 &&& (31 : Int32)) = (0 : Int32)) : ∃ B : Nat, 1 ≤ B ∧ B < 32 ∧ (p0 &&& (31 : Int32)).toInt = B := by
  obtain ⟨B, h1, h2⟩ := own_nm p0
  refine ⟨B, ?_, h1, h2⟩
  rcases Nat.eq_zero_or_pos B with e | e
  · exact absurd (Int32.toInt_inj.mp (by rw [h2, e]; rfl)) h
  · exact e
theorem own_c0 {p0 : Int32} (h : ¬ (p0 &&& (31 : Int32)) = (0 : Int32)) : ¬ ((128 : Int32) / (p0 &&& (31 : Int32))) = (0 : Int32) := fun q => by
  obtain ⟨B, h1, h2, h3⟩ := own_pos h
  have e := own_cnt128 h3 h1 h2
  have r := own_room h1 h2
  rw [q] at e
  have z : (0 : Int32).toInt = 0 := rfl
  have z2 : 128 / B = 0 := by omega
  rw [z2] at r; omega
theorem own_n {p0 : Int32} (h : ¬ (p0 &&& (31 : Int32)) = (0 : Int32)) : ¬ ((own_min_f (2147483647 : Int64) ((((((128 : Int32) / (p0 &&& (31 : Int32))).toInt64) * ((p0 &&& (31 : Int32)).toInt64)) + (7 : Int64)) / (8 : Int64))).toInt32) < (0 : Int32) ∧ ¬ (16 : Int32) < ((own_min_f (2147483647 : Int64) ((((((128 : Int32) / (p0 &&& (31 : Int32))).toInt64) * ((p0 &&& (31 : Int32)).toInt64)) + (7 : Int64)) / (8 : Int64))).toInt32) ∧ (0 : Int32) < ((own_min_f (2147483647 : Int64) ((((((128 : Int32) / (p0 &&& (31 : Int32))).toInt64) * ((p0 &&& (31 : Int32)).toInt64)) + (7 : Int64)) / (8 : Int64))).toInt32) := by
  obtain ⟨B, h1, h2, h3⟩ := own_pos h
  have e := own_lenv (own_cnt128 h3 h1 h2) h3 (own_room h1 h2)
  have r := own_room h1 h2
  have z : (0 : Int32).toInt = 0 := rfl
  have z2 : (16 : Int32).toInt = 16 := rfl
  simp only [Int32.lt_iff_toInt_lt]
  omega
theorem own_law1 {p0 p1 : Int32} (lo hi : Int64) (h : ¬ (p0 &&& (31 : Int32)) = (0 : Int32)) : own_get_f (((((((p1 &&& (2147483647 : Int32)) % ((128 : Int32) / (p0 &&& (31 : Int32)))).toInt64) * ((p0 &&& (31 : Int32)).toInt64)).toUInt64 >>> ((3 : Int32) &&& 0x3f).toInt64.toUInt64).toInt64).toInt32) ((((((p1 &&& (2147483647 : Int32)) % ((128 : Int32) / (p0 &&& (31 : Int32)))).toInt64) * ((p0 &&& (31 : Int32)).toInt64)) &&& (7 : Int64)).toInt32) (p0 &&& (31 : Int32)) (own_bt lo hi) = own_ext_f lo hi (((p1 &&& (2147483647 : Int32)) % ((128 : Int32) / (p0 &&& (31 : Int32)))) * (p0 &&& (31 : Int32))) (p0 &&& (31 : Int32)) ∧ ¬ ((40 : Int32) < (((((((p1 &&& (2147483647 : Int32)) % ((128 : Int32) / (p0 &&& (31 : Int32)))).toInt64) * ((p0 &&& (31 : Int32)).toInt64)) &&& (7 : Int64)).toInt32) + (p0 &&& (31 : Int32)))) ∧
    (∀ (t : Nat) (k j : Int32), t < 5 → k.toInt = (8 * t : Nat) → j.toInt = (((((((p1 &&& (2147483647 : Int32)) % ((128 : Int32) / (p0 &&& (31 : Int32)))).toInt64) * ((p0 &&& (31 : Int32)).toInt64)).toUInt64 >>> ((3 : Int32) &&& 0x3f).toInt64.toUInt64).toInt64).toInt32).toInt + t → k < (((((((p1 &&& (2147483647 : Int32)) % ((128 : Int32) / (p0 &&& (31 : Int32)))).toInt64) * ((p0 &&& (31 : Int32)).toInt64)) &&& (7 : Int64)).toInt32) + (p0 &&& (31 : Int32))) → ¬ j < 0 ∧ j < ((own_min_f (2147483647 : Int64) ((((((128 : Int32) / (p0 &&& (31 : Int32))).toInt64) * ((p0 &&& (31 : Int32)).toInt64)) + (7 : Int64)) / (8 : Int64))).toInt32)) ∧ ∃ F : Nat, F < 1000 ∧ (((((((p1 &&& (2147483647 : Int32)) % ((128 : Int32) / (p0 &&& (31 : Int32)))).toInt64) * ((p0 &&& (31 : Int32)).toInt64)).toUInt64 >>> ((3 : Int32) &&& 0x3f).toInt64.toUInt64).toInt64).toInt32).toInt = F := by
  obtain ⟨B, h1, h2, h3⟩ := own_pos h
  have hc := own_cnt128 h3 h1 h2
  have r := own_room h1 h2
  have hK1 : 1 ≤ 128 / B := by
    rcases Nat.eq_zero_or_pos (128 / B) with e | e
    · rw [e] at r; omega
    · exact e
  have hK2 : 128 / B ≤ 128 := Nat.div_le_self _ _
  obtain ⟨I, hI1, hI2⟩ := own_place p1 hc hK1 hK2
  have hIB : I * B + B ≤ 128 / B * B := by
    have q := Nat.mul_le_mul_right B (show I + 1 ≤ 128 / B from hI1)
    rw [Nat.add_mul, Nat.one_mul] at q; exact q
  have hf := own_from hI2 h3 (by omega)
  have hs := own_shift hI2 h3 (by omega)
  have hn := own_lenv hc h3 r
  have hsb : (((((((p1 &&& (2147483647 : Int32)) % ((128 : Int32) / (p0 &&& (31 : Int32)))).toInt64) * ((p0 &&& (31 : Int32)).toInt64)) &&& (7 : Int64)).toInt32) + (p0 &&& (31 : Int32))).toInt = (I * B % 8 + B : Nat) := by rw [Jvm.Kit.i32_add (by omega) (by omega)]; omega
  refine ⟨own_big lo hi hI2 h3 h1 h2 (by omega), ?_, ?_, ⟨_, by omega, hf⟩⟩
  · have z : (40 : Int32).toInt = 40 := rfl
    rw [Int32.lt_iff_toInt_lt]; omega
  · intro t k j ht hk hj hlt
    rw [Int32.lt_iff_toInt_lt, hk, hsb] at hlt
    have z : (0 : Int32).toInt = 0 := rfl
    rw [Int32.lt_iff_toInt_lt, Int32.lt_iff_toInt_lt, hn, hj, hf]
    omega
theorem own_j1 {f : Int32} {t : Nat} {j : Int32} (hF : ∃ F : Nat, F < 1000 ∧ f.toInt = F) (ht : t < 10) (hj : j.toInt = f.toInt + t) : (j + (1 : Int32)).toInt = f.toInt + (t + 1 : Nat) := by
  obtain ⟨F, h1, h2⟩ := hF
  have e : (1 : Int32).toInt = 1 := rfl
  rw [Jvm.Kit.i32_add (by omega) (by omega)]; omega
theorem own_hbt (lo hi : Int64) (n : Nat) : ([(.int (own_by0 lo)), (.int (own_by1 lo)), (.int (own_by2 lo)), (.int (own_by3 lo)), (.int (own_by4 lo)), (.int (own_by5 lo)), (.int (own_by6 lo)), (.int (own_by7 lo)), (.int (own_by0 hi)), (.int (own_by1 hi)), (.int (own_by2 hi)), (.int (own_by3 hi)), (.int (own_by4 hi)), (.int (own_by5 hi)), (.int (own_by6 hi)), (.int (own_by7 hi))] : List Value).getD n (.int (0 : Int32)) = .int ((own_bl lo hi).getD n 0) :=
  match n with
  | 0 => rfl
  | 1 => rfl
  | 2 => rfl
  | 3 => rfl
  | 4 => rfl
  | 5 => rfl
  | 6 => rfl
  | 7 => rfl
  | 8 => rfl
  | 9 => rfl
  | 10 => rfl
  | 11 => rfl
  | 12 => rfl
  | 13 => rfl
  | 14 => rfl
  | 15 => rfl
  | _ + 16 => rfl
theorem own_ef_own_law (m : MethodId) (p0 : Int32) (p1 : Int32) (q2 : Int64) (q3 : Int64) (p4 : Int32) : entryFrame m #[(.int p0), (.int p1), (.long q2), (.long q3), (.int p4)] maxLocals = mkF m 0 #[.val (.int p0), .val (.int p1), .val (.long q2), .second, .val (.long q3), .second, .val (.int p4), .unset, .unset, .unset, .unset, .unset, .unset, .unset] [] := by first | (simp [entryFrame, mkF, argsToLocals, Value.category, maxLocals]; done) | rfl
theorem own_pd7 : parseMethodDescriptor "([BIILjava/lang/String;)V" = some ⟨[(.array .byte), .int, .int, (.object "java/lang/String")], none⟩ := by decide +kernel
theorem own_pd8 : parseMethodDescriptor "()V" = some ⟨[], none⟩ := by decide +kernel
theorem own_pd9 : parseMethodDescriptor "(ILfieldstone/ByteReader$PackedInts;)V" = some ⟨[.int, (.object "fieldstone/ByteReader$PackedInts")], none⟩ := by decide +kernel
theorem own_pd10 : parseMethodDescriptor "([BIJ)V" = some ⟨[(.array .byte), .int, .long], none⟩ := by decide +kernel
theorem own_pd11 : parseMethodDescriptor "(JJII)I" = some ⟨[.long, .long, .int, .int], some .int⟩ := by decide +kernel
def Qown_law (Z : State) (p0 : Int32) (p1 : Int32) (q2 : Int64) (q3 : Int64) (p4 : Int32) (h0 : Heap) (n0 : Nat) (v : Option Value) (h : Heap) (L : List Loc) : Prop := v = some (.int (1 : Int32)) ∧ Fr n0 L
set_option maxRecDepth 65536 in
set_option maxHeartbeats 40000000 in
theorem own_law (l : Launch) (Z : State) (a0 : Array Value) (hw : ∀ d ∈ tables_1, d.before a0 Z = true) (ws : List Jvm.Cond) (p0 : Int32) (p1 : Int32) (q2 : Int64) (q3 : Int64) (p4 : Int32) (h0 : Heap) (n0 : Nat) (Z0 : n0 ≤ h0.size) :
    MetFree l x (head1 (Jvm.Cond.code x code maxLocals ret :: ws) room_1) (fun a U => a = #[(.int p0), (.int p1), (.long q2), (.long q3), (.int p4)] ∧ Z.Warmed39 U.vm ∧ U.heap = h0) (fun _ _ _ _ _ => True) (fun _ U o U' => ∃ v L, o = .returned v ∧ Qown_law Z p0 p1 q2 q3 p4 h0 n0 v U'.heap L ∧ ReturnedEndW U o U' L room_1.cells room_1.slots) := by
  refine MetFree.of_bodySF (plainFor_of_name own_pn2) hisR ?_
  intro p e s m args below meth c s₁ Bd hml0 hP hK
  obtain ⟨rfl, hZ, hh⟩ := hP
  have hx := Bd.exec
  have hby := Bd.bytes
  have hml : c.maxLocals = 14 := hml0
  have hown : s.vm.findClass "fieldstone/PackedIntsGetPinLaw" = some m.cls := findClass_of_methodNamed Bd.named
  have hnm := (name_of_methodNamed Bd.named Bd.method).1
  have X0 : Stand p l e room_1 s m #[(.int p0), (.int p1), (.long q2), (.long q3), (.int p4)] below meth c s₁ [] 0 0 := Stand.of_body Bd
  have e0 : s₁.heap = h0 := by rw [← hh, Bd.state]; rfl
  have N0 := Fr.nil n0
  have pre0 : ∀ t, Steps p.tables e below (s₁.setTop (mkF m 0 #[.val (.int p0), .val (.int p1), .val (.long q2), .second, .val (.long q3), .second, .val (.int p4), .unset, .unset, .unset, .unset, .unset, .unset, .unset] [])) t → Steps p.tables e below (s₁.setTop (entryFrame m #[(.int p0), (.int p1), (.long q2), (.long q3), (.int p4)] maxLocals)) t := fun t k => castTop (own_ef_own_law m p0 p1 q2 q3 p4) k
  obtain ⟨T7, h7, k7, X7, e7, E7, A7, Y7, st7⟩ := newPE X0 hx hZ (hw _ (List.mem_of_getElem? (i := 0) rfl)) e0 (g := (mkF m 8 #[.val (.int p0), .val (.int p1), .val (.long q2), .second, .val (.long q3), .second, .val (.int p4), .val (.int (p0 &&& (31 : Int32))), .unset, .unset, .unset, .unset, .unset, .unset] [(.int (17 : Int32))])) rfl (hb hby at_8) rfl (by decide) (cap := 17) (by decide) (by decide) (by decide) (by decide) (ad := "[B") (by first | rfl | decide)
  obtain ⟨b7, g7⟩ : ∃ z, z = h0.size := ⟨_, rfl⟩
  rw [← g7] at A7 Y7 st7
  have Ge8 : n0 ≤ b7 := Nat.le_trans Z0 (Nat.le_of_eq g7.symm)
  have Sz9 : h0.size ≤ b7 := Nat.le_trans (Keep.refl h0 []).1 (Nat.le_of_eq g7.symm)
  have Kc10 : Keep h0 h7 [] := (Keep.refl h0 []).ext E7
  have Zs11 : n0 ≤ h7.size := (Nat.le_trans Z0 E7.1)
  have V7 : Arv Z h7 b7 k7 .byte (17 : Int32) [(.int (0 : Int32)), (.int (0 : Int32)), (.int (0 : Int32)), (.int (0 : Int32)), (.int (0 : Int32)), (.int (0 : Int32)), (.int (0 : Int32)), (.int (0 : Int32)), (.int (0 : Int32)), (.int (0 : Int32)), (.int (0 : Int32)), (.int (0 : Int32)), (.int (0 : Int32)), (.int (0 : Int32)), (.int (0 : Int32)), (.int (0 : Int32)), (.int (0 : Int32))] (.int (0 : Int32)) := (Arv.new A7 (by decide)).pad (pad_rep [] (.int (0 : Int32)) 17)
  obtain ⟨cl18, Ar18, q18, S18, M18, H18, G18⟩ := id V7
  have hin18 : ¬ ((0 : Int32) < 0 ∨ cl18.slots.size ≤ ((0 : Int32)).toNatClampNeg) := inb_of S18 ⟨by decide, by decide⟩
  obtain ⟨T19, h19, X19, e19, W19, st19⟩ := stB X7 hx hZ e7 Ar18 (j := (0 : Int32)) hin18 (g := (mkF m 18 #[.val (.int p0), .val (.int p1), .val (.long q2), .second, .val (.long q3), .second, .val (.int p4), .val (.int (p0 &&& (31 : Int32))), .val (.ref b7), .unset, .unset, .unset, .unset, .unset] [(.int ((p0 &&& (31 : Int32)).toInt8.toInt32)), (.int (0 : Int32)), (.ref b7)])) rfl rfl (hb hby at_18)
  have Kc21 : Keep h0 h19 [] := Kc10.wr W19 (Or.inr Sz9)
  have Zs22 : n0 ≤ h19.size := Nat.le_trans Zs11 (Keep.of_wr W19).1
  have N23 := Fr.snoc X19 N0 Ge8
  have Vm20 : Arv Z h19 b7 k7 .byte (17 : Int32) [(.int (nar .byte ((p0 &&& (31 : Int32)).toInt8.toInt32))), (.int (0 : Int32)), (.int (0 : Int32)), (.int (0 : Int32)), (.int (0 : Int32)), (.int (0 : Int32)), (.int (0 : Int32)), (.int (0 : Int32)), (.int (0 : Int32)), (.int (0 : Int32)), (.int (0 : Int32)), (.int (0 : Int32)), (.int (0 : Int32)), (.int (0 : Int32)), (.int (0 : Int32)), (.int (0 : Int32)), (.int (0 : Int32))] (.int (0 : Int32)) := Arv.set Ar18 q18 S18 M18 H18 G18 (fits_nar_byte _) W19 0 rfl (Nat.le_of_ble_eq_true rfl)
  have pre26 : ∀ t, Steps p.tables e below (T19.setTop (mkF m 21 #[.val (.int p0), .val (.int p1), .val (.long q2), .second, .val (.long q3), .second, .val (.int p4), .val (.int (p0 &&& (31 : Int32))), .val (.ref b7), .unset, .unset, .unset, .unset, .unset] [(.int (p0 &&& (31 : Int32)))])) t → Steps p.tables e below (s₁.setTop (entryFrame m #[(.int p0), (.int p1), (.long q2), (.long q3), (.int p4)] maxLocals)) t := by
    intro t kt
    refine pre0 _ ?_
    show Steps p.tables e below (s₁.setTop (mkF m 0 #[.val (.int p0), .val (.int p1), .val (.long q2), .second, .val (.long q3), .second, .val (.int p4), .unset, .unset, .unset, .unset, .unset, .unset, .unset] [])) _
    refine XS.iloadN X0.here hx rfl (hb hby at_0) rfl ?_
    show Steps p.tables e below (s₁.setTop (mkF m 1 #[.val (.int p0), .val (.int p1), .val (.long q2), .second, .val (.long q3), .second, .val (.int p4), .unset, .unset, .unset, .unset, .unset, .unset, .unset] [(.int p0)])) _
    refine XS.bipush X0.here hx rfl (hb hby at_1) ?_
    show Steps p.tables e below (s₁.setTop (mkF m 3 #[.val (.int p0), .val (.int p1), .val (.long q2), .second, .val (.long q3), .second, .val (.int p4), .unset, .unset, .unset, .unset, .unset, .unset, .unset] [(.int (31 : Int32)), (.int p0)])) _
    refine XS.iand X0.here hx rfl (hb hby at_3) rfl ?_
    show Steps p.tables e below (s₁.setTop (mkF m 4 #[.val (.int p0), .val (.int p1), .val (.long q2), .second, .val (.long q3), .second, .val (.int p4), .unset, .unset, .unset, .unset, .unset, .unset, .unset] [(.int (p0 &&& (31 : Int32)))])) _
    refine XS.istore X0.here hx rfl (hb hby at_4) rfl (l' := #[.val (.int p0), .val (.int p1), .val (.long q2), .second, .val (.long q3), .second, .val (.int p4), .val (.int (p0 &&& (31 : Int32))), .unset, .unset, .unset, .unset, .unset, .unset]) rfl ?_
    show Steps p.tables e below (s₁.setTop (mkF m 6 #[.val (.int p0), .val (.int p1), .val (.long q2), .second, .val (.long q3), .second, .val (.int p4), .val (.int (p0 &&& (31 : Int32))), .unset, .unset, .unset, .unset, .unset, .unset] [])) _
    refine XS.bipush X0.here hx rfl (hb hby at_6) ?_
    show Steps p.tables e below (s₁.setTop (mkF m 8 #[.val (.int p0), .val (.int p1), .val (.long q2), .second, .val (.long q3), .second, .val (.int p4), .val (.int (p0 &&& (31 : Int32))), .unset, .unset, .unset, .unset, .unset, .unset] [(.int (17 : Int32))])) _
    refine st7 _ ?_
    show Steps p.tables e below (T7.setTop (mkF m 10 #[.val (.int p0), .val (.int p1), .val (.long q2), .second, .val (.long q3), .second, .val (.int p4), .val (.int (p0 &&& (31 : Int32))), .unset, .unset, .unset, .unset, .unset, .unset] [(.ref b7)])) _
    refine XS.astore X7.here hx rfl (hb hby at_10) rfl rfl (l' := #[.val (.int p0), .val (.int p1), .val (.long q2), .second, .val (.long q3), .second, .val (.int p4), .val (.int (p0 &&& (31 : Int32))), .val (.ref b7), .unset, .unset, .unset, .unset, .unset]) rfl ?_
    show Steps p.tables e below (T7.setTop (mkF m 12 #[.val (.int p0), .val (.int p1), .val (.long q2), .second, .val (.long q3), .second, .val (.int p4), .val (.int (p0 &&& (31 : Int32))), .val (.ref b7), .unset, .unset, .unset, .unset, .unset] [])) _
    refine XS.aload X7.here hx rfl (hb hby at_12) rfl rfl ?_
    show Steps p.tables e below (T7.setTop (mkF m 14 #[.val (.int p0), .val (.int p1), .val (.long q2), .second, .val (.long q3), .second, .val (.int p4), .val (.int (p0 &&& (31 : Int32))), .val (.ref b7), .unset, .unset, .unset, .unset, .unset] [(.ref b7)])) _
    refine XS.iconst X7.here hx rfl (hb hby at_14) ?_
    show Steps p.tables e below (T7.setTop (mkF m 15 #[.val (.int p0), .val (.int p1), .val (.long q2), .second, .val (.long q3), .second, .val (.int p4), .val (.int (p0 &&& (31 : Int32))), .val (.ref b7), .unset, .unset, .unset, .unset, .unset] [(.int (0 : Int32)), (.ref b7)])) _
    refine XS.iload X7.here hx rfl (hb hby at_15) rfl ?_
    show Steps p.tables e below (T7.setTop (mkF m 17 #[.val (.int p0), .val (.int p1), .val (.long q2), .second, .val (.long q3), .second, .val (.int p4), .val (.int (p0 &&& (31 : Int32))), .val (.ref b7), .unset, .unset, .unset, .unset, .unset] [(.int (p0 &&& (31 : Int32))), (.int (0 : Int32)), (.ref b7)])) _
    refine XS.i2b X7.here hx rfl (hb hby at_17) rfl ?_
    show Steps p.tables e below (T7.setTop (mkF m 18 #[.val (.int p0), .val (.int p1), .val (.long q2), .second, .val (.long q3), .second, .val (.int p4), .val (.int (p0 &&& (31 : Int32))), .val (.ref b7), .unset, .unset, .unset, .unset, .unset] [(.int ((p0 &&& (31 : Int32)).toInt8.toInt32)), (.int (0 : Int32)), (.ref b7)])) _
    refine st19 _ ?_
    show Steps p.tables e below (T19.setTop (mkF m 19 #[.val (.int p0), .val (.int p1), .val (.long q2), .second, .val (.long q3), .second, .val (.int p4), .val (.int (p0 &&& (31 : Int32))), .val (.ref b7), .unset, .unset, .unset, .unset, .unset] [])) _
    refine XS.iload X19.here hx rfl (hb hby at_19) rfl ?_
    exact kt
  by_cases hc21_27 : (p0 &&& (31 : Int32)) = (0 : Int32)
  · obtain ⟨cl41, Ar41, q41, S41, M41, H41, G41⟩ := id Vm20
    have hin41 : ¬ ((1 : Int32) < 0 ∨ cl41.slots.size ≤ ((1 : Int32)).toNatClampNeg) := inb_of S41 ⟨by decide, by decide⟩
    obtain ⟨T42, h42, X42, e42, W42, st42⟩ := stB X19 hx hZ e19 Ar41 (j := (1 : Int32)) hin41 (g := (mkF m 44 #[.val (.int p0), .val (.int p1), .val (.long q2), .second, .val (.long q3), .second, .val (.int p4), .val (.int (p0 &&& (31 : Int32))), .val (.ref b7), .unset, .unset, .unset, .val (.int (p4 &&& (2147483647 : Int32))), .unset] [(.int ((((p4 &&& (2147483647 : Int32)) &&& (127 : Int32)) ||| (128 : Int32)).toInt8.toInt32)), (.int (1 : Int32)), (.ref b7)])) rfl rfl (hb hby at_44)
    have Kc44 : Keep h0 h42 [] := Kc21.wr W42 (Or.inr Sz9)
    have Zs45 : n0 ≤ h42.size := Nat.le_trans Zs22 (Keep.of_wr W42).1
    have N46 := Fr.snoc X42 N23 Ge8
    have Vm43 : Arv Z h42 b7 k7 .byte (17 : Int32) [(.int (nar .byte ((p0 &&& (31 : Int32)).toInt8.toInt32))), (.int (nar .byte ((((p4 &&& (2147483647 : Int32)) &&& (127 : Int32)) ||| (128 : Int32)).toInt8.toInt32))), (.int (0 : Int32)), (.int (0 : Int32)), (.int (0 : Int32)), (.int (0 : Int32)), (.int (0 : Int32)), (.int (0 : Int32)), (.int (0 : Int32)), (.int (0 : Int32)), (.int (0 : Int32)), (.int (0 : Int32)), (.int (0 : Int32)), (.int (0 : Int32)), (.int (0 : Int32)), (.int (0 : Int32)), (.int (0 : Int32))] (.int (0 : Int32)) := Arv.set Ar41 q41 S41 M41 H41 G41 (fits_nar_byte _) W42 1 rfl (Nat.le_of_ble_eq_true rfl)
    obtain ⟨cl58, Ar58, q58, S58, M58, H58, G58⟩ := id Vm43
    have hin58 : ¬ ((2 : Int32) < 0 ∨ cl58.slots.size ≤ ((2 : Int32)).toNatClampNeg) := inb_of S58 ⟨by decide, by decide⟩
    obtain ⟨T59, h59, X59, e59, W59, st59⟩ := stB X42 hx hZ e42 Ar58 (j := (2 : Int32)) hin58 (g := (mkF m 61 #[.val (.int p0), .val (.int p1), .val (.long q2), .second, .val (.long q3), .second, .val (.int p4), .val (.int (p0 &&& (31 : Int32))), .val (.ref b7), .unset, .unset, .unset, .val (.int (p4 &&& (2147483647 : Int32))), .unset] [(.int ((((((p4 &&& (2147483647 : Int32)).toUInt32 >>> ((7 : Int32) &&& 31).toUInt32).toInt32) &&& (127 : Int32)) ||| (128 : Int32)).toInt8.toInt32)), (.int (2 : Int32)), (.ref b7)])) rfl rfl (hb hby at_61)
    have Kc61 : Keep h0 h59 [] := Kc44.wr W59 (Or.inr Sz9)
    have Zs62 : n0 ≤ h59.size := Nat.le_trans Zs45 (Keep.of_wr W59).1
    have N63 := Fr.snoc X59 N46 Ge8
    have Vm60 : Arv Z h59 b7 k7 .byte (17 : Int32) [(.int (nar .byte ((p0 &&& (31 : Int32)).toInt8.toInt32))), (.int (nar .byte ((((p4 &&& (2147483647 : Int32)) &&& (127 : Int32)) ||| (128 : Int32)).toInt8.toInt32))), (.int (nar .byte ((((((p4 &&& (2147483647 : Int32)).toUInt32 >>> ((7 : Int32) &&& 31).toUInt32).toInt32) &&& (127 : Int32)) ||| (128 : Int32)).toInt8.toInt32))), (.int (0 : Int32)), (.int (0 : Int32)), (.int (0 : Int32)), (.int (0 : Int32)), (.int (0 : Int32)), (.int (0 : Int32)), (.int (0 : Int32)), (.int (0 : Int32)), (.int (0 : Int32)), (.int (0 : Int32)), (.int (0 : Int32)), (.int (0 : Int32)), (.int (0 : Int32)), (.int (0 : Int32))] (.int (0 : Int32)) := Arv.set Ar58 q58 S58 M58 H58 G58 (fits_nar_byte _) W59 2 rfl (Nat.le_of_ble_eq_true rfl)
    obtain ⟨cl75, Ar75, q75, S75, M75, H75, G75⟩ := id Vm60
    have hin75 : ¬ ((3 : Int32) < 0 ∨ cl75.slots.size ≤ ((3 : Int32)).toNatClampNeg) := inb_of S75 ⟨by decide, by decide⟩
    obtain ⟨T76, h76, X76, e76, W76, st76⟩ := stB X59 hx hZ e59 Ar75 (j := (3 : Int32)) hin75 (g := (mkF m 78 #[.val (.int p0), .val (.int p1), .val (.long q2), .second, .val (.long q3), .second, .val (.int p4), .val (.int (p0 &&& (31 : Int32))), .val (.ref b7), .unset, .unset, .unset, .val (.int (p4 &&& (2147483647 : Int32))), .unset] [(.int ((((((p4 &&& (2147483647 : Int32)).toUInt32 >>> ((14 : Int32) &&& 31).toUInt32).toInt32) &&& (127 : Int32)) ||| (128 : Int32)).toInt8.toInt32)), (.int (3 : Int32)), (.ref b7)])) rfl rfl (hb hby at_78)
    have Kc78 : Keep h0 h76 [] := Kc61.wr W76 (Or.inr Sz9)
    have Zs79 : n0 ≤ h76.size := Nat.le_trans Zs62 (Keep.of_wr W76).1
    have N80 := Fr.snoc X76 N63 Ge8
    have Vm77 : Arv Z h76 b7 k7 .byte (17 : Int32) [(.int (nar .byte ((p0 &&& (31 : Int32)).toInt8.toInt32))), (.int (nar .byte ((((p4 &&& (2147483647 : Int32)) &&& (127 : Int32)) ||| (128 : Int32)).toInt8.toInt32))), (.int (nar .byte ((((((p4 &&& (2147483647 : Int32)).toUInt32 >>> ((7 : Int32) &&& 31).toUInt32).toInt32) &&& (127 : Int32)) ||| (128 : Int32)).toInt8.toInt32))), (.int (nar .byte ((((((p4 &&& (2147483647 : Int32)).toUInt32 >>> ((14 : Int32) &&& 31).toUInt32).toInt32) &&& (127 : Int32)) ||| (128 : Int32)).toInt8.toInt32))), (.int (0 : Int32)), (.int (0 : Int32)), (.int (0 : Int32)), (.int (0 : Int32)), (.int (0 : Int32)), (.int (0 : Int32)), (.int (0 : Int32)), (.int (0 : Int32)), (.int (0 : Int32)), (.int (0 : Int32)), (.int (0 : Int32)), (.int (0 : Int32)), (.int (0 : Int32))] (.int (0 : Int32)) := Arv.set Ar75 q75 S75 M75 H75 G75 (fits_nar_byte _) W76 3 rfl (Nat.le_of_ble_eq_true rfl)
    obtain ⟨cl92, Ar92, q92, S92, M92, H92, G92⟩ := id Vm77
    have hin92 : ¬ ((4 : Int32) < 0 ∨ cl92.slots.size ≤ ((4 : Int32)).toNatClampNeg) := inb_of S92 ⟨by decide, by decide⟩
    obtain ⟨T93, h93, X93, e93, W93, st93⟩ := stB X76 hx hZ e76 Ar92 (j := (4 : Int32)) hin92 (g := (mkF m 95 #[.val (.int p0), .val (.int p1), .val (.long q2), .second, .val (.long q3), .second, .val (.int p4), .val (.int (p0 &&& (31 : Int32))), .val (.ref b7), .unset, .unset, .unset, .val (.int (p4 &&& (2147483647 : Int32))), .unset] [(.int ((((((p4 &&& (2147483647 : Int32)).toUInt32 >>> ((21 : Int32) &&& 31).toUInt32).toInt32) &&& (127 : Int32)) ||| (128 : Int32)).toInt8.toInt32)), (.int (4 : Int32)), (.ref b7)])) rfl rfl (hb hby at_95)
    have Kc95 : Keep h0 h93 [] := Kc78.wr W93 (Or.inr Sz9)
    have Zs96 : n0 ≤ h93.size := Nat.le_trans Zs79 (Keep.of_wr W93).1
    have N97 := Fr.snoc X93 N80 Ge8
    have Vm94 : Arv Z h93 b7 k7 .byte (17 : Int32) [(.int (nar .byte ((p0 &&& (31 : Int32)).toInt8.toInt32))), (.int (nar .byte ((((p4 &&& (2147483647 : Int32)) &&& (127 : Int32)) ||| (128 : Int32)).toInt8.toInt32))), (.int (nar .byte ((((((p4 &&& (2147483647 : Int32)).toUInt32 >>> ((7 : Int32) &&& 31).toUInt32).toInt32) &&& (127 : Int32)) ||| (128 : Int32)).toInt8.toInt32))), (.int (nar .byte ((((((p4 &&& (2147483647 : Int32)).toUInt32 >>> ((14 : Int32) &&& 31).toUInt32).toInt32) &&& (127 : Int32)) ||| (128 : Int32)).toInt8.toInt32))), (.int (nar .byte ((((((p4 &&& (2147483647 : Int32)).toUInt32 >>> ((21 : Int32) &&& 31).toUInt32).toInt32) &&& (127 : Int32)) ||| (128 : Int32)).toInt8.toInt32))), (.int (0 : Int32)), (.int (0 : Int32)), (.int (0 : Int32)), (.int (0 : Int32)), (.int (0 : Int32)), (.int (0 : Int32)), (.int (0 : Int32)), (.int (0 : Int32)), (.int (0 : Int32)), (.int (0 : Int32)), (.int (0 : Int32)), (.int (0 : Int32))] (.int (0 : Int32)) := Arv.set Ar92 q92 S92 M92 H92 G92 (fits_nar_byte _) W93 4 rfl (Nat.le_of_ble_eq_true rfl)
    obtain ⟨cl105, Ar105, q105, S105, M105, H105, G105⟩ := id Vm94
    have hin105 : ¬ ((5 : Int32) < 0 ∨ cl105.slots.size ≤ ((5 : Int32)).toNatClampNeg) := inb_of S105 ⟨by decide, by decide⟩
    obtain ⟨T106, h106, X106, e106, W106, st106⟩ := stB X93 hx hZ e93 Ar105 (j := (5 : Int32)) hin105 (g := (mkF m 105 #[.val (.int p0), .val (.int p1), .val (.long q2), .second, .val (.long q3), .second, .val (.int p4), .val (.int (p0 &&& (31 : Int32))), .val (.ref b7), .unset, .unset, .unset, .val (.int (p4 &&& (2147483647 : Int32))), .unset] [(.int ((((p4 &&& (2147483647 : Int32)).toUInt32 >>> ((28 : Int32) &&& 31).toUInt32).toInt32).toInt8.toInt32)), (.int (5 : Int32)), (.ref b7)])) rfl rfl (hb hby at_105)
    have Kc108 : Keep h0 h106 [] := Kc95.wr W106 (Or.inr Sz9)
    have Zs109 : n0 ≤ h106.size := Nat.le_trans Zs96 (Keep.of_wr W106).1
    have N110 := Fr.snoc X106 N97 Ge8
    have Vm107 : Arv Z h106 b7 k7 .byte (17 : Int32) [(.int (nar .byte ((p0 &&& (31 : Int32)).toInt8.toInt32))), (.int (nar .byte ((((p4 &&& (2147483647 : Int32)) &&& (127 : Int32)) ||| (128 : Int32)).toInt8.toInt32))), (.int (nar .byte ((((((p4 &&& (2147483647 : Int32)).toUInt32 >>> ((7 : Int32) &&& 31).toUInt32).toInt32) &&& (127 : Int32)) ||| (128 : Int32)).toInt8.toInt32))), (.int (nar .byte ((((((p4 &&& (2147483647 : Int32)).toUInt32 >>> ((14 : Int32) &&& 31).toUInt32).toInt32) &&& (127 : Int32)) ||| (128 : Int32)).toInt8.toInt32))), (.int (nar .byte ((((((p4 &&& (2147483647 : Int32)).toUInt32 >>> ((21 : Int32) &&& 31).toUInt32).toInt32) &&& (127 : Int32)) ||| (128 : Int32)).toInt8.toInt32))), (.int (nar .byte ((((p4 &&& (2147483647 : Int32)).toUInt32 >>> ((28 : Int32) &&& 31).toUInt32).toInt32).toInt8.toInt32))), (.int (0 : Int32)), (.int (0 : Int32)), (.int (0 : Int32)), (.int (0 : Int32)), (.int (0 : Int32)), (.int (0 : Int32)), (.int (0 : Int32)), (.int (0 : Int32)), (.int (0 : Int32)), (.int (0 : Int32)), (.int (0 : Int32))] (.int (0 : Int32)) := Arv.set Ar105 q105 S105 M105 H105 G105 (fits_nar_byte _) W106 5 rfl (Nat.le_of_ble_eq_true rfl)
    obtain ⟨T123, h123, X123, e123, E123, A123, D123, -, st123⟩ := newO X106 hx hZ hown (hw _ (List.mem_of_getElem? (i := 2) rfl)) (hw _ (List.mem_of_getElem? (i := 3) rfl)) (hw _ (List.mem_of_getElem? (i := 4) rfl)) e106 (g := (mkF m 174 #[.val (.int p0), .val (.int p1), .val (.long q2), .second, .val (.long q3), .second, .val (.int p4), .val (.int (p0 &&& (31 : Int32))), .val (.ref b7), .val (.int (2147483647 : Int32)), .val (.int ((p1 &&& (2147483647 : Int32)) % (2147483647 : Int32))), .val (.int (p4 &&& (2147483647 : Int32))), .val (.int (p4 &&& (2147483647 : Int32))), .unset] [])) rfl (hb hby at_174) (by decide) (by decide)
    obtain ⟨b123, g123⟩ : ∃ z, z = h106.size := ⟨_, rfl⟩
    rw [← g123] at A123 D123 st123
    have Fq125 : Exa Z h106 b7 "[B" := ((((((Y7.wr W19).wr W42).wr W59).wr W76).wr W93).wr W106)
    have Ne124 : b7 ≠ b123 := Nat.ne_of_lt (Nat.lt_of_lt_of_le Fq125.lt (Nat.le_of_eq g123.symm))
    have Ge126 : n0 ≤ b123 := Nat.le_trans Zs109 (Nat.le_of_eq g123.symm)
    have Sz127 : h0.size ≤ b123 := Nat.le_trans Kc108.1 (Nat.le_of_eq g123.symm)
    have Kc128 : Keep h0 h123 [] := Kc108.ext E123
    have Zs129 : n0 ≤ h123.size := (Nat.le_trans Zs109 E123.1)
    have F123_bytes : Fld Z h123 b123 "fieldstone/ByteReader" "bytes" "[B" .null := D123 (Or.inl (hw _ (List.mem_of_getElem? (i := 24) rfl))) (ty := (.array .byte)) (by decide)
    have F123_pos : Fld Z h123 b123 "fieldstone/ByteReader" "pos" "I" (.int (0 : Int32)) := D123 (Or.inl (hw _ (List.mem_of_getElem? (i := 26) rfl))) (ty := .int) (by decide)
    have F123_limit : Fld Z h123 b123 "fieldstone/ByteReader" "limit" "I" (.int (0 : Int32)) := D123 (Or.inl (hw _ (List.mem_of_getElem? (i := 28) rfl))) (ty := .int) (by decide)
    have F123_file : Fld Z h123 b123 "fieldstone/ByteReader" "file" "Ljava/lang/String;" .null := D123 (Or.inl (hw _ (List.mem_of_getElem? (i := 30) rfl))) (ty := (.object "java/lang/String")) (by decide)
    have pre135 : ∀ t, Steps p.tables e below (T123.setTop (mkF m 183 #[.val (.int p0), .val (.int p1), .val (.long q2), .second, .val (.long q3), .second, .val (.int p4), .val (.int (p0 &&& (31 : Int32))), .val (.ref b7), .val (.int (2147483647 : Int32)), .val (.int ((p1 &&& (2147483647 : Int32)) % (2147483647 : Int32))), .val (.int (p4 &&& (2147483647 : Int32))), .val (.int (p4 &&& (2147483647 : Int32))), .unset] [(.int (17 : Int32)), (.int (0 : Int32)), (.ref b7), (.ref b123), (.ref b123)])) t → Steps p.tables e below (s₁.setTop (entryFrame m #[(.int p0), (.int p1), (.long q2), (.long q3), (.int p4)] maxLocals)) t := by
      intro t kt
      refine pre26 _ ?_
      show Steps p.tables e below (T19.setTop (mkF m 21 #[.val (.int p0), .val (.int p1), .val (.long q2), .second, .val (.long q3), .second, .val (.int p4), .val (.int (p0 &&& (31 : Int32))), .val (.ref b7), .unset, .unset, .unset, .unset, .unset] [(.int (p0 &&& (31 : Int32)))])) _
      refine XS.ifNo X19.here hx rfl (hb hby at_21) rfl ((if0 _ _).trans (teq hc21_27).2) ?_
      show Steps p.tables e below (T19.setTop (mkF m 24 #[.val (.int p0), .val (.int p1), .val (.long q2), .second, .val (.long q3), .second, .val (.int p4), .val (.int (p0 &&& (31 : Int32))), .val (.ref b7), .unset, .unset, .unset, .unset, .unset] [])) _
      refine XS.iload X19.here hx rfl (hb hby at_24) rfl ?_
      show Steps p.tables e below (T19.setTop (mkF m 26 #[.val (.int p0), .val (.int p1), .val (.long q2), .second, .val (.long q3), .second, .val (.int p4), .val (.int (p0 &&& (31 : Int32))), .val (.ref b7), .unset, .unset, .unset, .unset, .unset] [(.int p4)])) _
      refine X19.ldcInt hx hown (mvT hZ (hw _ (List.mem_of_getElem? (i := 1) rfl))) (g := (mkF m 26 #[.val (.int p0), .val (.int p1), .val (.long q2), .second, .val (.long q3), .second, .val (.int p4), .val (.int (p0 &&& (31 : Int32))), .val (.ref b7), .unset, .unset, .unset, .unset, .unset] [(.int p4)])) rfl (hb hby at_26) _ ?_
      show Steps p.tables e below (T19.setTop (mkF m 28 #[.val (.int p0), .val (.int p1), .val (.long q2), .second, .val (.long q3), .second, .val (.int p4), .val (.int (p0 &&& (31 : Int32))), .val (.ref b7), .unset, .unset, .unset, .unset, .unset] [(.int (2147483647 : Int32)), (.int p4)])) _
      refine XS.iand X19.here hx rfl (hb hby at_28) rfl ?_
      show Steps p.tables e below (T19.setTop (mkF m 29 #[.val (.int p0), .val (.int p1), .val (.long q2), .second, .val (.long q3), .second, .val (.int p4), .val (.int (p0 &&& (31 : Int32))), .val (.ref b7), .unset, .unset, .unset, .unset, .unset] [(.int (p4 &&& (2147483647 : Int32)))])) _
      refine XS.istore X19.here hx rfl (hb hby at_29) rfl (l' := #[.val (.int p0), .val (.int p1), .val (.long q2), .second, .val (.long q3), .second, .val (.int p4), .val (.int (p0 &&& (31 : Int32))), .val (.ref b7), .unset, .unset, .unset, .val (.int (p4 &&& (2147483647 : Int32))), .unset]) rfl ?_
      show Steps p.tables e below (T19.setTop (mkF m 31 #[.val (.int p0), .val (.int p1), .val (.long q2), .second, .val (.long q3), .second, .val (.int p4), .val (.int (p0 &&& (31 : Int32))), .val (.ref b7), .unset, .unset, .unset, .val (.int (p4 &&& (2147483647 : Int32))), .unset] [])) _
      refine XS.aload X19.here hx rfl (hb hby at_31) rfl rfl ?_
      show Steps p.tables e below (T19.setTop (mkF m 33 #[.val (.int p0), .val (.int p1), .val (.long q2), .second, .val (.long q3), .second, .val (.int p4), .val (.int (p0 &&& (31 : Int32))), .val (.ref b7), .unset, .unset, .unset, .val (.int (p4 &&& (2147483647 : Int32))), .unset] [(.ref b7)])) _
      refine XS.iconst X19.here hx rfl (hb hby at_33) ?_
      show Steps p.tables e below (T19.setTop (mkF m 34 #[.val (.int p0), .val (.int p1), .val (.long q2), .second, .val (.long q3), .second, .val (.int p4), .val (.int (p0 &&& (31 : Int32))), .val (.ref b7), .unset, .unset, .unset, .val (.int (p4 &&& (2147483647 : Int32))), .unset] [(.int (1 : Int32)), (.ref b7)])) _
      refine XS.iload X19.here hx rfl (hb hby at_34) rfl ?_
      show Steps p.tables e below (T19.setTop (mkF m 36 #[.val (.int p0), .val (.int p1), .val (.long q2), .second, .val (.long q3), .second, .val (.int p4), .val (.int (p0 &&& (31 : Int32))), .val (.ref b7), .unset, .unset, .unset, .val (.int (p4 &&& (2147483647 : Int32))), .unset] [(.int (p4 &&& (2147483647 : Int32))), (.int (1 : Int32)), (.ref b7)])) _
      refine XS.bipush X19.here hx rfl (hb hby at_36) ?_
      show Steps p.tables e below (T19.setTop (mkF m 38 #[.val (.int p0), .val (.int p1), .val (.long q2), .second, .val (.long q3), .second, .val (.int p4), .val (.int (p0 &&& (31 : Int32))), .val (.ref b7), .unset, .unset, .unset, .val (.int (p4 &&& (2147483647 : Int32))), .unset] [(.int (127 : Int32)), (.int (p4 &&& (2147483647 : Int32))), (.int (1 : Int32)), (.ref b7)])) _
      refine XS.iand X19.here hx rfl (hb hby at_38) rfl ?_
      show Steps p.tables e below (T19.setTop (mkF m 39 #[.val (.int p0), .val (.int p1), .val (.long q2), .second, .val (.long q3), .second, .val (.int p4), .val (.int (p0 &&& (31 : Int32))), .val (.ref b7), .unset, .unset, .unset, .val (.int (p4 &&& (2147483647 : Int32))), .unset] [(.int ((p4 &&& (2147483647 : Int32)) &&& (127 : Int32))), (.int (1 : Int32)), (.ref b7)])) _
      refine XS.sipush X19.here hx rfl (hb hby at_39) ?_
      show Steps p.tables e below (T19.setTop (mkF m 42 #[.val (.int p0), .val (.int p1), .val (.long q2), .second, .val (.long q3), .second, .val (.int p4), .val (.int (p0 &&& (31 : Int32))), .val (.ref b7), .unset, .unset, .unset, .val (.int (p4 &&& (2147483647 : Int32))), .unset] [(.int (128 : Int32)), (.int ((p4 &&& (2147483647 : Int32)) &&& (127 : Int32))), (.int (1 : Int32)), (.ref b7)])) _
      refine XS.ior X19.here hx rfl (hb hby at_42) rfl ?_
      show Steps p.tables e below (T19.setTop (mkF m 43 #[.val (.int p0), .val (.int p1), .val (.long q2), .second, .val (.long q3), .second, .val (.int p4), .val (.int (p0 &&& (31 : Int32))), .val (.ref b7), .unset, .unset, .unset, .val (.int (p4 &&& (2147483647 : Int32))), .unset] [(.int (((p4 &&& (2147483647 : Int32)) &&& (127 : Int32)) ||| (128 : Int32))), (.int (1 : Int32)), (.ref b7)])) _
      refine XS.i2b X19.here hx rfl (hb hby at_43) rfl ?_
      show Steps p.tables e below (T19.setTop (mkF m 44 #[.val (.int p0), .val (.int p1), .val (.long q2), .second, .val (.long q3), .second, .val (.int p4), .val (.int (p0 &&& (31 : Int32))), .val (.ref b7), .unset, .unset, .unset, .val (.int (p4 &&& (2147483647 : Int32))), .unset] [(.int ((((p4 &&& (2147483647 : Int32)) &&& (127 : Int32)) ||| (128 : Int32)).toInt8.toInt32)), (.int (1 : Int32)), (.ref b7)])) _
      refine st42 _ ?_
      show Steps p.tables e below (T42.setTop (mkF m 45 #[.val (.int p0), .val (.int p1), .val (.long q2), .second, .val (.long q3), .second, .val (.int p4), .val (.int (p0 &&& (31 : Int32))), .val (.ref b7), .unset, .unset, .unset, .val (.int (p4 &&& (2147483647 : Int32))), .unset] [])) _
      refine XS.aload X42.here hx rfl (hb hby at_45) rfl rfl ?_
      show Steps p.tables e below (T42.setTop (mkF m 47 #[.val (.int p0), .val (.int p1), .val (.long q2), .second, .val (.long q3), .second, .val (.int p4), .val (.int (p0 &&& (31 : Int32))), .val (.ref b7), .unset, .unset, .unset, .val (.int (p4 &&& (2147483647 : Int32))), .unset] [(.ref b7)])) _
      refine XS.iconst X42.here hx rfl (hb hby at_47) ?_
      show Steps p.tables e below (T42.setTop (mkF m 48 #[.val (.int p0), .val (.int p1), .val (.long q2), .second, .val (.long q3), .second, .val (.int p4), .val (.int (p0 &&& (31 : Int32))), .val (.ref b7), .unset, .unset, .unset, .val (.int (p4 &&& (2147483647 : Int32))), .unset] [(.int (2 : Int32)), (.ref b7)])) _
      refine XS.iload X42.here hx rfl (hb hby at_48) rfl ?_
      show Steps p.tables e below (T42.setTop (mkF m 50 #[.val (.int p0), .val (.int p1), .val (.long q2), .second, .val (.long q3), .second, .val (.int p4), .val (.int (p0 &&& (31 : Int32))), .val (.ref b7), .unset, .unset, .unset, .val (.int (p4 &&& (2147483647 : Int32))), .unset] [(.int (p4 &&& (2147483647 : Int32))), (.int (2 : Int32)), (.ref b7)])) _
      refine XS.bipush X42.here hx rfl (hb hby at_50) ?_
      show Steps p.tables e below (T42.setTop (mkF m 52 #[.val (.int p0), .val (.int p1), .val (.long q2), .second, .val (.long q3), .second, .val (.int p4), .val (.int (p0 &&& (31 : Int32))), .val (.ref b7), .unset, .unset, .unset, .val (.int (p4 &&& (2147483647 : Int32))), .unset] [(.int (7 : Int32)), (.int (p4 &&& (2147483647 : Int32))), (.int (2 : Int32)), (.ref b7)])) _
      refine XS.iushr X42.here hx rfl (hb hby at_52) rfl ?_
      show Steps p.tables e below (T42.setTop (mkF m 53 #[.val (.int p0), .val (.int p1), .val (.long q2), .second, .val (.long q3), .second, .val (.int p4), .val (.int (p0 &&& (31 : Int32))), .val (.ref b7), .unset, .unset, .unset, .val (.int (p4 &&& (2147483647 : Int32))), .unset] [(.int (((p4 &&& (2147483647 : Int32)).toUInt32 >>> ((7 : Int32) &&& 31).toUInt32).toInt32)), (.int (2 : Int32)), (.ref b7)])) _
      refine XS.bipush X42.here hx rfl (hb hby at_53) ?_
      show Steps p.tables e below (T42.setTop (mkF m 55 #[.val (.int p0), .val (.int p1), .val (.long q2), .second, .val (.long q3), .second, .val (.int p4), .val (.int (p0 &&& (31 : Int32))), .val (.ref b7), .unset, .unset, .unset, .val (.int (p4 &&& (2147483647 : Int32))), .unset] [(.int (127 : Int32)), (.int (((p4 &&& (2147483647 : Int32)).toUInt32 >>> ((7 : Int32) &&& 31).toUInt32).toInt32)), (.int (2 : Int32)), (.ref b7)])) _
      refine XS.iand X42.here hx rfl (hb hby at_55) rfl ?_
      show Steps p.tables e below (T42.setTop (mkF m 56 #[.val (.int p0), .val (.int p1), .val (.long q2), .second, .val (.long q3), .second, .val (.int p4), .val (.int (p0 &&& (31 : Int32))), .val (.ref b7), .unset, .unset, .unset, .val (.int (p4 &&& (2147483647 : Int32))), .unset] [(.int ((((p4 &&& (2147483647 : Int32)).toUInt32 >>> ((7 : Int32) &&& 31).toUInt32).toInt32) &&& (127 : Int32))), (.int (2 : Int32)), (.ref b7)])) _
      refine XS.sipush X42.here hx rfl (hb hby at_56) ?_
      show Steps p.tables e below (T42.setTop (mkF m 59 #[.val (.int p0), .val (.int p1), .val (.long q2), .second, .val (.long q3), .second, .val (.int p4), .val (.int (p0 &&& (31 : Int32))), .val (.ref b7), .unset, .unset, .unset, .val (.int (p4 &&& (2147483647 : Int32))), .unset] [(.int (128 : Int32)), (.int ((((p4 &&& (2147483647 : Int32)).toUInt32 >>> ((7 : Int32) &&& 31).toUInt32).toInt32) &&& (127 : Int32))), (.int (2 : Int32)), (.ref b7)])) _
      refine XS.ior X42.here hx rfl (hb hby at_59) rfl ?_
      show Steps p.tables e below (T42.setTop (mkF m 60 #[.val (.int p0), .val (.int p1), .val (.long q2), .second, .val (.long q3), .second, .val (.int p4), .val (.int (p0 &&& (31 : Int32))), .val (.ref b7), .unset, .unset, .unset, .val (.int (p4 &&& (2147483647 : Int32))), .unset] [(.int (((((p4 &&& (2147483647 : Int32)).toUInt32 >>> ((7 : Int32) &&& 31).toUInt32).toInt32) &&& (127 : Int32)) ||| (128 : Int32))), (.int (2 : Int32)), (.ref b7)])) _
      refine XS.i2b X42.here hx rfl (hb hby at_60) rfl ?_
      show Steps p.tables e below (T42.setTop (mkF m 61 #[.val (.int p0), .val (.int p1), .val (.long q2), .second, .val (.long q3), .second, .val (.int p4), .val (.int (p0 &&& (31 : Int32))), .val (.ref b7), .unset, .unset, .unset, .val (.int (p4 &&& (2147483647 : Int32))), .unset] [(.int ((((((p4 &&& (2147483647 : Int32)).toUInt32 >>> ((7 : Int32) &&& 31).toUInt32).toInt32) &&& (127 : Int32)) ||| (128 : Int32)).toInt8.toInt32)), (.int (2 : Int32)), (.ref b7)])) _
      refine st59 _ ?_
      show Steps p.tables e below (T59.setTop (mkF m 62 #[.val (.int p0), .val (.int p1), .val (.long q2), .second, .val (.long q3), .second, .val (.int p4), .val (.int (p0 &&& (31 : Int32))), .val (.ref b7), .unset, .unset, .unset, .val (.int (p4 &&& (2147483647 : Int32))), .unset] [])) _
      refine XS.aload X59.here hx rfl (hb hby at_62) rfl rfl ?_
      show Steps p.tables e below (T59.setTop (mkF m 64 #[.val (.int p0), .val (.int p1), .val (.long q2), .second, .val (.long q3), .second, .val (.int p4), .val (.int (p0 &&& (31 : Int32))), .val (.ref b7), .unset, .unset, .unset, .val (.int (p4 &&& (2147483647 : Int32))), .unset] [(.ref b7)])) _
      refine XS.iconst X59.here hx rfl (hb hby at_64) ?_
      show Steps p.tables e below (T59.setTop (mkF m 65 #[.val (.int p0), .val (.int p1), .val (.long q2), .second, .val (.long q3), .second, .val (.int p4), .val (.int (p0 &&& (31 : Int32))), .val (.ref b7), .unset, .unset, .unset, .val (.int (p4 &&& (2147483647 : Int32))), .unset] [(.int (3 : Int32)), (.ref b7)])) _
      refine XS.iload X59.here hx rfl (hb hby at_65) rfl ?_
      show Steps p.tables e below (T59.setTop (mkF m 67 #[.val (.int p0), .val (.int p1), .val (.long q2), .second, .val (.long q3), .second, .val (.int p4), .val (.int (p0 &&& (31 : Int32))), .val (.ref b7), .unset, .unset, .unset, .val (.int (p4 &&& (2147483647 : Int32))), .unset] [(.int (p4 &&& (2147483647 : Int32))), (.int (3 : Int32)), (.ref b7)])) _
      refine XS.bipush X59.here hx rfl (hb hby at_67) ?_
      show Steps p.tables e below (T59.setTop (mkF m 69 #[.val (.int p0), .val (.int p1), .val (.long q2), .second, .val (.long q3), .second, .val (.int p4), .val (.int (p0 &&& (31 : Int32))), .val (.ref b7), .unset, .unset, .unset, .val (.int (p4 &&& (2147483647 : Int32))), .unset] [(.int (14 : Int32)), (.int (p4 &&& (2147483647 : Int32))), (.int (3 : Int32)), (.ref b7)])) _
      refine XS.iushr X59.here hx rfl (hb hby at_69) rfl ?_
      show Steps p.tables e below (T59.setTop (mkF m 70 #[.val (.int p0), .val (.int p1), .val (.long q2), .second, .val (.long q3), .second, .val (.int p4), .val (.int (p0 &&& (31 : Int32))), .val (.ref b7), .unset, .unset, .unset, .val (.int (p4 &&& (2147483647 : Int32))), .unset] [(.int (((p4 &&& (2147483647 : Int32)).toUInt32 >>> ((14 : Int32) &&& 31).toUInt32).toInt32)), (.int (3 : Int32)), (.ref b7)])) _
      refine XS.bipush X59.here hx rfl (hb hby at_70) ?_
      show Steps p.tables e below (T59.setTop (mkF m 72 #[.val (.int p0), .val (.int p1), .val (.long q2), .second, .val (.long q3), .second, .val (.int p4), .val (.int (p0 &&& (31 : Int32))), .val (.ref b7), .unset, .unset, .unset, .val (.int (p4 &&& (2147483647 : Int32))), .unset] [(.int (127 : Int32)), (.int (((p4 &&& (2147483647 : Int32)).toUInt32 >>> ((14 : Int32) &&& 31).toUInt32).toInt32)), (.int (3 : Int32)), (.ref b7)])) _
      refine XS.iand X59.here hx rfl (hb hby at_72) rfl ?_
      show Steps p.tables e below (T59.setTop (mkF m 73 #[.val (.int p0), .val (.int p1), .val (.long q2), .second, .val (.long q3), .second, .val (.int p4), .val (.int (p0 &&& (31 : Int32))), .val (.ref b7), .unset, .unset, .unset, .val (.int (p4 &&& (2147483647 : Int32))), .unset] [(.int ((((p4 &&& (2147483647 : Int32)).toUInt32 >>> ((14 : Int32) &&& 31).toUInt32).toInt32) &&& (127 : Int32))), (.int (3 : Int32)), (.ref b7)])) _
      refine XS.sipush X59.here hx rfl (hb hby at_73) ?_
      show Steps p.tables e below (T59.setTop (mkF m 76 #[.val (.int p0), .val (.int p1), .val (.long q2), .second, .val (.long q3), .second, .val (.int p4), .val (.int (p0 &&& (31 : Int32))), .val (.ref b7), .unset, .unset, .unset, .val (.int (p4 &&& (2147483647 : Int32))), .unset] [(.int (128 : Int32)), (.int ((((p4 &&& (2147483647 : Int32)).toUInt32 >>> ((14 : Int32) &&& 31).toUInt32).toInt32) &&& (127 : Int32))), (.int (3 : Int32)), (.ref b7)])) _
      refine XS.ior X59.here hx rfl (hb hby at_76) rfl ?_
      show Steps p.tables e below (T59.setTop (mkF m 77 #[.val (.int p0), .val (.int p1), .val (.long q2), .second, .val (.long q3), .second, .val (.int p4), .val (.int (p0 &&& (31 : Int32))), .val (.ref b7), .unset, .unset, .unset, .val (.int (p4 &&& (2147483647 : Int32))), .unset] [(.int (((((p4 &&& (2147483647 : Int32)).toUInt32 >>> ((14 : Int32) &&& 31).toUInt32).toInt32) &&& (127 : Int32)) ||| (128 : Int32))), (.int (3 : Int32)), (.ref b7)])) _
      refine XS.i2b X59.here hx rfl (hb hby at_77) rfl ?_
      show Steps p.tables e below (T59.setTop (mkF m 78 #[.val (.int p0), .val (.int p1), .val (.long q2), .second, .val (.long q3), .second, .val (.int p4), .val (.int (p0 &&& (31 : Int32))), .val (.ref b7), .unset, .unset, .unset, .val (.int (p4 &&& (2147483647 : Int32))), .unset] [(.int ((((((p4 &&& (2147483647 : Int32)).toUInt32 >>> ((14 : Int32) &&& 31).toUInt32).toInt32) &&& (127 : Int32)) ||| (128 : Int32)).toInt8.toInt32)), (.int (3 : Int32)), (.ref b7)])) _
      refine st76 _ ?_
      show Steps p.tables e below (T76.setTop (mkF m 79 #[.val (.int p0), .val (.int p1), .val (.long q2), .second, .val (.long q3), .second, .val (.int p4), .val (.int (p0 &&& (31 : Int32))), .val (.ref b7), .unset, .unset, .unset, .val (.int (p4 &&& (2147483647 : Int32))), .unset] [])) _
      refine XS.aload X76.here hx rfl (hb hby at_79) rfl rfl ?_
      show Steps p.tables e below (T76.setTop (mkF m 81 #[.val (.int p0), .val (.int p1), .val (.long q2), .second, .val (.long q3), .second, .val (.int p4), .val (.int (p0 &&& (31 : Int32))), .val (.ref b7), .unset, .unset, .unset, .val (.int (p4 &&& (2147483647 : Int32))), .unset] [(.ref b7)])) _
      refine XS.iconst X76.here hx rfl (hb hby at_81) ?_
      show Steps p.tables e below (T76.setTop (mkF m 82 #[.val (.int p0), .val (.int p1), .val (.long q2), .second, .val (.long q3), .second, .val (.int p4), .val (.int (p0 &&& (31 : Int32))), .val (.ref b7), .unset, .unset, .unset, .val (.int (p4 &&& (2147483647 : Int32))), .unset] [(.int (4 : Int32)), (.ref b7)])) _
      refine XS.iload X76.here hx rfl (hb hby at_82) rfl ?_
      show Steps p.tables e below (T76.setTop (mkF m 84 #[.val (.int p0), .val (.int p1), .val (.long q2), .second, .val (.long q3), .second, .val (.int p4), .val (.int (p0 &&& (31 : Int32))), .val (.ref b7), .unset, .unset, .unset, .val (.int (p4 &&& (2147483647 : Int32))), .unset] [(.int (p4 &&& (2147483647 : Int32))), (.int (4 : Int32)), (.ref b7)])) _
      refine XS.bipush X76.here hx rfl (hb hby at_84) ?_
      show Steps p.tables e below (T76.setTop (mkF m 86 #[.val (.int p0), .val (.int p1), .val (.long q2), .second, .val (.long q3), .second, .val (.int p4), .val (.int (p0 &&& (31 : Int32))), .val (.ref b7), .unset, .unset, .unset, .val (.int (p4 &&& (2147483647 : Int32))), .unset] [(.int (21 : Int32)), (.int (p4 &&& (2147483647 : Int32))), (.int (4 : Int32)), (.ref b7)])) _
      refine XS.iushr X76.here hx rfl (hb hby at_86) rfl ?_
      show Steps p.tables e below (T76.setTop (mkF m 87 #[.val (.int p0), .val (.int p1), .val (.long q2), .second, .val (.long q3), .second, .val (.int p4), .val (.int (p0 &&& (31 : Int32))), .val (.ref b7), .unset, .unset, .unset, .val (.int (p4 &&& (2147483647 : Int32))), .unset] [(.int (((p4 &&& (2147483647 : Int32)).toUInt32 >>> ((21 : Int32) &&& 31).toUInt32).toInt32)), (.int (4 : Int32)), (.ref b7)])) _
      refine XS.bipush X76.here hx rfl (hb hby at_87) ?_
      show Steps p.tables e below (T76.setTop (mkF m 89 #[.val (.int p0), .val (.int p1), .val (.long q2), .second, .val (.long q3), .second, .val (.int p4), .val (.int (p0 &&& (31 : Int32))), .val (.ref b7), .unset, .unset, .unset, .val (.int (p4 &&& (2147483647 : Int32))), .unset] [(.int (127 : Int32)), (.int (((p4 &&& (2147483647 : Int32)).toUInt32 >>> ((21 : Int32) &&& 31).toUInt32).toInt32)), (.int (4 : Int32)), (.ref b7)])) _
      refine XS.iand X76.here hx rfl (hb hby at_89) rfl ?_
      show Steps p.tables e below (T76.setTop (mkF m 90 #[.val (.int p0), .val (.int p1), .val (.long q2), .second, .val (.long q3), .second, .val (.int p4), .val (.int (p0 &&& (31 : Int32))), .val (.ref b7), .unset, .unset, .unset, .val (.int (p4 &&& (2147483647 : Int32))), .unset] [(.int ((((p4 &&& (2147483647 : Int32)).toUInt32 >>> ((21 : Int32) &&& 31).toUInt32).toInt32) &&& (127 : Int32))), (.int (4 : Int32)), (.ref b7)])) _
      refine XS.sipush X76.here hx rfl (hb hby at_90) ?_
      show Steps p.tables e below (T76.setTop (mkF m 93 #[.val (.int p0), .val (.int p1), .val (.long q2), .second, .val (.long q3), .second, .val (.int p4), .val (.int (p0 &&& (31 : Int32))), .val (.ref b7), .unset, .unset, .unset, .val (.int (p4 &&& (2147483647 : Int32))), .unset] [(.int (128 : Int32)), (.int ((((p4 &&& (2147483647 : Int32)).toUInt32 >>> ((21 : Int32) &&& 31).toUInt32).toInt32) &&& (127 : Int32))), (.int (4 : Int32)), (.ref b7)])) _
      refine XS.ior X76.here hx rfl (hb hby at_93) rfl ?_
      show Steps p.tables e below (T76.setTop (mkF m 94 #[.val (.int p0), .val (.int p1), .val (.long q2), .second, .val (.long q3), .second, .val (.int p4), .val (.int (p0 &&& (31 : Int32))), .val (.ref b7), .unset, .unset, .unset, .val (.int (p4 &&& (2147483647 : Int32))), .unset] [(.int (((((p4 &&& (2147483647 : Int32)).toUInt32 >>> ((21 : Int32) &&& 31).toUInt32).toInt32) &&& (127 : Int32)) ||| (128 : Int32))), (.int (4 : Int32)), (.ref b7)])) _
      refine XS.i2b X76.here hx rfl (hb hby at_94) rfl ?_
      show Steps p.tables e below (T76.setTop (mkF m 95 #[.val (.int p0), .val (.int p1), .val (.long q2), .second, .val (.long q3), .second, .val (.int p4), .val (.int (p0 &&& (31 : Int32))), .val (.ref b7), .unset, .unset, .unset, .val (.int (p4 &&& (2147483647 : Int32))), .unset] [(.int ((((((p4 &&& (2147483647 : Int32)).toUInt32 >>> ((21 : Int32) &&& 31).toUInt32).toInt32) &&& (127 : Int32)) ||| (128 : Int32)).toInt8.toInt32)), (.int (4 : Int32)), (.ref b7)])) _
      refine st93 _ ?_
      show Steps p.tables e below (T93.setTop (mkF m 96 #[.val (.int p0), .val (.int p1), .val (.long q2), .second, .val (.long q3), .second, .val (.int p4), .val (.int (p0 &&& (31 : Int32))), .val (.ref b7), .unset, .unset, .unset, .val (.int (p4 &&& (2147483647 : Int32))), .unset] [])) _
      refine XS.aload X93.here hx rfl (hb hby at_96) rfl rfl ?_
      show Steps p.tables e below (T93.setTop (mkF m 98 #[.val (.int p0), .val (.int p1), .val (.long q2), .second, .val (.long q3), .second, .val (.int p4), .val (.int (p0 &&& (31 : Int32))), .val (.ref b7), .unset, .unset, .unset, .val (.int (p4 &&& (2147483647 : Int32))), .unset] [(.ref b7)])) _
      refine XS.iconst X93.here hx rfl (hb hby at_98) ?_
      show Steps p.tables e below (T93.setTop (mkF m 99 #[.val (.int p0), .val (.int p1), .val (.long q2), .second, .val (.long q3), .second, .val (.int p4), .val (.int (p0 &&& (31 : Int32))), .val (.ref b7), .unset, .unset, .unset, .val (.int (p4 &&& (2147483647 : Int32))), .unset] [(.int (5 : Int32)), (.ref b7)])) _
      refine XS.iload X93.here hx rfl (hb hby at_99) rfl ?_
      show Steps p.tables e below (T93.setTop (mkF m 101 #[.val (.int p0), .val (.int p1), .val (.long q2), .second, .val (.long q3), .second, .val (.int p4), .val (.int (p0 &&& (31 : Int32))), .val (.ref b7), .unset, .unset, .unset, .val (.int (p4 &&& (2147483647 : Int32))), .unset] [(.int (p4 &&& (2147483647 : Int32))), (.int (5 : Int32)), (.ref b7)])) _
      refine XS.bipush X93.here hx rfl (hb hby at_101) ?_
      show Steps p.tables e below (T93.setTop (mkF m 103 #[.val (.int p0), .val (.int p1), .val (.long q2), .second, .val (.long q3), .second, .val (.int p4), .val (.int (p0 &&& (31 : Int32))), .val (.ref b7), .unset, .unset, .unset, .val (.int (p4 &&& (2147483647 : Int32))), .unset] [(.int (28 : Int32)), (.int (p4 &&& (2147483647 : Int32))), (.int (5 : Int32)), (.ref b7)])) _
      refine XS.iushr X93.here hx rfl (hb hby at_103) rfl ?_
      show Steps p.tables e below (T93.setTop (mkF m 104 #[.val (.int p0), .val (.int p1), .val (.long q2), .second, .val (.long q3), .second, .val (.int p4), .val (.int (p0 &&& (31 : Int32))), .val (.ref b7), .unset, .unset, .unset, .val (.int (p4 &&& (2147483647 : Int32))), .unset] [(.int (((p4 &&& (2147483647 : Int32)).toUInt32 >>> ((28 : Int32) &&& 31).toUInt32).toInt32)), (.int (5 : Int32)), (.ref b7)])) _
      refine XS.i2b X93.here hx rfl (hb hby at_104) rfl ?_
      show Steps p.tables e below (T93.setTop (mkF m 105 #[.val (.int p0), .val (.int p1), .val (.long q2), .second, .val (.long q3), .second, .val (.int p4), .val (.int (p0 &&& (31 : Int32))), .val (.ref b7), .unset, .unset, .unset, .val (.int (p4 &&& (2147483647 : Int32))), .unset] [(.int ((((p4 &&& (2147483647 : Int32)).toUInt32 >>> ((28 : Int32) &&& 31).toUInt32).toInt32).toInt8.toInt32)), (.int (5 : Int32)), (.ref b7)])) _
      refine st106 _ ?_
      show Steps p.tables e below (T106.setTop (mkF m 106 #[.val (.int p0), .val (.int p1), .val (.long q2), .second, .val (.long q3), .second, .val (.int p4), .val (.int (p0 &&& (31 : Int32))), .val (.ref b7), .unset, .unset, .unset, .val (.int (p4 &&& (2147483647 : Int32))), .unset] [])) _
      refine X106.ldcInt hx hown (mvT hZ (hw _ (List.mem_of_getElem? (i := 1) rfl))) (g := (mkF m 106 #[.val (.int p0), .val (.int p1), .val (.long q2), .second, .val (.long q3), .second, .val (.int p4), .val (.int (p0 &&& (31 : Int32))), .val (.ref b7), .unset, .unset, .unset, .val (.int (p4 &&& (2147483647 : Int32))), .unset] [])) rfl (hb hby at_106) _ ?_
      show Steps p.tables e below (T106.setTop (mkF m 108 #[.val (.int p0), .val (.int p1), .val (.long q2), .second, .val (.long q3), .second, .val (.int p4), .val (.int (p0 &&& (31 : Int32))), .val (.ref b7), .unset, .unset, .unset, .val (.int (p4 &&& (2147483647 : Int32))), .unset] [(.int (2147483647 : Int32))])) _
      refine XS.istore X106.here hx rfl (hb hby at_108) rfl (l' := #[.val (.int p0), .val (.int p1), .val (.long q2), .second, .val (.long q3), .second, .val (.int p4), .val (.int (p0 &&& (31 : Int32))), .val (.ref b7), .val (.int (2147483647 : Int32)), .unset, .unset, .val (.int (p4 &&& (2147483647 : Int32))), .unset]) rfl ?_
      show Steps p.tables e below (T106.setTop (mkF m 110 #[.val (.int p0), .val (.int p1), .val (.long q2), .second, .val (.long q3), .second, .val (.int p4), .val (.int (p0 &&& (31 : Int32))), .val (.ref b7), .val (.int (2147483647 : Int32)), .unset, .unset, .val (.int (p4 &&& (2147483647 : Int32))), .unset] [])) _
      refine XS.iloadN X106.here hx rfl (hb hby at_110) rfl ?_
      show Steps p.tables e below (T106.setTop (mkF m 111 #[.val (.int p0), .val (.int p1), .val (.long q2), .second, .val (.long q3), .second, .val (.int p4), .val (.int (p0 &&& (31 : Int32))), .val (.ref b7), .val (.int (2147483647 : Int32)), .unset, .unset, .val (.int (p4 &&& (2147483647 : Int32))), .unset] [(.int p1)])) _
      refine X106.ldcInt hx hown (mvT hZ (hw _ (List.mem_of_getElem? (i := 1) rfl))) (g := (mkF m 111 #[.val (.int p0), .val (.int p1), .val (.long q2), .second, .val (.long q3), .second, .val (.int p4), .val (.int (p0 &&& (31 : Int32))), .val (.ref b7), .val (.int (2147483647 : Int32)), .unset, .unset, .val (.int (p4 &&& (2147483647 : Int32))), .unset] [(.int p1)])) rfl (hb hby at_111) _ ?_
      show Steps p.tables e below (T106.setTop (mkF m 113 #[.val (.int p0), .val (.int p1), .val (.long q2), .second, .val (.long q3), .second, .val (.int p4), .val (.int (p0 &&& (31 : Int32))), .val (.ref b7), .val (.int (2147483647 : Int32)), .unset, .unset, .val (.int (p4 &&& (2147483647 : Int32))), .unset] [(.int (2147483647 : Int32)), (.int p1)])) _
      refine XS.iand X106.here hx rfl (hb hby at_113) rfl ?_
      show Steps p.tables e below (T106.setTop (mkF m 114 #[.val (.int p0), .val (.int p1), .val (.long q2), .second, .val (.long q3), .second, .val (.int p4), .val (.int (p0 &&& (31 : Int32))), .val (.ref b7), .val (.int (2147483647 : Int32)), .unset, .unset, .val (.int (p4 &&& (2147483647 : Int32))), .unset] [(.int (p1 &&& (2147483647 : Int32)))])) _
      refine X106.ldcInt hx hown (mvT hZ (hw _ (List.mem_of_getElem? (i := 1) rfl))) (g := (mkF m 114 #[.val (.int p0), .val (.int p1), .val (.long q2), .second, .val (.long q3), .second, .val (.int p4), .val (.int (p0 &&& (31 : Int32))), .val (.ref b7), .val (.int (2147483647 : Int32)), .unset, .unset, .val (.int (p4 &&& (2147483647 : Int32))), .unset] [(.int (p1 &&& (2147483647 : Int32)))])) rfl (hb hby at_114) _ ?_
      show Steps p.tables e below (T106.setTop (mkF m 116 #[.val (.int p0), .val (.int p1), .val (.long q2), .second, .val (.long q3), .second, .val (.int p4), .val (.int (p0 &&& (31 : Int32))), .val (.ref b7), .val (.int (2147483647 : Int32)), .unset, .unset, .val (.int (p4 &&& (2147483647 : Int32))), .unset] [(.int (2147483647 : Int32)), (.int (p1 &&& (2147483647 : Int32)))])) _
      refine iremM X106 hx rfl (hb hby at_116) rfl (by decide) ?_
      show Steps p.tables e below (T106.setTop (mkF m 117 #[.val (.int p0), .val (.int p1), .val (.long q2), .second, .val (.long q3), .second, .val (.int p4), .val (.int (p0 &&& (31 : Int32))), .val (.ref b7), .val (.int (2147483647 : Int32)), .unset, .unset, .val (.int (p4 &&& (2147483647 : Int32))), .unset] [(.int ((p1 &&& (2147483647 : Int32)) % (2147483647 : Int32)))])) _
      refine XS.istore X106.here hx rfl (hb hby at_117) rfl (l' := #[.val (.int p0), .val (.int p1), .val (.long q2), .second, .val (.long q3), .second, .val (.int p4), .val (.int (p0 &&& (31 : Int32))), .val (.ref b7), .val (.int (2147483647 : Int32)), .val (.int ((p1 &&& (2147483647 : Int32)) % (2147483647 : Int32))), .unset, .val (.int (p4 &&& (2147483647 : Int32))), .unset]) rfl ?_
      show Steps p.tables e below (T106.setTop (mkF m 119 #[.val (.int p0), .val (.int p1), .val (.long q2), .second, .val (.long q3), .second, .val (.int p4), .val (.int (p0 &&& (31 : Int32))), .val (.ref b7), .val (.int (2147483647 : Int32)), .val (.int ((p1 &&& (2147483647 : Int32)) % (2147483647 : Int32))), .unset, .val (.int (p4 &&& (2147483647 : Int32))), .unset] [])) _
      refine XS.iload X106.here hx rfl (hb hby at_119) rfl ?_
      show Steps p.tables e below (T106.setTop (mkF m 121 #[.val (.int p0), .val (.int p1), .val (.long q2), .second, .val (.long q3), .second, .val (.int p4), .val (.int (p0 &&& (31 : Int32))), .val (.ref b7), .val (.int (2147483647 : Int32)), .val (.int ((p1 &&& (2147483647 : Int32)) % (2147483647 : Int32))), .unset, .val (.int (p4 &&& (2147483647 : Int32))), .unset] [(.int (p4 &&& (2147483647 : Int32)))])) _
      refine XS.istore X106.here hx rfl (hb hby at_121) rfl (l' := #[.val (.int p0), .val (.int p1), .val (.long q2), .second, .val (.long q3), .second, .val (.int p4), .val (.int (p0 &&& (31 : Int32))), .val (.ref b7), .val (.int (2147483647 : Int32)), .val (.int ((p1 &&& (2147483647 : Int32)) % (2147483647 : Int32))), .val (.int (p4 &&& (2147483647 : Int32))), .val (.int (p4 &&& (2147483647 : Int32))), .unset]) rfl ?_
      show Steps p.tables e below (T106.setTop (mkF m 123 #[.val (.int p0), .val (.int p1), .val (.long q2), .second, .val (.long q3), .second, .val (.int p4), .val (.int (p0 &&& (31 : Int32))), .val (.ref b7), .val (.int (2147483647 : Int32)), .val (.int ((p1 &&& (2147483647 : Int32)) % (2147483647 : Int32))), .val (.int (p4 &&& (2147483647 : Int32))), .val (.int (p4 &&& (2147483647 : Int32))), .unset] [])) _
      refine XS.goto X106.here hx rfl (pc0 := 123) (pc' := 174) rfl (hb hby at_123) (by decide) (by decide) ?_
      show Steps p.tables e below (T106.setTop (mkF m 174 #[.val (.int p0), .val (.int p1), .val (.long q2), .second, .val (.long q3), .second, .val (.int p4), .val (.int (p0 &&& (31 : Int32))), .val (.ref b7), .val (.int (2147483647 : Int32)), .val (.int ((p1 &&& (2147483647 : Int32)) % (2147483647 : Int32))), .val (.int (p4 &&& (2147483647 : Int32))), .val (.int (p4 &&& (2147483647 : Int32))), .unset] [])) _
      refine st123 _ ?_
      show Steps p.tables e below (T123.setTop (mkF m 177 #[.val (.int p0), .val (.int p1), .val (.long q2), .second, .val (.long q3), .second, .val (.int p4), .val (.int (p0 &&& (31 : Int32))), .val (.ref b7), .val (.int (2147483647 : Int32)), .val (.int ((p1 &&& (2147483647 : Int32)) % (2147483647 : Int32))), .val (.int (p4 &&& (2147483647 : Int32))), .val (.int (p4 &&& (2147483647 : Int32))), .unset] [(.ref b123)])) _
      refine XS.dup X123.here hx rfl (hb hby at_177) rfl rfl ?_
      show Steps p.tables e below (T123.setTop (mkF m 178 #[.val (.int p0), .val (.int p1), .val (.long q2), .second, .val (.long q3), .second, .val (.int p4), .val (.int (p0 &&& (31 : Int32))), .val (.ref b7), .val (.int (2147483647 : Int32)), .val (.int ((p1 &&& (2147483647 : Int32)) % (2147483647 : Int32))), .val (.int (p4 &&& (2147483647 : Int32))), .val (.int (p4 &&& (2147483647 : Int32))), .unset] [(.ref b123), (.ref b123)])) _
      refine XS.aload X123.here hx rfl (hb hby at_178) rfl rfl ?_
      show Steps p.tables e below (T123.setTop (mkF m 180 #[.val (.int p0), .val (.int p1), .val (.long q2), .second, .val (.long q3), .second, .val (.int p4), .val (.int (p0 &&& (31 : Int32))), .val (.ref b7), .val (.int (2147483647 : Int32)), .val (.int ((p1 &&& (2147483647 : Int32)) % (2147483647 : Int32))), .val (.int (p4 &&& (2147483647 : Int32))), .val (.int (p4 &&& (2147483647 : Int32))), .unset] [(.ref b7), (.ref b123), (.ref b123)])) _
      refine XS.iconst X123.here hx rfl (hb hby at_180) ?_
      show Steps p.tables e below (T123.setTop (mkF m 181 #[.val (.int p0), .val (.int p1), .val (.long q2), .second, .val (.long q3), .second, .val (.int p4), .val (.int (p0 &&& (31 : Int32))), .val (.ref b7), .val (.int (2147483647 : Int32)), .val (.int ((p1 &&& (2147483647 : Int32)) % (2147483647 : Int32))), .val (.int (p4 &&& (2147483647 : Int32))), .val (.int (p4 &&& (2147483647 : Int32))), .unset] [(.int (0 : Int32)), (.ref b7), (.ref b123), (.ref b123)])) _
      refine XS.bipush X123.here hx rfl (hb hby at_181) ?_
      show Steps p.tables e below (T123.setTop (mkF m 183 #[.val (.int p0), .val (.int p1), .val (.long q2), .second, .val (.long q3), .second, .val (.int p4), .val (.int (p0 &&& (31 : Int32))), .val (.ref b7), .val (.int (2147483647 : Int32)), .val (.int ((p1 &&& (2147483647 : Int32)) % (2147483647 : Int32))), .val (.int (p4 &&& (2147483647 : Int32))), .val (.int (p4 &&& (2147483647 : Int32))), .unset] [(.int (17 : Int32)), (.int (0 : Int32)), (.ref b7), (.ref b123), (.ref b123)])) _
      exact kt
    obtain ⟨b136, T136, h136, ks136, X136, e136, E136, Si136, Sk136, hZ136, hown136, st136⟩ := ldcS (s := s) (vm0 := s.vm) X123 hx hZ hown (hw _ (List.mem_of_getElem? (i := 5) rfl)) (own_satoms hw) e123 (own_since s 0) (Nat.zero_le _) (g := (mkF m 183 #[.val (.int p0), .val (.int p1), .val (.long q2), .second, .val (.long q3), .second, .val (.int p4), .val (.int (p0 &&& (31 : Int32))), .val (.ref b7), .val (.int (2147483647 : Int32)), .val (.int ((p1 &&& (2147483647 : Int32)) % (2147483647 : Int32))), .val (.int (p4 &&& (2147483647 : Int32))), .val (.int (p4 &&& (2147483647 : Int32))), .unset] [(.int (17 : Int32)), (.int (0 : Int32)), (.ref b7), (.ref b123), (.ref b123)])) rfl (hb hby at_183) (n := 4) (by decide) (by decide) (by decide) (by decide)
    have hZ := hZ136
    have hown := hown136
    have Kc137 : Keep h0 h136 [] := Kc128.ext E136
    have Zs138 : n0 ≤ h136.size := (Nat.le_trans Zs129 E136.1)
    have Fq141 : Exa Z h136 b123 "fieldstone/ByteReader" := (A123.ext E136)
    have Fq142 : Fld Z h136 b123 "fieldstone/ByteReader" "bytes" "[B" .null := (F123_bytes.ext E136)
    have Fq143 : Fld Z h136 b123 "fieldstone/ByteReader" "pos" "I" (.int (0 : Int32)) := (F123_pos.ext E136)
    have Fq144 : Fld Z h136 b123 "fieldstone/ByteReader" "limit" "I" (.int (0 : Int32)) := (F123_limit.ext E136)
    have Fq145 : Fld Z h136 b123 "fieldstone/ByteReader" "file" "Ljava/lang/String;" .null := (F123_file.ext E136)
    obtain ⟨_, _, ⟨T140, L140, k140, n140⟩, -, X140, ⟨Lc140, hQ140, l140, y140, z140⟩, st140⟩ := X136.specialBack hx (y := (⟨"fieldstone/ByteReader", "<init>", "([BIILjava/lang/String;)V"⟩ : MethodName)) rfl hown (mvT hZ (hw _ (List.mem_of_getElem? (i := 12) rfl))) (mvT hZ (hw _ (List.mem_of_getElem? (i := 13) rfl))) (mvT hZ (hw _ (List.mem_of_getElem? (i := 14) rfl))) (by decide) (backOf (W := 1) (own_bri l Z a0 hw [] b123 b7 (0 : Int32) (17 : Int32) b136 h136 n0 Zs138 Fq141 Fq142 Fq143 Fq144 Fq145 Ge126) hZ (hw _ (List.mem_of_getElem? (i := 14) rfl)) (hw _ (List.mem_of_getElem? (i := 4) rfl)) (by decide) (by decide)) (g := (mkF m 185 #[.val (.int p0), .val (.int p1), .val (.long q2), .second, .val (.long q3), .second, .val (.int p4), .val (.int (p0 &&& (31 : Int32))), .val (.ref b7), .val (.int (2147483647 : Int32)), .val (.int ((p1 &&& (2147483647 : Int32)) % (2147483647 : Int32))), .val (.int (p4 &&& (2147483647 : Int32))), .val (.int (p4 &&& (2147483647 : Int32))), .unset] [(.ref b136), (.int (17 : Int32)), (.int (0 : Int32)), (.ref b7), (.ref b123), (.ref b123)])) rfl (by rw [hml]; rfl) (Steps.refl _) (a := b123) (argsL := [(.ref b7), (.int (0 : Int32)), (.int (17 : Int32)), (.ref b136)]) (rest := [(.ref b123)]) (lenOf own_pd7 rfl) rfl (by show 2 * 0 + _ ≤ _; exact Nat.le_of_eq rfl) (hb hby at_185) (fun _ _ => ⟨rfl, e136, (by decide : 4 + 0 ≤ _), (by decide : 29 + 0 ≤ _)⟩)
    dsimp only [Pt.U, Pt.locs, Pt.cells, Pt.slots] at X140 l140 y140 z140 st140 hQ140
    rw [l140, y140, z140] at X140
    obtain ⟨rfl, Nq140, K140, Pf140_0, Pf140_1, Pf140_2, Pf140_3⟩ := hQ140
    have N146 := Fr.app N110 Nq140
    have Kc147 : Keep h0 T140.heap [] := Kc137.trans K140 (allS (Or.inr Sz127) all0)
    have Zs148 : n0 ≤ T140.heap.size := Nat.le_trans Zs138 K140.1
    obtain ⟨T151, h151, X151, e151, E151, A151, D151, -, st151⟩ := newO X140 hx hZ hown (hw _ (List.mem_of_getElem? (i := 31) rfl)) (hw _ (List.mem_of_getElem? (i := 32) rfl)) (hw _ (List.mem_of_getElem? (i := 33) rfl)) rfl (g := (mkF m 190 #[.val (.int p0), .val (.int p1), .val (.long q2), .second, .val (.long q3), .second, .val (.int p4), .val (.int (p0 &&& (31 : Int32))), .val (.ref b7), .val (.int (2147483647 : Int32)), .val (.int ((p1 &&& (2147483647 : Int32)) % (2147483647 : Int32))), .val (.int (p4 &&& (2147483647 : Int32))), .val (.ref b123), .unset] [])) rfl (hb hby at_190) (by decide) (by decide)
    obtain ⟨b151, g151⟩ : ∃ z, z = T140.heap.size := ⟨_, rfl⟩
    rw [← g151] at A151 D151 st151
    have Fq153 : Exa Z T140.heap b7 "[B" := (((Fq125.ext E123).ext E136).keep K140)
    have Ne152 : b7 ≠ b151 := Nat.ne_of_lt (Nat.lt_of_lt_of_le Fq153.lt (Nat.le_of_eq g151.symm))
    have Ne154 : b123 ≠ b151 := Nat.ne_of_lt (Nat.lt_of_lt_of_le Pf140_0.lt (Nat.le_of_eq g151.symm))
    have Ge155 : n0 ≤ b151 := Nat.le_trans Zs148 (Nat.le_of_eq g151.symm)
    have Sz156 : h0.size ≤ b151 := Nat.le_trans Kc147.1 (Nat.le_of_eq g151.symm)
    have Kc157 : Keep h0 h151 [] := Kc147.ext E151
    have Zs158 : n0 ≤ h151.size := (Nat.le_trans Zs148 E151.1)
    have F151_packed : Fld Z h151 b151 "fieldstone/ByteReader$PackedInts" "packed" "[B" .null := D151 (Or.inl (hw _ (List.mem_of_getElem? (i := 39) rfl))) (ty := (.array .byte)) (by decide)
    have F151_bits : Fld Z h151 b151 "fieldstone/ByteReader$PackedInts" "bits" "I" (.int (0 : Int32)) := D151 (Or.inl (hw _ (List.mem_of_getElem? (i := 61) rfl))) (ty := .int) (by decide)
    have F151_alike : Fld Z h151 b151 "fieldstone/ByteReader$PackedInts" "alike" "I" (.int (0 : Int32)) := D151 (Or.inl (hw _ (List.mem_of_getElem? (i := 63) rfl))) (ty := .int) (by decide)
    obtain ⟨_, _, ⟨T161, L161, k161, n161⟩, -, X161, ⟨Lc161, hQ161, l161, y161, z161⟩, st161⟩ := X151.specialBack hx (y := (⟨"fieldstone/ByteReader$PackedInts", "<init>", "()V"⟩ : MethodName)) rfl hown (mvT hZ (hw _ (List.mem_of_getElem? (i := 34) rfl))) (mvT hZ (hw _ (List.mem_of_getElem? (i := 35) rfl))) (mvT hZ (hw _ (List.mem_of_getElem? (i := 36) rfl))) (by decide) (backOf (W := 1) (own_pii l Z a0 hw [] b151 h151 n0 Zs158 A151 F151_packed F151_bits F151_alike Ge155) hZ (hw _ (List.mem_of_getElem? (i := 36) rfl)) (hw _ (List.mem_of_getElem? (i := 33) rfl)) (by decide) (by decide)) (g := (mkF m 194 #[.val (.int p0), .val (.int p1), .val (.long q2), .second, .val (.long q3), .second, .val (.int p4), .val (.int (p0 &&& (31 : Int32))), .val (.ref b7), .val (.int (2147483647 : Int32)), .val (.int ((p1 &&& (2147483647 : Int32)) % (2147483647 : Int32))), .val (.int (p4 &&& (2147483647 : Int32))), .val (.ref b123), .unset] [(.ref b151), (.ref b151)])) rfl (by rw [hml]; rfl) (Steps.refl _) (a := b151) (argsL := []) (rest := [(.ref b151)]) (lenOf own_pd8 rfl) rfl (by show 2 * 0 + _ ≤ _; exact Nat.le_of_eq rfl) (hb hby at_194) (fun _ _ => ⟨rfl, e151, (by decide : 5 + 1 ≤ _), (by decide : 32 + 0 ≤ _)⟩)
    dsimp only [Pt.U, Pt.locs, Pt.cells, Pt.slots] at X161 l161 y161 z161 st161 hQ161
    rw [l161, y161, z161] at X161
    obtain ⟨q_o_161, k_q_161, rfl, Nq161, sz161_q_o, K161, Pf161_0, Pf161_1, Pf161_2, Pf161_3, Pf161_4⟩ := hQ161
    have N162 := Fr.app N146 Nq161
    have Fq164 : Exa Z h151 b7 "[B" := (Fq153.ext E151)
    have Ne163 : b7 ≠ q_o_161 := Nat.ne_of_lt (Nat.lt_of_lt_of_le Fq164.lt sz161_q_o)
    have Fq166 : Exa Z h151 b123 "fieldstone/ByteReader" := (Pf140_0.ext E151)
    have Ne165 : b123 ≠ q_o_161 := Nat.ne_of_lt (Nat.lt_of_lt_of_le Fq166.lt sz161_q_o)
    have Ne167 : b151 ≠ q_o_161 := Nat.ne_of_lt (Nat.lt_of_lt_of_le A151.lt sz161_q_o)
    have Ge168 : n0 ≤ q_o_161 := Nat.le_trans Zs158 sz161_q_o
    have Sz169 : h0.size ≤ q_o_161 := Nat.le_trans Kc157.1 sz161_q_o
    have Kc170 : Keep h0 T161.heap [] := Kc157.trans K161 (allS (Or.inr Sz156) all0)
    have Zs171 : n0 ≤ T161.heap.size := Nat.le_trans Zs158 K161.1
    have Fq178 : Exa Z T161.heap b123 "fieldstone/ByteReader" := (Fq166.keep K161)
    have Fq179 : Fld Z T161.heap b123 "fieldstone/ByteReader" "bytes" "[B" (.ref b7) := ((Pf140_1.ext E151).keep K161 (ninS Ne154 nin0))
    have Fq180 : Fld Z T161.heap b123 "fieldstone/ByteReader" "pos" "I" (.int (0 : Int32)) := ((Pf140_2.ext E151).keep K161 (ninS Ne154 nin0))
    have Fq181 : Fld Z T161.heap b123 "fieldstone/ByteReader" "limit" "I" (.int (17 : Int32)) := ((Pf140_3.ext E151).keep K161 (ninS Ne154 nin0))
    have Fq182 : Arv Z T161.heap b7 k7 .byte (17 : Int32) [(.int (nar .byte ((p0 &&& (31 : Int32)).toInt8.toInt32))), (.int (nar .byte ((((p4 &&& (2147483647 : Int32)) &&& (127 : Int32)) ||| (128 : Int32)).toInt8.toInt32))), (.int (nar .byte ((((((p4 &&& (2147483647 : Int32)).toUInt32 >>> ((7 : Int32) &&& 31).toUInt32).toInt32) &&& (127 : Int32)) ||| (128 : Int32)).toInt8.toInt32))), (.int (nar .byte ((((((p4 &&& (2147483647 : Int32)).toUInt32 >>> ((14 : Int32) &&& 31).toUInt32).toInt32) &&& (127 : Int32)) ||| (128 : Int32)).toInt8.toInt32))), (.int (nar .byte ((((((p4 &&& (2147483647 : Int32)).toUInt32 >>> ((21 : Int32) &&& 31).toUInt32).toInt32) &&& (127 : Int32)) ||| (128 : Int32)).toInt8.toInt32))), (.int (nar .byte ((((p4 &&& (2147483647 : Int32)).toUInt32 >>> ((28 : Int32) &&& 31).toUInt32).toInt32).toInt8.toInt32))), (.int (0 : Int32)), (.int (0 : Int32)), (.int (0 : Int32)), (.int (0 : Int32)), (.int (0 : Int32)), (.int (0 : Int32)), (.int (0 : Int32)), (.int (0 : Int32)), (.int (0 : Int32)), (.int (0 : Int32)), (.int (0 : Int32))] (.int (0 : Int32)) := (((((Vm107.ext E123).ext E136).keep K140 (ninS Ne124 nin0)).ext E151).keep K161 (ninS Ne152 nin0))
    obtain ⟨cq177, kq177, q177a, q177b, q177c⟩ := isOf hZ rfl Fq178
    obtain ⟨_, _, ⟨T177, L177, k177, n177⟩, -, X177, ⟨Lc177, hQ177, l177, y177, z177⟩, st177⟩ := X161.virtualBack hx (y := (⟨"fieldstone/ByteReader", "holdPackedInts", "(ILfieldstone/ByteReader$PackedInts;)V"⟩ : MethodName)) (z := (⟨"fieldstone/ByteReader", "holdPackedInts", "(ILfieldstone/ByteReader$PackedInts;)V"⟩ : MethodName)) hown (mvT hZ (hw _ (List.mem_of_getElem? (i := 40) rfl))) (mvT hZ (hw _ (List.mem_of_getElem? (i := 41) rfl))) (notFace_of_selects (args := #[]) (mvT hZ (hw _ (List.mem_of_getElem? (i := 43) rfl)))) (mvT hZ (hw _ (List.mem_of_getElem? (i := 43) rfl))) (mvT hZ (hw _ (List.mem_of_getElem? (i := 42) rfl))) (by decide) (backOf (W := 0) (own_hp0 l Z a0 hw [] b123 b7 k7 (2147483647 : Int32) b151 (nar .byte ((p0 &&& (31 : Int32)).toInt8.toInt32)) (nar .byte ((((p4 &&& (2147483647 : Int32)) &&& (127 : Int32)) ||| (128 : Int32)).toInt8.toInt32)) (nar .byte ((((((p4 &&& (2147483647 : Int32)).toUInt32 >>> ((7 : Int32) &&& 31).toUInt32).toInt32) &&& (127 : Int32)) ||| (128 : Int32)).toInt8.toInt32)) (nar .byte ((((((p4 &&& (2147483647 : Int32)).toUInt32 >>> ((14 : Int32) &&& 31).toUInt32).toInt32) &&& (127 : Int32)) ||| (128 : Int32)).toInt8.toInt32)) (nar .byte ((((((p4 &&& (2147483647 : Int32)).toUInt32 >>> ((21 : Int32) &&& 31).toUInt32).toInt32) &&& (127 : Int32)) ||| (128 : Int32)).toInt8.toInt32)) (nar .byte ((((p4 &&& (2147483647 : Int32)).toUInt32 >>> ((28 : Int32) &&& 31).toUInt32).toInt32).toInt8.toInt32)) (.int (0 : Int32)) (.int (0 : Int32)) (.int (0 : Int32)) (.int (0 : Int32)) (.int (0 : Int32)) (.int (0 : Int32)) (.int (0 : Int32)) (.int (0 : Int32)) (.int (0 : Int32)) (.int (0 : Int32)) (.int (0 : Int32)) T161.heap n0 Zs171 Fq178 Fq179 Fq180 Fq181 Fq182 Pf161_0 Pf161_2 Pf161_3 Ge126 Ne124 Ge155 (Ne.symm Ne154) (own_v1 p0).1 (own_v5 p4).1 (own_v5 p4).2.1 (own_v5 p4).2.2.1 (own_v5 p4).2.2.2.1 (own_v5 p4).2.2.2.2.1 (own_v1 p0).2.1 (own_v1 p0).2.2.1 ((own_v1 p0).2.2.2.trans hc21_27) (own_v5 p4).2.2.2.2.2.1 (own_v5 p4).2.2.2.2.2.2.1) hZ (hw _ (List.mem_of_getElem? (i := 44) rfl)) (hw _ (List.mem_of_getElem? (i := 4) rfl)) (by decide) (by decide)) q177a q177c (g := (mkF m 205 #[.val (.int p0), .val (.int p1), .val (.long q2), .second, .val (.long q3), .second, .val (.int p4), .val (.int (p0 &&& (31 : Int32))), .val (.ref b7), .val (.int (2147483647 : Int32)), .val (.int ((p1 &&& (2147483647 : Int32)) % (2147483647 : Int32))), .val (.int (p4 &&& (2147483647 : Int32))), .val (.ref b123), .val (.ref b151)] [(.ref b151), (.int (2147483647 : Int32)), (.ref b123)])) rfl (by rw [hml]; rfl) (Steps.refl _) (argsL := [(.int (2147483647 : Int32)), (.ref b151)]) (rest := []) (lenOf own_pd9 rfl) rfl (by show 2 * 0 + _ ≤ _; exact Nat.le_of_eq rfl) (hb hby at_205) (fun _ _ => ⟨rfl, rfl, (by decide : 6 + 0 ≤ _), (by decide : 32 + 0 ≤ _)⟩)
    dsimp only [Pt.U, Pt.locs, Pt.cells, Pt.slots] at X177 l177 y177 z177 st177 hQ177
    rw [l177, y177, z177] at X177
    obtain ⟨rfl, Nq177, K177, Pf177_0, Pf177_1, Pf177_2⟩ := hQ177
    have N183 := Fr.app N162 Nq177
    have Kc184 : Keep h0 T177.heap [] := Kc170.trans K177 (allS (Or.inr Sz127) (allS (Or.inr Sz156) all0))
    have Zs185 : n0 ≤ T177.heap.size := Nat.le_trans Zs171 K177.1
    obtain ⟨cq189, kq189, q189a, q189b, q189c⟩ := isOf hZ rfl Pf177_0
    obtain ⟨_, _, ⟨T189, L189, k189, n189⟩, -, X189, ⟨Lc189, hQ189, l189, y189, z189⟩, st189⟩ := X177.virtualBack hx (y := (⟨"fieldstone/ByteReader$PackedInts", "get", "(I)I"⟩ : MethodName)) (z := (⟨"fieldstone/ByteReader$PackedInts", "get", "(I)I"⟩ : MethodName)) hown (mvT hZ (hw _ (List.mem_of_getElem? (i := 64) rfl))) (mvT hZ (hw _ (List.mem_of_getElem? (i := 65) rfl))) (notFace_of_selects (args := #[]) (mvT hZ (hw _ (List.mem_of_getElem? (i := 67) rfl)))) (mvT hZ (hw _ (List.mem_of_getElem? (i := 67) rfl))) (mvT hZ (hw _ (List.mem_of_getElem? (i := 66) rfl))) (by decide) (backOf (W := 0) (own_g0 l Z a0 hw [] b151 ((p1 &&& (2147483647 : Int32)) % (2147483647 : Int32)) ((own_vl5 (nar .byte ((((p4 &&& (2147483647 : Int32)) &&& (127 : Int32)) ||| (128 : Int32)).toInt8.toInt32)) (nar .byte ((((((p4 &&& (2147483647 : Int32)).toUInt32 >>> ((7 : Int32) &&& 31).toUInt32).toInt32) &&& (127 : Int32)) ||| (128 : Int32)).toInt8.toInt32)) (nar .byte ((((((p4 &&& (2147483647 : Int32)).toUInt32 >>> ((14 : Int32) &&& 31).toUInt32).toInt32) &&& (127 : Int32)) ||| (128 : Int32)).toInt8.toInt32)) (nar .byte ((((((p4 &&& (2147483647 : Int32)).toUInt32 >>> ((21 : Int32) &&& 31).toUInt32).toInt32) &&& (127 : Int32)) ||| (128 : Int32)).toInt8.toInt32)) (nar .byte ((((p4 &&& (2147483647 : Int32)).toUInt32 >>> ((28 : Int32) &&& 31).toUInt32).toInt32).toInt8.toInt32))).toInt32) T177.heap n0 Zs185 Pf177_1 Pf177_2) hZ (hw _ (List.mem_of_getElem? (i := 68) rfl)) (hw _ (List.mem_of_getElem? (i := 33) rfl)) (by decide) (by decide)) q189a q189c (g := (mkF m 212 #[.val (.int p0), .val (.int p1), .val (.long q2), .second, .val (.long q3), .second, .val (.int p4), .val (.int (p0 &&& (31 : Int32))), .val (.ref b7), .val (.int (2147483647 : Int32)), .val (.int ((p1 &&& (2147483647 : Int32)) % (2147483647 : Int32))), .val (.int (p4 &&& (2147483647 : Int32))), .val (.ref b123), .val (.ref b151)] [(.int ((p1 &&& (2147483647 : Int32)) % (2147483647 : Int32))), (.ref b151)])) rfl (by rw [hml]; rfl) (Steps.refl _) (argsL := [(.int ((p1 &&& (2147483647 : Int32)) % (2147483647 : Int32)))]) (rest := []) (lenOf own_pd2 rfl) rfl (by show 2 * 0 + _ ≤ _; exact Nat.le_of_eq rfl) (hb hby at_212) (fun _ _ => ⟨rfl, rfl, (by decide : 6 + 0 ≤ _), (by decide : 32 + 0 ≤ _)⟩)
    dsimp only [Pt.U, Pt.locs, Pt.cells, Pt.slots] at X189 l189 y189 z189 st189 hQ189
    rw [l189, y189, z189] at X189
    obtain ⟨rfl, Nq189, eh189⟩ := hQ189
    have N190 := Fr.app N183 Nq189
    obtain ⟨fs, hr, hrun, hended, hR1, hR2, hR3, hR4⟩ := leaveW (s := s) (vm₁ := T136.vm) X189 Si136 (show _ ≤ T189.heap.size by rw [eh189]; exact (Nat.le_trans (Nat.le_trans (Nat.le_trans (Nat.le_trans Sk136 K140.1) E151.1) K161.1) K177.1)) (v := some (.int (1 : Int32))) (fun h => by rw [Bd.returns] at h; cases h) (hlocks := BodyLoose.notSynchronized Bd)
    refine ⟨_, _, pre135 _ ?_, hrun, hended, _, _, rfl, ?_, hR1, hR2, hR3, hR4.mono (by decide) (by decide)⟩
    · refine st136 _ ?_
      show Steps p.tables e below (T136.setTop (mkF m 185 #[.val (.int p0), .val (.int p1), .val (.long q2), .second, .val (.long q3), .second, .val (.int p4), .val (.int (p0 &&& (31 : Int32))), .val (.ref b7), .val (.int (2147483647 : Int32)), .val (.int ((p1 &&& (2147483647 : Int32)) % (2147483647 : Int32))), .val (.int (p4 &&& (2147483647 : Int32))), .val (.int (p4 &&& (2147483647 : Int32))), .unset] [(.ref b136), (.int (17 : Int32)), (.int (0 : Int32)), (.ref b7), (.ref b123), (.ref b123)])) _
      refine st140.trans ?_
      show Steps p.tables e below (T140.setTop (mkF m 188 #[.val (.int p0), .val (.int p1), .val (.long q2), .second, .val (.long q3), .second, .val (.int p4), .val (.int (p0 &&& (31 : Int32))), .val (.ref b7), .val (.int (2147483647 : Int32)), .val (.int ((p1 &&& (2147483647 : Int32)) % (2147483647 : Int32))), .val (.int (p4 &&& (2147483647 : Int32))), .val (.int (p4 &&& (2147483647 : Int32))), .unset] [(.ref b123)])) _
      refine XS.astore X140.here hx rfl (hb hby at_188) rfl rfl (l' := #[.val (.int p0), .val (.int p1), .val (.long q2), .second, .val (.long q3), .second, .val (.int p4), .val (.int (p0 &&& (31 : Int32))), .val (.ref b7), .val (.int (2147483647 : Int32)), .val (.int ((p1 &&& (2147483647 : Int32)) % (2147483647 : Int32))), .val (.int (p4 &&& (2147483647 : Int32))), .val (.ref b123), .unset]) rfl ?_
      show Steps p.tables e below (T140.setTop (mkF m 190 #[.val (.int p0), .val (.int p1), .val (.long q2), .second, .val (.long q3), .second, .val (.int p4), .val (.int (p0 &&& (31 : Int32))), .val (.ref b7), .val (.int (2147483647 : Int32)), .val (.int ((p1 &&& (2147483647 : Int32)) % (2147483647 : Int32))), .val (.int (p4 &&& (2147483647 : Int32))), .val (.ref b123), .unset] [])) _
      refine st151 _ ?_
      show Steps p.tables e below (T151.setTop (mkF m 193 #[.val (.int p0), .val (.int p1), .val (.long q2), .second, .val (.long q3), .second, .val (.int p4), .val (.int (p0 &&& (31 : Int32))), .val (.ref b7), .val (.int (2147483647 : Int32)), .val (.int ((p1 &&& (2147483647 : Int32)) % (2147483647 : Int32))), .val (.int (p4 &&& (2147483647 : Int32))), .val (.ref b123), .unset] [(.ref b151)])) _
      refine XS.dup X151.here hx rfl (hb hby at_193) rfl rfl ?_
      show Steps p.tables e below (T151.setTop (mkF m 194 #[.val (.int p0), .val (.int p1), .val (.long q2), .second, .val (.long q3), .second, .val (.int p4), .val (.int (p0 &&& (31 : Int32))), .val (.ref b7), .val (.int (2147483647 : Int32)), .val (.int ((p1 &&& (2147483647 : Int32)) % (2147483647 : Int32))), .val (.int (p4 &&& (2147483647 : Int32))), .val (.ref b123), .unset] [(.ref b151), (.ref b151)])) _
      refine st161.trans ?_
      show Steps p.tables e below (T161.setTop (mkF m 197 #[.val (.int p0), .val (.int p1), .val (.long q2), .second, .val (.long q3), .second, .val (.int p4), .val (.int (p0 &&& (31 : Int32))), .val (.ref b7), .val (.int (2147483647 : Int32)), .val (.int ((p1 &&& (2147483647 : Int32)) % (2147483647 : Int32))), .val (.int (p4 &&& (2147483647 : Int32))), .val (.ref b123), .unset] [(.ref b151)])) _
      refine XS.astore X161.here hx rfl (hb hby at_197) rfl rfl (l' := #[.val (.int p0), .val (.int p1), .val (.long q2), .second, .val (.long q3), .second, .val (.int p4), .val (.int (p0 &&& (31 : Int32))), .val (.ref b7), .val (.int (2147483647 : Int32)), .val (.int ((p1 &&& (2147483647 : Int32)) % (2147483647 : Int32))), .val (.int (p4 &&& (2147483647 : Int32))), .val (.ref b123), .val (.ref b151)]) rfl ?_
      show Steps p.tables e below (T161.setTop (mkF m 199 #[.val (.int p0), .val (.int p1), .val (.long q2), .second, .val (.long q3), .second, .val (.int p4), .val (.int (p0 &&& (31 : Int32))), .val (.ref b7), .val (.int (2147483647 : Int32)), .val (.int ((p1 &&& (2147483647 : Int32)) % (2147483647 : Int32))), .val (.int (p4 &&& (2147483647 : Int32))), .val (.ref b123), .val (.ref b151)] [])) _
      refine XS.aload X161.here hx rfl (hb hby at_199) rfl rfl ?_
      show Steps p.tables e below (T161.setTop (mkF m 201 #[.val (.int p0), .val (.int p1), .val (.long q2), .second, .val (.long q3), .second, .val (.int p4), .val (.int (p0 &&& (31 : Int32))), .val (.ref b7), .val (.int (2147483647 : Int32)), .val (.int ((p1 &&& (2147483647 : Int32)) % (2147483647 : Int32))), .val (.int (p4 &&& (2147483647 : Int32))), .val (.ref b123), .val (.ref b151)] [(.ref b123)])) _
      refine XS.iload X161.here hx rfl (hb hby at_201) rfl ?_
      show Steps p.tables e below (T161.setTop (mkF m 203 #[.val (.int p0), .val (.int p1), .val (.long q2), .second, .val (.long q3), .second, .val (.int p4), .val (.int (p0 &&& (31 : Int32))), .val (.ref b7), .val (.int (2147483647 : Int32)), .val (.int ((p1 &&& (2147483647 : Int32)) % (2147483647 : Int32))), .val (.int (p4 &&& (2147483647 : Int32))), .val (.ref b123), .val (.ref b151)] [(.int (2147483647 : Int32)), (.ref b123)])) _
      refine XS.aload X161.here hx rfl (hb hby at_203) rfl rfl ?_
      show Steps p.tables e below (T161.setTop (mkF m 205 #[.val (.int p0), .val (.int p1), .val (.long q2), .second, .val (.long q3), .second, .val (.int p4), .val (.int (p0 &&& (31 : Int32))), .val (.ref b7), .val (.int (2147483647 : Int32)), .val (.int ((p1 &&& (2147483647 : Int32)) % (2147483647 : Int32))), .val (.int (p4 &&& (2147483647 : Int32))), .val (.ref b123), .val (.ref b151)] [(.ref b151), (.int (2147483647 : Int32)), (.ref b123)])) _
      refine st177.trans ?_
      show Steps p.tables e below (T177.setTop (mkF m 208 #[.val (.int p0), .val (.int p1), .val (.long q2), .second, .val (.long q3), .second, .val (.int p4), .val (.int (p0 &&& (31 : Int32))), .val (.ref b7), .val (.int (2147483647 : Int32)), .val (.int ((p1 &&& (2147483647 : Int32)) % (2147483647 : Int32))), .val (.int (p4 &&& (2147483647 : Int32))), .val (.ref b123), .val (.ref b151)] [])) _
      refine XS.aload X177.here hx rfl (hb hby at_208) rfl rfl ?_
      show Steps p.tables e below (T177.setTop (mkF m 210 #[.val (.int p0), .val (.int p1), .val (.long q2), .second, .val (.long q3), .second, .val (.int p4), .val (.int (p0 &&& (31 : Int32))), .val (.ref b7), .val (.int (2147483647 : Int32)), .val (.int ((p1 &&& (2147483647 : Int32)) % (2147483647 : Int32))), .val (.int (p4 &&& (2147483647 : Int32))), .val (.ref b123), .val (.ref b151)] [(.ref b151)])) _
      refine XS.iload X177.here hx rfl (hb hby at_210) rfl ?_
      show Steps p.tables e below (T177.setTop (mkF m 212 #[.val (.int p0), .val (.int p1), .val (.long q2), .second, .val (.long q3), .second, .val (.int p4), .val (.int (p0 &&& (31 : Int32))), .val (.ref b7), .val (.int (2147483647 : Int32)), .val (.int ((p1 &&& (2147483647 : Int32)) % (2147483647 : Int32))), .val (.int (p4 &&& (2147483647 : Int32))), .val (.ref b123), .val (.ref b151)] [(.int ((p1 &&& (2147483647 : Int32)) % (2147483647 : Int32))), (.ref b151)])) _
      refine st189.trans ?_
      show Steps p.tables e below (T189.setTop (mkF m 215 #[.val (.int p0), .val (.int p1), .val (.long q2), .second, .val (.long q3), .second, .val (.int p4), .val (.int (p0 &&& (31 : Int32))), .val (.ref b7), .val (.int (2147483647 : Int32)), .val (.int ((p1 &&& (2147483647 : Int32)) % (2147483647 : Int32))), .val (.int (p4 &&& (2147483647 : Int32))), .val (.ref b123), .val (.ref b151)] [(.int ((own_vl5 (nar .byte ((((p4 &&& (2147483647 : Int32)) &&& (127 : Int32)) ||| (128 : Int32)).toInt8.toInt32)) (nar .byte ((((((p4 &&& (2147483647 : Int32)).toUInt32 >>> ((7 : Int32) &&& 31).toUInt32).toInt32) &&& (127 : Int32)) ||| (128 : Int32)).toInt8.toInt32)) (nar .byte ((((((p4 &&& (2147483647 : Int32)).toUInt32 >>> ((14 : Int32) &&& 31).toUInt32).toInt32) &&& (127 : Int32)) ||| (128 : Int32)).toInt8.toInt32)) (nar .byte ((((((p4 &&& (2147483647 : Int32)).toUInt32 >>> ((21 : Int32) &&& 31).toUInt32).toInt32) &&& (127 : Int32)) ||| (128 : Int32)).toInt8.toInt32)) (nar .byte ((((p4 &&& (2147483647 : Int32)).toUInt32 >>> ((28 : Int32) &&& 31).toUInt32).toInt32).toInt8.toInt32))).toInt32))])) _
      refine XS.iload X189.here hx rfl (hb hby at_215) rfl ?_
      show Steps p.tables e below (T189.setTop (mkF m 217 #[.val (.int p0), .val (.int p1), .val (.long q2), .second, .val (.long q3), .second, .val (.int p4), .val (.int (p0 &&& (31 : Int32))), .val (.ref b7), .val (.int (2147483647 : Int32)), .val (.int ((p1 &&& (2147483647 : Int32)) % (2147483647 : Int32))), .val (.int (p4 &&& (2147483647 : Int32))), .val (.ref b123), .val (.ref b151)] [(.int (p4 &&& (2147483647 : Int32))), (.int ((own_vl5 (nar .byte ((((p4 &&& (2147483647 : Int32)) &&& (127 : Int32)) ||| (128 : Int32)).toInt8.toInt32)) (nar .byte ((((((p4 &&& (2147483647 : Int32)).toUInt32 >>> ((7 : Int32) &&& 31).toUInt32).toInt32) &&& (127 : Int32)) ||| (128 : Int32)).toInt8.toInt32)) (nar .byte ((((((p4 &&& (2147483647 : Int32)).toUInt32 >>> ((14 : Int32) &&& 31).toUInt32).toInt32) &&& (127 : Int32)) ||| (128 : Int32)).toInt8.toInt32)) (nar .byte ((((((p4 &&& (2147483647 : Int32)).toUInt32 >>> ((21 : Int32) &&& 31).toUInt32).toInt32) &&& (127 : Int32)) ||| (128 : Int32)).toInt8.toInt32)) (nar .byte ((((p4 &&& (2147483647 : Int32)).toUInt32 >>> ((28 : Int32) &&& 31).toUInt32).toInt32).toInt8.toInt32))).toInt32))])) _
      refine XS.icmpNo X189.here hx rfl (hb hby at_217) rfl (teq ((own_v5 p4).2.2.2.2.2.2.2 : ((own_vl5 (nar .byte ((((p4 &&& (2147483647 : Int32)) &&& (127 : Int32)) ||| (128 : Int32)).toInt8.toInt32)) (nar .byte ((((((p4 &&& (2147483647 : Int32)).toUInt32 >>> ((7 : Int32) &&& 31).toUInt32).toInt32) &&& (127 : Int32)) ||| (128 : Int32)).toInt8.toInt32)) (nar .byte ((((((p4 &&& (2147483647 : Int32)).toUInt32 >>> ((14 : Int32) &&& 31).toUInt32).toInt32) &&& (127 : Int32)) ||| (128 : Int32)).toInt8.toInt32)) (nar .byte ((((((p4 &&& (2147483647 : Int32)).toUInt32 >>> ((21 : Int32) &&& 31).toUInt32).toInt32) &&& (127 : Int32)) ||| (128 : Int32)).toInt8.toInt32)) (nar .byte ((((p4 &&& (2147483647 : Int32)).toUInt32 >>> ((28 : Int32) &&& 31).toUInt32).toInt32).toInt8.toInt32))).toInt32) = (p4 &&& (2147483647 : Int32)))).2 ?_
      show Steps p.tables e below (T189.setTop (mkF m 220 #[.val (.int p0), .val (.int p1), .val (.long q2), .second, .val (.long q3), .second, .val (.int p4), .val (.int (p0 &&& (31 : Int32))), .val (.ref b7), .val (.int (2147483647 : Int32)), .val (.int ((p1 &&& (2147483647 : Int32)) % (2147483647 : Int32))), .val (.int (p4 &&& (2147483647 : Int32))), .val (.ref b123), .val (.ref b151)] [])) _
      refine XS.iconst X189.here hx rfl (hb hby at_220) ?_
      show Steps p.tables e below (T189.setTop (mkF m 221 #[.val (.int p0), .val (.int p1), .val (.long q2), .second, .val (.long q3), .second, .val (.int p4), .val (.int (p0 &&& (31 : Int32))), .val (.ref b7), .val (.int (2147483647 : Int32)), .val (.int ((p1 &&& (2147483647 : Int32)) % (2147483647 : Int32))), .val (.int (p4 &&& (2147483647 : Int32))), .val (.ref b123), .val (.ref b151)] [(.int (1 : Int32))])) _
      refine XS.goto X189.here hx rfl (pc0 := 221) (pc' := 225) rfl (hb hby at_221) (by decide) (by decide) ?_
      show Steps p.tables e below (T189.setTop (mkF m 225 #[.val (.int p0), .val (.int p1), .val (.long q2), .second, .val (.long q3), .second, .val (.int p4), .val (.int (p0 &&& (31 : Int32))), .val (.ref b7), .val (.int (2147483647 : Int32)), .val (.int ((p1 &&& (2147483647 : Int32)) % (2147483647 : Int32))), .val (.int (p4 &&& (2147483647 : Int32))), .val (.ref b123), .val (.ref b151)] [(.int (1 : Int32))])) _
      exact retN X189 hx (t := .boolean) Bd.returns (by simp) (hb hby at_225) hr
    · show Qown_law Z p0 p1 q2 q3 p4 h0 n0 _ T189.heap _
      rw [eh189]
      exact ⟨rfl, N190⟩
  · obtain ⟨_, _, ⟨T200, L200, k200, n200⟩, -, X200, ⟨Lc200, hQ200, l200, y200, z200⟩, st200⟩ := Jvm.LawKit.callS X19 hx (y := (⟨"fieldstone/PackedIntsGetPinLaw", "putLong", "([BIJ)V"⟩ : MethodName)) hown (mvT hZ (hw _ (List.mem_of_getElem? (i := 69) rfl))) (mvT hZ (hw _ (List.mem_of_getElem? (i := 70) rfl))) (mvT hZ (hw _ (List.mem_of_getElem? (i := 71) rfl))) (mvT hZ (hw _ (List.mem_of_getElem? (i := 72) rfl))) (by decide) (backOf (W := 0) (own_pl1 l Z a0 hw [] b7 q2 k7 (.int (nar .byte ((p0 &&& (31 : Int32)).toInt8.toInt32))) (.int (0 : Int32)) (.int (0 : Int32)) (.int (0 : Int32)) (.int (0 : Int32)) (.int (0 : Int32)) (.int (0 : Int32)) (.int (0 : Int32)) (.int (0 : Int32)) (.int (0 : Int32)) (.int (0 : Int32)) (.int (0 : Int32)) (.int (0 : Int32)) (.int (0 : Int32)) (.int (0 : Int32)) (.int (0 : Int32)) (.int (0 : Int32)) h19 n0 Zs22 Vm20 Ge8) hZ (hw _ (List.mem_of_getElem? (i := 72) rfl)) (hw _ (List.mem_of_getElem? (i := 71) rfl)) (by decide) (by decide)) (g := (mkF m 130 #[.val (.int p0), .val (.int p1), .val (.long q2), .second, .val (.long q3), .second, .val (.int p4), .val (.int (p0 &&& (31 : Int32))), .val (.ref b7), .unset, .unset, .unset, .unset, .unset] [(.long q2), (.int (1 : Int32)), (.ref b7)])) rfl (by rw [hml]; rfl) (argsL := [(.ref b7), (.int (1 : Int32)), (.long q2)]) (rest := []) (lenOf own_pd10 rfl) rfl (by show 2 * 0 + _ ≤ _; exact Nat.le_of_eq rfl) (hb hby at_130) (fun _ _ => ⟨rfl, e19, (by decide : 1 + 0 ≤ _), (by decide : 17 + 0 ≤ _)⟩)
    dsimp only [Pt.U, Pt.locs, Pt.cells, Pt.slots] at X200 l200 y200 z200 st200 hQ200
    rw [l200, y200, z200] at X200
    obtain ⟨rfl, Nq200, K200, Pf200_0⟩ := hQ200
    have N201 := Fr.app N23 Nq200
    have Kc202 : Keep h0 T200.heap [] := Kc21.trans K200 (allS (Or.inr Sz9) all0)
    have Zs203 : n0 ≤ T200.heap.size := Nat.le_trans Zs22 K200.1
    obtain ⟨_, _, ⟨T208, L208, k208, n208⟩, -, X208, ⟨Lc208, hQ208, l208, y208, z208⟩, st208⟩ := Jvm.LawKit.callS X200 hx (y := (⟨"fieldstone/PackedIntsGetPinLaw", "putLong", "([BIJ)V"⟩ : MethodName)) hown (mvT hZ (hw _ (List.mem_of_getElem? (i := 69) rfl))) (mvT hZ (hw _ (List.mem_of_getElem? (i := 70) rfl))) (mvT hZ (hw _ (List.mem_of_getElem? (i := 71) rfl))) (mvT hZ (hw _ (List.mem_of_getElem? (i := 72) rfl))) (by decide) (backOf (W := 0) (own_pl9 l Z a0 hw [] b7 q3 k7 (.int (nar .byte ((p0 &&& (31 : Int32)).toInt8.toInt32))) (.int (own_by0 q2)) (.int (own_by1 q2)) (.int (own_by2 q2)) (.int (own_by3 q2)) (.int (own_by4 q2)) (.int (own_by5 q2)) (.int (own_by6 q2)) (.int (own_by7 q2)) (.int (0 : Int32)) (.int (0 : Int32)) (.int (0 : Int32)) (.int (0 : Int32)) (.int (0 : Int32)) (.int (0 : Int32)) (.int (0 : Int32)) (.int (0 : Int32)) T200.heap n0 Zs203 Pf200_0 Ge8) hZ (hw _ (List.mem_of_getElem? (i := 72) rfl)) (hw _ (List.mem_of_getElem? (i := 71) rfl)) (by decide) (by decide)) (g := (mkF m 139 #[.val (.int p0), .val (.int p1), .val (.long q2), .second, .val (.long q3), .second, .val (.int p4), .val (.int (p0 &&& (31 : Int32))), .val (.ref b7), .unset, .unset, .unset, .unset, .unset] [(.long q3), (.int (9 : Int32)), (.ref b7)])) rfl (by rw [hml]; rfl) (argsL := [(.ref b7), (.int (9 : Int32)), (.long q3)]) (rest := []) (lenOf own_pd10 rfl) rfl (by show 2 * 0 + _ ≤ _; exact Nat.le_of_eq rfl) (hb hby at_139) (fun _ _ => ⟨rfl, rfl, (by decide : 1 + 0 ≤ _), (by decide : 17 + 0 ≤ _)⟩)
    dsimp only [Pt.U, Pt.locs, Pt.cells, Pt.slots] at X208 l208 y208 z208 st208 hQ208
    rw [l208, y208, z208] at X208
    obtain ⟨rfl, Nq208, K208, Pf208_0⟩ := hQ208
    have N209 := Fr.app N201 Nq208
    have Kc210 : Keep h0 T208.heap [] := Kc202.trans K208 (allS (Or.inr Sz9) all0)
    have Zs211 : n0 ≤ T208.heap.size := Nat.le_trans Zs203 K208.1
    obtain ⟨_, _, ⟨T229, L229, k229, n229⟩, -, X229, ⟨Lc229, hQ229, l229, y229, z229⟩, st229⟩ := Jvm.LawKit.callS X208 hx (y := (⟨"fieldstone/PackedIntsGetPinLaw", "extract", "(JJII)I"⟩ : MethodName)) hown (mvT hZ (hw _ (List.mem_of_getElem? (i := 73) rfl))) (mvT hZ (hw _ (List.mem_of_getElem? (i := 74) rfl))) (mvT hZ (hw _ (List.mem_of_getElem? (i := 71) rfl))) (mvT hZ (hw _ (List.mem_of_getElem? (i := 75) rfl))) (by decide) (backOf (W := 0) (own_ext l Z a0 hw [] q2 q3 (((p1 &&& (2147483647 : Int32)) % ((128 : Int32) / (p0 &&& (31 : Int32)))) * (p0 &&& (31 : Int32))) (p0 &&& (31 : Int32)) T208.heap n0 Zs211 ) hZ (hw _ (List.mem_of_getElem? (i := 75) rfl)) (hw _ (List.mem_of_getElem? (i := 71) rfl)) (by decide) (by decide)) (g := (mkF m 169 #[.val (.int p0), .val (.int p1), .val (.long q2), .second, .val (.long q3), .second, .val (.int p4), .val (.int (p0 &&& (31 : Int32))), .val (.ref b7), .val (.int ((128 : Int32) / (p0 &&& (31 : Int32)))), .val (.int ((p1 &&& (2147483647 : Int32)) % ((128 : Int32) / (p0 &&& (31 : Int32))))), .unset, .unset, .unset] [(.int (p0 &&& (31 : Int32))), (.int (((p1 &&& (2147483647 : Int32)) % ((128 : Int32) / (p0 &&& (31 : Int32)))) * (p0 &&& (31 : Int32)))), (.long q3), (.long q2)])) rfl (by rw [hml]; rfl) (argsL := [(.long q2), (.long q3), (.int (((p1 &&& (2147483647 : Int32)) % ((128 : Int32) / (p0 &&& (31 : Int32)))) * (p0 &&& (31 : Int32)))), (.int (p0 &&& (31 : Int32)))]) (rest := []) (lenOf own_pd11 rfl) rfl (by show 2 * 0 + _ ≤ _; exact Nat.le_of_eq rfl) (hb hby at_169) (fun _ _ => ⟨rfl, rfl, (by decide : 1 + 0 ≤ _), (by decide : 17 + 0 ≤ _)⟩)
    dsimp only [Pt.U, Pt.locs, Pt.cells, Pt.slots] at X229 l229 y229 z229 st229 hQ229
    rw [l229, y229, z229] at X229
    obtain ⟨rfl, Nq229, eh229⟩ := hQ229
    have N230 := Fr.app N209 Nq229
    obtain ⟨T233, h233, X233, e233, E233, A233, D233, -, st233⟩ := newO X229 hx hZ hown (hw _ (List.mem_of_getElem? (i := 2) rfl)) (hw _ (List.mem_of_getElem? (i := 3) rfl)) (hw _ (List.mem_of_getElem? (i := 4) rfl)) eh229 (g := (mkF m 174 #[.val (.int p0), .val (.int p1), .val (.long q2), .second, .val (.long q3), .second, .val (.int p4), .val (.int (p0 &&& (31 : Int32))), .val (.ref b7), .val (.int ((128 : Int32) / (p0 &&& (31 : Int32)))), .val (.int ((p1 &&& (2147483647 : Int32)) % ((128 : Int32) / (p0 &&& (31 : Int32))))), .val (.int (own_ext_f q2 q3 (((p1 &&& (2147483647 : Int32)) % ((128 : Int32) / (p0 &&& (31 : Int32)))) * (p0 &&& (31 : Int32))) (p0 &&& (31 : Int32)))), .unset, .unset] [])) rfl (hb hby at_174) (by decide) (by decide)
    obtain ⟨b233, g233⟩ : ∃ z, z = T208.heap.size := ⟨_, rfl⟩
    rw [← g233] at A233 D233 st233
    have Fq235 : Exa Z T208.heap b7 "[B" := (((Y7.wr W19).keep K200).keep K208)
    have Ne234 : b7 ≠ b233 := Nat.ne_of_lt (Nat.lt_of_lt_of_le Fq235.lt (Nat.le_of_eq g233.symm))
    have Ge236 : n0 ≤ b233 := Nat.le_trans Zs211 (Nat.le_of_eq g233.symm)
    have Sz237 : h0.size ≤ b233 := Nat.le_trans Kc210.1 (Nat.le_of_eq g233.symm)
    have Kc238 : Keep h0 h233 [] := Kc210.ext E233
    have Zs239 : n0 ≤ h233.size := (Nat.le_trans Zs211 E233.1)
    have F233_bytes : Fld Z h233 b233 "fieldstone/ByteReader" "bytes" "[B" .null := D233 (Or.inl (hw _ (List.mem_of_getElem? (i := 24) rfl))) (ty := (.array .byte)) (by decide)
    have F233_pos : Fld Z h233 b233 "fieldstone/ByteReader" "pos" "I" (.int (0 : Int32)) := D233 (Or.inl (hw _ (List.mem_of_getElem? (i := 26) rfl))) (ty := .int) (by decide)
    have F233_limit : Fld Z h233 b233 "fieldstone/ByteReader" "limit" "I" (.int (0 : Int32)) := D233 (Or.inl (hw _ (List.mem_of_getElem? (i := 28) rfl))) (ty := .int) (by decide)
    have F233_file : Fld Z h233 b233 "fieldstone/ByteReader" "file" "Ljava/lang/String;" .null := D233 (Or.inl (hw _ (List.mem_of_getElem? (i := 30) rfl))) (ty := (.object "java/lang/String")) (by decide)
    have pre245 : ∀ t, Steps p.tables e below (T233.setTop (mkF m 183 #[.val (.int p0), .val (.int p1), .val (.long q2), .second, .val (.long q3), .second, .val (.int p4), .val (.int (p0 &&& (31 : Int32))), .val (.ref b7), .val (.int ((128 : Int32) / (p0 &&& (31 : Int32)))), .val (.int ((p1 &&& (2147483647 : Int32)) % ((128 : Int32) / (p0 &&& (31 : Int32))))), .val (.int (own_ext_f q2 q3 (((p1 &&& (2147483647 : Int32)) % ((128 : Int32) / (p0 &&& (31 : Int32)))) * (p0 &&& (31 : Int32))) (p0 &&& (31 : Int32)))), .unset, .unset] [(.int (17 : Int32)), (.int (0 : Int32)), (.ref b7), (.ref b233), (.ref b233)])) t → Steps p.tables e below (s₁.setTop (entryFrame m #[(.int p0), (.int p1), (.long q2), (.long q3), (.int p4)] maxLocals)) t := by
      intro t kt
      refine pre26 _ ?_
      show Steps p.tables e below (T19.setTop (mkF m 21 #[.val (.int p0), .val (.int p1), .val (.long q2), .second, .val (.long q3), .second, .val (.int p4), .val (.int (p0 &&& (31 : Int32))), .val (.ref b7), .unset, .unset, .unset, .unset, .unset] [(.int (p0 &&& (31 : Int32)))])) _
      refine XS.ifYes X19.here hx rfl (pc0 := 21) (pc' := 126) rfl (hb hby at_21) rfl ((if0 _ _).trans (feq hc21_27).2) (by decide) (by decide) ?_
      show Steps p.tables e below (T19.setTop (mkF m 126 #[.val (.int p0), .val (.int p1), .val (.long q2), .second, .val (.long q3), .second, .val (.int p4), .val (.int (p0 &&& (31 : Int32))), .val (.ref b7), .unset, .unset, .unset, .unset, .unset] [])) _
      refine XS.aload X19.here hx rfl (hb hby at_126) rfl rfl ?_
      show Steps p.tables e below (T19.setTop (mkF m 128 #[.val (.int p0), .val (.int p1), .val (.long q2), .second, .val (.long q3), .second, .val (.int p4), .val (.int (p0 &&& (31 : Int32))), .val (.ref b7), .unset, .unset, .unset, .unset, .unset] [(.ref b7)])) _
      refine XS.iconst X19.here hx rfl (hb hby at_128) ?_
      show Steps p.tables e below (T19.setTop (mkF m 129 #[.val (.int p0), .val (.int p1), .val (.long q2), .second, .val (.long q3), .second, .val (.int p4), .val (.int (p0 &&& (31 : Int32))), .val (.ref b7), .unset, .unset, .unset, .unset, .unset] [(.int (1 : Int32)), (.ref b7)])) _
      refine XS.lloadN X19.here hx rfl (hb hby at_129) rfl ?_
      show Steps p.tables e below (T19.setTop (mkF m 130 #[.val (.int p0), .val (.int p1), .val (.long q2), .second, .val (.long q3), .second, .val (.int p4), .val (.int (p0 &&& (31 : Int32))), .val (.ref b7), .unset, .unset, .unset, .unset, .unset] [(.long q2), (.int (1 : Int32)), (.ref b7)])) _
      refine st200 _ ?_
      show Steps p.tables e below (T200.setTop (mkF m 133 #[.val (.int p0), .val (.int p1), .val (.long q2), .second, .val (.long q3), .second, .val (.int p4), .val (.int (p0 &&& (31 : Int32))), .val (.ref b7), .unset, .unset, .unset, .unset, .unset] [])) _
      refine XS.aload X200.here hx rfl (hb hby at_133) rfl rfl ?_
      show Steps p.tables e below (T200.setTop (mkF m 135 #[.val (.int p0), .val (.int p1), .val (.long q2), .second, .val (.long q3), .second, .val (.int p4), .val (.int (p0 &&& (31 : Int32))), .val (.ref b7), .unset, .unset, .unset, .unset, .unset] [(.ref b7)])) _
      refine XS.bipush X200.here hx rfl (hb hby at_135) ?_
      show Steps p.tables e below (T200.setTop (mkF m 137 #[.val (.int p0), .val (.int p1), .val (.long q2), .second, .val (.long q3), .second, .val (.int p4), .val (.int (p0 &&& (31 : Int32))), .val (.ref b7), .unset, .unset, .unset, .unset, .unset] [(.int (9 : Int32)), (.ref b7)])) _
      refine XS.lload X200.here hx rfl (hb hby at_137) rfl ?_
      show Steps p.tables e below (T200.setTop (mkF m 139 #[.val (.int p0), .val (.int p1), .val (.long q2), .second, .val (.long q3), .second, .val (.int p4), .val (.int (p0 &&& (31 : Int32))), .val (.ref b7), .unset, .unset, .unset, .unset, .unset] [(.long q3), (.int (9 : Int32)), (.ref b7)])) _
      refine st208 _ ?_
      show Steps p.tables e below (T208.setTop (mkF m 142 #[.val (.int p0), .val (.int p1), .val (.long q2), .second, .val (.long q3), .second, .val (.int p4), .val (.int (p0 &&& (31 : Int32))), .val (.ref b7), .unset, .unset, .unset, .unset, .unset] [])) _
      refine XS.sipush X208.here hx rfl (hb hby at_142) ?_
      show Steps p.tables e below (T208.setTop (mkF m 145 #[.val (.int p0), .val (.int p1), .val (.long q2), .second, .val (.long q3), .second, .val (.int p4), .val (.int (p0 &&& (31 : Int32))), .val (.ref b7), .unset, .unset, .unset, .unset, .unset] [(.int (128 : Int32))])) _
      refine XS.iload X208.here hx rfl (hb hby at_145) rfl ?_
      show Steps p.tables e below (T208.setTop (mkF m 147 #[.val (.int p0), .val (.int p1), .val (.long q2), .second, .val (.long q3), .second, .val (.int p4), .val (.int (p0 &&& (31 : Int32))), .val (.ref b7), .unset, .unset, .unset, .unset, .unset] [(.int (p0 &&& (31 : Int32))), (.int (128 : Int32))])) _
      refine XS.idiv X208.here hx rfl (hb hby at_147) rfl hc21_27 ?_
      show Steps p.tables e below (T208.setTop (mkF m 148 #[.val (.int p0), .val (.int p1), .val (.long q2), .second, .val (.long q3), .second, .val (.int p4), .val (.int (p0 &&& (31 : Int32))), .val (.ref b7), .unset, .unset, .unset, .unset, .unset] [(.int ((128 : Int32) / (p0 &&& (31 : Int32))))])) _
      refine XS.istore X208.here hx rfl (hb hby at_148) rfl (l' := #[.val (.int p0), .val (.int p1), .val (.long q2), .second, .val (.long q3), .second, .val (.int p4), .val (.int (p0 &&& (31 : Int32))), .val (.ref b7), .val (.int ((128 : Int32) / (p0 &&& (31 : Int32)))), .unset, .unset, .unset, .unset]) rfl ?_
      show Steps p.tables e below (T208.setTop (mkF m 150 #[.val (.int p0), .val (.int p1), .val (.long q2), .second, .val (.long q3), .second, .val (.int p4), .val (.int (p0 &&& (31 : Int32))), .val (.ref b7), .val (.int ((128 : Int32) / (p0 &&& (31 : Int32)))), .unset, .unset, .unset, .unset] [])) _
      refine XS.iloadN X208.here hx rfl (hb hby at_150) rfl ?_
      show Steps p.tables e below (T208.setTop (mkF m 151 #[.val (.int p0), .val (.int p1), .val (.long q2), .second, .val (.long q3), .second, .val (.int p4), .val (.int (p0 &&& (31 : Int32))), .val (.ref b7), .val (.int ((128 : Int32) / (p0 &&& (31 : Int32)))), .unset, .unset, .unset, .unset] [(.int p1)])) _
      refine X208.ldcInt hx hown (mvT hZ (hw _ (List.mem_of_getElem? (i := 1) rfl))) (g := (mkF m 151 #[.val (.int p0), .val (.int p1), .val (.long q2), .second, .val (.long q3), .second, .val (.int p4), .val (.int (p0 &&& (31 : Int32))), .val (.ref b7), .val (.int ((128 : Int32) / (p0 &&& (31 : Int32)))), .unset, .unset, .unset, .unset] [(.int p1)])) rfl (hb hby at_151) _ ?_
      show Steps p.tables e below (T208.setTop (mkF m 153 #[.val (.int p0), .val (.int p1), .val (.long q2), .second, .val (.long q3), .second, .val (.int p4), .val (.int (p0 &&& (31 : Int32))), .val (.ref b7), .val (.int ((128 : Int32) / (p0 &&& (31 : Int32)))), .unset, .unset, .unset, .unset] [(.int (2147483647 : Int32)), (.int p1)])) _
      refine XS.iand X208.here hx rfl (hb hby at_153) rfl ?_
      show Steps p.tables e below (T208.setTop (mkF m 154 #[.val (.int p0), .val (.int p1), .val (.long q2), .second, .val (.long q3), .second, .val (.int p4), .val (.int (p0 &&& (31 : Int32))), .val (.ref b7), .val (.int ((128 : Int32) / (p0 &&& (31 : Int32)))), .unset, .unset, .unset, .unset] [(.int (p1 &&& (2147483647 : Int32)))])) _
      refine XS.iload X208.here hx rfl (hb hby at_154) rfl ?_
      show Steps p.tables e below (T208.setTop (mkF m 156 #[.val (.int p0), .val (.int p1), .val (.long q2), .second, .val (.long q3), .second, .val (.int p4), .val (.int (p0 &&& (31 : Int32))), .val (.ref b7), .val (.int ((128 : Int32) / (p0 &&& (31 : Int32)))), .unset, .unset, .unset, .unset] [(.int ((128 : Int32) / (p0 &&& (31 : Int32)))), (.int (p1 &&& (2147483647 : Int32)))])) _
      refine iremM X208 hx rfl (hb hby at_156) rfl (own_c0 hc21_27) ?_
      show Steps p.tables e below (T208.setTop (mkF m 157 #[.val (.int p0), .val (.int p1), .val (.long q2), .second, .val (.long q3), .second, .val (.int p4), .val (.int (p0 &&& (31 : Int32))), .val (.ref b7), .val (.int ((128 : Int32) / (p0 &&& (31 : Int32)))), .unset, .unset, .unset, .unset] [(.int ((p1 &&& (2147483647 : Int32)) % ((128 : Int32) / (p0 &&& (31 : Int32)))))])) _
      refine XS.istore X208.here hx rfl (hb hby at_157) rfl (l' := #[.val (.int p0), .val (.int p1), .val (.long q2), .second, .val (.long q3), .second, .val (.int p4), .val (.int (p0 &&& (31 : Int32))), .val (.ref b7), .val (.int ((128 : Int32) / (p0 &&& (31 : Int32)))), .val (.int ((p1 &&& (2147483647 : Int32)) % ((128 : Int32) / (p0 &&& (31 : Int32))))), .unset, .unset, .unset]) rfl ?_
      show Steps p.tables e below (T208.setTop (mkF m 159 #[.val (.int p0), .val (.int p1), .val (.long q2), .second, .val (.long q3), .second, .val (.int p4), .val (.int (p0 &&& (31 : Int32))), .val (.ref b7), .val (.int ((128 : Int32) / (p0 &&& (31 : Int32)))), .val (.int ((p1 &&& (2147483647 : Int32)) % ((128 : Int32) / (p0 &&& (31 : Int32))))), .unset, .unset, .unset] [])) _
      refine XS.lloadN X208.here hx rfl (hb hby at_159) rfl ?_
      show Steps p.tables e below (T208.setTop (mkF m 160 #[.val (.int p0), .val (.int p1), .val (.long q2), .second, .val (.long q3), .second, .val (.int p4), .val (.int (p0 &&& (31 : Int32))), .val (.ref b7), .val (.int ((128 : Int32) / (p0 &&& (31 : Int32)))), .val (.int ((p1 &&& (2147483647 : Int32)) % ((128 : Int32) / (p0 &&& (31 : Int32))))), .unset, .unset, .unset] [(.long q2)])) _
      refine XS.lload X208.here hx rfl (hb hby at_160) rfl ?_
      show Steps p.tables e below (T208.setTop (mkF m 162 #[.val (.int p0), .val (.int p1), .val (.long q2), .second, .val (.long q3), .second, .val (.int p4), .val (.int (p0 &&& (31 : Int32))), .val (.ref b7), .val (.int ((128 : Int32) / (p0 &&& (31 : Int32)))), .val (.int ((p1 &&& (2147483647 : Int32)) % ((128 : Int32) / (p0 &&& (31 : Int32))))), .unset, .unset, .unset] [(.long q3), (.long q2)])) _
      refine XS.iload X208.here hx rfl (hb hby at_162) rfl ?_
      show Steps p.tables e below (T208.setTop (mkF m 164 #[.val (.int p0), .val (.int p1), .val (.long q2), .second, .val (.long q3), .second, .val (.int p4), .val (.int (p0 &&& (31 : Int32))), .val (.ref b7), .val (.int ((128 : Int32) / (p0 &&& (31 : Int32)))), .val (.int ((p1 &&& (2147483647 : Int32)) % ((128 : Int32) / (p0 &&& (31 : Int32))))), .unset, .unset, .unset] [(.int ((p1 &&& (2147483647 : Int32)) % ((128 : Int32) / (p0 &&& (31 : Int32))))), (.long q3), (.long q2)])) _
      refine XS.iload X208.here hx rfl (hb hby at_164) rfl ?_
      show Steps p.tables e below (T208.setTop (mkF m 166 #[.val (.int p0), .val (.int p1), .val (.long q2), .second, .val (.long q3), .second, .val (.int p4), .val (.int (p0 &&& (31 : Int32))), .val (.ref b7), .val (.int ((128 : Int32) / (p0 &&& (31 : Int32)))), .val (.int ((p1 &&& (2147483647 : Int32)) % ((128 : Int32) / (p0 &&& (31 : Int32))))), .unset, .unset, .unset] [(.int (p0 &&& (31 : Int32))), (.int ((p1 &&& (2147483647 : Int32)) % ((128 : Int32) / (p0 &&& (31 : Int32))))), (.long q3), (.long q2)])) _
      refine XS.imul X208.here hx rfl (hb hby at_166) rfl ?_
      show Steps p.tables e below (T208.setTop (mkF m 167 #[.val (.int p0), .val (.int p1), .val (.long q2), .second, .val (.long q3), .second, .val (.int p4), .val (.int (p0 &&& (31 : Int32))), .val (.ref b7), .val (.int ((128 : Int32) / (p0 &&& (31 : Int32)))), .val (.int ((p1 &&& (2147483647 : Int32)) % ((128 : Int32) / (p0 &&& (31 : Int32))))), .unset, .unset, .unset] [(.int (((p1 &&& (2147483647 : Int32)) % ((128 : Int32) / (p0 &&& (31 : Int32)))) * (p0 &&& (31 : Int32)))), (.long q3), (.long q2)])) _
      refine XS.iload X208.here hx rfl (hb hby at_167) rfl ?_
      show Steps p.tables e below (T208.setTop (mkF m 169 #[.val (.int p0), .val (.int p1), .val (.long q2), .second, .val (.long q3), .second, .val (.int p4), .val (.int (p0 &&& (31 : Int32))), .val (.ref b7), .val (.int ((128 : Int32) / (p0 &&& (31 : Int32)))), .val (.int ((p1 &&& (2147483647 : Int32)) % ((128 : Int32) / (p0 &&& (31 : Int32))))), .unset, .unset, .unset] [(.int (p0 &&& (31 : Int32))), (.int (((p1 &&& (2147483647 : Int32)) % ((128 : Int32) / (p0 &&& (31 : Int32)))) * (p0 &&& (31 : Int32)))), (.long q3), (.long q2)])) _
      refine st229 _ ?_
      show Steps p.tables e below (T229.setTop (mkF m 172 #[.val (.int p0), .val (.int p1), .val (.long q2), .second, .val (.long q3), .second, .val (.int p4), .val (.int (p0 &&& (31 : Int32))), .val (.ref b7), .val (.int ((128 : Int32) / (p0 &&& (31 : Int32)))), .val (.int ((p1 &&& (2147483647 : Int32)) % ((128 : Int32) / (p0 &&& (31 : Int32))))), .unset, .unset, .unset] [(.int (own_ext_f q2 q3 (((p1 &&& (2147483647 : Int32)) % ((128 : Int32) / (p0 &&& (31 : Int32)))) * (p0 &&& (31 : Int32))) (p0 &&& (31 : Int32))))])) _
      refine XS.istore X229.here hx rfl (hb hby at_172) rfl (l' := #[.val (.int p0), .val (.int p1), .val (.long q2), .second, .val (.long q3), .second, .val (.int p4), .val (.int (p0 &&& (31 : Int32))), .val (.ref b7), .val (.int ((128 : Int32) / (p0 &&& (31 : Int32)))), .val (.int ((p1 &&& (2147483647 : Int32)) % ((128 : Int32) / (p0 &&& (31 : Int32))))), .val (.int (own_ext_f q2 q3 (((p1 &&& (2147483647 : Int32)) % ((128 : Int32) / (p0 &&& (31 : Int32)))) * (p0 &&& (31 : Int32))) (p0 &&& (31 : Int32)))), .unset, .unset]) rfl ?_
      show Steps p.tables e below (T229.setTop (mkF m 174 #[.val (.int p0), .val (.int p1), .val (.long q2), .second, .val (.long q3), .second, .val (.int p4), .val (.int (p0 &&& (31 : Int32))), .val (.ref b7), .val (.int ((128 : Int32) / (p0 &&& (31 : Int32)))), .val (.int ((p1 &&& (2147483647 : Int32)) % ((128 : Int32) / (p0 &&& (31 : Int32))))), .val (.int (own_ext_f q2 q3 (((p1 &&& (2147483647 : Int32)) % ((128 : Int32) / (p0 &&& (31 : Int32)))) * (p0 &&& (31 : Int32))) (p0 &&& (31 : Int32)))), .unset, .unset] [])) _
      refine st233 _ ?_
      show Steps p.tables e below (T233.setTop (mkF m 177 #[.val (.int p0), .val (.int p1), .val (.long q2), .second, .val (.long q3), .second, .val (.int p4), .val (.int (p0 &&& (31 : Int32))), .val (.ref b7), .val (.int ((128 : Int32) / (p0 &&& (31 : Int32)))), .val (.int ((p1 &&& (2147483647 : Int32)) % ((128 : Int32) / (p0 &&& (31 : Int32))))), .val (.int (own_ext_f q2 q3 (((p1 &&& (2147483647 : Int32)) % ((128 : Int32) / (p0 &&& (31 : Int32)))) * (p0 &&& (31 : Int32))) (p0 &&& (31 : Int32)))), .unset, .unset] [(.ref b233)])) _
      refine XS.dup X233.here hx rfl (hb hby at_177) rfl rfl ?_
      show Steps p.tables e below (T233.setTop (mkF m 178 #[.val (.int p0), .val (.int p1), .val (.long q2), .second, .val (.long q3), .second, .val (.int p4), .val (.int (p0 &&& (31 : Int32))), .val (.ref b7), .val (.int ((128 : Int32) / (p0 &&& (31 : Int32)))), .val (.int ((p1 &&& (2147483647 : Int32)) % ((128 : Int32) / (p0 &&& (31 : Int32))))), .val (.int (own_ext_f q2 q3 (((p1 &&& (2147483647 : Int32)) % ((128 : Int32) / (p0 &&& (31 : Int32)))) * (p0 &&& (31 : Int32))) (p0 &&& (31 : Int32)))), .unset, .unset] [(.ref b233), (.ref b233)])) _
      refine XS.aload X233.here hx rfl (hb hby at_178) rfl rfl ?_
      show Steps p.tables e below (T233.setTop (mkF m 180 #[.val (.int p0), .val (.int p1), .val (.long q2), .second, .val (.long q3), .second, .val (.int p4), .val (.int (p0 &&& (31 : Int32))), .val (.ref b7), .val (.int ((128 : Int32) / (p0 &&& (31 : Int32)))), .val (.int ((p1 &&& (2147483647 : Int32)) % ((128 : Int32) / (p0 &&& (31 : Int32))))), .val (.int (own_ext_f q2 q3 (((p1 &&& (2147483647 : Int32)) % ((128 : Int32) / (p0 &&& (31 : Int32)))) * (p0 &&& (31 : Int32))) (p0 &&& (31 : Int32)))), .unset, .unset] [(.ref b7), (.ref b233), (.ref b233)])) _
      refine XS.iconst X233.here hx rfl (hb hby at_180) ?_
      show Steps p.tables e below (T233.setTop (mkF m 181 #[.val (.int p0), .val (.int p1), .val (.long q2), .second, .val (.long q3), .second, .val (.int p4), .val (.int (p0 &&& (31 : Int32))), .val (.ref b7), .val (.int ((128 : Int32) / (p0 &&& (31 : Int32)))), .val (.int ((p1 &&& (2147483647 : Int32)) % ((128 : Int32) / (p0 &&& (31 : Int32))))), .val (.int (own_ext_f q2 q3 (((p1 &&& (2147483647 : Int32)) % ((128 : Int32) / (p0 &&& (31 : Int32)))) * (p0 &&& (31 : Int32))) (p0 &&& (31 : Int32)))), .unset, .unset] [(.int (0 : Int32)), (.ref b7), (.ref b233), (.ref b233)])) _
      refine XS.bipush X233.here hx rfl (hb hby at_181) ?_
      show Steps p.tables e below (T233.setTop (mkF m 183 #[.val (.int p0), .val (.int p1), .val (.long q2), .second, .val (.long q3), .second, .val (.int p4), .val (.int (p0 &&& (31 : Int32))), .val (.ref b7), .val (.int ((128 : Int32) / (p0 &&& (31 : Int32)))), .val (.int ((p1 &&& (2147483647 : Int32)) % ((128 : Int32) / (p0 &&& (31 : Int32))))), .val (.int (own_ext_f q2 q3 (((p1 &&& (2147483647 : Int32)) % ((128 : Int32) / (p0 &&& (31 : Int32)))) * (p0 &&& (31 : Int32))) (p0 &&& (31 : Int32)))), .unset, .unset] [(.int (17 : Int32)), (.int (0 : Int32)), (.ref b7), (.ref b233), (.ref b233)])) _
      exact kt
    obtain ⟨b246, T246, h246, ks246, X246, e246, E246, Si246, Sk246, hZ246, hown246, st246⟩ := ldcS (s := s) (vm0 := s.vm) X233 hx hZ hown (hw _ (List.mem_of_getElem? (i := 5) rfl)) (own_satoms hw) e233 (own_since s 0) (Nat.zero_le _) (g := (mkF m 183 #[.val (.int p0), .val (.int p1), .val (.long q2), .second, .val (.long q3), .second, .val (.int p4), .val (.int (p0 &&& (31 : Int32))), .val (.ref b7), .val (.int ((128 : Int32) / (p0 &&& (31 : Int32)))), .val (.int ((p1 &&& (2147483647 : Int32)) % ((128 : Int32) / (p0 &&& (31 : Int32))))), .val (.int (own_ext_f q2 q3 (((p1 &&& (2147483647 : Int32)) % ((128 : Int32) / (p0 &&& (31 : Int32)))) * (p0 &&& (31 : Int32))) (p0 &&& (31 : Int32)))), .unset, .unset] [(.int (17 : Int32)), (.int (0 : Int32)), (.ref b7), (.ref b233), (.ref b233)])) rfl (hb hby at_183) (n := 4) (by decide) (by decide) (by decide) (by decide)
    have hZ := hZ246
    have hown := hown246
    have Kc247 : Keep h0 h246 [] := Kc238.ext E246
    have Zs248 : n0 ≤ h246.size := (Nat.le_trans Zs239 E246.1)
    have Fq251 : Exa Z h246 b233 "fieldstone/ByteReader" := (A233.ext E246)
    have Fq252 : Fld Z h246 b233 "fieldstone/ByteReader" "bytes" "[B" .null := (F233_bytes.ext E246)
    have Fq253 : Fld Z h246 b233 "fieldstone/ByteReader" "pos" "I" (.int (0 : Int32)) := (F233_pos.ext E246)
    have Fq254 : Fld Z h246 b233 "fieldstone/ByteReader" "limit" "I" (.int (0 : Int32)) := (F233_limit.ext E246)
    have Fq255 : Fld Z h246 b233 "fieldstone/ByteReader" "file" "Ljava/lang/String;" .null := (F233_file.ext E246)
    obtain ⟨_, _, ⟨T250, L250, k250, n250⟩, -, X250, ⟨Lc250, hQ250, l250, y250, z250⟩, st250⟩ := X246.specialBack hx (y := (⟨"fieldstone/ByteReader", "<init>", "([BIILjava/lang/String;)V"⟩ : MethodName)) rfl hown (mvT hZ (hw _ (List.mem_of_getElem? (i := 12) rfl))) (mvT hZ (hw _ (List.mem_of_getElem? (i := 13) rfl))) (mvT hZ (hw _ (List.mem_of_getElem? (i := 14) rfl))) (by decide) (backOf (W := 1) (own_bri l Z a0 hw [] b233 b7 (0 : Int32) (17 : Int32) b246 h246 n0 Zs248 Fq251 Fq252 Fq253 Fq254 Fq255 Ge236) hZ (hw _ (List.mem_of_getElem? (i := 14) rfl)) (hw _ (List.mem_of_getElem? (i := 4) rfl)) (by decide) (by decide)) (g := (mkF m 185 #[.val (.int p0), .val (.int p1), .val (.long q2), .second, .val (.long q3), .second, .val (.int p4), .val (.int (p0 &&& (31 : Int32))), .val (.ref b7), .val (.int ((128 : Int32) / (p0 &&& (31 : Int32)))), .val (.int ((p1 &&& (2147483647 : Int32)) % ((128 : Int32) / (p0 &&& (31 : Int32))))), .val (.int (own_ext_f q2 q3 (((p1 &&& (2147483647 : Int32)) % ((128 : Int32) / (p0 &&& (31 : Int32)))) * (p0 &&& (31 : Int32))) (p0 &&& (31 : Int32)))), .unset, .unset] [(.ref b246), (.int (17 : Int32)), (.int (0 : Int32)), (.ref b7), (.ref b233), (.ref b233)])) rfl (by rw [hml]; rfl) (Steps.refl _) (a := b233) (argsL := [(.ref b7), (.int (0 : Int32)), (.int (17 : Int32)), (.ref b246)]) (rest := [(.ref b233)]) (lenOf own_pd7 rfl) rfl (by show 2 * 0 + _ ≤ _; exact Nat.le_of_eq rfl) (hb hby at_185) (fun _ _ => ⟨rfl, e246, (by decide : 4 + 0 ≤ _), (by decide : 29 + 0 ≤ _)⟩)
    dsimp only [Pt.U, Pt.locs, Pt.cells, Pt.slots] at X250 l250 y250 z250 st250 hQ250
    rw [l250, y250, z250] at X250
    obtain ⟨rfl, Nq250, K250, Pf250_0, Pf250_1, Pf250_2, Pf250_3⟩ := hQ250
    have N256 := Fr.app N230 Nq250
    have Kc257 : Keep h0 T250.heap [] := Kc247.trans K250 (allS (Or.inr Sz237) all0)
    have Zs258 : n0 ≤ T250.heap.size := Nat.le_trans Zs248 K250.1
    obtain ⟨T261, h261, X261, e261, E261, A261, D261, -, st261⟩ := newO X250 hx hZ hown (hw _ (List.mem_of_getElem? (i := 31) rfl)) (hw _ (List.mem_of_getElem? (i := 32) rfl)) (hw _ (List.mem_of_getElem? (i := 33) rfl)) rfl (g := (mkF m 190 #[.val (.int p0), .val (.int p1), .val (.long q2), .second, .val (.long q3), .second, .val (.int p4), .val (.int (p0 &&& (31 : Int32))), .val (.ref b7), .val (.int ((128 : Int32) / (p0 &&& (31 : Int32)))), .val (.int ((p1 &&& (2147483647 : Int32)) % ((128 : Int32) / (p0 &&& (31 : Int32))))), .val (.int (own_ext_f q2 q3 (((p1 &&& (2147483647 : Int32)) % ((128 : Int32) / (p0 &&& (31 : Int32)))) * (p0 &&& (31 : Int32))) (p0 &&& (31 : Int32)))), .val (.ref b233), .unset] [])) rfl (hb hby at_190) (by decide) (by decide)
    obtain ⟨b261, g261⟩ : ∃ z, z = T250.heap.size := ⟨_, rfl⟩
    rw [← g261] at A261 D261 st261
    have Fq263 : Exa Z T250.heap b7 "[B" := (((Fq235.ext E233).ext E246).keep K250)
    have Ne262 : b7 ≠ b261 := Nat.ne_of_lt (Nat.lt_of_lt_of_le Fq263.lt (Nat.le_of_eq g261.symm))
    have Ne264 : b233 ≠ b261 := Nat.ne_of_lt (Nat.lt_of_lt_of_le Pf250_0.lt (Nat.le_of_eq g261.symm))
    have Ge265 : n0 ≤ b261 := Nat.le_trans Zs258 (Nat.le_of_eq g261.symm)
    have Sz266 : h0.size ≤ b261 := Nat.le_trans Kc257.1 (Nat.le_of_eq g261.symm)
    have Kc267 : Keep h0 h261 [] := Kc257.ext E261
    have Zs268 : n0 ≤ h261.size := (Nat.le_trans Zs258 E261.1)
    have F261_packed : Fld Z h261 b261 "fieldstone/ByteReader$PackedInts" "packed" "[B" .null := D261 (Or.inl (hw _ (List.mem_of_getElem? (i := 39) rfl))) (ty := (.array .byte)) (by decide)
    have F261_bits : Fld Z h261 b261 "fieldstone/ByteReader$PackedInts" "bits" "I" (.int (0 : Int32)) := D261 (Or.inl (hw _ (List.mem_of_getElem? (i := 61) rfl))) (ty := .int) (by decide)
    have F261_alike : Fld Z h261 b261 "fieldstone/ByteReader$PackedInts" "alike" "I" (.int (0 : Int32)) := D261 (Or.inl (hw _ (List.mem_of_getElem? (i := 63) rfl))) (ty := .int) (by decide)
    obtain ⟨_, _, ⟨T271, L271, k271, n271⟩, -, X271, ⟨Lc271, hQ271, l271, y271, z271⟩, st271⟩ := X261.specialBack hx (y := (⟨"fieldstone/ByteReader$PackedInts", "<init>", "()V"⟩ : MethodName)) rfl hown (mvT hZ (hw _ (List.mem_of_getElem? (i := 34) rfl))) (mvT hZ (hw _ (List.mem_of_getElem? (i := 35) rfl))) (mvT hZ (hw _ (List.mem_of_getElem? (i := 36) rfl))) (by decide) (backOf (W := 1) (own_pii l Z a0 hw [] b261 h261 n0 Zs268 A261 F261_packed F261_bits F261_alike Ge265) hZ (hw _ (List.mem_of_getElem? (i := 36) rfl)) (hw _ (List.mem_of_getElem? (i := 33) rfl)) (by decide) (by decide)) (g := (mkF m 194 #[.val (.int p0), .val (.int p1), .val (.long q2), .second, .val (.long q3), .second, .val (.int p4), .val (.int (p0 &&& (31 : Int32))), .val (.ref b7), .val (.int ((128 : Int32) / (p0 &&& (31 : Int32)))), .val (.int ((p1 &&& (2147483647 : Int32)) % ((128 : Int32) / (p0 &&& (31 : Int32))))), .val (.int (own_ext_f q2 q3 (((p1 &&& (2147483647 : Int32)) % ((128 : Int32) / (p0 &&& (31 : Int32)))) * (p0 &&& (31 : Int32))) (p0 &&& (31 : Int32)))), .val (.ref b233), .unset] [(.ref b261), (.ref b261)])) rfl (by rw [hml]; rfl) (Steps.refl _) (a := b261) (argsL := []) (rest := [(.ref b261)]) (lenOf own_pd8 rfl) rfl (by show 2 * 0 + _ ≤ _; exact Nat.le_of_eq rfl) (hb hby at_194) (fun _ _ => ⟨rfl, e261, (by decide : 5 + 1 ≤ _), (by decide : 32 + 0 ≤ _)⟩)
    dsimp only [Pt.U, Pt.locs, Pt.cells, Pt.slots] at X271 l271 y271 z271 st271 hQ271
    rw [l271, y271, z271] at X271
    obtain ⟨q_o_271, k_q_271, rfl, Nq271, sz271_q_o, K271, Pf271_0, Pf271_1, Pf271_2, Pf271_3, Pf271_4⟩ := hQ271
    have N272 := Fr.app N256 Nq271
    have Fq274 : Exa Z h261 b7 "[B" := (Fq263.ext E261)
    have Ne273 : b7 ≠ q_o_271 := Nat.ne_of_lt (Nat.lt_of_lt_of_le Fq274.lt sz271_q_o)
    have Fq276 : Exa Z h261 b233 "fieldstone/ByteReader" := (Pf250_0.ext E261)
    have Ne275 : b233 ≠ q_o_271 := Nat.ne_of_lt (Nat.lt_of_lt_of_le Fq276.lt sz271_q_o)
    have Ne277 : b261 ≠ q_o_271 := Nat.ne_of_lt (Nat.lt_of_lt_of_le A261.lt sz271_q_o)
    have Ge278 : n0 ≤ q_o_271 := Nat.le_trans Zs268 sz271_q_o
    have Sz279 : h0.size ≤ q_o_271 := Nat.le_trans Kc267.1 sz271_q_o
    have Kc280 : Keep h0 T271.heap [] := Kc267.trans K271 (allS (Or.inr Sz266) all0)
    have Zs281 : n0 ≤ T271.heap.size := Nat.le_trans Zs268 K271.1
    have Fq288 : Exa Z T271.heap b233 "fieldstone/ByteReader" := (Fq276.keep K271)
    have Fq289 : Fld Z T271.heap b233 "fieldstone/ByteReader" "bytes" "[B" (.ref b7) := ((Pf250_1.ext E261).keep K271 (ninS Ne264 nin0))
    have Fq290 : Fld Z T271.heap b233 "fieldstone/ByteReader" "pos" "I" (.int (0 : Int32)) := ((Pf250_2.ext E261).keep K271 (ninS Ne264 nin0))
    have Fq291 : Fld Z T271.heap b233 "fieldstone/ByteReader" "limit" "I" (.int (17 : Int32)) := ((Pf250_3.ext E261).keep K271 (ninS Ne264 nin0))
    have Fq292 : Arv Z T271.heap b7 k7 .byte (17 : Int32) [(.int (nar .byte ((p0 &&& (31 : Int32)).toInt8.toInt32))), (.int (own_by0 q2)), (.int (own_by1 q2)), (.int (own_by2 q2)), (.int (own_by3 q2)), (.int (own_by4 q2)), (.int (own_by5 q2)), (.int (own_by6 q2)), (.int (own_by7 q2)), (.int (own_by0 q3)), (.int (own_by1 q3)), (.int (own_by2 q3)), (.int (own_by3 q3)), (.int (own_by4 q3)), (.int (own_by5 q3)), (.int (own_by6 q3)), (.int (own_by7 q3))] (.int (0 : Int32)) := (((((Pf208_0.ext E233).ext E246).keep K250 (ninS Ne234 nin0)).ext E261).keep K271 (ninS Ne262 nin0))
    obtain ⟨cq287, kq287, q287a, q287b, q287c⟩ := isOf hZ rfl Fq288
    obtain ⟨_, _, ⟨T287, L287, k287, n287⟩, -, X287, ⟨Lc287, hQ287, l287, y287, z287⟩, st287⟩ := X271.virtualBack hx (y := (⟨"fieldstone/ByteReader", "holdPackedInts", "(ILfieldstone/ByteReader$PackedInts;)V"⟩ : MethodName)) (z := (⟨"fieldstone/ByteReader", "holdPackedInts", "(ILfieldstone/ByteReader$PackedInts;)V"⟩ : MethodName)) hown (mvT hZ (hw _ (List.mem_of_getElem? (i := 40) rfl))) (mvT hZ (hw _ (List.mem_of_getElem? (i := 41) rfl))) (notFace_of_selects (args := #[]) (mvT hZ (hw _ (List.mem_of_getElem? (i := 43) rfl)))) (mvT hZ (hw _ (List.mem_of_getElem? (i := 43) rfl))) (mvT hZ (hw _ (List.mem_of_getElem? (i := 42) rfl))) (by decide) (backOf (W := 0) (own_hp1 l Z a0 hw [] b233 b7 k7 ((128 : Int32) / (p0 &&& (31 : Int32))) b261 (p0 &&& (31 : Int32)) ((own_min_f (2147483647 : Int64) ((((((128 : Int32) / (p0 &&& (31 : Int32))).toInt64) * ((p0 &&& (31 : Int32)).toInt64)) + (7 : Int64)) / (8 : Int64))).toInt32) q_o_271 k_q_271 (nar .byte ((p0 &&& (31 : Int32)).toInt8.toInt32)) (.int (own_by0 q2)) (.int (own_by1 q2)) (.int (own_by2 q2)) (.int (own_by3 q2)) (.int (own_by4 q2)) (.int (own_by5 q2)) (.int (own_by6 q2)) (.int (own_by7 q2)) (.int (own_by0 q3)) (.int (own_by1 q3)) (.int (own_by2 q3)) (.int (own_by3 q3)) (.int (own_by4 q3)) (.int (own_by5 q3)) (.int (own_by6 q3)) (.int (own_by7 q3)) T271.heap n0 Zs281 Fq288 Fq289 Fq290 Fq291 Fq292 Pf271_0 Pf271_1 Pf271_2 Pf271_4 Ge236 Ne234 Ge265 (Ne.symm Ne264) Ne262 (Ne.symm Ne275) (own_v1 p0).1 (own_v1 p0).2.1 (own_v1 p0).2.2.1 (own_v1 p0).2.2.2 hc21_27 rfl (own_n hc21_27).1 (own_n hc21_27).2.1 (own_n hc21_27).2.2) hZ (hw _ (List.mem_of_getElem? (i := 44) rfl)) (hw _ (List.mem_of_getElem? (i := 4) rfl)) (by decide) (by decide)) q287a q287c (g := (mkF m 205 #[.val (.int p0), .val (.int p1), .val (.long q2), .second, .val (.long q3), .second, .val (.int p4), .val (.int (p0 &&& (31 : Int32))), .val (.ref b7), .val (.int ((128 : Int32) / (p0 &&& (31 : Int32)))), .val (.int ((p1 &&& (2147483647 : Int32)) % ((128 : Int32) / (p0 &&& (31 : Int32))))), .val (.int (own_ext_f q2 q3 (((p1 &&& (2147483647 : Int32)) % ((128 : Int32) / (p0 &&& (31 : Int32)))) * (p0 &&& (31 : Int32))) (p0 &&& (31 : Int32)))), .val (.ref b233), .val (.ref b261)] [(.ref b261), (.int ((128 : Int32) / (p0 &&& (31 : Int32)))), (.ref b233)])) rfl (by rw [hml]; rfl) (Steps.refl _) (argsL := [(.int ((128 : Int32) / (p0 &&& (31 : Int32)))), (.ref b261)]) (rest := []) (lenOf own_pd9 rfl) rfl (by show 2 * 0 + _ ≤ _; exact Nat.le_of_eq rfl) (hb hby at_205) (fun _ _ => ⟨rfl, rfl, (by decide : 6 + 1 ≤ _), (by decide : 32 + 16 ≤ _)⟩)
    dsimp only [Pt.U, Pt.locs, Pt.cells, Pt.slots] at X287 l287 y287 z287 st287 hQ287
    rw [l287, y287, z287] at X287
    obtain ⟨r_o_287, k_r_287, rfl, Nq287, sz287_r_o, K287, Pf287_0, Pf287_1, Pf287_2, Pf287_3⟩ := hQ287
    have N293 := Fr.app N272 Nq287
    have Fq295 : Exa Z T271.heap b7 "[B" := (Fq274.keep K271)
    have Ne294 : b7 ≠ r_o_287 := Nat.ne_of_lt (Nat.lt_of_lt_of_le Fq295.lt sz287_r_o)
    have Ne296 : b233 ≠ r_o_287 := Nat.ne_of_lt (Nat.lt_of_lt_of_le Fq288.lt sz287_r_o)
    have Ne297 : b261 ≠ r_o_287 := Nat.ne_of_lt (Nat.lt_of_lt_of_le Pf271_0.lt sz287_r_o)
    have Ne298 : q_o_271 ≠ r_o_287 := Nat.ne_of_lt (Nat.lt_of_lt_of_le Pf271_4.lt sz287_r_o)
    have Ge299 : n0 ≤ r_o_287 := Nat.le_trans Zs281 sz287_r_o
    have Sz300 : h0.size ≤ r_o_287 := Nat.le_trans Kc280.1 sz287_r_o
    have Kc301 : Keep h0 T287.heap [] := Kc280.trans K287 (allS (Or.inr Sz237) (allS (Or.inr Sz266) all0))
    have Zs302 : n0 ≤ T287.heap.size := Nat.le_trans Zs281 K287.1
    obtain ⟨cq306, kq306, q306a, q306b, q306c⟩ := isOf hZ rfl Pf287_0
    obtain ⟨_, _, ⟨T306, L306, k306, n306⟩, -, X306, ⟨Lc306, hQ306, l306, y306, z306⟩, st306⟩ := X287.virtualBack hx (y := (⟨"fieldstone/ByteReader$PackedInts", "get", "(I)I"⟩ : MethodName)) (z := (⟨"fieldstone/ByteReader$PackedInts", "get", "(I)I"⟩ : MethodName)) hown (mvT hZ (hw _ (List.mem_of_getElem? (i := 64) rfl))) (mvT hZ (hw _ (List.mem_of_getElem? (i := 65) rfl))) (notFace_of_selects (args := #[]) (mvT hZ (hw _ (List.mem_of_getElem? (i := 67) rfl)))) (mvT hZ (hw _ (List.mem_of_getElem? (i := 67) rfl))) (mvT hZ (hw _ (List.mem_of_getElem? (i := 66) rfl))) (by decide) (backOf (W := 0) (own_g1 l Z a0 hw [] b261 ((p1 &&& (2147483647 : Int32)) % ((128 : Int32) / (p0 &&& (31 : Int32)))) (p0 &&& (31 : Int32)) (((((((p1 &&& (2147483647 : Int32)) % ((128 : Int32) / (p0 &&& (31 : Int32)))).toInt64) * ((p0 &&& (31 : Int32)).toInt64)).toUInt64 >>> ((3 : Int32) &&& 0x3f).toInt64.toUInt64).toInt64).toInt32) ((((((p1 &&& (2147483647 : Int32)) % ((128 : Int32) / (p0 &&& (31 : Int32)))).toInt64) * ((p0 &&& (31 : Int32)).toInt64)) &&& (7 : Int64)).toInt32) ((own_min_f (2147483647 : Int64) ((((((128 : Int32) / (p0 &&& (31 : Int32))).toInt64) * ((p0 &&& (31 : Int32)).toInt64)) + (7 : Int64)) / (8 : Int64))).toInt32) r_o_287 k_r_287 [(.int (own_by0 q2)), (.int (own_by1 q2)), (.int (own_by2 q2)), (.int (own_by3 q2)), (.int (own_by4 q2)), (.int (own_by5 q2)), (.int (own_by6 q2)), (.int (own_by7 q2)), (.int (own_by0 q3)), (.int (own_by1 q3)), (.int (own_by2 q3)), (.int (own_by3 q3)), (.int (own_by4 q3)), (.int (own_by5 q3)), (.int (own_by6 q3)), (.int (own_by7 q3))] (own_bt q2 q3) T287.heap n0 Zs302 Pf287_2 Pf287_1 Pf287_3 hc21_27 rfl rfl (fun j _ => own_hbt q2 q3 _) (own_law1 q2 q3 (p1 := p1) hc21_27).2.1 (fun q => (own_law1 q2 q3 (p1 := p1) hc21_27).2.2.1 0 (0 : Int32) _ (by decide) rfl (show _ = _ + ((0 : Nat) : Int) by omega) q) (fun q => (own_law1 q2 q3 (p1 := p1) hc21_27).2.2.1 1 (8 : Int32) _ (by decide) rfl (own_j1 (own_law1 q2 q3 (p1 := p1) hc21_27).2.2.2 (t := 0) (by decide) (show _ = _ + ((0 : Nat) : Int) by omega)) q) (fun q => (own_law1 q2 q3 (p1 := p1) hc21_27).2.2.1 2 (16 : Int32) _ (by decide) rfl (own_j1 (own_law1 q2 q3 (p1 := p1) hc21_27).2.2.2 (t := 1) (by decide) (own_j1 (own_law1 q2 q3 (p1 := p1) hc21_27).2.2.2 (t := 0) (by decide) (show _ = _ + ((0 : Nat) : Int) by omega))) q) (fun q => (own_law1 q2 q3 (p1 := p1) hc21_27).2.2.1 3 (24 : Int32) _ (by decide) rfl (own_j1 (own_law1 q2 q3 (p1 := p1) hc21_27).2.2.2 (t := 2) (by decide) (own_j1 (own_law1 q2 q3 (p1 := p1) hc21_27).2.2.2 (t := 1) (by decide) (own_j1 (own_law1 q2 q3 (p1 := p1) hc21_27).2.2.2 (t := 0) (by decide) (show _ = _ + ((0 : Nat) : Int) by omega)))) q) (fun q => (own_law1 q2 q3 (p1 := p1) hc21_27).2.2.1 4 (32 : Int32) _ (by decide) rfl (own_j1 (own_law1 q2 q3 (p1 := p1) hc21_27).2.2.2 (t := 3) (by decide) (own_j1 (own_law1 q2 q3 (p1 := p1) hc21_27).2.2.2 (t := 2) (by decide) (own_j1 (own_law1 q2 q3 (p1 := p1) hc21_27).2.2.2 (t := 1) (by decide) (own_j1 (own_law1 q2 q3 (p1 := p1) hc21_27).2.2.2 (t := 0) (by decide) (show _ = _ + ((0 : Nat) : Int) by omega))))) q)) hZ (hw _ (List.mem_of_getElem? (i := 68) rfl)) (hw _ (List.mem_of_getElem? (i := 33) rfl)) (by decide) (by decide)) q306a q306c (g := (mkF m 212 #[.val (.int p0), .val (.int p1), .val (.long q2), .second, .val (.long q3), .second, .val (.int p4), .val (.int (p0 &&& (31 : Int32))), .val (.ref b7), .val (.int ((128 : Int32) / (p0 &&& (31 : Int32)))), .val (.int ((p1 &&& (2147483647 : Int32)) % ((128 : Int32) / (p0 &&& (31 : Int32))))), .val (.int (own_ext_f q2 q3 (((p1 &&& (2147483647 : Int32)) % ((128 : Int32) / (p0 &&& (31 : Int32)))) * (p0 &&& (31 : Int32))) (p0 &&& (31 : Int32)))), .val (.ref b233), .val (.ref b261)] [(.int ((p1 &&& (2147483647 : Int32)) % ((128 : Int32) / (p0 &&& (31 : Int32))))), (.ref b261)])) rfl (by rw [hml]; rfl) (Steps.refl _) (argsL := [(.int ((p1 &&& (2147483647 : Int32)) % ((128 : Int32) / (p0 &&& (31 : Int32)))))]) (rest := []) (lenOf own_pd2 rfl) rfl (by show 2 * 0 + _ ≤ _; exact Nat.le_of_eq rfl) (hb hby at_212) (fun _ _ => ⟨rfl, rfl, (by decide : 7 + 0 ≤ _), (by decide : 48 + 0 ≤ _)⟩)
    dsimp only [Pt.U, Pt.locs, Pt.cells, Pt.slots] at X306 l306 y306 z306 st306 hQ306
    rw [l306, y306, z306] at X306
    obtain ⟨rfl, Nq306, eh306⟩ := hQ306
    have N307 := Fr.app N293 Nq306
    obtain ⟨fs, hr, hrun, hended, hR1, hR2, hR3, hR4⟩ := leaveW (s := s) (vm₁ := T246.vm) X306 Si246 (show _ ≤ T306.heap.size by rw [eh306]; exact (Nat.le_trans (Nat.le_trans (Nat.le_trans (Nat.le_trans Sk246 K250.1) E261.1) K271.1) K287.1)) (v := some (.int (1 : Int32))) (fun h => by rw [Bd.returns] at h; cases h) (hlocks := BodyLoose.notSynchronized Bd)
    refine ⟨_, _, pre245 _ ?_, hrun, hended, _, _, rfl, ?_, hR1, hR2, hR3, hR4.mono (by decide) (by decide)⟩
    · refine st246 _ ?_
      show Steps p.tables e below (T246.setTop (mkF m 185 #[.val (.int p0), .val (.int p1), .val (.long q2), .second, .val (.long q3), .second, .val (.int p4), .val (.int (p0 &&& (31 : Int32))), .val (.ref b7), .val (.int ((128 : Int32) / (p0 &&& (31 : Int32)))), .val (.int ((p1 &&& (2147483647 : Int32)) % ((128 : Int32) / (p0 &&& (31 : Int32))))), .val (.int (own_ext_f q2 q3 (((p1 &&& (2147483647 : Int32)) % ((128 : Int32) / (p0 &&& (31 : Int32)))) * (p0 &&& (31 : Int32))) (p0 &&& (31 : Int32)))), .unset, .unset] [(.ref b246), (.int (17 : Int32)), (.int (0 : Int32)), (.ref b7), (.ref b233), (.ref b233)])) _
      refine st250.trans ?_
      show Steps p.tables e below (T250.setTop (mkF m 188 #[.val (.int p0), .val (.int p1), .val (.long q2), .second, .val (.long q3), .second, .val (.int p4), .val (.int (p0 &&& (31 : Int32))), .val (.ref b7), .val (.int ((128 : Int32) / (p0 &&& (31 : Int32)))), .val (.int ((p1 &&& (2147483647 : Int32)) % ((128 : Int32) / (p0 &&& (31 : Int32))))), .val (.int (own_ext_f q2 q3 (((p1 &&& (2147483647 : Int32)) % ((128 : Int32) / (p0 &&& (31 : Int32)))) * (p0 &&& (31 : Int32))) (p0 &&& (31 : Int32)))), .unset, .unset] [(.ref b233)])) _
      refine XS.astore X250.here hx rfl (hb hby at_188) rfl rfl (l' := #[.val (.int p0), .val (.int p1), .val (.long q2), .second, .val (.long q3), .second, .val (.int p4), .val (.int (p0 &&& (31 : Int32))), .val (.ref b7), .val (.int ((128 : Int32) / (p0 &&& (31 : Int32)))), .val (.int ((p1 &&& (2147483647 : Int32)) % ((128 : Int32) / (p0 &&& (31 : Int32))))), .val (.int (own_ext_f q2 q3 (((p1 &&& (2147483647 : Int32)) % ((128 : Int32) / (p0 &&& (31 : Int32)))) * (p0 &&& (31 : Int32))) (p0 &&& (31 : Int32)))), .val (.ref b233), .unset]) rfl ?_
      show Steps p.tables e below (T250.setTop (mkF m 190 #[.val (.int p0), .val (.int p1), .val (.long q2), .second, .val (.long q3), .second, .val (.int p4), .val (.int (p0 &&& (31 : Int32))), .val (.ref b7), .val (.int ((128 : Int32) / (p0 &&& (31 : Int32)))), .val (.int ((p1 &&& (2147483647 : Int32)) % ((128 : Int32) / (p0 &&& (31 : Int32))))), .val (.int (own_ext_f q2 q3 (((p1 &&& (2147483647 : Int32)) % ((128 : Int32) / (p0 &&& (31 : Int32)))) * (p0 &&& (31 : Int32))) (p0 &&& (31 : Int32)))), .val (.ref b233), .unset] [])) _
      refine st261 _ ?_
      show Steps p.tables e below (T261.setTop (mkF m 193 #[.val (.int p0), .val (.int p1), .val (.long q2), .second, .val (.long q3), .second, .val (.int p4), .val (.int (p0 &&& (31 : Int32))), .val (.ref b7), .val (.int ((128 : Int32) / (p0 &&& (31 : Int32)))), .val (.int ((p1 &&& (2147483647 : Int32)) % ((128 : Int32) / (p0 &&& (31 : Int32))))), .val (.int (own_ext_f q2 q3 (((p1 &&& (2147483647 : Int32)) % ((128 : Int32) / (p0 &&& (31 : Int32)))) * (p0 &&& (31 : Int32))) (p0 &&& (31 : Int32)))), .val (.ref b233), .unset] [(.ref b261)])) _
      refine XS.dup X261.here hx rfl (hb hby at_193) rfl rfl ?_
      show Steps p.tables e below (T261.setTop (mkF m 194 #[.val (.int p0), .val (.int p1), .val (.long q2), .second, .val (.long q3), .second, .val (.int p4), .val (.int (p0 &&& (31 : Int32))), .val (.ref b7), .val (.int ((128 : Int32) / (p0 &&& (31 : Int32)))), .val (.int ((p1 &&& (2147483647 : Int32)) % ((128 : Int32) / (p0 &&& (31 : Int32))))), .val (.int (own_ext_f q2 q3 (((p1 &&& (2147483647 : Int32)) % ((128 : Int32) / (p0 &&& (31 : Int32)))) * (p0 &&& (31 : Int32))) (p0 &&& (31 : Int32)))), .val (.ref b233), .unset] [(.ref b261), (.ref b261)])) _
      refine st271.trans ?_
      show Steps p.tables e below (T271.setTop (mkF m 197 #[.val (.int p0), .val (.int p1), .val (.long q2), .second, .val (.long q3), .second, .val (.int p4), .val (.int (p0 &&& (31 : Int32))), .val (.ref b7), .val (.int ((128 : Int32) / (p0 &&& (31 : Int32)))), .val (.int ((p1 &&& (2147483647 : Int32)) % ((128 : Int32) / (p0 &&& (31 : Int32))))), .val (.int (own_ext_f q2 q3 (((p1 &&& (2147483647 : Int32)) % ((128 : Int32) / (p0 &&& (31 : Int32)))) * (p0 &&& (31 : Int32))) (p0 &&& (31 : Int32)))), .val (.ref b233), .unset] [(.ref b261)])) _
      refine XS.astore X271.here hx rfl (hb hby at_197) rfl rfl (l' := #[.val (.int p0), .val (.int p1), .val (.long q2), .second, .val (.long q3), .second, .val (.int p4), .val (.int (p0 &&& (31 : Int32))), .val (.ref b7), .val (.int ((128 : Int32) / (p0 &&& (31 : Int32)))), .val (.int ((p1 &&& (2147483647 : Int32)) % ((128 : Int32) / (p0 &&& (31 : Int32))))), .val (.int (own_ext_f q2 q3 (((p1 &&& (2147483647 : Int32)) % ((128 : Int32) / (p0 &&& (31 : Int32)))) * (p0 &&& (31 : Int32))) (p0 &&& (31 : Int32)))), .val (.ref b233), .val (.ref b261)]) rfl ?_
      show Steps p.tables e below (T271.setTop (mkF m 199 #[.val (.int p0), .val (.int p1), .val (.long q2), .second, .val (.long q3), .second, .val (.int p4), .val (.int (p0 &&& (31 : Int32))), .val (.ref b7), .val (.int ((128 : Int32) / (p0 &&& (31 : Int32)))), .val (.int ((p1 &&& (2147483647 : Int32)) % ((128 : Int32) / (p0 &&& (31 : Int32))))), .val (.int (own_ext_f q2 q3 (((p1 &&& (2147483647 : Int32)) % ((128 : Int32) / (p0 &&& (31 : Int32)))) * (p0 &&& (31 : Int32))) (p0 &&& (31 : Int32)))), .val (.ref b233), .val (.ref b261)] [])) _
      refine XS.aload X271.here hx rfl (hb hby at_199) rfl rfl ?_
      show Steps p.tables e below (T271.setTop (mkF m 201 #[.val (.int p0), .val (.int p1), .val (.long q2), .second, .val (.long q3), .second, .val (.int p4), .val (.int (p0 &&& (31 : Int32))), .val (.ref b7), .val (.int ((128 : Int32) / (p0 &&& (31 : Int32)))), .val (.int ((p1 &&& (2147483647 : Int32)) % ((128 : Int32) / (p0 &&& (31 : Int32))))), .val (.int (own_ext_f q2 q3 (((p1 &&& (2147483647 : Int32)) % ((128 : Int32) / (p0 &&& (31 : Int32)))) * (p0 &&& (31 : Int32))) (p0 &&& (31 : Int32)))), .val (.ref b233), .val (.ref b261)] [(.ref b233)])) _
      refine XS.iload X271.here hx rfl (hb hby at_201) rfl ?_
      show Steps p.tables e below (T271.setTop (mkF m 203 #[.val (.int p0), .val (.int p1), .val (.long q2), .second, .val (.long q3), .second, .val (.int p4), .val (.int (p0 &&& (31 : Int32))), .val (.ref b7), .val (.int ((128 : Int32) / (p0 &&& (31 : Int32)))), .val (.int ((p1 &&& (2147483647 : Int32)) % ((128 : Int32) / (p0 &&& (31 : Int32))))), .val (.int (own_ext_f q2 q3 (((p1 &&& (2147483647 : Int32)) % ((128 : Int32) / (p0 &&& (31 : Int32)))) * (p0 &&& (31 : Int32))) (p0 &&& (31 : Int32)))), .val (.ref b233), .val (.ref b261)] [(.int ((128 : Int32) / (p0 &&& (31 : Int32)))), (.ref b233)])) _
      refine XS.aload X271.here hx rfl (hb hby at_203) rfl rfl ?_
      show Steps p.tables e below (T271.setTop (mkF m 205 #[.val (.int p0), .val (.int p1), .val (.long q2), .second, .val (.long q3), .second, .val (.int p4), .val (.int (p0 &&& (31 : Int32))), .val (.ref b7), .val (.int ((128 : Int32) / (p0 &&& (31 : Int32)))), .val (.int ((p1 &&& (2147483647 : Int32)) % ((128 : Int32) / (p0 &&& (31 : Int32))))), .val (.int (own_ext_f q2 q3 (((p1 &&& (2147483647 : Int32)) % ((128 : Int32) / (p0 &&& (31 : Int32)))) * (p0 &&& (31 : Int32))) (p0 &&& (31 : Int32)))), .val (.ref b233), .val (.ref b261)] [(.ref b261), (.int ((128 : Int32) / (p0 &&& (31 : Int32)))), (.ref b233)])) _
      refine st287.trans ?_
      show Steps p.tables e below (T287.setTop (mkF m 208 #[.val (.int p0), .val (.int p1), .val (.long q2), .second, .val (.long q3), .second, .val (.int p4), .val (.int (p0 &&& (31 : Int32))), .val (.ref b7), .val (.int ((128 : Int32) / (p0 &&& (31 : Int32)))), .val (.int ((p1 &&& (2147483647 : Int32)) % ((128 : Int32) / (p0 &&& (31 : Int32))))), .val (.int (own_ext_f q2 q3 (((p1 &&& (2147483647 : Int32)) % ((128 : Int32) / (p0 &&& (31 : Int32)))) * (p0 &&& (31 : Int32))) (p0 &&& (31 : Int32)))), .val (.ref b233), .val (.ref b261)] [])) _
      refine XS.aload X287.here hx rfl (hb hby at_208) rfl rfl ?_
      show Steps p.tables e below (T287.setTop (mkF m 210 #[.val (.int p0), .val (.int p1), .val (.long q2), .second, .val (.long q3), .second, .val (.int p4), .val (.int (p0 &&& (31 : Int32))), .val (.ref b7), .val (.int ((128 : Int32) / (p0 &&& (31 : Int32)))), .val (.int ((p1 &&& (2147483647 : Int32)) % ((128 : Int32) / (p0 &&& (31 : Int32))))), .val (.int (own_ext_f q2 q3 (((p1 &&& (2147483647 : Int32)) % ((128 : Int32) / (p0 &&& (31 : Int32)))) * (p0 &&& (31 : Int32))) (p0 &&& (31 : Int32)))), .val (.ref b233), .val (.ref b261)] [(.ref b261)])) _
      refine XS.iload X287.here hx rfl (hb hby at_210) rfl ?_
      show Steps p.tables e below (T287.setTop (mkF m 212 #[.val (.int p0), .val (.int p1), .val (.long q2), .second, .val (.long q3), .second, .val (.int p4), .val (.int (p0 &&& (31 : Int32))), .val (.ref b7), .val (.int ((128 : Int32) / (p0 &&& (31 : Int32)))), .val (.int ((p1 &&& (2147483647 : Int32)) % ((128 : Int32) / (p0 &&& (31 : Int32))))), .val (.int (own_ext_f q2 q3 (((p1 &&& (2147483647 : Int32)) % ((128 : Int32) / (p0 &&& (31 : Int32)))) * (p0 &&& (31 : Int32))) (p0 &&& (31 : Int32)))), .val (.ref b233), .val (.ref b261)] [(.int ((p1 &&& (2147483647 : Int32)) % ((128 : Int32) / (p0 &&& (31 : Int32))))), (.ref b261)])) _
      refine st306.trans ?_
      show Steps p.tables e below (T306.setTop (mkF m 215 #[.val (.int p0), .val (.int p1), .val (.long q2), .second, .val (.long q3), .second, .val (.int p4), .val (.int (p0 &&& (31 : Int32))), .val (.ref b7), .val (.int ((128 : Int32) / (p0 &&& (31 : Int32)))), .val (.int ((p1 &&& (2147483647 : Int32)) % ((128 : Int32) / (p0 &&& (31 : Int32))))), .val (.int (own_ext_f q2 q3 (((p1 &&& (2147483647 : Int32)) % ((128 : Int32) / (p0 &&& (31 : Int32)))) * (p0 &&& (31 : Int32))) (p0 &&& (31 : Int32)))), .val (.ref b233), .val (.ref b261)] [(.int (own_get_f (((((((p1 &&& (2147483647 : Int32)) % ((128 : Int32) / (p0 &&& (31 : Int32)))).toInt64) * ((p0 &&& (31 : Int32)).toInt64)).toUInt64 >>> ((3 : Int32) &&& 0x3f).toInt64.toUInt64).toInt64).toInt32) ((((((p1 &&& (2147483647 : Int32)) % ((128 : Int32) / (p0 &&& (31 : Int32)))).toInt64) * ((p0 &&& (31 : Int32)).toInt64)) &&& (7 : Int64)).toInt32) (p0 &&& (31 : Int32)) (own_bt q2 q3)))])) _
      refine XS.iload X306.here hx rfl (hb hby at_215) rfl ?_
      show Steps p.tables e below (T306.setTop (mkF m 217 #[.val (.int p0), .val (.int p1), .val (.long q2), .second, .val (.long q3), .second, .val (.int p4), .val (.int (p0 &&& (31 : Int32))), .val (.ref b7), .val (.int ((128 : Int32) / (p0 &&& (31 : Int32)))), .val (.int ((p1 &&& (2147483647 : Int32)) % ((128 : Int32) / (p0 &&& (31 : Int32))))), .val (.int (own_ext_f q2 q3 (((p1 &&& (2147483647 : Int32)) % ((128 : Int32) / (p0 &&& (31 : Int32)))) * (p0 &&& (31 : Int32))) (p0 &&& (31 : Int32)))), .val (.ref b233), .val (.ref b261)] [(.int (own_ext_f q2 q3 (((p1 &&& (2147483647 : Int32)) % ((128 : Int32) / (p0 &&& (31 : Int32)))) * (p0 &&& (31 : Int32))) (p0 &&& (31 : Int32)))), (.int (own_get_f (((((((p1 &&& (2147483647 : Int32)) % ((128 : Int32) / (p0 &&& (31 : Int32)))).toInt64) * ((p0 &&& (31 : Int32)).toInt64)).toUInt64 >>> ((3 : Int32) &&& 0x3f).toInt64.toUInt64).toInt64).toInt32) ((((((p1 &&& (2147483647 : Int32)) % ((128 : Int32) / (p0 &&& (31 : Int32)))).toInt64) * ((p0 &&& (31 : Int32)).toInt64)) &&& (7 : Int64)).toInt32) (p0 &&& (31 : Int32)) (own_bt q2 q3)))])) _
      refine XS.icmpNo X306.here hx rfl (hb hby at_217) rfl (teq ((own_law1 q2 q3 (p1 := p1) hc21_27).1 : (own_get_f (((((((p1 &&& (2147483647 : Int32)) % ((128 : Int32) / (p0 &&& (31 : Int32)))).toInt64) * ((p0 &&& (31 : Int32)).toInt64)).toUInt64 >>> ((3 : Int32) &&& 0x3f).toInt64.toUInt64).toInt64).toInt32) ((((((p1 &&& (2147483647 : Int32)) % ((128 : Int32) / (p0 &&& (31 : Int32)))).toInt64) * ((p0 &&& (31 : Int32)).toInt64)) &&& (7 : Int64)).toInt32) (p0 &&& (31 : Int32)) (own_bt q2 q3)) = (own_ext_f q2 q3 (((p1 &&& (2147483647 : Int32)) % ((128 : Int32) / (p0 &&& (31 : Int32)))) * (p0 &&& (31 : Int32))) (p0 &&& (31 : Int32))))).2 ?_
      show Steps p.tables e below (T306.setTop (mkF m 220 #[.val (.int p0), .val (.int p1), .val (.long q2), .second, .val (.long q3), .second, .val (.int p4), .val (.int (p0 &&& (31 : Int32))), .val (.ref b7), .val (.int ((128 : Int32) / (p0 &&& (31 : Int32)))), .val (.int ((p1 &&& (2147483647 : Int32)) % ((128 : Int32) / (p0 &&& (31 : Int32))))), .val (.int (own_ext_f q2 q3 (((p1 &&& (2147483647 : Int32)) % ((128 : Int32) / (p0 &&& (31 : Int32)))) * (p0 &&& (31 : Int32))) (p0 &&& (31 : Int32)))), .val (.ref b233), .val (.ref b261)] [])) _
      refine XS.iconst X306.here hx rfl (hb hby at_220) ?_
      show Steps p.tables e below (T306.setTop (mkF m 221 #[.val (.int p0), .val (.int p1), .val (.long q2), .second, .val (.long q3), .second, .val (.int p4), .val (.int (p0 &&& (31 : Int32))), .val (.ref b7), .val (.int ((128 : Int32) / (p0 &&& (31 : Int32)))), .val (.int ((p1 &&& (2147483647 : Int32)) % ((128 : Int32) / (p0 &&& (31 : Int32))))), .val (.int (own_ext_f q2 q3 (((p1 &&& (2147483647 : Int32)) % ((128 : Int32) / (p0 &&& (31 : Int32)))) * (p0 &&& (31 : Int32))) (p0 &&& (31 : Int32)))), .val (.ref b233), .val (.ref b261)] [(.int (1 : Int32))])) _
      refine XS.goto X306.here hx rfl (pc0 := 221) (pc' := 225) rfl (hb hby at_221) (by decide) (by decide) ?_
      show Steps p.tables e below (T306.setTop (mkF m 225 #[.val (.int p0), .val (.int p1), .val (.long q2), .second, .val (.long q3), .second, .val (.int p4), .val (.int (p0 &&& (31 : Int32))), .val (.ref b7), .val (.int ((128 : Int32) / (p0 &&& (31 : Int32)))), .val (.int ((p1 &&& (2147483647 : Int32)) % ((128 : Int32) / (p0 &&& (31 : Int32))))), .val (.int (own_ext_f q2 q3 (((p1 &&& (2147483647 : Int32)) % ((128 : Int32) / (p0 &&& (31 : Int32)))) * (p0 &&& (31 : Int32))) (p0 &&& (31 : Int32)))), .val (.ref b233), .val (.ref b261)] [(.int (1 : Int32))])) _
      exact retN X306 hx (t := .boolean) Bd.returns (by simp) (hb hby at_225) hr
    · show Qown_law Z p0 p1 q2 q3 p4 h0 n0 _ T306.heap _
      rw [eh306]
      exact ⟨rfl, N307⟩
set_option maxRecDepth 65536 in
set_option maxHeartbeats 40000000 in
theorem comes_1 {Post : Tables → Env → Array Value → State → Outcome → State → Prop} (hpost : ∀ tb e args s v u, (limb_1_1.after args s (.returned v) u = true ∧ limb_1_2.after args s (.returned v) u = true ∧ True) → FramedW s (.returned v) u (Jvm.fieldLocs frame_1_writes args s ++ Jvm.arrayLocs frame_1_arrays args s ++ Jvm.staticLocs frame_1_statics s) 24 1216 → Post tb e args s (.returned v) u) :
    ArmFor flags0 classFile x code maxLocals ret World_1 tables_1 room_1 Calls_1 rest_1 Pre_1 Post := by
  intro l hfl _ _ p e ha hc hk s m args below hf hA hF happ hP
  obtain ⟨hcalls, hrest, hpre⟩ := hP
  obtain ⟨-, -, -, hnamed, -, -, -, hat⟩ := (Spec.applies_iff hf).mp happ
  obtain ⟨hg, hn⟩ := and_e (Cond.before_iff.mp (show (Jvm.Cond.and given_1 narrow_1).before args s = true from hpre))
  obtain ⟨gg1, gg2⟩ := and_e hg
  obtain ⟨gg3, gg4⟩ := and_e gg2
  obtain ⟨gg5, gg6⟩ := and_e gg4
  obtain ⟨gg7, gg8⟩ := and_e gg6
  obtain ⟨gg9, gg10⟩ := and_e gg8
  obtain ⟨w0, w1, w2, w3, w4, rfl⟩ : ∃ w0 w1 w2 w3 w4 : Value, args = #[w0, w1, w2, w3, w4] := by
    have hs : args.size = 5 := by simpa [Cond.value, given_1] using gg1
    obtain ⟨L⟩ := args
    match L, hs with
    | [w0, w1, w2, w3, w4], _ => exact ⟨w0, w1, w2, w3, w4, rfl⟩
  have hw := fun d (hd : d ∈ tables_1) => atoms_spec (ws := Jvm.Cond.code x code maxLocals ret :: tables_1) hat d (List.mem_cons_of_mem _ hd)
  obtain ⟨i0, ei0⟩ := is_v gg3
  obtain rfl : w0 = (.int i0) := Option.some.inj ei0
  obtain ⟨i1, ei1⟩ := is_v gg5
  obtain rfl : w1 = (.int i1) := Option.some.inj ei1
  obtain ⟨i2, ei2⟩ := isL_v gg7
  obtain rfl : w2 = (.long i2) := Option.some.inj ei2
  obtain ⟨i3, ei3⟩ := isL_v gg9
  obtain rfl : w3 = (.long i3) := Option.some.inj ei3
  obtain ⟨i4, ei4⟩ := is_v gg10
  obtain rfl : w4 = (.int i4) := Option.some.inj ei4
  obtain ⟨n, o, h1, h2, h3, _, L, rfl, ⟨rfl, N⟩, hq⟩ := own_law l s _ hw tables_1 i0 i1 i2 i3 i4 s.heap s.heap.size (Nat.le_refl _) p e ha hc hk s m _ below hf ((Spec.applies_iff_loose hf).mp happ).1 ⟨rfl, State.Warmed39.refl s, rfl⟩ trivial
  refine ⟨n, _, h1, h2, h3, hpost _ _ _ _ _ _ ⟨Cond.after_iff.mpr rfl, Cond.after_iff.mpr (eq_i res_at (Term.int_eval (1)) rfl), trivial⟩ ⟨hq.1, hq.2.1, hq.2.2.1, (hq.2.2.2.sift fun y hy => Or.inr (N y hy)).mono (by decide) (by decide)⟩⟩
theorem main_1_1 : Claimed_1_1 := comes_1 fun _ _ _ _ _ _ h hF => ⟨h.1, hF⟩
theorem main_1_2 : Claimed_1_2 := comes_1 fun _ _ _ _ _ _ h hF => ⟨h.2.1, hF⟩
end Jvm.Pilot.@@N@@
namespace Jvm.Pilot.@@N@@
open Jvm Jvm.ClassFile Sem Op Lib Jvm.Free Jvm.Stand Jvm.Pilot.@@N@@.Jvm.D
/-! MADE BY PROGRAM (witnessworld.py) out of the Statement's table words and the real class files: 17 classes; the members and pool entries that the words name. The judged class is class 1, her method 3. -/
namespace start1
open Jvm.ClassFile
def u (s : String) : CpInfo := .utf8 (stringToUtf16 s)
/-- a pool by its gaps: so many unusable entries, then the entry; so many at the end -/
def gap : Nat → List CpInfo → List CpInfo
  | 0, r => r
  | n + 1, r => .unusable :: gap n r
def poolList (es : List (Nat × CpInfo)) (last : Nat) : List CpInfo := es.foldr (fun e r => gap e.1 (e.2 :: r)) (gap last [])
def pool (es : List (Nat × CpInfo)) (last : Nat) : Array CpInfo := ⟨poolList es last⟩
def fileOf (pool : Array CpInfo) (this : Nat) (attrs : Array Attribute := #[]) (ms : Array MethodInfo := #[]) (fl : Nat := 33) (sup : Nat := 0) (ifs : Array Nat := #[]) (fds : Array FieldInfo := #[]) : ClassFile where
  minorVersion := 0
  majorVersion := 65
  constantPool := pool
  accessFlags := fl
  thisClass := this
  superClass := sup
  interfaces := ifs
  fields := fds
  methods := ms
  attributes := attrs
def plain (name : String) (sup : Option ClassId) : Class where
  name := name
  kind := .ordinary
  loader := none
  accessFlags := 33
  super := sup
  interfaces := #[]
  cf := none
  fields := #[]
  methods := #[]
  instanceTypes := #[]
  staticTypes := #[]
  resolved := #[]
  callSites := []
  init := .initialized
  statics := none
  mirror := none

def pool0 : Array CpInfo := pool [(5, u "<init>"), (0, u "()V"), (1, .class_ 10), (1, u "java/lang/Object")] 113

def k0c0 : Code := { maxStack := 0, maxLocals := 1, code := object_method_1_code, exceptionTable := #[], attributes := #[] }
def k0m0 : Method := { name := "<init>", desc := "()V", sig := { parameters := [], returnType := none }, accessFlags := 1, code := some k0c0 }
/-- java/lang/Object -/
def k0 : Class := { plain "java/lang/Object" none with
  accessFlags := 33
  interfaces := #[]
  cf := some (fileOf pool0 8 #[] #[{ accessFlags := 1, nameIndex := 5, descriptorIndex := 6, attributes := #[] }] 33 0 #[] #[])
  fields := #[]
  methods := #[k0m0]
  instanceTypes := #[]
  staticTypes := #[]
  resolved := Array.replicate 124 none
  statics := none }

def pool1 : Array CpInfo := pool [(2, .class_ 4), (0, .nameAndType 5 6), (0, u "java/lang/Object"), (0, u "<init>"), (0, u "()V"), (0, .integer 2147483647), (2, .methodref 11 12), (0, .class_ 13), (0, .nameAndType 14 15), (0, u "fieldstone/PackedIntsGetPinLaw"), (0, u "putLong"), (0, u "([BIJ)V"), (0, .methodref 11 17), (0, .nameAndType 18 19), (0, u "extract"), (0, u "(JJII)I"), (0, .class_ 21), (0, u "fieldstone/ByteReader"), (0, .string 23), (0, u "f"), (0, .methodref 20 25), (0, .nameAndType 5 26), (0, u "([BIILjava/lang/String;)V"), (0, .class_ 28), (0, u "fieldstone/ByteReader$PackedInts"), (0, .methodref 27 3), (0, .methodref 20 31), (0, .nameAndType 32 33), (0, u "holdPackedInts"), (0, u "(ILfieldstone/ByteReader$PackedInts;)V"), (0, .methodref 27 35), (0, .nameAndType 36 37), (0, u "get"), (0, u "(I)I"), (3, u "law"), (0, u "(IIJJI)Z")] 9

def k1m0 : Method := { name := "<init>", desc := "()V", sig := { parameters := [], returnType := none }, accessFlags := 1, code := none }
def k1c1 : Code := { maxStack := 5, maxLocals := 4, code := method_2_code, exceptionTable := #[], attributes := #[] }
def k1m1 : Method := { name := "putLong", desc := "([BIJ)V", sig := { parameters := [(.array .byte), .int, .long], returnType := none }, accessFlags := 10, code := some k1c1 }
def k1c2 : Code := { maxStack := 6, maxLocals := 10, code := method_3_code, exceptionTable := #[], attributes := #[] }
def k1m2 : Method := { name := "extract", desc := "(JJII)I", sig := { parameters := [.long, .long, .int, .int], returnType := some .int }, accessFlags := 10, code := some k1c2 }
def k1c3 : Code := { maxStack := 6, maxLocals := 14, code := code, exceptionTable := #[], attributes := #[] }
def k1m3 : Method := { name := "law", desc := "(IIJJI)Z", sig := { parameters := [.int, .int, .long, .long, .int], returnType := some .boolean }, accessFlags := 9, code := some k1c3 }
/-- fieldstone/PackedIntsGetPinLaw -/
def k1 : Class := { plain "fieldstone/PackedIntsGetPinLaw" (some 0) with
  accessFlags := 49
  interfaces := #[]
  cf := some (fileOf pool1 11 #[] #[{ accessFlags := 1, nameIndex := 5, descriptorIndex := 6, attributes := #[] }, { accessFlags := 10, nameIndex := 14, descriptorIndex := 15, attributes := #[] }, { accessFlags := 10, nameIndex := 18, descriptorIndex := 19, attributes := #[] }, { accessFlags := 9, nameIndex := 41, descriptorIndex := 42, attributes := #[] }] 49 2 #[] #[])
  fields := #[]
  methods := #[k1m0, k1m1, k1m2, k1m3]
  instanceTypes := #[]
  staticTypes := #[]
  resolved := Array.replicate 52 none
  statics := none }

def pool2 : Array CpInfo := pool [(1, .methodref 2 3), (0, .class_ 4), (0, .nameAndType 5 6), (0, u "java/lang/Object"), (0, u "<init>"), (0, u "()V"), (0, .methodref 8 9), (0, .class_ 10), (0, .nameAndType 11 12), (0, u "fieldstone/ByteReader"), (0, u "reset"), (0, u "([BIILjava/lang/String;)Lfieldstone/ByteReader;"), (0, .fieldref 8 14), (0, .nameAndType 15 16), (0, u "bytes"), (0, u "[B"), (0, .fieldref 8 18), (0, .nameAndType 19 20), (0, u "pos"), (0, u "I"), (0, .fieldref 8 22), (0, .nameAndType 23 20), (0, u "limit"), (0, .fieldref 8 25), (0, .nameAndType 26 27), (0, u "file"), (0, u "Ljava/lang/String;"), (2, u "([BIILjava/lang/String;)V"), (0, .methodref 8 32), (0, .nameAndType 33 34), (0, u "need"), (0, u "(I)V"), (10, .methodref 8 46), (0, .nameAndType 47 48), (0, u "readVarLong"), (0, u "()J"), (25, .long 2147483647), (3, .methodref 79 80), (0, .class_ 81), (0, .nameAndType 82 83), (0, u "java/lang/Math"), (0, u "min"), (0, u "(JJ)J"), (18, .methodref 8 103), (0, .nameAndType 104 105), (0, u "readVarInt"), (0, u "(I)I"), (0, .methodref 8 107), (0, .nameAndType 108 105), (0, u "skip"), (17, .class_ 128), (1, u "fieldstone/ByteReader$Words"), (11, .long 8), (7, .integer 2147483647), (0, .methodref 150 151), (0, .class_ 152), (0, .nameAndType 153 34), (0, u "fieldstone/ByteReader$PackedInts"), (0, u "holdAlike"), (0, .long 7), (1, .methodref 150 157), (0, .nameAndType 158 159), (0, u "hold"), (0, u "([BIII)V"), (15, u "CUT_SHORT"), (1, u "NOT_UTF8"), (0, u "HIGH_BITS"), (0, u "J"), (22, u "holdPackedInts"), (0, u "(ILfieldstone/ByteReader$PackedInts;)V")] 23

def k2c0 : Code := { maxStack := 5, maxLocals := 5, code := prog_2_method_1_code, exceptionTable := #[], attributes := #[] }
def k2m0 : Method := { name := "<init>", desc := "([BIILjava/lang/String;)V", sig := { parameters := [(.array .byte), .int, .int, (.object "java/lang/String")], returnType := none }, accessFlags := 0, code := some k2c0 }
def k2c1 : Code := { maxStack := 2, maxLocals := 5, code := prog_2_method_2_code, exceptionTable := #[], attributes := #[] }
def k2m1 : Method := { name := "reset", desc := "([BIILjava/lang/String;)Lfieldstone/ByteReader;", sig := { parameters := [(.array .byte), .int, .int, (.object "java/lang/String")], returnType := some (.object "fieldstone/ByteReader") }, accessFlags := 0, code := some k2c1 }
def k2c2 : Code := { maxStack := 3, maxLocals := 3, code := prog_2_method_10_code, exceptionTable := #[], attributes := #[] }
def k2m2 : Method := { name := "skip", desc := "(I)I", sig := { parameters := [.int], returnType := some .int }, accessFlags := 0, code := some k2c2 }
def k2c3 : Code := { maxStack := 5, maxLocals := 5, code := prog_2_method_11_code, exceptionTable := #[], attributes := #[] }
def k2m3 : Method := { name := "readVarLong", desc := "()J", sig := { parameters := [], returnType := some .long }, accessFlags := 0, code := some k2c3 }
def k2c4 : Code := { maxStack := 4, maxLocals := 4, code := prog_2_method_12_code, exceptionTable := #[], attributes := #[] }
def k2m4 : Method := { name := "readVarInt", desc := "(I)I", sig := { parameters := [.int], returnType := some .int }, accessFlags := 0, code := some k2c4 }
def k2c5 : Code := { maxStack := 6, maxLocals := 5, code := prog_2_method_26_code, exceptionTable := #[], attributes := #[] }
def k2m5 : Method := { name := "holdPackedInts", desc := "(ILfieldstone/ByteReader$PackedInts;)V", sig := { parameters := [.int, (.object "fieldstone/ByteReader$PackedInts")], returnType := none }, accessFlags := 0, code := some k2c5 }
def k2c6 : Code := { maxStack := 2, maxLocals := 2, code := prog_2_method_30_code, exceptionTable := #[], attributes := #[] }
def k2m6 : Method := { name := "need", desc := "(I)V", sig := { parameters := [.int], returnType := none }, accessFlags := 2, code := some k2c6 }
/-- fieldstone/ByteReader -/
def k2 : Class := { plain "fieldstone/ByteReader" (some 0) with
  accessFlags := 48
  interfaces := #[]
  cf := some (fileOf pool2 8 #[.nestMembers #[150, 126]] #[{ accessFlags := 0, nameIndex := 5, descriptorIndex := 30, attributes := #[] }, { accessFlags := 0, nameIndex := 11, descriptorIndex := 12, attributes := #[] }, { accessFlags := 0, nameIndex := 108, descriptorIndex := 105, attributes := #[] }, { accessFlags := 0, nameIndex := 47, descriptorIndex := 48, attributes := #[] }, { accessFlags := 0, nameIndex := 104, descriptorIndex := 105, attributes := #[] }, { accessFlags := 0, nameIndex := 202, descriptorIndex := 203, attributes := #[] }, { accessFlags := 2, nameIndex := 33, descriptorIndex := 34, attributes := #[] }] 48 2 #[] #[{ accessFlags := 24, nameIndex := 175, descriptorIndex := 27, attributes := #[] }, { accessFlags := 24, nameIndex := 177, descriptorIndex := 27, attributes := #[] }, { accessFlags := 24, nameIndex := 178, descriptorIndex := 179, attributes := #[] }, { accessFlags := 2, nameIndex := 15, descriptorIndex := 16, attributes := #[] }, { accessFlags := 2, nameIndex := 23, descriptorIndex := 20, attributes := #[] }, { accessFlags := 2, nameIndex := 26, descriptorIndex := 27, attributes := #[] }, { accessFlags := 2, nameIndex := 19, descriptorIndex := 20, attributes := #[] }])
  fields := #[{ name := "CUT_SHORT", type := (.object "java/lang/String"), accessFlags := 24, slot := 0, constantValue := 0 }, { name := "NOT_UTF8", type := (.object "java/lang/String"), accessFlags := 24, slot := 1, constantValue := 0 }, { name := "HIGH_BITS", type := .long, accessFlags := 24, slot := 2, constantValue := 0 }, { name := "bytes", type := (.array .byte), accessFlags := 2, slot := 0, constantValue := 0 }, { name := "limit", type := .int, accessFlags := 2, slot := 1, constantValue := 0 }, { name := "file", type := (.object "java/lang/String"), accessFlags := 2, slot := 2, constantValue := 0 }, { name := "pos", type := .int, accessFlags := 2, slot := 3, constantValue := 0 }]
  methods := #[k2m0, k2m1, k2m2, k2m3, k2m4, k2m5, k2m6]
  instanceTypes := #[(.array .byte), .int, (.object "java/lang/String"), .int]
  staticTypes := #[(.object "java/lang/String"), (.object "java/lang/String"), .long]
  resolved := Array.replicate 149 none ++ #[some (.method ⟨9, 2⟩), some (.cls 9)] ++ Array.replicate 5 none ++ #[some (.method ⟨9, 1⟩)] ++ Array.replicate 70 none
  statics := none }

def pool3 : Array CpInfo := pool [(1, .class_ 2), (0, u "java/io/Serializable"), (0, .class_ 4), (0, u "java/lang/Object")] 2

/-- java/io/Serializable -/
def k3 : Class := { plain "java/io/Serializable" (some 0) with
  accessFlags := 1537
  interfaces := #[]
  cf := some (fileOf pool3 1 #[] #[] 1537 3 #[] #[])
  fields := #[]
  methods := #[]
  instanceTypes := #[]
  staticTypes := #[]
  resolved := Array.replicate 7 none
  statics := none }

def pool4 : Array CpInfo := pool [(1, .class_ 2), (0, u "java/lang/Comparable"), (0, .class_ 4), (0, u "java/lang/Object")] 7

/-- java/lang/Comparable -/
def k4 : Class := { plain "java/lang/Comparable" (some 0) with
  accessFlags := 1537
  interfaces := #[]
  cf := some (fileOf pool4 1 #[] #[] 1537 3 #[] #[])
  fields := #[]
  methods := #[]
  instanceTypes := #[]
  staticTypes := #[]
  resolved := Array.replicate 12 none
  statics := none }

def pool5 : Array CpInfo := pool [(2, .class_ 4), (1, u "java/lang/CharSequence"), (42, .class_ 48), (0, u "java/lang/CharSequence$1CodePointIterator"), (10, .class_ 60), (0, u "java/lang/CharSequence$1CharIterator"), (5, .class_ 67), (0, u "java/lang/Object")] 63

/-- java/lang/CharSequence -/
def k5 : Class := { plain "java/lang/CharSequence" (some 0) with
  accessFlags := 1537
  interfaces := #[]
  cf := some (fileOf pool5 2 #[.nestMembers #[47, 59]] #[] 1537 66 #[] #[])
  fields := #[]
  methods := #[]
  instanceTypes := #[]
  staticTypes := #[]
  resolved := Array.replicate 131 none
  statics := none }

def pool6 : Array CpInfo := pool [(1, .class_ 2), (0, u "java/lang/constant/Constable"), (0, .class_ 4), (0, u "java/lang/Object")] 6

/-- java/lang/constant/Constable -/
def k6 : Class := { plain "java/lang/constant/Constable" (some 0) with
  accessFlags := 1537
  interfaces := #[]
  cf := some (fileOf pool6 1 #[] #[] 1537 3 #[] #[])
  fields := #[]
  methods := #[]
  instanceTypes := #[]
  staticTypes := #[]
  resolved := Array.replicate 11 none
  statics := none }

def pool7 : Array CpInfo := pool [(1, .class_ 2), (0, u "java/lang/constant/ConstantDesc"), (0, .class_ 4), (0, u "java/lang/Object")] 32

/-- java/lang/constant/ConstantDesc -/
def k7 : Class := { plain "java/lang/constant/ConstantDesc" (some 0) with
  accessFlags := 1537
  interfaces := #[]
  cf := some (fileOf pool7 1 #[] #[] 1537 3 #[] #[])
  fields := #[]
  methods := #[]
  instanceTypes := #[]
  staticTypes := #[]
  resolved := Array.replicate 37 none
  statics := none }

def pool8 : Array CpInfo := pool [(2, .class_ 4), (1, u "java/lang/Object"), (0, u "<init>"), (0, u "()V"), (3, .class_ 12), (1, u "java/lang/String"), (0, u "value"), (0, u "[B"), (2, u "coder"), (0, u "B"), (2, u "hash"), (0, u "I"), (2, u "hashIsZero"), (0, u "Z"), (13, u "COMPACT_STRINGS"), (534, .class_ 576), (0, u "java/lang/CharSequence"), (22, u "CASE_INSENSITIVE_ORDER"), (0, u "Ljava/util/Comparator;"), (500, u "serialPersistentFields"), (0, u "[Ljava/io/ObjectStreamField;"), (0, .class_ 1104), (0, u "java/lang/String$CaseInsensitiveComparator"), (1, .class_ 1107), (0, u "java/io/Serializable"), (0, .class_ 1109), (0, u "java/lang/Comparable"), (0, .class_ 1111), (0, u "java/lang/constant/Constable"), (0, .class_ 1113), (0, u "java/lang/constant/ConstantDesc"), (2, u "serialVersionUID"), (0, u "J"), (3, u "REPL"), (0, u "C"), (2, u "LATIN1"), (1, u "UTF16")] 323

def k8m0 : Method := { name := "<init>", desc := "()V", sig := { parameters := [], returnType := none }, accessFlags := 1, code := none }
/-- java/lang/String -/
def k8 : Class := { plain "java/lang/String" (some 0) with
  accessFlags := 49
  interfaces := #[3, 4, 5, 6, 7]
  cf := some (fileOf pool8 10 #[.nestMembers #[1103]] #[{ accessFlags := 1, nameIndex := 5, descriptorIndex := 6, attributes := #[] }] 49 2 #[1106, 1108, 575, 1110, 1112] #[{ accessFlags := 18, nameIndex := 13, descriptorIndex := 14, attributes := #[] }, { accessFlags := 18, nameIndex := 17, descriptorIndex := 18, attributes := #[] }, { accessFlags := 2, nameIndex := 21, descriptorIndex := 22, attributes := #[] }, { accessFlags := 2, nameIndex := 25, descriptorIndex := 26, attributes := #[] }, { accessFlags := 26, nameIndex := 1116, descriptorIndex := 1117, attributes := #[] }, { accessFlags := 24, nameIndex := 40, descriptorIndex := 26, attributes := #[] }, { accessFlags := 26, nameIndex := 1101, descriptorIndex := 1102, attributes := #[] }, { accessFlags := 26, nameIndex := 1121, descriptorIndex := 1122, attributes := #[] }, { accessFlags := 25, nameIndex := 599, descriptorIndex := 600, attributes := #[] }, { accessFlags := 24, nameIndex := 1125, descriptorIndex := 18, attributes := #[] }, { accessFlags := 24, nameIndex := 1127, descriptorIndex := 18, attributes := #[] }])
  fields := #[{ name := "value", type := (.array .byte), accessFlags := 18, slot := 0, constantValue := 0 }, { name := "coder", type := .byte, accessFlags := 18, slot := 1, constantValue := 0 }, { name := "hash", type := .int, accessFlags := 2, slot := 2, constantValue := 0 }, { name := "hashIsZero", type := .boolean, accessFlags := 2, slot := 3, constantValue := 0 }, { name := "serialVersionUID", type := .long, accessFlags := 26, slot := 0, constantValue := 0 }, { name := "COMPACT_STRINGS", type := .boolean, accessFlags := 24, slot := 1, constantValue := 0 }, { name := "serialPersistentFields", type := (.array (.object "java/io/ObjectStreamField")), accessFlags := 26, slot := 2, constantValue := 0 }, { name := "REPL", type := .char, accessFlags := 26, slot := 3, constantValue := 0 }, { name := "CASE_INSENSITIVE_ORDER", type := (.object "java/util/Comparator"), accessFlags := 25, slot := 4, constantValue := 0 }, { name := "LATIN1", type := .byte, accessFlags := 24, slot := 5, constantValue := 0 }, { name := "UTF16", type := .byte, accessFlags := 24, slot := 6, constantValue := 0 }]
  methods := #[k8m0]
  instanceTypes := #[(.array .byte), .byte, .int, .boolean]
  staticTypes := #[.long, .boolean, (.array (.object "java/io/ObjectStreamField")), .char, (.object "java/util/Comparator"), .byte, .byte]
  resolved := Array.replicate 1451 none
  statics := none }

def pool9 : Array CpInfo := pool [(1, .methodref 2 3), (0, .class_ 4), (0, .nameAndType 5 6), (0, u "java/lang/Object"), (0, u "<init>"), (0, u "()V"), (0, .fieldref 8 9), (0, .class_ 10), (0, .nameAndType 11 12), (0, u "fieldstone/ByteReader$PackedInts"), (0, u "packed"), (0, u "[B"), (0, .methodref 14 15), (0, .class_ 16), (0, .nameAndType 17 18), (0, u "java/lang/Math"), (0, u "max"), (0, u "(II)I"), (0, .methodref 20 21), (0, .class_ 22), (0, .nameAndType 23 24), (0, u "java/lang/System"), (0, u "arraycopy"), (0, u "(Ljava/lang/Object;ILjava/lang/Object;II)V"), (0, .fieldref 8 26), (0, .nameAndType 27 28), (0, u "bits"), (0, u "I"), (0, .fieldref 8 30), (0, .nameAndType 31 28), (0, u "alike"), (0, .long 7), (3, u "hold"), (0, u "([BIII)V"), (1, u "holdAlike"), (0, u "(I)V"), (0, u "get"), (0, u "(I)I"), (5, .class_ 49), (0, u "fieldstone/ByteReader")] 2

def k9c0 : Code := { maxStack := 2, maxLocals := 1, code := prog_3_method_1_code, exceptionTable := #[], attributes := #[] }
def k9m0 : Method := { name := "<init>", desc := "()V", sig := { parameters := [], returnType := none }, accessFlags := 0, code := some k9c0 }
def k9c1 : Code := { maxStack := 5, maxLocals := 5, code := prog_3_method_2_code, exceptionTable := #[], attributes := #[] }
def k9m1 : Method := { name := "hold", desc := "([BIII)V", sig := { parameters := [(.array .byte), .int, .int, .int], returnType := none }, accessFlags := 2, code := some k9c1 }
def k9c2 : Code := { maxStack := 2, maxLocals := 2, code := prog_3_method_3_code, exceptionTable := #[], attributes := #[] }
def k9m2 : Method := { name := "holdAlike", desc := "(I)V", sig := { parameters := [.int], returnType := none }, accessFlags := 2, code := some k9c2 }
def k9c3 : Code := { maxStack := 6, maxLocals := 9, code := prog_3_method_4_code, exceptionTable := #[], attributes := #[] }
def k9m3 : Method := { name := "get", desc := "(I)I", sig := { parameters := [.int], returnType := some .int }, accessFlags := 0, code := some k9c3 }
/-- fieldstone/ByteReader$PackedInts -/
def k9 : Class := { plain "fieldstone/ByteReader$PackedInts" (some 0) with
  accessFlags := 48
  interfaces := #[]
  cf := some (fileOf pool9 8 #[.nestHost 48] #[{ accessFlags := 0, nameIndex := 5, descriptorIndex := 6, attributes := #[] }, { accessFlags := 2, nameIndex := 36, descriptorIndex := 37, attributes := #[] }, { accessFlags := 2, nameIndex := 39, descriptorIndex := 40, attributes := #[] }, { accessFlags := 0, nameIndex := 41, descriptorIndex := 42, attributes := #[] }] 48 2 #[] #[{ accessFlags := 2, nameIndex := 11, descriptorIndex := 12, attributes := #[] }, { accessFlags := 2, nameIndex := 27, descriptorIndex := 28, attributes := #[] }, { accessFlags := 2, nameIndex := 31, descriptorIndex := 28, attributes := #[] }])
  fields := #[{ name := "packed", type := (.array .byte), accessFlags := 2, slot := 0, constantValue := 0 }, { name := "bits", type := .int, accessFlags := 2, slot := 1, constantValue := 0 }, { name := "alike", type := .int, accessFlags := 2, slot := 2, constantValue := 0 }]
  methods := #[k9m0, k9m1, k9m2, k9m3]
  instanceTypes := #[(.array .byte), .int, .int]
  staticTypes := #[]
  resolved := Array.replicate 52 none
  statics := none }

def pool10 : Array CpInfo := pool [(1, .class_ 2), (0, u "java/lang/Math"), (1, .class_ 6), (1, u "java/lang/Object"), (0, u "<init>"), (0, u "()V"), (89, .class_ 100), (1, u "java/lang/Math$RandomNumberGeneratorHolder"), (20, u "(JJ)J"), (50, u "negativeZeroFloatBits"), (0, u "J"), (2, u "negativeZeroDoubleBits"), (21, u "max"), (2, u "min"), (43, u "$assertionsDisabled"), (0, u "Z"), (88, u "(II)I"), (2, u "twoToTheDoubleScaleDown"), (0, u "D"), (4, u "twoToTheDoubleScaleUp"), (9, u "E"), (3, u "PI"), (2, u "TAU"), (2, u "DEGREES_TO_RADIANS"), (0, u "RADIANS_TO_DEGREES")] 94

def k10m0 : Method := { name := "<init>", desc := "()V", sig := { parameters := [], returnType := none }, accessFlags := 2, code := none }
def k10c1 : Code := { maxStack := 2, maxLocals := 2, code := jdk_29_method_65_code, exceptionTable := #[], attributes := #[] }
def k10m1 : Method := { name := "max", desc := "(II)I", sig := { parameters := [.int, .int], returnType := some .int }, accessFlags := 9, code := some k10c1 }
def k10c2 : Code := { maxStack := 4, maxLocals := 4, code := jdk_29_method_70_code, exceptionTable := #[], attributes := #[] }
def k10m2 : Method := { name := "min", desc := "(JJ)J", sig := { parameters := [.long, .long], returnType := some .long }, accessFlags := 9, code := some k10c2 }
/-- java/lang/Math -/
def k10 : Class := { plain "java/lang/Math" (some 0) with
  accessFlags := 49
  interfaces := #[]
  cf := some (fileOf pool10 1 #[.nestMembers #[98]] #[{ accessFlags := 2, nameIndex := 7, descriptorIndex := 8, attributes := #[] }, { accessFlags := 9, nameIndex := 198, descriptorIndex := 335, attributes := #[] }, { accessFlags := 9, nameIndex := 201, descriptorIndex := 121, attributes := #[] }] 49 4 #[] #[{ accessFlags := 25, nameIndex := 354, descriptorIndex := 339, attributes := #[] }, { accessFlags := 25, nameIndex := 358, descriptorIndex := 339, attributes := #[] }, { accessFlags := 25, nameIndex := 361, descriptorIndex := 339, attributes := #[] }, { accessFlags := 26, nameIndex := 364, descriptorIndex := 339, attributes := #[] }, { accessFlags := 26, nameIndex := 365, descriptorIndex := 339, attributes := #[] }, { accessFlags := 26, nameIndex := 172, descriptorIndex := 173, attributes := #[] }, { accessFlags := 26, nameIndex := 176, descriptorIndex := 173, attributes := #[] }, { accessFlags := 8, nameIndex := 344, descriptorIndex := 339, attributes := #[] }, { accessFlags := 8, nameIndex := 338, descriptorIndex := 339, attributes := #[] }, { accessFlags := 4120, nameIndex := 245, descriptorIndex := 246, attributes := #[] }])
  fields := #[{ name := "E", type := .double, accessFlags := 25, slot := 0, constantValue := 0 }, { name := "PI", type := .double, accessFlags := 25, slot := 1, constantValue := 0 }, { name := "TAU", type := .double, accessFlags := 25, slot := 2, constantValue := 0 }, { name := "DEGREES_TO_RADIANS", type := .double, accessFlags := 26, slot := 3, constantValue := 0 }, { name := "RADIANS_TO_DEGREES", type := .double, accessFlags := 26, slot := 4, constantValue := 0 }, { name := "negativeZeroFloatBits", type := .long, accessFlags := 26, slot := 5, constantValue := 0 }, { name := "negativeZeroDoubleBits", type := .long, accessFlags := 26, slot := 6, constantValue := 0 }, { name := "twoToTheDoubleScaleUp", type := .double, accessFlags := 8, slot := 7, constantValue := 0 }, { name := "twoToTheDoubleScaleDown", type := .double, accessFlags := 8, slot := 8, constantValue := 0 }, { name := "$assertionsDisabled", type := .boolean, accessFlags := 4120, slot := 9, constantValue := 0 }]
  methods := #[k10m0, k10m1, k10m2]
  instanceTypes := #[]
  staticTypes := #[.double, .double, .double, .double, .double, .long, .long, .double, .double, .boolean]
  resolved := Array.replicate 460 none
  statics := none }

def pool11 : Array CpInfo := pool [(2, .class_ 4), (1, u "java/lang/Object"), (0, u "<init>"), (0, u "()V"), (1, .class_ 10), (1, u "java/lang/System"), (0, u "allowSecurityManager"), (0, u "I"), (16, u "cons"), (0, u "Ljava/io/Console;"), (77, .class_ 110), (1, u "java/lang/System$CallersHolder"), (43, u "initialErrStream"), (0, u "Ljava/io/PrintStream;"), (19, u "security"), (0, u "Ljava/lang/SecurityManager;"), (31, .class_ 209), (0, u "java/lang/System$1"), (7, u "props"), (0, u "Ljava/util/Properties;"), (2, u "lineSeparator"), (0, u "Ljava/lang/String;"), (96, .class_ 321), (1, u "java/lang/System$LoggerFinder"), (5, .class_ 328), (0, u "java/lang/System$Logger"), (67, u "err"), (2, u "out"), (91, u "notSupportedJnuEncoding"), (15, u "in"), (17, u "initialIn"), (0, u "Ljava/io/InputStream;"), (35, u "bootLayer"), (0, u "Ljava/lang/ModuleLayer;"), (99, .class_ 664), (0, u "java/lang/System$2"), (9, u "NEVER"), (2, u "MAYBE"), (49, u "arraycopy"), (0, u "(Ljava/lang/Object;ILjava/lang/Object;II)V"), (72, .class_ 802), (0, u "java/lang/System$Logger$Level")] 31

def k11m0 : Method := { name := "<init>", desc := "()V", sig := { parameters := [], returnType := none }, accessFlags := 2, code := none }
def k11m1 : Method := { name := "arraycopy", desc := "(Ljava/lang/Object;ILjava/lang/Object;II)V", sig := { parameters := [(.object "java/lang/Object"), .int, (.object "java/lang/Object"), .int, .int], returnType := none }, accessFlags := 265, code := none }
/-- java/lang/System -/
def k11 : Class := { plain "java/lang/System" (some 0) with
  accessFlags := 49
  interfaces := #[]
  cf := some (fileOf pool11 8 #[.nestMembers #[319, 327, 801, 108, 663, 208]] #[{ accessFlags := 2, nameIndex := 5, descriptorIndex := 6, attributes := #[] }, { accessFlags := 265, nameIndex := 727, descriptorIndex := 728, attributes := #[] }] 49 2 #[] #[{ accessFlags := 25, nameIndex := 507, descriptorIndex := 526, attributes := #[] }, { accessFlags := 25, nameIndex := 399, descriptorIndex := 155, attributes := #[] }, { accessFlags := 25, nameIndex := 396, descriptorIndex := 155, attributes := #[] }, { accessFlags := 10, nameIndex := 525, descriptorIndex := 526, attributes := #[] }, { accessFlags := 26, nameIndex := 674, descriptorIndex := 12, attributes := #[] }, { accessFlags := 26, nameIndex := 677, descriptorIndex := 12, attributes := #[] }, { accessFlags := 10, nameIndex := 11, descriptorIndex := 12, attributes := #[] }, { accessFlags := 74, nameIndex := 175, descriptorIndex := 176, attributes := #[] }, { accessFlags := 10, nameIndex := 491, descriptorIndex := 222, attributes := #[] }, { accessFlags := 74, nameIndex := 29, descriptorIndex := 30, attributes := #[] }, { accessFlags := 74, nameIndex := 154, descriptorIndex := 155, attributes := #[] }, { accessFlags := 10, nameIndex := 217, descriptorIndex := 218, attributes := #[] }, { accessFlags := 10, nameIndex := 221, descriptorIndex := 222, attributes := #[] }, { accessFlags := 8, nameIndex := 562, descriptorIndex := 563, attributes := #[] }])
  fields := #[{ name := "in", type := (.object "java/io/InputStream"), accessFlags := 25, slot := 0, constantValue := 0 }, { name := "out", type := (.object "java/io/PrintStream"), accessFlags := 25, slot := 1, constantValue := 0 }, { name := "err", type := (.object "java/io/PrintStream"), accessFlags := 25, slot := 2, constantValue := 0 }, { name := "initialIn", type := (.object "java/io/InputStream"), accessFlags := 10, slot := 3, constantValue := 0 }, { name := "NEVER", type := .int, accessFlags := 26, slot := 4, constantValue := 0 }, { name := "MAYBE", type := .int, accessFlags := 26, slot := 5, constantValue := 0 }, { name := "allowSecurityManager", type := .int, accessFlags := 10, slot := 6, constantValue := 0 }, { name := "security", type := (.object "java/lang/SecurityManager"), accessFlags := 74, slot := 7, constantValue := 0 }, { name := "notSupportedJnuEncoding", type := (.object "java/lang/String"), accessFlags := 10, slot := 8, constantValue := 0 }, { name := "cons", type := (.object "java/io/Console"), accessFlags := 74, slot := 9, constantValue := 0 }, { name := "initialErrStream", type := (.object "java/io/PrintStream"), accessFlags := 74, slot := 10, constantValue := 0 }, { name := "props", type := (.object "java/util/Properties"), accessFlags := 10, slot := 11, constantValue := 0 }, { name := "lineSeparator", type := (.object "java/lang/String"), accessFlags := 10, slot := 12, constantValue := 0 }, { name := "bootLayer", type := (.object "java/lang/ModuleLayer"), accessFlags := 8, slot := 13, constantValue := 0 }]
  methods := #[k11m0, k11m1]
  instanceTypes := #[]
  staticTypes := #[(.object "java/io/InputStream"), (.object "java/io/PrintStream"), (.object "java/io/PrintStream"), (.object "java/io/InputStream"), .int, .int, .int, (.object "java/lang/SecurityManager"), (.object "java/lang/String"), (.object "java/io/Console"), (.object "java/io/PrintStream"), (.object "java/util/Properties"), (.object "java/lang/String"), (.object "java/lang/ModuleLayer")]
  resolved := Array.replicate 834 none
  statics := none }

def pool12 : Array CpInfo := pool [(1, u "java/lang/Cloneable"), (0, .class_ 1), (0, u "java/lang/Object"), (0, .class_ 3)] 3

/-- java/lang/Cloneable -/
def k12 : Class := { plain "java/lang/Cloneable" (some 0) with
  accessFlags := 1537
  interfaces := #[]
  cf := some (fileOf pool12 2 #[] #[] 1537 4 #[] #[])
  fields := #[]
  methods := #[]
  instanceTypes := #[]
  staticTypes := #[]
  resolved := Array.replicate 8 none
  statics := none }

/-- the primitive byte -/
def k13 : Class := { plain "byte" none with kind := .primitive 'B', accessFlags := 0x411 }
/-- [B -/
def k14 : Class := { plain "[B" (some 0) with kind := .array 13 .byte, interfaces := #[12, 3], accessFlags := 1041 }

/-- the primitive int -/
def k15 : Class := { plain "int" none with kind := .primitive 'I', accessFlags := 0x411 }
/-- [I -/
def k16 : Class := { plain "[I" (some 0) with kind := .array 15 .int, interfaces := #[12, 3], accessFlags := 1041 }

def heap : Heap := #[]
def classes : Array Class := #[k0, k1, k2, k3, k4, k5, k6, k7, k8, k9, k10, k11, k12, k13, k14, k15, k16]
def interned : List (Array UInt16 × Addr) := []
def slotsUsed : Nat := 0
def theMethod : MethodId := ⟨1, 3⟩
def args0 : Array Value := #[.int 5, .int 7, .long 3, .long 1, .int 1]
def aboutOver (below : List Frame) : State where
  vm := { classes := classes, interned := interned.toArray }
  heap := heap
  slotsUsed := slotsUsed
  threads := #[{ frames := .invoking theMethod args0 :: below }]
def below0 : List Frame := [.native { method := ⟨0, 0⟩, args := #[] }]
def about1 : State := aboutOver below0
def p0 : Program := .bare "" "" ""
def e0 : Env := launch0.env 0 0 0
theorem w_frames : about1.frames = Frame.invoking theMethod args0 :: below0 := rfl
set_option maxRecDepth 65536 in
theorem w_args : argsFit about1.vm theMethod args0 = true := by decide +kernel
set_option maxRecDepth 65536 in
theorem w_heap : heapFits about1 = true := by decide +kernel
set_option maxRecDepth 65536 in
theorem w_runnable : about1.curStatus? = some .runnable := by decide +kernel
set_option maxRecDepth 65536 in
theorem w_alone : about1.alone = true := by decide +kernel
set_option maxRecDepth 65536 in
theorem w_named : about1.methodNamed? x = some theMethod := by decide +kernel
set_option maxRecDepth 65536 in
theorem w_hears : about1.hears theMethod below0 = true := by decide +kernel
set_option maxRecDepth 65536 in
theorem w_ripe : about1.ripe theMethod args0 below0 = true := by decide +kernel
theorem w_running : about1.status = .running := rfl
set_option maxRecDepth 65536 in
theorem w_room : about1.hasRoom e0.platform room_1 = true :=
  launch0.hasRoom_least _ room_1 (by decide +kernel) (by decide +kernel) (by decide +kernel) (by decide +kernel) (by decide +kernel) (by decide +kernel)
theorem allAtoms_all (ts : List Jvm.Cond) (a : Array Jvm.Value) (st : Jvm.State) : (allAtoms ts).before a st = ts.all (fun c => c.before a st) := by
  induction ts with
  | nil => rfl
  | cons c t ih =>
    show (Jvm.Cond.and c (allAtoms t)).before a st = _
    rw [Jvm.Cond.before_and, ih, List.all_cons]
def words1 : List Jvm.Cond := Jvm.Cond.code x code maxLocals ret :: tables_1
/-- a 'code' word, met by the world's own term for the bytes: nothing is compared byte by byte -/
theorem code_word {y : MethodName} {bytes : ByteArray} {mx : Nat} {rt : Option FieldType} {a : Array Value} {s : State} {m : MethodId} {meth : Method} {c : Code} (h1 : s.methodNamed? y = some m) (h2 : s.vm.method? m = some meth) (h3 : meth.code = some c) (h4 : c.code = bytes)
    (h5 : (c.maxLocals == mx && c.exceptionTable.isEmpty && decide (c.maxStack ≤ mostOperands) && decide (meth.sig.returnType = rt) && !meth.locks && decide (parseMethodDescriptor y.desc = some meth.sig)) = true) : (Jvm.Cond.code y bytes mx rt).before a s = true := by
  simp only [Bool.and_eq_true, beq_iff_eq, Bool.not_eq_true', decide_eq_true_eq] at h5
  obtain ⟨⟨⟨⟨⟨g1, g2⟩, g3⟩, g4⟩, g5⟩, g6⟩ := h5
  simp [Cond.before, Cond.holds, Cond.value, h1, h2, h3, h4, g1, g2, g3, g4, g5, g6]
def isCode : Jvm.Cond → Bool
  | .code _ _ _ _ => true
  | _ => false
theorem all_split {L : List Jvm.Cond} {P : Jvm.Cond → Bool} (h1 : L.all (fun c => isCode c || P c) = true) (h2 : ∀ c ∈ L.filter isCode, P c = true) : L.all P = true := by
  refine List.all_eq_true.mpr fun c hc => ?_
  have h := List.all_eq_true.mp h1 c hc
  rcases Bool.eq_false_or_eq_true (isCode c) with hi | hi
  · exact h2 c (List.mem_filter.mpr ⟨hc, hi⟩)
  · simpa [hi] using h
set_option maxRecDepth 65536 in
theorem w_c0 : (Jvm.Cond.code x code maxLocals ret).before args0 about1 = true := code_word (m := ⟨1, 3⟩) (meth := k1m3) (c := k1c3) (by decide +kernel) rfl rfl rfl (by decide +kernel)
set_option maxRecDepth 65536 in
theorem w_c1 : (Jvm.Cond.code ({ cls := "fieldstone/ByteReader", name := "<init>", desc := "([BIILjava/lang/String;)V" } : Jvm.MethodName) prog_2_method_1_code (5 : Nat) (Option.none : Option Jvm.ClassFile.FieldType)).before args0 about1 = true := code_word (m := ⟨2, 0⟩) (meth := k2m0) (c := k2c0) (by decide +kernel) rfl rfl rfl (by decide +kernel)
set_option maxRecDepth 65536 in
theorem w_c2 : (Jvm.Cond.code ({ cls := "java/lang/Object", name := "<init>", desc := "()V" } : Jvm.MethodName) object_method_1_code (1 : Nat) (Option.none : Option Jvm.ClassFile.FieldType)).before args0 about1 = true := code_word (m := ⟨0, 0⟩) (meth := k0m0) (c := k0c0) (by decide +kernel) rfl rfl rfl (by decide +kernel)
set_option maxRecDepth 65536 in
theorem w_c3 : (Jvm.Cond.code ({ cls := "fieldstone/ByteReader", name := "reset", desc := "([BIILjava/lang/String;)Lfieldstone/ByteReader;" } : Jvm.MethodName) prog_2_method_2_code (5 : Nat) (Option.some (Jvm.ClassFile.FieldType.object "fieldstone/ByteReader"))).before args0 about1 = true := code_word (m := ⟨2, 1⟩) (meth := k2m1) (c := k2c1) (by decide +kernel) rfl rfl rfl (by decide +kernel)
set_option maxRecDepth 65536 in
theorem w_c4 : (Jvm.Cond.code ({ cls := "fieldstone/ByteReader$PackedInts", name := "<init>", desc := "()V" } : Jvm.MethodName) prog_3_method_1_code (1 : Nat) (Option.none : Option Jvm.ClassFile.FieldType)).before args0 about1 = true := code_word (m := ⟨9, 0⟩) (meth := k9m0) (c := k9c0) (by decide +kernel) rfl rfl rfl (by decide +kernel)
set_option maxRecDepth 65536 in
theorem w_c5 : (Jvm.Cond.code ({ cls := "fieldstone/ByteReader", name := "holdPackedInts", desc := "(ILfieldstone/ByteReader$PackedInts;)V" } : Jvm.MethodName) prog_2_method_26_code (5 : Nat) (Option.none : Option Jvm.ClassFile.FieldType)).before args0 about1 = true := code_word (m := ⟨2, 5⟩) (meth := k2m5) (c := k2c5) (by decide +kernel) rfl rfl rfl (by decide +kernel)
set_option maxRecDepth 65536 in
theorem w_c6 : (Jvm.Cond.code ({ cls := "fieldstone/ByteReader", name := "readVarInt", desc := "(I)I" } : Jvm.MethodName) prog_2_method_12_code (4 : Nat) (Option.some Jvm.ClassFile.FieldType.int)).before args0 about1 = true := code_word (m := ⟨2, 4⟩) (meth := k2m4) (c := k2c4) (by decide +kernel) rfl rfl rfl (by decide +kernel)
set_option maxRecDepth 65536 in
theorem w_c7 : (Jvm.Cond.code ({ cls := "fieldstone/ByteReader", name := "readVarLong", desc := "()J" } : Jvm.MethodName) prog_2_method_11_code (5 : Nat) (Option.some Jvm.ClassFile.FieldType.long)).before args0 about1 = true := code_word (m := ⟨2, 3⟩) (meth := k2m3) (c := k2c3) (by decide +kernel) rfl rfl rfl (by decide +kernel)
set_option maxRecDepth 65536 in
theorem w_c8 : (Jvm.Cond.code ({ cls := "fieldstone/ByteReader$PackedInts", name := "holdAlike", desc := "(I)V" } : Jvm.MethodName) prog_3_method_3_code (2 : Nat) (Option.none : Option Jvm.ClassFile.FieldType)).before args0 about1 = true := code_word (m := ⟨9, 2⟩) (meth := k9m2) (c := k9c2) (by decide +kernel) rfl rfl rfl (by decide +kernel)
set_option maxRecDepth 65536 in
theorem w_c9 : (Jvm.Cond.code ({ cls := "fieldstone/ByteReader$PackedInts", name := "get", desc := "(I)I" } : Jvm.MethodName) prog_3_method_4_code (9 : Nat) (Option.some Jvm.ClassFile.FieldType.int)).before args0 about1 = true := code_word (m := ⟨9, 3⟩) (meth := k9m3) (c := k9c3) (by decide +kernel) rfl rfl rfl (by decide +kernel)
set_option maxRecDepth 65536 in
theorem w_c10 : (Jvm.Cond.code ({ cls := "fieldstone/PackedIntsGetPinLaw", name := "putLong", desc := "([BIJ)V" } : Jvm.MethodName) method_2_code (4 : Nat) (Option.none : Option Jvm.ClassFile.FieldType)).before args0 about1 = true := code_word (m := ⟨1, 1⟩) (meth := k1m1) (c := k1c1) (by decide +kernel) rfl rfl rfl (by decide +kernel)
set_option maxRecDepth 65536 in
theorem w_c11 : (Jvm.Cond.code ({ cls := "fieldstone/PackedIntsGetPinLaw", name := "extract", desc := "(JJII)I" } : Jvm.MethodName) method_3_code (10 : Nat) (Option.some Jvm.ClassFile.FieldType.int)).before args0 about1 = true := code_word (m := ⟨1, 2⟩) (meth := k1m2) (c := k1c2) (by decide +kernel) rfl rfl rfl (by decide +kernel)
set_option maxRecDepth 65536 in
theorem w_c12 : (Jvm.Cond.code ({ cls := "java/lang/Math", name := "min", desc := "(JJ)J" } : Jvm.MethodName) jdk_29_method_70_code (4 : Nat) (Option.some Jvm.ClassFile.FieldType.long)).before args0 about1 = true := code_word (m := ⟨10, 2⟩) (meth := k10m2) (c := k10c2) (by decide +kernel) rfl rfl rfl (by decide +kernel)
set_option maxRecDepth 65536 in
theorem w_c13 : (Jvm.Cond.code ({ cls := "fieldstone/ByteReader", name := "skip", desc := "(I)I" } : Jvm.MethodName) prog_2_method_10_code (3 : Nat) (Option.some Jvm.ClassFile.FieldType.int)).before args0 about1 = true := code_word (m := ⟨2, 2⟩) (meth := k2m2) (c := k2c2) (by decide +kernel) rfl rfl rfl (by decide +kernel)
set_option maxRecDepth 65536 in
theorem w_c14 : (Jvm.Cond.code ({ cls := "fieldstone/ByteReader", name := "need", desc := "(I)V" } : Jvm.MethodName) prog_2_method_30_code (2 : Nat) (Option.none : Option Jvm.ClassFile.FieldType)).before args0 about1 = true := code_word (m := ⟨2, 6⟩) (meth := k2m6) (c := k2c6) (by decide +kernel) rfl rfl rfl (by decide +kernel)
set_option maxRecDepth 65536 in
theorem w_c15 : (Jvm.Cond.code ({ cls := "fieldstone/ByteReader$PackedInts", name := "hold", desc := "([BIII)V" } : Jvm.MethodName) prog_3_method_2_code (5 : Nat) (Option.none : Option Jvm.ClassFile.FieldType)).before args0 about1 = true := code_word (m := ⟨9, 1⟩) (meth := k9m1) (c := k9c1) (by decide +kernel) rfl rfl rfl (by decide +kernel)
set_option maxRecDepth 65536 in
theorem w_c16 : (Jvm.Cond.code ({ cls := "java/lang/Math", name := "max", desc := "(II)I" } : Jvm.MethodName) jdk_29_method_65_code (2 : Nat) (Option.some Jvm.ClassFile.FieldType.int)).before args0 about1 = true := code_word (m := ⟨10, 1⟩) (meth := k10m1) (c := k10c1) (by decide +kernel) rfl rfl rfl (by decide +kernel)
def codes1 : List Jvm.Cond := [Jvm.Cond.code x code maxLocals ret, Jvm.Cond.code ({ cls := "fieldstone/ByteReader", name := "<init>", desc := "([BIILjava/lang/String;)V" } : Jvm.MethodName) prog_2_method_1_code (5 : Nat) (Option.none : Option Jvm.ClassFile.FieldType), Jvm.Cond.code ({ cls := "java/lang/Object", name := "<init>", desc := "()V" } : Jvm.MethodName) object_method_1_code (1 : Nat) (Option.none : Option Jvm.ClassFile.FieldType), Jvm.Cond.code ({ cls := "fieldstone/ByteReader", name := "reset", desc := "([BIILjava/lang/String;)Lfieldstone/ByteReader;" } : Jvm.MethodName) prog_2_method_2_code (5 : Nat) (Option.some (Jvm.ClassFile.FieldType.object "fieldstone/ByteReader")), Jvm.Cond.code ({ cls := "fieldstone/ByteReader$PackedInts", name := "<init>", desc := "()V" } : Jvm.MethodName) prog_3_method_1_code (1 : Nat) (Option.none : Option Jvm.ClassFile.FieldType), Jvm.Cond.code ({ cls := "fieldstone/ByteReader", name := "holdPackedInts", desc := "(ILfieldstone/ByteReader$PackedInts;)V" } : Jvm.MethodName) prog_2_method_26_code (5 : Nat) (Option.none : Option Jvm.ClassFile.FieldType), Jvm.Cond.code ({ cls := "fieldstone/ByteReader", name := "readVarInt", desc := "(I)I" } : Jvm.MethodName) prog_2_method_12_code (4 : Nat) (Option.some Jvm.ClassFile.FieldType.int), Jvm.Cond.code ({ cls := "fieldstone/ByteReader", name := "readVarLong", desc := "()J" } : Jvm.MethodName) prog_2_method_11_code (5 : Nat) (Option.some Jvm.ClassFile.FieldType.long), Jvm.Cond.code ({ cls := "fieldstone/ByteReader$PackedInts", name := "holdAlike", desc := "(I)V" } : Jvm.MethodName) prog_3_method_3_code (2 : Nat) (Option.none : Option Jvm.ClassFile.FieldType), Jvm.Cond.code ({ cls := "fieldstone/ByteReader$PackedInts", name := "get", desc := "(I)I" } : Jvm.MethodName) prog_3_method_4_code (9 : Nat) (Option.some Jvm.ClassFile.FieldType.int), Jvm.Cond.code ({ cls := "fieldstone/PackedIntsGetPinLaw", name := "putLong", desc := "([BIJ)V" } : Jvm.MethodName) method_2_code (4 : Nat) (Option.none : Option Jvm.ClassFile.FieldType), Jvm.Cond.code ({ cls := "fieldstone/PackedIntsGetPinLaw", name := "extract", desc := "(JJII)I" } : Jvm.MethodName) method_3_code (10 : Nat) (Option.some Jvm.ClassFile.FieldType.int), Jvm.Cond.code ({ cls := "java/lang/Math", name := "min", desc := "(JJ)J" } : Jvm.MethodName) jdk_29_method_70_code (4 : Nat) (Option.some Jvm.ClassFile.FieldType.long), Jvm.Cond.code ({ cls := "fieldstone/ByteReader", name := "skip", desc := "(I)I" } : Jvm.MethodName) prog_2_method_10_code (3 : Nat) (Option.some Jvm.ClassFile.FieldType.int), Jvm.Cond.code ({ cls := "fieldstone/ByteReader", name := "need", desc := "(I)V" } : Jvm.MethodName) prog_2_method_30_code (2 : Nat) (Option.none : Option Jvm.ClassFile.FieldType), Jvm.Cond.code ({ cls := "fieldstone/ByteReader$PackedInts", name := "hold", desc := "([BIII)V" } : Jvm.MethodName) prog_3_method_2_code (5 : Nat) (Option.none : Option Jvm.ClassFile.FieldType), Jvm.Cond.code ({ cls := "java/lang/Math", name := "max", desc := "(II)I" } : Jvm.MethodName) jdk_29_method_65_code (2 : Nat) (Option.some Jvm.ClassFile.FieldType.int)]
set_option maxRecDepth 65536 in
theorem codes_eq : words1.filter isCode = codes1 := rfl
theorem w_codes : ∀ c ∈ words1.filter isCode, c.before args0 about1 = true := by
  rw [codes_eq]
  intro c hc
  simp only [codes1, List.mem_cons, List.not_mem_nil, or_false] at hc
  rcases hc with rfl | rfl | rfl | rfl | rfl | rfl | rfl | rfl | rfl | rfl | rfl | rfl | rfl | rfl | rfl | rfl | rfl
  · exact w_c0
  · exact w_c1
  · exact w_c2
  · exact w_c3
  · exact w_c4
  · exact w_c5
  · exact w_c6
  · exact w_c7
  · exact w_c8
  · exact w_c9
  · exact w_c10
  · exact w_c11
  · exact w_c12
  · exact w_c13
  · exact w_c14
  · exact w_c15
  · exact w_c16
set_option maxRecDepth 65536 in
theorem w_t1 : (words1.take 24).all (fun c => isCode c || c.before args0 about1) = true := by decide +kernel
set_option maxRecDepth 65536 in
theorem w_t2 : ((words1.drop 24).take 24).all (fun c => isCode c || c.before args0 about1) = true := by decide +kernel
set_option maxRecDepth 65536 in
theorem w_t3 : (((words1.drop 24).drop 24).take 24).all (fun c => isCode c || c.before args0 about1) = true := by decide +kernel
set_option maxRecDepth 65536 in
theorem w_t4 : ((((words1.drop 24).drop 24).drop 24).take 24).all (fun c => isCode c || c.before args0 about1) = true := by decide +kernel
set_option maxRecDepth 65536 in
theorem w_t5 : ((((words1.drop 24).drop 24).drop 24).drop 24).all (fun c => isCode c || c.before args0 about1) = true := by decide +kernel
theorem w_tables : (allAtoms (Jvm.Cond.code x code maxLocals ret :: tables_1)).before args0 about1 = true := by
  rw [allAtoms_all]
  show words1.all (fun c => c.before args0 about1) = true
  refine all_split ?_ w_codes
  rw [← List.take_append_drop 24 words1, List.all_append, w_t1, ← List.take_append_drop 24 (words1.drop 24), List.all_append, w_t2, ← List.take_append_drop 24 ((words1.drop 24).drop 24), List.all_append, w_t3, ← List.take_append_drop 24 (((words1.drop 24).drop 24).drop 24), List.all_append, w_t4, w_t5]
  rfl
set_option maxRecDepth 65536 in
theorem w_case : (Jvm.Cond.and given_1 narrow_1).before args0 about1 = true := by decide +kernel
theorem w_applies : (headSpec (Jvm.Cond.code x code maxLocals ret :: tables_1) room_1).applies x e0.platform about1 = true :=
  (Spec.applies_iff w_frames).mpr ⟨w_running, w_runnable, w_alone, w_named, w_hears, w_ripe, w_room, w_tables⟩
theorem atStart : AtStart classFile x code maxLocals ret World_1 tables_1 room_1 Calls_1 rest_1 Pre_1 launch0 p0 e0 about1 theMethod args0 below0 :=
  ⟨lists_1, trivial, launch0.admits_env _ _ _, launch0.least_env, fairChoices_fair.cas, fairChoices_fair.clock, w_frames, w_args, w_heap, w_applies, trivial, trivial, w_case⟩
end start1
theorem witness_1 : WitnessClaimed_1 := ⟨start1.p0, start1.e0, start1.about1, start1.theMethod, start1.args0, start1.below0, start1.atStart⟩
end Jvm.Pilot.@@N@@
