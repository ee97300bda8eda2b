import JvmDerived
import JvmDerived.Pilot.@@N@@Statement
import JvmDerived.Pilot.@@N@@Code
set_option linter.unusedVariables false
set_option linter.unusedSimpArgs false
@@BLOCK:NumsL.lean.txt@@
namespace Jvm.RoadKit
open Sem ClassFile Op Lib Jvm.Stand Jvm.Free Jvm.LawKit
section New
variable {p : Program} {l : Launch} {e : Env} {R : Room} {s : State} {m : MethodId} {args : Array Value} {below : List Frame} {meth : Method} {c : Code} {T : State} {locs : List Loc} {cells slots : Nat}
theorem retI (X : Stand p l e R s m args below meth c T locs cells slots) (hx : p.tables.exec = Jvm.exec) {pc : Nat} {Ls : Array Slot} {z : Int32} {rest : List Value} (hret : meth.sig.returnType = some .int) (hd : decode c.code pc = .ok (.ireturn, 1)) {fs : List Frame}
    (hl : ∀ (f : JFrame) (acts : List Action), f.method = m → f.locked = none → f.entered = [] → (doReturn e (T.setTop f) acts (some (.int z))).1 = T.setFrames fs) : Steps p.tables e below (T.setTop (mkF m pc Ls (.int z :: rest))) (T.setFrames fs) := by
  have hm' : T.vm.method? m = some meth := X.method'
  have hn : narrow .int (.int z) = .int z := rfl
  show Steps p.tables e below (T.setTop { method := m, pc := pc, locals := Ls, stack := _ :: rest, locked := none }) _
  jvm_step X.here [X.here.top, hx, hd, hm', hret, hn]
  first | (intro acts; rw [hl _ acts rfl rfl rfl]) | rw [hl _ _ rfl rfl rfl]
  exact Steps.refl _
end New
end Jvm.RoadKit
namespace Jvm.Pilot.@@N@@
open Jvm Jvm.ClassFile Sem Op Lib Jvm.Free Jvm.Stand Jvm.LawKit Jvm.RoadKit Bundle Jvm.Pilot.@@N@@.Jvm.D
theorem own_lcLt {x y : Int64} : lcmpW x y < 0 ↔ x < y := by rw [lcW]; exact lc_lt x y
theorem own_lcGt {x y : Int64} : 0 < lcmpW x y ↔ y < x := by rw [lcW]; exact lc_gt x y
theorem own_lcEq {x y : Int64} : lcmpW x y = 0 ↔ x = y := by rw [lcW]; exact lc_eq x y
theorem own_pn0 : plainName "fieldstone/ByteReaderUtf8LengthPinLaw" = true := by first | (simp [plainName, overriddenIn]; done) | decide +kernel
theorem own_ef_own_cont (m : MethodId) (p0 : Int32) : entryFrame m #[(.int p0)] 1 = mkF m 0 #[.val (.int p0)] [] := by first | (simp [entryFrame, mkF, argsToLocals, Value.category]; done) | rfl
theorem own_d3_0 : decode method_3_code 0 = .ok (.iload_n 0, 1) := by decide +kernel
theorem own_d3_1 : decode method_3_code 1 = .ok (.sipush 192, 3) := by decide +kernel
theorem own_d3_4 : decode method_3_code 4 = .ok (.iand, 1) := by decide +kernel
theorem own_d3_5 : decode method_3_code 5 = .ok (.sipush 128, 3) := by decide +kernel
theorem own_d3_8 : decode method_3_code 8 = .ok (.if_icmp .ne 7, 3) := by decide +kernel
theorem own_d3_11 : decode method_3_code 11 = .ok (.iconst 1, 1) := by decide +kernel
theorem own_d3_12 : decode method_3_code 12 = .ok (.goto 4, 3) := by decide +kernel
theorem own_d3_15 : decode method_3_code 15 = .ok (.iconst 0, 1) := by decide +kernel
theorem own_d3_16 : decode method_3_code 16 = .ok (.ireturn, 1) := by decide +kernel
def own_cont_f (p0 : Int32) : Int32 := (if (p0 &&& (192 : Int32)) = (128 : Int32) then (1 : Int32) else (0 : Int32))
def Qown_cont (Z : State) (p0 : Int32) (h0 : Heap) (n0 : Nat) (v : Option Value) (h : Heap) (L : List Loc) : Prop := v = some (.int (own_cont_f p0)) ∧ Fr n0 L ∧ h = h0
set_option maxRecDepth 65536 in
set_option maxHeartbeats 40000000 in
theorem own_cont (l : Launch) (Z : State) (a0 : Array Value) (hw : ∀ d ∈ tables_1, d.before a0 Z = true) (ws : List Jvm.Cond) (p0 : Int32) (h0 : Heap) (n0 : Nat) (Z0 : n0 ≤ h0.size) :
    MetFree l (⟨"fieldstone/ByteReaderUtf8LengthPinLaw", "cont", "(I)Z"⟩ : MethodName) (head1 (Jvm.Cond.code (⟨"fieldstone/ByteReaderUtf8LengthPinLaw", "cont", "(I)Z"⟩ : MethodName) method_3_code 1 (some .boolean) :: ws) ({ frames := 0, cells := 0, slots := 0, locals := 0 } : Room)) (fun a U => a = #[(.int p0)] ∧ Z.Warmed39 U.vm ∧ U.heap = h0) (fun _ _ _ _ _ => True) (fun _ U o U' => ∃ v L, o = .returned v ∧ Qown_cont Z p0 h0 n0 v U'.heap L ∧ FrameEnd U o U' L ({ frames := 0, cells := 0, slots := 0, locals := 0 } : Room).cells ({ frames := 0, cells := 0, slots := 0, locals := 0 } : Room).slots) := by
  refine MetFree.of_bodySF (plainFor_of_name own_pn0) hisR ?_
  intro p e s m args below meth c s₁ Bd hml0 hP hK
  obtain ⟨rfl, hZ, hh⟩ := hP
  have hx := Bd.exec
  have hby := Bd.bytes
  have hml : c.maxLocals = 1 := hml0
  have hown : s.vm.findClass "fieldstone/ByteReaderUtf8LengthPinLaw" = some m.cls := findClass_of_methodNamed Bd.named
  have hnm := (name_of_methodNamed Bd.named Bd.method).1
  have X0 : Stand p l e ({ frames := 0, cells := 0, slots := 0, locals := 0 } : Room) s m #[(.int p0)] below meth c s₁ [] 0 0 := Stand.of_body Bd
  have e0 : s₁.heap = h0 := by rw [← hh, Bd.state]; rfl
  have N0 := Fr.nil n0
  have pre0 : ∀ t, Steps p.tables e below (s₁.setTop (mkF m 0 #[.val (.int p0)] [])) t → Steps p.tables e below (s₁.setTop (entryFrame m #[(.int p0)] 1)) t := fun t k => castTop (own_ef_own_cont m p0) k
  have pre6 : ∀ t, Steps p.tables e below (s₁.setTop (mkF m 8 #[.val (.int p0)] [(.int (128 : Int32)), (.int (p0 &&& (192 : Int32)))])) t → Steps p.tables e below (s₁.setTop (entryFrame m #[(.int p0)] 1)) t := by
    intro t kt
    refine pre0 _ ?_
    show Steps p.tables e below (s₁.setTop (mkF m 0 #[.val (.int p0)] [])) _
    refine XS.iloadN X0.here hx rfl (hb hby own_d3_0) rfl ?_
    show Steps p.tables e below (s₁.setTop (mkF m 1 #[.val (.int p0)] [(.int p0)])) _
    refine XS.sipush X0.here hx rfl (hb hby own_d3_1) ?_
    show Steps p.tables e below (s₁.setTop (mkF m 4 #[.val (.int p0)] [(.int (192 : Int32)), (.int p0)])) _
    refine XS.iand X0.here hx rfl (hb hby own_d3_4) rfl ?_
    show Steps p.tables e below (s₁.setTop (mkF m 5 #[.val (.int p0)] [(.int (p0 &&& (192 : Int32)))])) _
    refine XS.sipush X0.here hx rfl (hb hby own_d3_5) ?_
    exact kt
  by_cases hc8_7 : (p0 &&& (192 : Int32)) = (128 : Int32)
  · obtain ⟨fs, hr, hrun, hended, hW, hsame⟩ := X0.leave (v := some (.int (1 : Int32))) (fun h => by rw [Bd.returns] at h; cases h) (hlocks := BodyLoose.notSynchronized Bd)
    refine ⟨_, _, pre6 _ ?_, hrun, hended, _, _, rfl, ?_, ⟨_, rfl⟩, hW, hsame.mono (by decide) (by decide)⟩
    · show Steps p.tables e below (s₁.setTop (mkF m 8 #[.val (.int p0)] [(.int (128 : Int32)), (.int (p0 &&& (192 : Int32)))])) _
      refine XS.icmpNo X0.here hx rfl (hb hby own_d3_8) rfl (teq hc8_7).2 ?_
      show Steps p.tables e below (s₁.setTop (mkF m 11 #[.val (.int p0)] [])) _
      refine XS.iconst X0.here hx rfl (hb hby own_d3_11) ?_
      show Steps p.tables e below (s₁.setTop (mkF m 12 #[.val (.int p0)] [(.int (1 : Int32))])) _
      refine XS.goto X0.here hx rfl (pc0 := 12) (pc' := 16) rfl (hb hby own_d3_12) (by decide) (by decide) ?_
      show Steps p.tables e below (s₁.setTop (mkF m 16 #[.val (.int p0)] [(.int (1 : Int32))])) _
      exact retN X0 hx (t := .boolean) Bd.returns (by simp) (hb hby own_d3_16) hr
    · show Qown_cont Z p0 h0 n0 _ s₁.heap _
      rw [e0]
      have hv : (own_cont_f p0) = (1 : Int32) := by unfold own_cont_f; rw [if_pos hc8_7]
      exact ⟨(by rw [hv]), N0, rfl⟩
  · obtain ⟨fs, hr, hrun, hended, hW, hsame⟩ := X0.leave (v := some (.int (0 : Int32))) (fun h => by rw [Bd.returns] at h; cases h) (hlocks := BodyLoose.notSynchronized Bd)
    refine ⟨_, _, pre6 _ ?_, hrun, hended, _, _, rfl, ?_, ⟨_, rfl⟩, hW, hsame.mono (by decide) (by decide)⟩
    · show Steps p.tables e below (s₁.setTop (mkF m 8 #[.val (.int p0)] [(.int (128 : Int32)), (.int (p0 &&& (192 : Int32)))])) _
      refine XS.icmpYes X0.here hx rfl (pc0 := 8) (pc' := 15) rfl (hb hby own_d3_8) rfl (feq hc8_7).2 (by decide) (by decide) ?_
      show Steps p.tables e below (s₁.setTop (mkF m 15 #[.val (.int p0)] [])) _
      refine XS.iconst X0.here hx rfl (hb hby own_d3_15) ?_
      show Steps p.tables e below (s₁.setTop (mkF m 16 #[.val (.int p0)] [(.int (0 : Int32))])) _
      exact retN X0 hx (t := .boolean) Bd.returns (by simp) (hb hby own_d3_16) hr
    · show Qown_cont Z p0 h0 n0 _ s₁.heap _
      rw [e0]
      have hv : (own_cont_f p0) = (0 : Int32) := by unfold own_cont_f; rw [if_neg hc8_7]
      exact ⟨(by rw [hv]), N0, rfl⟩
theorem own_ef_own_ref (m : MethodId) (p0 : Int32) (p1 : Int32) (p2 : Int32) (p3 : Int32) (p4 : Int32) : entryFrame m #[(.int p0), (.int p1), (.int p2), (.int p3), (.int p4)] 7 = mkF m 0 #[.val (.int p0), .val (.int p1), .val (.int p2), .val (.int p3), .val (.int p4), .unset, .unset] [] := by first | (simp [entryFrame, mkF, argsToLocals, Value.category]; done) | rfl
theorem own_pd0 : parseMethodDescriptor "(I)Z" = some ⟨[.int], some .boolean⟩ := by decide +kernel
theorem own_d1_0 : decode method_4_code 0 = .ok (.iload_n 0, 1) := by decide +kernel
theorem own_d1_1 : decode method_4_code 1 = .ok (.sipush 128, 3) := by decide +kernel
theorem own_d1_4 : decode method_4_code 4 = .ok (.iand, 1) := by decide +kernel
theorem own_d1_5 : decode method_4_code 5 = .ok (.ifCond .ne 9, 3) := by decide +kernel
theorem own_d1_8 : decode method_4_code 8 = .ok (.iconst 1, 1) := by decide +kernel
theorem own_d1_9 : decode method_4_code 9 = .ok (.istore 5, 2) := by decide +kernel
theorem own_d1_11 : decode method_4_code 11 = .ok (.goto 56, 3) := by decide +kernel
theorem own_d1_14 : decode method_4_code 14 = .ok (.iload_n 0, 1) := by decide +kernel
theorem own_d1_15 : decode method_4_code 15 = .ok (.sipush 224, 3) := by decide +kernel
theorem own_d1_18 : decode method_4_code 18 = .ok (.iand, 1) := by decide +kernel
theorem own_d1_19 : decode method_4_code 19 = .ok (.sipush 192, 3) := by decide +kernel
theorem own_d1_22 : decode method_4_code 22 = .ok (.if_icmp .ne 9, 3) := by decide +kernel
theorem own_d1_25 : decode method_4_code 25 = .ok (.iconst 2, 1) := by decide +kernel
theorem own_d1_26 : decode method_4_code 26 = .ok (.istore 5, 2) := by decide +kernel
theorem own_d1_28 : decode method_4_code 28 = .ok (.goto 39, 3) := by decide +kernel
theorem own_d1_31 : decode method_4_code 31 = .ok (.iload_n 0, 1) := by decide +kernel
theorem own_d1_32 : decode method_4_code 32 = .ok (.sipush 240, 3) := by decide +kernel
theorem own_d1_35 : decode method_4_code 35 = .ok (.iand, 1) := by decide +kernel
theorem own_d1_36 : decode method_4_code 36 = .ok (.sipush 224, 3) := by decide +kernel
theorem own_d1_39 : decode method_4_code 39 = .ok (.if_icmp .ne 9, 3) := by decide +kernel
theorem own_d1_42 : decode method_4_code 42 = .ok (.iconst 3, 1) := by decide +kernel
theorem own_d1_43 : decode method_4_code 43 = .ok (.istore 5, 2) := by decide +kernel
theorem own_d1_45 : decode method_4_code 45 = .ok (.goto 22, 3) := by decide +kernel
theorem own_d1_48 : decode method_4_code 48 = .ok (.iload_n 0, 1) := by decide +kernel
theorem own_d1_49 : decode method_4_code 49 = .ok (.sipush 248, 3) := by decide +kernel
theorem own_d1_52 : decode method_4_code 52 = .ok (.iand, 1) := by decide +kernel
theorem own_d1_53 : decode method_4_code 53 = .ok (.sipush 240, 3) := by decide +kernel
theorem own_d1_56 : decode method_4_code 56 = .ok (.if_icmp .ne 9, 3) := by decide +kernel
theorem own_d1_59 : decode method_4_code 59 = .ok (.iconst 4, 1) := by decide +kernel
theorem own_d1_60 : decode method_4_code 60 = .ok (.istore 5, 2) := by decide +kernel
theorem own_d1_62 : decode method_4_code 62 = .ok (.goto 5, 3) := by decide +kernel
theorem own_d1_65 : decode method_4_code 65 = .ok (.iconst 0, 1) := by decide +kernel
theorem own_d1_66 : decode method_4_code 66 = .ok (.ireturn, 1) := by decide +kernel
theorem own_d1_67 : decode method_4_code 67 = .ok (.iload 4, 2) := by decide +kernel
theorem own_d1_69 : decode method_4_code 69 = .ok (.iload 5, 2) := by decide +kernel
theorem own_d1_71 : decode method_4_code 71 = .ok (.if_icmp .ge 5, 3) := by decide +kernel
theorem own_d1_74 : decode method_4_code 74 = .ok (.iconst 0, 1) := by decide +kernel
theorem own_d1_75 : decode method_4_code 75 = .ok (.ireturn, 1) := by decide +kernel
theorem own_d1_76 : decode method_4_code 76 = .ok (.iload 5, 2) := by decide +kernel
theorem own_d1_78 : decode method_4_code 78 = .ok (.iconst 1, 1) := by decide +kernel
theorem own_d1_79 : decode method_4_code 79 = .ok (.if_icmp .ne 5, 3) := by decide +kernel
theorem own_d1_82 : decode method_4_code 82 = .ok (.iconst 1, 1) := by decide +kernel
theorem own_d1_83 : decode method_4_code 83 = .ok (.ireturn, 1) := by decide +kernel
theorem own_d1_84 : decode method_4_code 84 = .ok (.iload_n 1, 1) := by decide +kernel
theorem own_d1_85 : decode method_4_code 85 = .ok (.invokestatic 20, 3) := by decide +kernel
theorem own_d1_88 : decode method_4_code 88 = .ok (.ifCond .ne 5, 3) := by decide +kernel
theorem own_d1_91 : decode method_4_code 91 = .ok (.iconst 0, 1) := by decide +kernel
theorem own_d1_92 : decode method_4_code 92 = .ok (.ireturn, 1) := by decide +kernel
theorem own_d1_93 : decode method_4_code 93 = .ok (.iload 5, 2) := by decide +kernel
theorem own_d1_95 : decode method_4_code 95 = .ok (.iconst 2, 1) := by decide +kernel
theorem own_d1_96 : decode method_4_code 96 = .ok (.if_icmp .ne 31, 3) := by decide +kernel
theorem own_d1_99 : decode method_4_code 99 = .ok (.iload_n 0, 1) := by decide +kernel
theorem own_d1_100 : decode method_4_code 100 = .ok (.bipush 31, 2) := by decide +kernel
theorem own_d1_102 : decode method_4_code 102 = .ok (.iand, 1) := by decide +kernel
theorem own_d1_103 : decode method_4_code 103 = .ok (.bipush 6, 2) := by decide +kernel
theorem own_d1_105 : decode method_4_code 105 = .ok (.ishl, 1) := by decide +kernel
theorem own_d1_106 : decode method_4_code 106 = .ok (.iload_n 1, 1) := by decide +kernel
theorem own_d1_107 : decode method_4_code 107 = .ok (.bipush 63, 2) := by decide +kernel
theorem own_d1_109 : decode method_4_code 109 = .ok (.iand, 1) := by decide +kernel
theorem own_d1_110 : decode method_4_code 110 = .ok (.ior, 1) := by decide +kernel
theorem own_d1_111 : decode method_4_code 111 = .ok (.istore 6, 2) := by decide +kernel
theorem own_d1_113 : decode method_4_code 113 = .ok (.iload 6, 2) := by decide +kernel
theorem own_d1_115 : decode method_4_code 115 = .ok (.sipush 128, 3) := by decide +kernel
theorem own_d1_118 : decode method_4_code 118 = .ok (.if_icmp .lt 7, 3) := by decide +kernel
theorem own_d1_121 : decode method_4_code 121 = .ok (.iconst 2, 1) := by decide +kernel
theorem own_d1_122 : decode method_4_code 122 = .ok (.goto 4, 3) := by decide +kernel
theorem own_d1_125 : decode method_4_code 125 = .ok (.iconst 0, 1) := by decide +kernel
theorem own_d1_126 : decode method_4_code 126 = .ok (.ireturn, 1) := by decide +kernel
theorem own_d1_127 : decode method_4_code 127 = .ok (.iload_n 2, 1) := by decide +kernel
theorem own_d1_128 : decode method_4_code 128 = .ok (.invokestatic 20, 3) := by decide +kernel
theorem own_d1_131 : decode method_4_code 131 = .ok (.ifCond .ne 5, 3) := by decide +kernel
theorem own_d1_134 : decode method_4_code 134 = .ok (.iconst 0, 1) := by decide +kernel
theorem own_d1_135 : decode method_4_code 135 = .ok (.ireturn, 1) := by decide +kernel
theorem own_d1_136 : decode method_4_code 136 = .ok (.iload 5, 2) := by decide +kernel
theorem own_d1_138 : decode method_4_code 138 = .ok (.iconst 3, 1) := by decide +kernel
theorem own_d1_139 : decode method_4_code 139 = .ok (.if_icmp .ne 53, 3) := by decide +kernel
theorem own_d1_142 : decode method_4_code 142 = .ok (.iload_n 0, 1) := by decide +kernel
theorem own_d1_143 : decode method_4_code 143 = .ok (.bipush 15, 2) := by decide +kernel
theorem own_d1_145 : decode method_4_code 145 = .ok (.iand, 1) := by decide +kernel
theorem own_d1_146 : decode method_4_code 146 = .ok (.bipush 12, 2) := by decide +kernel
theorem own_d1_148 : decode method_4_code 148 = .ok (.ishl, 1) := by decide +kernel
theorem own_d1_149 : decode method_4_code 149 = .ok (.iload_n 1, 1) := by decide +kernel
theorem own_d1_150 : decode method_4_code 150 = .ok (.bipush 63, 2) := by decide +kernel
theorem own_d1_152 : decode method_4_code 152 = .ok (.iand, 1) := by decide +kernel
theorem own_d1_153 : decode method_4_code 153 = .ok (.bipush 6, 2) := by decide +kernel
theorem own_d1_155 : decode method_4_code 155 = .ok (.ishl, 1) := by decide +kernel
theorem own_d1_156 : decode method_4_code 156 = .ok (.ior, 1) := by decide +kernel
theorem own_d1_157 : decode method_4_code 157 = .ok (.iload_n 2, 1) := by decide +kernel
theorem own_d1_158 : decode method_4_code 158 = .ok (.bipush 63, 2) := by decide +kernel
theorem own_d1_160 : decode method_4_code 160 = .ok (.iand, 1) := by decide +kernel
theorem own_d1_161 : decode method_4_code 161 = .ok (.ior, 1) := by decide +kernel
theorem own_d1_162 : decode method_4_code 162 = .ok (.istore 6, 2) := by decide +kernel
theorem own_d1_164 : decode method_4_code 164 = .ok (.iload 6, 2) := by decide +kernel
theorem own_d1_166 : decode method_4_code 166 = .ok (.sipush 2048, 3) := by decide +kernel
theorem own_d1_169 : decode method_4_code 169 = .ok (.if_icmp .ge 5, 3) := by decide +kernel
theorem own_d1_172 : decode method_4_code 172 = .ok (.iconst 0, 1) := by decide +kernel
theorem own_d1_173 : decode method_4_code 173 = .ok (.ireturn, 1) := by decide +kernel
theorem own_d1_174 : decode method_4_code 174 = .ok (.iload 6, 2) := by decide +kernel
theorem own_d1_176 : decode method_4_code 176 = .ok (.ldc 24, 2) := by decide +kernel
theorem own_d1_178 : decode method_4_code 178 = .ok (.if_icmp .lt 12, 3) := by decide +kernel
theorem own_d1_181 : decode method_4_code 181 = .ok (.iload 6, 2) := by decide +kernel
theorem own_d1_183 : decode method_4_code 183 = .ok (.ldc 25, 2) := by decide +kernel
theorem own_d1_185 : decode method_4_code 185 = .ok (.if_icmp .gt 5, 3) := by decide +kernel
theorem own_d1_188 : decode method_4_code 188 = .ok (.iconst 0, 1) := by decide +kernel
theorem own_d1_189 : decode method_4_code 189 = .ok (.ireturn, 1) := by decide +kernel
theorem own_d1_190 : decode method_4_code 190 = .ok (.iconst 3, 1) := by decide +kernel
theorem own_d1_191 : decode method_4_code 191 = .ok (.ireturn, 1) := by decide +kernel
theorem own_d1_192 : decode method_4_code 192 = .ok (.iload_n 3, 1) := by decide +kernel
theorem own_d1_193 : decode method_4_code 193 = .ok (.invokestatic 20, 3) := by decide +kernel
theorem own_d1_196 : decode method_4_code 196 = .ok (.ifCond .ne 5, 3) := by decide +kernel
theorem own_d1_199 : decode method_4_code 199 = .ok (.iconst 0, 1) := by decide +kernel
theorem own_d1_200 : decode method_4_code 200 = .ok (.ireturn, 1) := by decide +kernel
theorem own_d1_201 : decode method_4_code 201 = .ok (.iload_n 0, 1) := by decide +kernel
theorem own_d1_202 : decode method_4_code 202 = .ok (.bipush 7, 2) := by decide +kernel
theorem own_d1_204 : decode method_4_code 204 = .ok (.iand, 1) := by decide +kernel
theorem own_d1_205 : decode method_4_code 205 = .ok (.bipush 18, 2) := by decide +kernel
theorem own_d1_207 : decode method_4_code 207 = .ok (.ishl, 1) := by decide +kernel
theorem own_d1_208 : decode method_4_code 208 = .ok (.iload_n 1, 1) := by decide +kernel
theorem own_d1_209 : decode method_4_code 209 = .ok (.bipush 63, 2) := by decide +kernel
theorem own_d1_211 : decode method_4_code 211 = .ok (.iand, 1) := by decide +kernel
theorem own_d1_212 : decode method_4_code 212 = .ok (.bipush 12, 2) := by decide +kernel
theorem own_d1_214 : decode method_4_code 214 = .ok (.ishl, 1) := by decide +kernel
theorem own_d1_215 : decode method_4_code 215 = .ok (.ior, 1) := by decide +kernel
theorem own_d1_216 : decode method_4_code 216 = .ok (.iload_n 2, 1) := by decide +kernel
theorem own_d1_217 : decode method_4_code 217 = .ok (.bipush 63, 2) := by decide +kernel
theorem own_d1_219 : decode method_4_code 219 = .ok (.iand, 1) := by decide +kernel
theorem own_d1_220 : decode method_4_code 220 = .ok (.bipush 6, 2) := by decide +kernel
theorem own_d1_222 : decode method_4_code 222 = .ok (.ishl, 1) := by decide +kernel
theorem own_d1_223 : decode method_4_code 223 = .ok (.ior, 1) := by decide +kernel
theorem own_d1_224 : decode method_4_code 224 = .ok (.iload_n 3, 1) := by decide +kernel
theorem own_d1_225 : decode method_4_code 225 = .ok (.bipush 63, 2) := by decide +kernel
theorem own_d1_227 : decode method_4_code 227 = .ok (.iand, 1) := by decide +kernel
theorem own_d1_228 : decode method_4_code 228 = .ok (.ior, 1) := by decide +kernel
theorem own_d1_229 : decode method_4_code 229 = .ok (.istore 6, 2) := by decide +kernel
theorem own_d1_231 : decode method_4_code 231 = .ok (.iload 6, 2) := by decide +kernel
theorem own_d1_233 : decode method_4_code 233 = .ok (.ldc 26, 2) := by decide +kernel
theorem own_d1_235 : decode method_4_code 235 = .ok (.if_icmp .lt 10, 3) := by decide +kernel
theorem own_d1_238 : decode method_4_code 238 = .ok (.iload 6, 2) := by decide +kernel
theorem own_d1_240 : decode method_4_code 240 = .ok (.ldc 27, 2) := by decide +kernel
theorem own_d1_242 : decode method_4_code 242 = .ok (.if_icmp .le 5, 3) := by decide +kernel
theorem own_d1_245 : decode method_4_code 245 = .ok (.iconst 0, 1) := by decide +kernel
theorem own_d1_246 : decode method_4_code 246 = .ok (.ireturn, 1) := by decide +kernel
theorem own_d1_247 : decode method_4_code 247 = .ok (.iconst 4, 1) := by decide +kernel
theorem own_d1_248 : decode method_4_code 248 = .ok (.ireturn, 1) := by decide +kernel
def own_ref_f (p0 : Int32) (p1 : Int32) (p2 : Int32) (p3 : Int32) (p4 : Int32) : Int32 := (if (p0 &&& (128 : Int32)) = (0 : Int32) then (if p4 < (1 : Int32) then (0 : Int32) else (1 : Int32)) else (if (p0 &&& (224 : Int32)) = (192 : Int32) then (if p4 < (2 : Int32) then (0 : Int32) else (if (own_cont_f p1) = (0 : Int32) then (0 : Int32) else (if (((p0 &&& (31 : Int32)) <<< ((6 : Int32) &&& 31)) ||| (p1 &&& (63 : Int32))) < (128 : Int32) then (0 : Int32) else (2 : Int32)))) else (if (p0 &&& (240 : Int32)) = (224 : Int32) then (if p4 < (3 : Int32) then (0 : Int32) else (if (own_cont_f p1) = (0 : Int32) then (0 : Int32) else (if (own_cont_f p2) = (0 : Int32) then (0 : Int32) else (if ((((p0 &&& (15 : Int32)) <<< ((12 : Int32) &&& 31)) ||| ((p1 &&& (63 : Int32)) <<< ((6 : Int32) &&& 31))) ||| (p2 &&& (63 : Int32))) < (2048 : Int32) then (0 : Int32) else (if ((((p0 &&& (15 : Int32)) <<< ((12 : Int32) &&& 31)) ||| ((p1 &&& (63 : Int32)) <<< ((6 : Int32) &&& 31))) ||| (p2 &&& (63 : Int32))) < (55296 : Int32) then (3 : Int32) else (if (57343 : Int32) < ((((p0 &&& (15 : Int32)) <<< ((12 : Int32) &&& 31)) ||| ((p1 &&& (63 : Int32)) <<< ((6 : Int32) &&& 31))) ||| (p2 &&& (63 : Int32))) then (3 : Int32) else (0 : Int32))))))) else (if (p0 &&& (248 : Int32)) = (240 : Int32) then (if p4 < (4 : Int32) then (0 : Int32) else (if (own_cont_f p1) = (0 : Int32) then (0 : Int32) else (if (own_cont_f p2) = (0 : Int32) then (0 : Int32) else (if (own_cont_f p3) = (0 : Int32) then (0 : Int32) else (if (((((p0 &&& (7 : Int32)) <<< ((18 : Int32) &&& 31)) ||| ((p1 &&& (63 : Int32)) <<< ((12 : Int32) &&& 31))) ||| ((p2 &&& (63 : Int32)) <<< ((6 : Int32) &&& 31))) ||| (p3 &&& (63 : Int32))) < (65536 : Int32) then (0 : Int32) else (if (1114111 : Int32) < (((((p0 &&& (7 : Int32)) <<< ((18 : Int32) &&& 31)) ||| ((p1 &&& (63 : Int32)) <<< ((12 : Int32) &&& 31))) ||| ((p2 &&& (63 : Int32)) <<< ((6 : Int32) &&& 31))) ||| (p3 &&& (63 : Int32))) then (0 : Int32) else (4 : Int32))))))) else (0 : Int32)))))
def Qown_ref (Z : State) (p0 : Int32) (p1 : Int32) (p2 : Int32) (p3 : Int32) (p4 : Int32) (h0 : Heap) (n0 : Nat) (v : Option Value) (h : Heap) (L : List Loc) : Prop := v = some (.int (own_ref_f p0 p1 p2 p3 p4)) ∧ Fr n0 L ∧ h = h0
set_option maxRecDepth 65536 in
set_option maxHeartbeats 40000000 in
theorem own_ref (l : Launch) (Z : State) (a0 : Array Value) (hw : ∀ d ∈ tables_1, d.before a0 Z = true) (ws : List Jvm.Cond) (p0 : Int32) (p1 : Int32) (p2 : Int32) (p3 : Int32) (p4 : Int32) (h0 : Heap) (n0 : Nat) (Z0 : n0 ≤ h0.size) :
    MetFree l (⟨"fieldstone/ByteReaderUtf8LengthPinLaw", "reference", "(IIIII)I"⟩ : MethodName) (head1 (Jvm.Cond.code (⟨"fieldstone/ByteReaderUtf8LengthPinLaw", "reference", "(IIIII)I"⟩ : MethodName) method_4_code 7 (some .int) :: ws) ({ frames := 1, cells := 0, slots := 0, locals := 12 } : Room)) (fun a U => a = #[(.int p0), (.int p1), (.int p2), (.int p3), (.int p4)] ∧ Z.Warmed39 U.vm ∧ U.heap = h0) (fun _ _ _ _ _ => True) (fun _ U o U' => ∃ v L, o = .returned v ∧ Qown_ref Z p0 p1 p2 p3 p4 h0 n0 v U'.heap L ∧ FrameEnd U o U' L ({ frames := 1, cells := 0, slots := 0, locals := 12 } : Room).cells ({ frames := 1, cells := 0, slots := 0, locals := 12 } : Room).slots) := by
  refine MetFree.of_bodySF (plainFor_of_name own_pn0) hisR ?_
  intro p e s m args below meth c s₁ Bd hml0 hP hK
  obtain ⟨rfl, hZ, hh⟩ := hP
  have hx := Bd.exec
  have hby := Bd.bytes
  have hml : c.maxLocals = 7 := hml0
  have hown : s.vm.findClass "fieldstone/ByteReaderUtf8LengthPinLaw" = some m.cls := findClass_of_methodNamed Bd.named
  have hnm := (name_of_methodNamed Bd.named Bd.method).1
  have X0 : Stand p l e ({ frames := 1, cells := 0, slots := 0, locals := 12 } : Room) s m #[(.int p0), (.int p1), (.int p2), (.int p3), (.int p4)] below meth c s₁ [] 0 0 := Stand.of_body Bd
  have e0 : s₁.heap = h0 := by rw [← hh, Bd.state]; rfl
  have N0 := Fr.nil n0
  have pre0 : ∀ t, Steps p.tables e below (s₁.setTop (mkF m 0 #[.val (.int p0), .val (.int p1), .val (.int p2), .val (.int p3), .val (.int p4), .unset, .unset] [])) t → Steps p.tables e below (s₁.setTop (entryFrame m #[(.int p0), (.int p1), (.int p2), (.int p3), (.int p4)] 7)) t := fun t k => castTop (own_ef_own_ref m p0 p1 p2 p3 p4) k
  have pre5 : ∀ t, Steps p.tables e below (s₁.setTop (mkF m 5 #[.val (.int p0), .val (.int p1), .val (.int p2), .val (.int p3), .val (.int p4), .unset, .unset] [(.int (p0 &&& (128 : Int32)))])) t → Steps p.tables e below (s₁.setTop (entryFrame m #[(.int p0), (.int p1), (.int p2), (.int p3), (.int p4)] 7)) t := by
    intro t kt
    refine pre0 _ ?_
    show Steps p.tables e below (s₁.setTop (mkF m 0 #[.val (.int p0), .val (.int p1), .val (.int p2), .val (.int p3), .val (.int p4), .unset, .unset] [])) _
    refine XS.iloadN X0.here hx rfl (hb hby own_d1_0) rfl ?_
    show Steps p.tables e below (s₁.setTop (mkF m 1 #[.val (.int p0), .val (.int p1), .val (.int p2), .val (.int p3), .val (.int p4), .unset, .unset] [(.int p0)])) _
    refine XS.sipush X0.here hx rfl (hb hby own_d1_1) ?_
    show Steps p.tables e below (s₁.setTop (mkF m 4 #[.val (.int p0), .val (.int p1), .val (.int p2), .val (.int p3), .val (.int p4), .unset, .unset] [(.int (128 : Int32)), (.int p0)])) _
    refine XS.iand X0.here hx rfl (hb hby own_d1_4) rfl ?_
    exact kt
  by_cases hc5_6 : (p0 &&& (128 : Int32)) = (0 : Int32)
  · have pre13 : ∀ t, Steps p.tables e below (s₁.setTop (mkF m 71 #[.val (.int p0), .val (.int p1), .val (.int p2), .val (.int p3), .val (.int p4), .val (.int (1 : Int32)), .unset] [(.int (1 : Int32)), (.int p4)])) t → Steps p.tables e below (s₁.setTop (entryFrame m #[(.int p0), (.int p1), (.int p2), (.int p3), (.int p4)] 7)) t := by
      intro t kt
      refine pre5 _ ?_
      show Steps p.tables e below (s₁.setTop (mkF m 5 #[.val (.int p0), .val (.int p1), .val (.int p2), .val (.int p3), .val (.int p4), .unset, .unset] [(.int (p0 &&& (128 : Int32)))])) _
      refine XS.ifNo X0.here hx rfl (hb hby own_d1_5) rfl ((if0 _ _).trans (teq hc5_6).2) ?_
      show Steps p.tables e below (s₁.setTop (mkF m 8 #[.val (.int p0), .val (.int p1), .val (.int p2), .val (.int p3), .val (.int p4), .unset, .unset] [])) _
      refine XS.iconst X0.here hx rfl (hb hby own_d1_8) ?_
      show Steps p.tables e below (s₁.setTop (mkF m 9 #[.val (.int p0), .val (.int p1), .val (.int p2), .val (.int p3), .val (.int p4), .unset, .unset] [(.int (1 : Int32))])) _
      refine XS.istore X0.here hx rfl (hb hby own_d1_9) rfl (l' := #[.val (.int p0), .val (.int p1), .val (.int p2), .val (.int p3), .val (.int p4), .val (.int (1 : Int32)), .unset]) rfl ?_
      show Steps p.tables e below (s₁.setTop (mkF m 11 #[.val (.int p0), .val (.int p1), .val (.int p2), .val (.int p3), .val (.int p4), .val (.int (1 : Int32)), .unset] [])) _
      refine XS.goto X0.here hx rfl (pc0 := 11) (pc' := 67) rfl (hb hby own_d1_11) (by decide) (by decide) ?_
      show Steps p.tables e below (s₁.setTop (mkF m 67 #[.val (.int p0), .val (.int p1), .val (.int p2), .val (.int p3), .val (.int p4), .val (.int (1 : Int32)), .unset] [])) _
      refine XS.iload X0.here hx rfl (hb hby own_d1_67) rfl ?_
      show Steps p.tables e below (s₁.setTop (mkF m 69 #[.val (.int p0), .val (.int p1), .val (.int p2), .val (.int p3), .val (.int p4), .val (.int (1 : Int32)), .unset] [(.int p4)])) _
      refine XS.iload X0.here hx rfl (hb hby own_d1_69) rfl ?_
      exact kt
    by_cases hc71_14 : p4 < (1 : Int32)
    · obtain ⟨fs, hr, hrun, hended, hW, hsame⟩ := X0.leave (v := some (.int (0 : Int32))) (fun h => by rw [Bd.returns] at h; cases h) (hlocks := BodyLoose.notSynchronized Bd)
      refine ⟨_, _, pre13 _ ?_, hrun, hended, _, _, rfl, ?_, ⟨_, rfl⟩, hW, hsame.mono (by decide) (by decide)⟩
      · show Steps p.tables e below (s₁.setTop (mkF m 71 #[.val (.int p0), .val (.int p1), .val (.int p2), .val (.int p3), .val (.int p4), .val (.int (1 : Int32)), .unset] [(.int (1 : Int32)), (.int p4)])) _
        refine XS.icmpNo X0.here hx rfl (hb hby own_d1_71) rfl (tlt hc71_14).2.1 ?_
        show Steps p.tables e below (s₁.setTop (mkF m 74 #[.val (.int p0), .val (.int p1), .val (.int p2), .val (.int p3), .val (.int p4), .val (.int (1 : Int32)), .unset] [])) _
        refine XS.iconst X0.here hx rfl (hb hby own_d1_74) ?_
        show Steps p.tables e below (s₁.setTop (mkF m 75 #[.val (.int p0), .val (.int p1), .val (.int p2), .val (.int p3), .val (.int p4), .val (.int (1 : Int32)), .unset] [(.int (0 : Int32))])) _
        exact retI X0 hx Bd.returns (hb hby own_d1_75) hr
      · show Qown_ref Z p0 p1 p2 p3 p4 h0 n0 _ s₁.heap _
        rw [e0]
        have hv : (own_ref_f p0 p1 p2 p3 p4) = (0 : Int32) := by unfold own_ref_f; rw [if_pos hc5_6, if_pos hc71_14]
        exact ⟨(by rw [hv]), N0, rfl⟩
    · obtain ⟨fs, hr, hrun, hended, hW, hsame⟩ := X0.leave (v := some (.int (1 : Int32))) (fun h => by rw [Bd.returns] at h; cases h) (hlocks := BodyLoose.notSynchronized Bd)
      refine ⟨_, _, pre13 _ ?_, hrun, hended, _, _, rfl, ?_, ⟨_, rfl⟩, hW, hsame.mono (by decide) (by decide)⟩
      · show Steps p.tables e below (s₁.setTop (mkF m 71 #[.val (.int p0), .val (.int p1), .val (.int p2), .val (.int p3), .val (.int p4), .val (.int (1 : Int32)), .unset] [(.int (1 : Int32)), (.int p4)])) _
        refine XS.icmpYes X0.here hx rfl (pc0 := 71) (pc' := 76) rfl (hb hby own_d1_71) rfl (flt hc71_14).2.1 (by decide) (by decide) ?_
        show Steps p.tables e below (s₁.setTop (mkF m 76 #[.val (.int p0), .val (.int p1), .val (.int p2), .val (.int p3), .val (.int p4), .val (.int (1 : Int32)), .unset] [])) _
        refine XS.iload X0.here hx rfl (hb hby own_d1_76) rfl ?_
        show Steps p.tables e below (s₁.setTop (mkF m 78 #[.val (.int p0), .val (.int p1), .val (.int p2), .val (.int p3), .val (.int p4), .val (.int (1 : Int32)), .unset] [(.int (1 : Int32))])) _
        refine XS.iconst X0.here hx rfl (hb hby own_d1_78) ?_
        show Steps p.tables e below (s₁.setTop (mkF m 79 #[.val (.int p0), .val (.int p1), .val (.int p2), .val (.int p3), .val (.int p4), .val (.int (1 : Int32)), .unset] [(.int (1 : Int32)), (.int (1 : Int32))])) _
        refine XS.icmpNo X0.here hx rfl (hb hby own_d1_79) rfl (teq ((by decide) : (1 : Int32) = (1 : Int32))).2 ?_
        show Steps p.tables e below (s₁.setTop (mkF m 82 #[.val (.int p0), .val (.int p1), .val (.int p2), .val (.int p3), .val (.int p4), .val (.int (1 : Int32)), .unset] [])) _
        refine XS.iconst X0.here hx rfl (hb hby own_d1_82) ?_
        show Steps p.tables e below (s₁.setTop (mkF m 83 #[.val (.int p0), .val (.int p1), .val (.int p2), .val (.int p3), .val (.int p4), .val (.int (1 : Int32)), .unset] [(.int (1 : Int32))])) _
        exact retI X0 hx Bd.returns (hb hby own_d1_83) hr
      · show Qown_ref Z p0 p1 p2 p3 p4 h0 n0 _ s₁.heap _
        rw [e0]
        have hv : (own_ref_f p0 p1 p2 p3 p4) = (1 : Int32) := by unfold own_ref_f; rw [if_pos hc5_6, if_neg hc71_14]
        exact ⟨(by rw [hv]), N0, rfl⟩
  · have pre27 : ∀ t, Steps p.tables e below (s₁.setTop (mkF m 22 #[.val (.int p0), .val (.int p1), .val (.int p2), .val (.int p3), .val (.int p4), .unset, .unset] [(.int (192 : Int32)), (.int (p0 &&& (224 : Int32)))])) t → Steps p.tables e below (s₁.setTop (entryFrame m #[(.int p0), (.int p1), (.int p2), (.int p3), (.int p4)] 7)) t := by
      intro t kt
      refine pre5 _ ?_
      show Steps p.tables e below (s₁.setTop (mkF m 5 #[.val (.int p0), .val (.int p1), .val (.int p2), .val (.int p3), .val (.int p4), .unset, .unset] [(.int (p0 &&& (128 : Int32)))])) _
      refine XS.ifYes X0.here hx rfl (pc0 := 5) (pc' := 14) rfl (hb hby own_d1_5) rfl ((if0 _ _).trans (feq hc5_6).2) (by decide) (by decide) ?_
      show Steps p.tables e below (s₁.setTop (mkF m 14 #[.val (.int p0), .val (.int p1), .val (.int p2), .val (.int p3), .val (.int p4), .unset, .unset] [])) _
      refine XS.iloadN X0.here hx rfl (hb hby own_d1_14) rfl ?_
      show Steps p.tables e below (s₁.setTop (mkF m 15 #[.val (.int p0), .val (.int p1), .val (.int p2), .val (.int p3), .val (.int p4), .unset, .unset] [(.int p0)])) _
      refine XS.sipush X0.here hx rfl (hb hby own_d1_15) ?_
      show Steps p.tables e below (s₁.setTop (mkF m 18 #[.val (.int p0), .val (.int p1), .val (.int p2), .val (.int p3), .val (.int p4), .unset, .unset] [(.int (224 : Int32)), (.int p0)])) _
      refine XS.iand X0.here hx rfl (hb hby own_d1_18) rfl ?_
      show Steps p.tables e below (s₁.setTop (mkF m 19 #[.val (.int p0), .val (.int p1), .val (.int p2), .val (.int p3), .val (.int p4), .unset, .unset] [(.int (p0 &&& (224 : Int32)))])) _
      refine XS.sipush X0.here hx rfl (hb hby own_d1_19) ?_
      exact kt
    by_cases hc22_28 : (p0 &&& (224 : Int32)) = (192 : Int32)
    · have pre35 : ∀ t, Steps p.tables e below (s₁.setTop (mkF m 71 #[.val (.int p0), .val (.int p1), .val (.int p2), .val (.int p3), .val (.int p4), .val (.int (2 : Int32)), .unset] [(.int (2 : Int32)), (.int p4)])) t → Steps p.tables e below (s₁.setTop (entryFrame m #[(.int p0), (.int p1), (.int p2), (.int p3), (.int p4)] 7)) t := by
        intro t kt
        refine pre27 _ ?_
        show Steps p.tables e below (s₁.setTop (mkF m 22 #[.val (.int p0), .val (.int p1), .val (.int p2), .val (.int p3), .val (.int p4), .unset, .unset] [(.int (192 : Int32)), (.int (p0 &&& (224 : Int32)))])) _
        refine XS.icmpNo X0.here hx rfl (hb hby own_d1_22) rfl (teq hc22_28).2 ?_
        show Steps p.tables e below (s₁.setTop (mkF m 25 #[.val (.int p0), .val (.int p1), .val (.int p2), .val (.int p3), .val (.int p4), .unset, .unset] [])) _
        refine XS.iconst X0.here hx rfl (hb hby own_d1_25) ?_
        show Steps p.tables e below (s₁.setTop (mkF m 26 #[.val (.int p0), .val (.int p1), .val (.int p2), .val (.int p3), .val (.int p4), .unset, .unset] [(.int (2 : Int32))])) _
        refine XS.istore X0.here hx rfl (hb hby own_d1_26) rfl (l' := #[.val (.int p0), .val (.int p1), .val (.int p2), .val (.int p3), .val (.int p4), .val (.int (2 : Int32)), .unset]) rfl ?_
        show Steps p.tables e below (s₁.setTop (mkF m 28 #[.val (.int p0), .val (.int p1), .val (.int p2), .val (.int p3), .val (.int p4), .val (.int (2 : Int32)), .unset] [])) _
        refine XS.goto X0.here hx rfl (pc0 := 28) (pc' := 67) rfl (hb hby own_d1_28) (by decide) (by decide) ?_
        show Steps p.tables e below (s₁.setTop (mkF m 67 #[.val (.int p0), .val (.int p1), .val (.int p2), .val (.int p3), .val (.int p4), .val (.int (2 : Int32)), .unset] [])) _
        refine XS.iload X0.here hx rfl (hb hby own_d1_67) rfl ?_
        show Steps p.tables e below (s₁.setTop (mkF m 69 #[.val (.int p0), .val (.int p1), .val (.int p2), .val (.int p3), .val (.int p4), .val (.int (2 : Int32)), .unset] [(.int p4)])) _
        refine XS.iload X0.here hx rfl (hb hby own_d1_69) rfl ?_
        exact kt
      by_cases hc71_36 : p4 < (2 : Int32)
      · obtain ⟨fs, hr, hrun, hended, hW, hsame⟩ := X0.leave (v := some (.int (0 : Int32))) (fun h => by rw [Bd.returns] at h; cases h) (hlocks := BodyLoose.notSynchronized Bd)
        refine ⟨_, _, pre35 _ ?_, hrun, hended, _, _, rfl, ?_, ⟨_, rfl⟩, hW, hsame.mono (by decide) (by decide)⟩
        · show Steps p.tables e below (s₁.setTop (mkF m 71 #[.val (.int p0), .val (.int p1), .val (.int p2), .val (.int p3), .val (.int p4), .val (.int (2 : Int32)), .unset] [(.int (2 : Int32)), (.int p4)])) _
          refine XS.icmpNo X0.here hx rfl (hb hby own_d1_71) rfl (tlt hc71_36).2.1 ?_
          show Steps p.tables e below (s₁.setTop (mkF m 74 #[.val (.int p0), .val (.int p1), .val (.int p2), .val (.int p3), .val (.int p4), .val (.int (2 : Int32)), .unset] [])) _
          refine XS.iconst X0.here hx rfl (hb hby own_d1_74) ?_
          show Steps p.tables e below (s₁.setTop (mkF m 75 #[.val (.int p0), .val (.int p1), .val (.int p2), .val (.int p3), .val (.int p4), .val (.int (2 : Int32)), .unset] [(.int (0 : Int32))])) _
          exact retI X0 hx Bd.returns (hb hby own_d1_75) hr
        · show Qown_ref Z p0 p1 p2 p3 p4 h0 n0 _ s₁.heap _
          rw [e0]
          have hv : (own_ref_f p0 p1 p2 p3 p4) = (0 : Int32) := by unfold own_ref_f; rw [if_neg hc5_6, if_pos hc22_28, if_pos hc71_36]
          exact ⟨(by rw [hv]), N0, rfl⟩
      · obtain ⟨_, _, ⟨T44, L44, k44, n44⟩, -, X44, ⟨Lc44, hQ44, l44, y44, z44⟩, st44⟩ := Jvm.LawKit.callS X0 hx (y := (⟨"fieldstone/ByteReaderUtf8LengthPinLaw", "cont", "(I)Z"⟩ : MethodName)) hown (mvT hZ (hw _ (List.mem_of_getElem? (i := 10) rfl))) (mvT hZ (hw _ (List.mem_of_getElem? (i := 11) rfl))) (mvT hZ (hw _ (List.mem_of_getElem? (i := 4) rfl))) (mvT hZ (hw _ (List.mem_of_getElem? (i := 12) rfl))) (by decide) (backOf (W := 0) (own_cont l Z a0 hw [] p1 h0 n0 Z0 ) hZ (hw _ (List.mem_of_getElem? (i := 12) rfl)) (hw _ (List.mem_of_getElem? (i := 4) rfl)) (by decide) (by decide)) (g := (mkF m 85 #[.val (.int p0), .val (.int p1), .val (.int p2), .val (.int p3), .val (.int p4), .val (.int (2 : Int32)), .unset] [(.int p1)])) rfl (by rw [hml]; rfl) (argsL := [(.int p1)]) (rest := []) (lenOf own_pd0 rfl) rfl (by show 2 * 0 + _ ≤ _; exact Nat.le_of_eq rfl) (hb hby own_d1_85) (fun _ _ => ⟨rfl, e0, (by decide : 0 + 0 ≤ _), (by decide : 0 + 0 ≤ _)⟩)
        dsimp only [Pt.U, Pt.locs, Pt.cells, Pt.slots] at X44 l44 y44 z44 st44 hQ44
        subst l44 y44 z44
        obtain ⟨rfl, Nq44, eh44⟩ := hQ44
        have N45 := Fr.app N0 Nq44
        have pre47 : ∀ t, Steps p.tables e below (T44.setTop (mkF m 88 #[.val (.int p0), .val (.int p1), .val (.int p2), .val (.int p3), .val (.int p4), .val (.int (2 : Int32)), .unset] [(.int (own_cont_f p1))])) t → Steps p.tables e below (s₁.setTop (entryFrame m #[(.int p0), (.int p1), (.int p2), (.int p3), (.int p4)] 7)) t := by
          intro t kt
          refine pre35 _ ?_
          show Steps p.tables e below (s₁.setTop (mkF m 71 #[.val (.int p0), .val (.int p1), .val (.int p2), .val (.int p3), .val (.int p4), .val (.int (2 : Int32)), .unset] [(.int (2 : Int32)), (.int p4)])) _
          refine XS.icmpYes X0.here hx rfl (pc0 := 71) (pc' := 76) rfl (hb hby own_d1_71) rfl (flt hc71_36).2.1 (by decide) (by decide) ?_
          show Steps p.tables e below (s₁.setTop (mkF m 76 #[.val (.int p0), .val (.int p1), .val (.int p2), .val (.int p3), .val (.int p4), .val (.int (2 : Int32)), .unset] [])) _
          refine XS.iload X0.here hx rfl (hb hby own_d1_76) rfl ?_
          show Steps p.tables e below (s₁.setTop (mkF m 78 #[.val (.int p0), .val (.int p1), .val (.int p2), .val (.int p3), .val (.int p4), .val (.int (2 : Int32)), .unset] [(.int (2 : Int32))])) _
          refine XS.iconst X0.here hx rfl (hb hby own_d1_78) ?_
          show Steps p.tables e below (s₁.setTop (mkF m 79 #[.val (.int p0), .val (.int p1), .val (.int p2), .val (.int p3), .val (.int p4), .val (.int (2 : Int32)), .unset] [(.int (1 : Int32)), (.int (2 : Int32))])) _
          refine XS.icmpYes X0.here hx rfl (pc0 := 79) (pc' := 84) rfl (hb hby own_d1_79) rfl (feq ((by decide) : ¬ ((2 : Int32) = (1 : Int32)))).2 (by decide) (by decide) ?_
          show Steps p.tables e below (s₁.setTop (mkF m 84 #[.val (.int p0), .val (.int p1), .val (.int p2), .val (.int p3), .val (.int p4), .val (.int (2 : Int32)), .unset] [])) _
          refine XS.iloadN X0.here hx rfl (hb hby own_d1_84) rfl ?_
          show Steps p.tables e below (s₁.setTop (mkF m 85 #[.val (.int p0), .val (.int p1), .val (.int p2), .val (.int p3), .val (.int p4), .val (.int (2 : Int32)), .unset] [(.int p1)])) _
          refine st44 _ ?_
          exact kt
        by_cases hc88_48 : (own_cont_f p1) = (0 : Int32)
        · obtain ⟨fs, hr, hrun, hended, hW, hsame⟩ := X44.leave (v := some (.int (0 : Int32))) (fun h => by rw [Bd.returns] at h; cases h) (hlocks := BodyLoose.notSynchronized Bd)
          refine ⟨_, _, pre47 _ ?_, hrun, hended, _, _, rfl, ?_, ⟨_, rfl⟩, hW, hsame.mono (by decide) (by decide)⟩
          · show Steps p.tables e below (T44.setTop (mkF m 88 #[.val (.int p0), .val (.int p1), .val (.int p2), .val (.int p3), .val (.int p4), .val (.int (2 : Int32)), .unset] [(.int (own_cont_f p1))])) _
            refine XS.ifNo X44.here hx rfl (hb hby own_d1_88) rfl ((if0 _ _).trans (teq hc88_48).2) ?_
            show Steps p.tables e below (T44.setTop (mkF m 91 #[.val (.int p0), .val (.int p1), .val (.int p2), .val (.int p3), .val (.int p4), .val (.int (2 : Int32)), .unset] [])) _
            refine XS.iconst X44.here hx rfl (hb hby own_d1_91) ?_
            show Steps p.tables e below (T44.setTop (mkF m 92 #[.val (.int p0), .val (.int p1), .val (.int p2), .val (.int p3), .val (.int p4), .val (.int (2 : Int32)), .unset] [(.int (0 : Int32))])) _
            exact retI X44 hx Bd.returns (hb hby own_d1_92) hr
          · show Qown_ref Z p0 p1 p2 p3 p4 h0 n0 _ T44.heap _
            rw [eh44]
            have hv : (own_ref_f p0 p1 p2 p3 p4) = (0 : Int32) := by unfold own_ref_f; rw [if_neg hc5_6, if_pos hc22_28, if_neg hc71_36, if_pos hc88_48]
            exact ⟨(by rw [hv]), N45, rfl⟩
        · have pre67 : ∀ t, Steps p.tables e below (T44.setTop (mkF m 118 #[.val (.int p0), .val (.int p1), .val (.int p2), .val (.int p3), .val (.int p4), .val (.int (2 : Int32)), .val (.int (((p0 &&& (31 : Int32)) <<< ((6 : Int32) &&& 31)) ||| (p1 &&& (63 : Int32))))] [(.int (128 : Int32)), (.int (((p0 &&& (31 : Int32)) <<< ((6 : Int32) &&& 31)) ||| (p1 &&& (63 : Int32))))])) t → Steps p.tables e below (s₁.setTop (entryFrame m #[(.int p0), (.int p1), (.int p2), (.int p3), (.int p4)] 7)) t := by
            intro t kt
            refine pre47 _ ?_
            show Steps p.tables e below (T44.setTop (mkF m 88 #[.val (.int p0), .val (.int p1), .val (.int p2), .val (.int p3), .val (.int p4), .val (.int (2 : Int32)), .unset] [(.int (own_cont_f p1))])) _
            refine XS.ifYes X44.here hx rfl (pc0 := 88) (pc' := 93) rfl (hb hby own_d1_88) rfl ((if0 _ _).trans (feq hc88_48).2) (by decide) (by decide) ?_
            show Steps p.tables e below (T44.setTop (mkF m 93 #[.val (.int p0), .val (.int p1), .val (.int p2), .val (.int p3), .val (.int p4), .val (.int (2 : Int32)), .unset] [])) _
            refine XS.iload X44.here hx rfl (hb hby own_d1_93) rfl ?_
            show Steps p.tables e below (T44.setTop (mkF m 95 #[.val (.int p0), .val (.int p1), .val (.int p2), .val (.int p3), .val (.int p4), .val (.int (2 : Int32)), .unset] [(.int (2 : Int32))])) _
            refine XS.iconst X44.here hx rfl (hb hby own_d1_95) ?_
            show Steps p.tables e below (T44.setTop (mkF m 96 #[.val (.int p0), .val (.int p1), .val (.int p2), .val (.int p3), .val (.int p4), .val (.int (2 : Int32)), .unset] [(.int (2 : Int32)), (.int (2 : Int32))])) _
            refine XS.icmpNo X44.here hx rfl (hb hby own_d1_96) rfl (teq ((by decide) : (2 : Int32) = (2 : Int32))).2 ?_
            show Steps p.tables e below (T44.setTop (mkF m 99 #[.val (.int p0), .val (.int p1), .val (.int p2), .val (.int p3), .val (.int p4), .val (.int (2 : Int32)), .unset] [])) _
            refine XS.iloadN X44.here hx rfl (hb hby own_d1_99) rfl ?_
            show Steps p.tables e below (T44.setTop (mkF m 100 #[.val (.int p0), .val (.int p1), .val (.int p2), .val (.int p3), .val (.int p4), .val (.int (2 : Int32)), .unset] [(.int p0)])) _
            refine XS.bipush X44.here hx rfl (hb hby own_d1_100) ?_
            show Steps p.tables e below (T44.setTop (mkF m 102 #[.val (.int p0), .val (.int p1), .val (.int p2), .val (.int p3), .val (.int p4), .val (.int (2 : Int32)), .unset] [(.int (31 : Int32)), (.int p0)])) _
            refine XS.iand X44.here hx rfl (hb hby own_d1_102) rfl ?_
            show Steps p.tables e below (T44.setTop (mkF m 103 #[.val (.int p0), .val (.int p1), .val (.int p2), .val (.int p3), .val (.int p4), .val (.int (2 : Int32)), .unset] [(.int (p0 &&& (31 : Int32)))])) _
            refine XS.bipush X44.here hx rfl (hb hby own_d1_103) ?_
            show Steps p.tables e below (T44.setTop (mkF m 105 #[.val (.int p0), .val (.int p1), .val (.int p2), .val (.int p3), .val (.int p4), .val (.int (2 : Int32)), .unset] [(.int (6 : Int32)), (.int (p0 &&& (31 : Int32)))])) _
            refine XS.ishl X44.here hx rfl (hb hby own_d1_105) rfl ?_
            show Steps p.tables e below (T44.setTop (mkF m 106 #[.val (.int p0), .val (.int p1), .val (.int p2), .val (.int p3), .val (.int p4), .val (.int (2 : Int32)), .unset] [(.int ((p0 &&& (31 : Int32)) <<< ((6 : Int32) &&& 31)))])) _
            refine XS.iloadN X44.here hx rfl (hb hby own_d1_106) rfl ?_
            show Steps p.tables e below (T44.setTop (mkF m 107 #[.val (.int p0), .val (.int p1), .val (.int p2), .val (.int p3), .val (.int p4), .val (.int (2 : Int32)), .unset] [(.int p1), (.int ((p0 &&& (31 : Int32)) <<< ((6 : Int32) &&& 31)))])) _
            refine XS.bipush X44.here hx rfl (hb hby own_d1_107) ?_
            show Steps p.tables e below (T44.setTop (mkF m 109 #[.val (.int p0), .val (.int p1), .val (.int p2), .val (.int p3), .val (.int p4), .val (.int (2 : Int32)), .unset] [(.int (63 : Int32)), (.int p1), (.int ((p0 &&& (31 : Int32)) <<< ((6 : Int32) &&& 31)))])) _
            refine XS.iand X44.here hx rfl (hb hby own_d1_109) rfl ?_
            show Steps p.tables e below (T44.setTop (mkF m 110 #[.val (.int p0), .val (.int p1), .val (.int p2), .val (.int p3), .val (.int p4), .val (.int (2 : Int32)), .unset] [(.int (p1 &&& (63 : Int32))), (.int ((p0 &&& (31 : Int32)) <<< ((6 : Int32) &&& 31)))])) _
            refine XS.ior X44.here hx rfl (hb hby own_d1_110) rfl ?_
            show Steps p.tables e below (T44.setTop (mkF m 111 #[.val (.int p0), .val (.int p1), .val (.int p2), .val (.int p3), .val (.int p4), .val (.int (2 : Int32)), .unset] [(.int (((p0 &&& (31 : Int32)) <<< ((6 : Int32) &&& 31)) ||| (p1 &&& (63 : Int32))))])) _
            refine XS.istore X44.here hx rfl (hb hby own_d1_111) rfl (l' := #[.val (.int p0), .val (.int p1), .val (.int p2), .val (.int p3), .val (.int p4), .val (.int (2 : Int32)), .val (.int (((p0 &&& (31 : Int32)) <<< ((6 : Int32) &&& 31)) ||| (p1 &&& (63 : Int32))))]) rfl ?_
            show Steps p.tables e below (T44.setTop (mkF m 113 #[.val (.int p0), .val (.int p1), .val (.int p2), .val (.int p3), .val (.int p4), .val (.int (2 : Int32)), .val (.int (((p0 &&& (31 : Int32)) <<< ((6 : Int32) &&& 31)) ||| (p1 &&& (63 : Int32))))] [])) _
            refine XS.iload X44.here hx rfl (hb hby own_d1_113) rfl ?_
            show Steps p.tables e below (T44.setTop (mkF m 115 #[.val (.int p0), .val (.int p1), .val (.int p2), .val (.int p3), .val (.int p4), .val (.int (2 : Int32)), .val (.int (((p0 &&& (31 : Int32)) <<< ((6 : Int32) &&& 31)) ||| (p1 &&& (63 : Int32))))] [(.int (((p0 &&& (31 : Int32)) <<< ((6 : Int32) &&& 31)) ||| (p1 &&& (63 : Int32))))])) _
            refine XS.sipush X44.here hx rfl (hb hby own_d1_115) ?_
            exact kt
          by_cases hc118_68 : (((p0 &&& (31 : Int32)) <<< ((6 : Int32) &&& 31)) ||| (p1 &&& (63 : Int32))) < (128 : Int32)
          · obtain ⟨fs, hr, hrun, hended, hW, hsame⟩ := X44.leave (v := some (.int (0 : Int32))) (fun h => by rw [Bd.returns] at h; cases h) (hlocks := BodyLoose.notSynchronized Bd)
            refine ⟨_, _, pre67 _ ?_, hrun, hended, _, _, rfl, ?_, ⟨_, rfl⟩, hW, hsame.mono (by decide) (by decide)⟩
            · show Steps p.tables e below (T44.setTop (mkF m 118 #[.val (.int p0), .val (.int p1), .val (.int p2), .val (.int p3), .val (.int p4), .val (.int (2 : Int32)), .val (.int (((p0 &&& (31 : Int32)) <<< ((6 : Int32) &&& 31)) ||| (p1 &&& (63 : Int32))))] [(.int (128 : Int32)), (.int (((p0 &&& (31 : Int32)) <<< ((6 : Int32) &&& 31)) ||| (p1 &&& (63 : Int32))))])) _
              refine XS.icmpYes X44.here hx rfl (pc0 := 118) (pc' := 125) rfl (hb hby own_d1_118) rfl (tlt hc118_68).1 (by decide) (by decide) ?_
              show Steps p.tables e below (T44.setTop (mkF m 125 #[.val (.int p0), .val (.int p1), .val (.int p2), .val (.int p3), .val (.int p4), .val (.int (2 : Int32)), .val (.int (((p0 &&& (31 : Int32)) <<< ((6 : Int32) &&& 31)) ||| (p1 &&& (63 : Int32))))] [])) _
              refine XS.iconst X44.here hx rfl (hb hby own_d1_125) ?_
              show Steps p.tables e below (T44.setTop (mkF m 126 #[.val (.int p0), .val (.int p1), .val (.int p2), .val (.int p3), .val (.int p4), .val (.int (2 : Int32)), .val (.int (((p0 &&& (31 : Int32)) <<< ((6 : Int32) &&& 31)) ||| (p1 &&& (63 : Int32))))] [(.int (0 : Int32))])) _
              exact retI X44 hx Bd.returns (hb hby own_d1_126) hr
            · show Qown_ref Z p0 p1 p2 p3 p4 h0 n0 _ T44.heap _
              rw [eh44]
              have hv : (own_ref_f p0 p1 p2 p3 p4) = (0 : Int32) := by unfold own_ref_f; rw [if_neg hc5_6, if_pos hc22_28, if_neg hc71_36, if_neg hc88_48, if_pos hc118_68]
              exact ⟨(by rw [hv]), N45, rfl⟩
          · obtain ⟨fs, hr, hrun, hended, hW, hsame⟩ := X44.leave (v := some (.int (2 : Int32))) (fun h => by rw [Bd.returns] at h; cases h) (hlocks := BodyLoose.notSynchronized Bd)
            refine ⟨_, _, pre67 _ ?_, hrun, hended, _, _, rfl, ?_, ⟨_, rfl⟩, hW, hsame.mono (by decide) (by decide)⟩
            · show Steps p.tables e below (T44.setTop (mkF m 118 #[.val (.int p0), .val (.int p1), .val (.int p2), .val (.int p3), .val (.int p4), .val (.int (2 : Int32)), .val (.int (((p0 &&& (31 : Int32)) <<< ((6 : Int32) &&& 31)) ||| (p1 &&& (63 : Int32))))] [(.int (128 : Int32)), (.int (((p0 &&& (31 : Int32)) <<< ((6 : Int32) &&& 31)) ||| (p1 &&& (63 : Int32))))])) _
              refine XS.icmpNo X44.here hx rfl (hb hby own_d1_118) rfl (flt hc118_68).1 ?_
              show Steps p.tables e below (T44.setTop (mkF m 121 #[.val (.int p0), .val (.int p1), .val (.int p2), .val (.int p3), .val (.int p4), .val (.int (2 : Int32)), .val (.int (((p0 &&& (31 : Int32)) <<< ((6 : Int32) &&& 31)) ||| (p1 &&& (63 : Int32))))] [])) _
              refine XS.iconst X44.here hx rfl (hb hby own_d1_121) ?_
              show Steps p.tables e below (T44.setTop (mkF m 122 #[.val (.int p0), .val (.int p1), .val (.int p2), .val (.int p3), .val (.int p4), .val (.int (2 : Int32)), .val (.int (((p0 &&& (31 : Int32)) <<< ((6 : Int32) &&& 31)) ||| (p1 &&& (63 : Int32))))] [(.int (2 : Int32))])) _
              refine XS.goto X44.here hx rfl (pc0 := 122) (pc' := 126) rfl (hb hby own_d1_122) (by decide) (by decide) ?_
              show Steps p.tables e below (T44.setTop (mkF m 126 #[.val (.int p0), .val (.int p1), .val (.int p2), .val (.int p3), .val (.int p4), .val (.int (2 : Int32)), .val (.int (((p0 &&& (31 : Int32)) <<< ((6 : Int32) &&& 31)) ||| (p1 &&& (63 : Int32))))] [(.int (2 : Int32))])) _
              exact retI X44 hx Bd.returns (hb hby own_d1_126) hr
            · show Qown_ref Z p0 p1 p2 p3 p4 h0 n0 _ T44.heap _
              rw [eh44]
              have hv : (own_ref_f p0 p1 p2 p3 p4) = (2 : Int32) := by unfold own_ref_f; rw [if_neg hc5_6, if_pos hc22_28, if_neg hc71_36, if_neg hc88_48, if_neg hc118_68]
              exact ⟨(by rw [hv]), N45, rfl⟩
    · have pre79 : ∀ t, Steps p.tables e below (s₁.setTop (mkF m 39 #[.val (.int p0), .val (.int p1), .val (.int p2), .val (.int p3), .val (.int p4), .unset, .unset] [(.int (224 : Int32)), (.int (p0 &&& (240 : Int32)))])) t → Steps p.tables e below (s₁.setTop (entryFrame m #[(.int p0), (.int p1), (.int p2), (.int p3), (.int p4)] 7)) t := by
        intro t kt
        refine pre27 _ ?_
        show Steps p.tables e below (s₁.setTop (mkF m 22 #[.val (.int p0), .val (.int p1), .val (.int p2), .val (.int p3), .val (.int p4), .unset, .unset] [(.int (192 : Int32)), (.int (p0 &&& (224 : Int32)))])) _
        refine XS.icmpYes X0.here hx rfl (pc0 := 22) (pc' := 31) rfl (hb hby own_d1_22) rfl (feq hc22_28).2 (by decide) (by decide) ?_
        show Steps p.tables e below (s₁.setTop (mkF m 31 #[.val (.int p0), .val (.int p1), .val (.int p2), .val (.int p3), .val (.int p4), .unset, .unset] [])) _
        refine XS.iloadN X0.here hx rfl (hb hby own_d1_31) rfl ?_
        show Steps p.tables e below (s₁.setTop (mkF m 32 #[.val (.int p0), .val (.int p1), .val (.int p2), .val (.int p3), .val (.int p4), .unset, .unset] [(.int p0)])) _
        refine XS.sipush X0.here hx rfl (hb hby own_d1_32) ?_
        show Steps p.tables e below (s₁.setTop (mkF m 35 #[.val (.int p0), .val (.int p1), .val (.int p2), .val (.int p3), .val (.int p4), .unset, .unset] [(.int (240 : Int32)), (.int p0)])) _
        refine XS.iand X0.here hx rfl (hb hby own_d1_35) rfl ?_
        show Steps p.tables e below (s₁.setTop (mkF m 36 #[.val (.int p0), .val (.int p1), .val (.int p2), .val (.int p3), .val (.int p4), .unset, .unset] [(.int (p0 &&& (240 : Int32)))])) _
        refine XS.sipush X0.here hx rfl (hb hby own_d1_36) ?_
        exact kt
      by_cases hc39_80 : (p0 &&& (240 : Int32)) = (224 : Int32)
      · have pre87 : ∀ t, Steps p.tables e below (s₁.setTop (mkF m 71 #[.val (.int p0), .val (.int p1), .val (.int p2), .val (.int p3), .val (.int p4), .val (.int (3 : Int32)), .unset] [(.int (3 : Int32)), (.int p4)])) t → Steps p.tables e below (s₁.setTop (entryFrame m #[(.int p0), (.int p1), (.int p2), (.int p3), (.int p4)] 7)) t := by
          intro t kt
          refine pre79 _ ?_
          show Steps p.tables e below (s₁.setTop (mkF m 39 #[.val (.int p0), .val (.int p1), .val (.int p2), .val (.int p3), .val (.int p4), .unset, .unset] [(.int (224 : Int32)), (.int (p0 &&& (240 : Int32)))])) _
          refine XS.icmpNo X0.here hx rfl (hb hby own_d1_39) rfl (teq hc39_80).2 ?_
          show Steps p.tables e below (s₁.setTop (mkF m 42 #[.val (.int p0), .val (.int p1), .val (.int p2), .val (.int p3), .val (.int p4), .unset, .unset] [])) _
          refine XS.iconst X0.here hx rfl (hb hby own_d1_42) ?_
          show Steps p.tables e below (s₁.setTop (mkF m 43 #[.val (.int p0), .val (.int p1), .val (.int p2), .val (.int p3), .val (.int p4), .unset, .unset] [(.int (3 : Int32))])) _
          refine XS.istore X0.here hx rfl (hb hby own_d1_43) rfl (l' := #[.val (.int p0), .val (.int p1), .val (.int p2), .val (.int p3), .val (.int p4), .val (.int (3 : Int32)), .unset]) rfl ?_
          show Steps p.tables e below (s₁.setTop (mkF m 45 #[.val (.int p0), .val (.int p1), .val (.int p2), .val (.int p3), .val (.int p4), .val (.int (3 : Int32)), .unset] [])) _
          refine XS.goto X0.here hx rfl (pc0 := 45) (pc' := 67) rfl (hb hby own_d1_45) (by decide) (by decide) ?_
          show Steps p.tables e below (s₁.setTop (mkF m 67 #[.val (.int p0), .val (.int p1), .val (.int p2), .val (.int p3), .val (.int p4), .val (.int (3 : Int32)), .unset] [])) _
          refine XS.iload X0.here hx rfl (hb hby own_d1_67) rfl ?_
          show Steps p.tables e below (s₁.setTop (mkF m 69 #[.val (.int p0), .val (.int p1), .val (.int p2), .val (.int p3), .val (.int p4), .val (.int (3 : Int32)), .unset] [(.int p4)])) _
          refine XS.iload X0.here hx rfl (hb hby own_d1_69) rfl ?_
          exact kt
        by_cases hc71_88 : p4 < (3 : Int32)
        · obtain ⟨fs, hr, hrun, hended, hW, hsame⟩ := X0.leave (v := some (.int (0 : Int32))) (fun h => by rw [Bd.returns] at h; cases h) (hlocks := BodyLoose.notSynchronized Bd)
          refine ⟨_, _, pre87 _ ?_, hrun, hended, _, _, rfl, ?_, ⟨_, rfl⟩, hW, hsame.mono (by decide) (by decide)⟩
          · show Steps p.tables e below (s₁.setTop (mkF m 71 #[.val (.int p0), .val (.int p1), .val (.int p2), .val (.int p3), .val (.int p4), .val (.int (3 : Int32)), .unset] [(.int (3 : Int32)), (.int p4)])) _
            refine XS.icmpNo X0.here hx rfl (hb hby own_d1_71) rfl (tlt hc71_88).2.1 ?_
            show Steps p.tables e below (s₁.setTop (mkF m 74 #[.val (.int p0), .val (.int p1), .val (.int p2), .val (.int p3), .val (.int p4), .val (.int (3 : Int32)), .unset] [])) _
            refine XS.iconst X0.here hx rfl (hb hby own_d1_74) ?_
            show Steps p.tables e below (s₁.setTop (mkF m 75 #[.val (.int p0), .val (.int p1), .val (.int p2), .val (.int p3), .val (.int p4), .val (.int (3 : Int32)), .unset] [(.int (0 : Int32))])) _
            exact retI X0 hx Bd.returns (hb hby own_d1_75) hr
          · show Qown_ref Z p0 p1 p2 p3 p4 h0 n0 _ s₁.heap _
            rw [e0]
            have hv : (own_ref_f p0 p1 p2 p3 p4) = (0 : Int32) := by unfold own_ref_f; rw [if_neg hc5_6, if_neg hc22_28, if_pos hc39_80, if_pos hc71_88]
            exact ⟨(by rw [hv]), N0, rfl⟩
        · obtain ⟨_, _, ⟨T96, L96, k96, n96⟩, -, X96, ⟨Lc96, hQ96, l96, y96, z96⟩, st96⟩ := Jvm.LawKit.callS X0 hx (y := (⟨"fieldstone/ByteReaderUtf8LengthPinLaw", "cont", "(I)Z"⟩ : MethodName)) hown (mvT hZ (hw _ (List.mem_of_getElem? (i := 10) rfl))) (mvT hZ (hw _ (List.mem_of_getElem? (i := 11) rfl))) (mvT hZ (hw _ (List.mem_of_getElem? (i := 4) rfl))) (mvT hZ (hw _ (List.mem_of_getElem? (i := 12) rfl))) (by decide) (backOf (W := 0) (own_cont l Z a0 hw [] p1 h0 n0 Z0 ) hZ (hw _ (List.mem_of_getElem? (i := 12) rfl)) (hw _ (List.mem_of_getElem? (i := 4) rfl)) (by decide) (by decide)) (g := (mkF m 85 #[.val (.int p0), .val (.int p1), .val (.int p2), .val (.int p3), .val (.int p4), .val (.int (3 : Int32)), .unset] [(.int p1)])) rfl (by rw [hml]; rfl) (argsL := [(.int p1)]) (rest := []) (lenOf own_pd0 rfl) rfl (by show 2 * 0 + _ ≤ _; exact Nat.le_of_eq rfl) (hb hby own_d1_85) (fun _ _ => ⟨rfl, e0, (by decide : 0 + 0 ≤ _), (by decide : 0 + 0 ≤ _)⟩)
          dsimp only [Pt.U, Pt.locs, Pt.cells, Pt.slots] at X96 l96 y96 z96 st96 hQ96
          subst l96 y96 z96
          obtain ⟨rfl, Nq96, eh96⟩ := hQ96
          have N97 := Fr.app N0 Nq96
          have pre99 : ∀ t, Steps p.tables e below (T96.setTop (mkF m 88 #[.val (.int p0), .val (.int p1), .val (.int p2), .val (.int p3), .val (.int p4), .val (.int (3 : Int32)), .unset] [(.int (own_cont_f p1))])) t → Steps p.tables e below (s₁.setTop (entryFrame m #[(.int p0), (.int p1), (.int p2), (.int p3), (.int p4)] 7)) t := by
            intro t kt
            refine pre87 _ ?_
            show Steps p.tables e below (s₁.setTop (mkF m 71 #[.val (.int p0), .val (.int p1), .val (.int p2), .val (.int p3), .val (.int p4), .val (.int (3 : Int32)), .unset] [(.int (3 : Int32)), (.int p4)])) _
            refine XS.icmpYes X0.here hx rfl (pc0 := 71) (pc' := 76) rfl (hb hby own_d1_71) rfl (flt hc71_88).2.1 (by decide) (by decide) ?_
            show Steps p.tables e below (s₁.setTop (mkF m 76 #[.val (.int p0), .val (.int p1), .val (.int p2), .val (.int p3), .val (.int p4), .val (.int (3 : Int32)), .unset] [])) _
            refine XS.iload X0.here hx rfl (hb hby own_d1_76) rfl ?_
            show Steps p.tables e below (s₁.setTop (mkF m 78 #[.val (.int p0), .val (.int p1), .val (.int p2), .val (.int p3), .val (.int p4), .val (.int (3 : Int32)), .unset] [(.int (3 : Int32))])) _
            refine XS.iconst X0.here hx rfl (hb hby own_d1_78) ?_
            show Steps p.tables e below (s₁.setTop (mkF m 79 #[.val (.int p0), .val (.int p1), .val (.int p2), .val (.int p3), .val (.int p4), .val (.int (3 : Int32)), .unset] [(.int (1 : Int32)), (.int (3 : Int32))])) _
            refine XS.icmpYes X0.here hx rfl (pc0 := 79) (pc' := 84) rfl (hb hby own_d1_79) rfl (feq ((by decide) : ¬ ((3 : Int32) = (1 : Int32)))).2 (by decide) (by decide) ?_
            show Steps p.tables e below (s₁.setTop (mkF m 84 #[.val (.int p0), .val (.int p1), .val (.int p2), .val (.int p3), .val (.int p4), .val (.int (3 : Int32)), .unset] [])) _
            refine XS.iloadN X0.here hx rfl (hb hby own_d1_84) rfl ?_
            show Steps p.tables e below (s₁.setTop (mkF m 85 #[.val (.int p0), .val (.int p1), .val (.int p2), .val (.int p3), .val (.int p4), .val (.int (3 : Int32)), .unset] [(.int p1)])) _
            refine st96 _ ?_
            exact kt
          by_cases hc88_100 : (own_cont_f p1) = (0 : Int32)
          · obtain ⟨fs, hr, hrun, hended, hW, hsame⟩ := X96.leave (v := some (.int (0 : Int32))) (fun h => by rw [Bd.returns] at h; cases h) (hlocks := BodyLoose.notSynchronized Bd)
            refine ⟨_, _, pre99 _ ?_, hrun, hended, _, _, rfl, ?_, ⟨_, rfl⟩, hW, hsame.mono (by decide) (by decide)⟩
            · show Steps p.tables e below (T96.setTop (mkF m 88 #[.val (.int p0), .val (.int p1), .val (.int p2), .val (.int p3), .val (.int p4), .val (.int (3 : Int32)), .unset] [(.int (own_cont_f p1))])) _
              refine XS.ifNo X96.here hx rfl (hb hby own_d1_88) rfl ((if0 _ _).trans (teq hc88_100).2) ?_
              show Steps p.tables e below (T96.setTop (mkF m 91 #[.val (.int p0), .val (.int p1), .val (.int p2), .val (.int p3), .val (.int p4), .val (.int (3 : Int32)), .unset] [])) _
              refine XS.iconst X96.here hx rfl (hb hby own_d1_91) ?_
              show Steps p.tables e below (T96.setTop (mkF m 92 #[.val (.int p0), .val (.int p1), .val (.int p2), .val (.int p3), .val (.int p4), .val (.int (3 : Int32)), .unset] [(.int (0 : Int32))])) _
              exact retI X96 hx Bd.returns (hb hby own_d1_92) hr
            · show Qown_ref Z p0 p1 p2 p3 p4 h0 n0 _ T96.heap _
              rw [eh96]
              have hv : (own_ref_f p0 p1 p2 p3 p4) = (0 : Int32) := by unfold own_ref_f; rw [if_neg hc5_6, if_neg hc22_28, if_pos hc39_80, if_neg hc71_88, if_pos hc88_100]
              exact ⟨(by rw [hv]), N97, rfl⟩
          · obtain ⟨_, _, ⟨T108, L108, k108, n108⟩, -, X108, ⟨Lc108, hQ108, l108, y108, z108⟩, st108⟩ := Jvm.LawKit.callS X96 hx (y := (⟨"fieldstone/ByteReaderUtf8LengthPinLaw", "cont", "(I)Z"⟩ : MethodName)) hown (mvT hZ (hw _ (List.mem_of_getElem? (i := 10) rfl))) (mvT hZ (hw _ (List.mem_of_getElem? (i := 11) rfl))) (mvT hZ (hw _ (List.mem_of_getElem? (i := 4) rfl))) (mvT hZ (hw _ (List.mem_of_getElem? (i := 12) rfl))) (by decide) (backOf (W := 0) (own_cont l Z a0 hw [] p2 h0 n0 Z0 ) hZ (hw _ (List.mem_of_getElem? (i := 12) rfl)) (hw _ (List.mem_of_getElem? (i := 4) rfl)) (by decide) (by decide)) (g := (mkF m 128 #[.val (.int p0), .val (.int p1), .val (.int p2), .val (.int p3), .val (.int p4), .val (.int (3 : Int32)), .unset] [(.int p2)])) rfl (by rw [hml]; rfl) (argsL := [(.int p2)]) (rest := []) (lenOf own_pd0 rfl) rfl (by show 2 * 0 + _ ≤ _; exact Nat.le_of_eq rfl) (hb hby own_d1_128) (fun _ _ => ⟨rfl, eh96, (by decide : 0 + 0 ≤ _), (by decide : 0 + 0 ≤ _)⟩)
            dsimp only [Pt.U, Pt.locs, Pt.cells, Pt.slots] at X108 l108 y108 z108 st108 hQ108
            subst l108 y108 z108
            obtain ⟨rfl, Nq108, eh108⟩ := hQ108
            have N109 := Fr.app N97 Nq108
            have pre111 : ∀ t, Steps p.tables e below (T108.setTop (mkF m 131 #[.val (.int p0), .val (.int p1), .val (.int p2), .val (.int p3), .val (.int p4), .val (.int (3 : Int32)), .unset] [(.int (own_cont_f p2))])) t → Steps p.tables e below (s₁.setTop (entryFrame m #[(.int p0), (.int p1), (.int p2), (.int p3), (.int p4)] 7)) t := by
              intro t kt
              refine pre99 _ ?_
              show Steps p.tables e below (T96.setTop (mkF m 88 #[.val (.int p0), .val (.int p1), .val (.int p2), .val (.int p3), .val (.int p4), .val (.int (3 : Int32)), .unset] [(.int (own_cont_f p1))])) _
              refine XS.ifYes X96.here hx rfl (pc0 := 88) (pc' := 93) rfl (hb hby own_d1_88) rfl ((if0 _ _).trans (feq hc88_100).2) (by decide) (by decide) ?_
              show Steps p.tables e below (T96.setTop (mkF m 93 #[.val (.int p0), .val (.int p1), .val (.int p2), .val (.int p3), .val (.int p4), .val (.int (3 : Int32)), .unset] [])) _
              refine XS.iload X96.here hx rfl (hb hby own_d1_93) rfl ?_
              show Steps p.tables e below (T96.setTop (mkF m 95 #[.val (.int p0), .val (.int p1), .val (.int p2), .val (.int p3), .val (.int p4), .val (.int (3 : Int32)), .unset] [(.int (3 : Int32))])) _
              refine XS.iconst X96.here hx rfl (hb hby own_d1_95) ?_
              show Steps p.tables e below (T96.setTop (mkF m 96 #[.val (.int p0), .val (.int p1), .val (.int p2), .val (.int p3), .val (.int p4), .val (.int (3 : Int32)), .unset] [(.int (2 : Int32)), (.int (3 : Int32))])) _
              refine XS.icmpYes X96.here hx rfl (pc0 := 96) (pc' := 127) rfl (hb hby own_d1_96) rfl (feq ((by decide) : ¬ ((3 : Int32) = (2 : Int32)))).2 (by decide) (by decide) ?_
              show Steps p.tables e below (T96.setTop (mkF m 127 #[.val (.int p0), .val (.int p1), .val (.int p2), .val (.int p3), .val (.int p4), .val (.int (3 : Int32)), .unset] [])) _
              refine XS.iloadN X96.here hx rfl (hb hby own_d1_127) rfl ?_
              show Steps p.tables e below (T96.setTop (mkF m 128 #[.val (.int p0), .val (.int p1), .val (.int p2), .val (.int p3), .val (.int p4), .val (.int (3 : Int32)), .unset] [(.int p2)])) _
              refine st108 _ ?_
              exact kt
            by_cases hc131_112 : (own_cont_f p2) = (0 : Int32)
            · obtain ⟨fs, hr, hrun, hended, hW, hsame⟩ := X108.leave (v := some (.int (0 : Int32))) (fun h => by rw [Bd.returns] at h; cases h) (hlocks := BodyLoose.notSynchronized Bd)
              refine ⟨_, _, pre111 _ ?_, hrun, hended, _, _, rfl, ?_, ⟨_, rfl⟩, hW, hsame.mono (by decide) (by decide)⟩
              · show Steps p.tables e below (T108.setTop (mkF m 131 #[.val (.int p0), .val (.int p1), .val (.int p2), .val (.int p3), .val (.int p4), .val (.int (3 : Int32)), .unset] [(.int (own_cont_f p2))])) _
                refine XS.ifNo X108.here hx rfl (hb hby own_d1_131) rfl ((if0 _ _).trans (teq hc131_112).2) ?_
                show Steps p.tables e below (T108.setTop (mkF m 134 #[.val (.int p0), .val (.int p1), .val (.int p2), .val (.int p3), .val (.int p4), .val (.int (3 : Int32)), .unset] [])) _
                refine XS.iconst X108.here hx rfl (hb hby own_d1_134) ?_
                show Steps p.tables e below (T108.setTop (mkF m 135 #[.val (.int p0), .val (.int p1), .val (.int p2), .val (.int p3), .val (.int p4), .val (.int (3 : Int32)), .unset] [(.int (0 : Int32))])) _
                exact retI X108 hx Bd.returns (hb hby own_d1_135) hr
              · show Qown_ref Z p0 p1 p2 p3 p4 h0 n0 _ T108.heap _
                rw [eh108]
                have hv : (own_ref_f p0 p1 p2 p3 p4) = (0 : Int32) := by unfold own_ref_f; rw [if_neg hc5_6, if_neg hc22_28, if_pos hc39_80, if_neg hc71_88, if_neg hc88_100, if_pos hc131_112]
                exact ⟨(by rw [hv]), N109, rfl⟩
            · have pre137 : ∀ t, Steps p.tables e below (T108.setTop (mkF m 169 #[.val (.int p0), .val (.int p1), .val (.int p2), .val (.int p3), .val (.int p4), .val (.int (3 : Int32)), .val (.int ((((p0 &&& (15 : Int32)) <<< ((12 : Int32) &&& 31)) ||| ((p1 &&& (63 : Int32)) <<< ((6 : Int32) &&& 31))) ||| (p2 &&& (63 : Int32))))] [(.int (2048 : Int32)), (.int ((((p0 &&& (15 : Int32)) <<< ((12 : Int32) &&& 31)) ||| ((p1 &&& (63 : Int32)) <<< ((6 : Int32) &&& 31))) ||| (p2 &&& (63 : Int32))))])) t → Steps p.tables e below (s₁.setTop (entryFrame m #[(.int p0), (.int p1), (.int p2), (.int p3), (.int p4)] 7)) t := by
                intro t kt
                refine pre111 _ ?_
                show Steps p.tables e below (T108.setTop (mkF m 131 #[.val (.int p0), .val (.int p1), .val (.int p2), .val (.int p3), .val (.int p4), .val (.int (3 : Int32)), .unset] [(.int (own_cont_f p2))])) _
                refine XS.ifYes X108.here hx rfl (pc0 := 131) (pc' := 136) rfl (hb hby own_d1_131) rfl ((if0 _ _).trans (feq hc131_112).2) (by decide) (by decide) ?_
                show Steps p.tables e below (T108.setTop (mkF m 136 #[.val (.int p0), .val (.int p1), .val (.int p2), .val (.int p3), .val (.int p4), .val (.int (3 : Int32)), .unset] [])) _
                refine XS.iload X108.here hx rfl (hb hby own_d1_136) rfl ?_
                show Steps p.tables e below (T108.setTop (mkF m 138 #[.val (.int p0), .val (.int p1), .val (.int p2), .val (.int p3), .val (.int p4), .val (.int (3 : Int32)), .unset] [(.int (3 : Int32))])) _
                refine XS.iconst X108.here hx rfl (hb hby own_d1_138) ?_
                show Steps p.tables e below (T108.setTop (mkF m 139 #[.val (.int p0), .val (.int p1), .val (.int p2), .val (.int p3), .val (.int p4), .val (.int (3 : Int32)), .unset] [(.int (3 : Int32)), (.int (3 : Int32))])) _
                refine XS.icmpNo X108.here hx rfl (hb hby own_d1_139) rfl (teq ((by decide) : (3 : Int32) = (3 : Int32))).2 ?_
                show Steps p.tables e below (T108.setTop (mkF m 142 #[.val (.int p0), .val (.int p1), .val (.int p2), .val (.int p3), .val (.int p4), .val (.int (3 : Int32)), .unset] [])) _
                refine XS.iloadN X108.here hx rfl (hb hby own_d1_142) rfl ?_
                show Steps p.tables e below (T108.setTop (mkF m 143 #[.val (.int p0), .val (.int p1), .val (.int p2), .val (.int p3), .val (.int p4), .val (.int (3 : Int32)), .unset] [(.int p0)])) _
                refine XS.bipush X108.here hx rfl (hb hby own_d1_143) ?_
                show Steps p.tables e below (T108.setTop (mkF m 145 #[.val (.int p0), .val (.int p1), .val (.int p2), .val (.int p3), .val (.int p4), .val (.int (3 : Int32)), .unset] [(.int (15 : Int32)), (.int p0)])) _
                refine XS.iand X108.here hx rfl (hb hby own_d1_145) rfl ?_
                show Steps p.tables e below (T108.setTop (mkF m 146 #[.val (.int p0), .val (.int p1), .val (.int p2), .val (.int p3), .val (.int p4), .val (.int (3 : Int32)), .unset] [(.int (p0 &&& (15 : Int32)))])) _
                refine XS.bipush X108.here hx rfl (hb hby own_d1_146) ?_
                show Steps p.tables e below (T108.setTop (mkF m 148 #[.val (.int p0), .val (.int p1), .val (.int p2), .val (.int p3), .val (.int p4), .val (.int (3 : Int32)), .unset] [(.int (12 : Int32)), (.int (p0 &&& (15 : Int32)))])) _
                refine XS.ishl X108.here hx rfl (hb hby own_d1_148) rfl ?_
                show Steps p.tables e below (T108.setTop (mkF m 149 #[.val (.int p0), .val (.int p1), .val (.int p2), .val (.int p3), .val (.int p4), .val (.int (3 : Int32)), .unset] [(.int ((p0 &&& (15 : Int32)) <<< ((12 : Int32) &&& 31)))])) _
                refine XS.iloadN X108.here hx rfl (hb hby own_d1_149) rfl ?_
                show Steps p.tables e below (T108.setTop (mkF m 150 #[.val (.int p0), .val (.int p1), .val (.int p2), .val (.int p3), .val (.int p4), .val (.int (3 : Int32)), .unset] [(.int p1), (.int ((p0 &&& (15 : Int32)) <<< ((12 : Int32) &&& 31)))])) _
                refine XS.bipush X108.here hx rfl (hb hby own_d1_150) ?_
                show Steps p.tables e below (T108.setTop (mkF m 152 #[.val (.int p0), .val (.int p1), .val (.int p2), .val (.int p3), .val (.int p4), .val (.int (3 : Int32)), .unset] [(.int (63 : Int32)), (.int p1), (.int ((p0 &&& (15 : Int32)) <<< ((12 : Int32) &&& 31)))])) _
                refine XS.iand X108.here hx rfl (hb hby own_d1_152) rfl ?_
                show Steps p.tables e below (T108.setTop (mkF m 153 #[.val (.int p0), .val (.int p1), .val (.int p2), .val (.int p3), .val (.int p4), .val (.int (3 : Int32)), .unset] [(.int (p1 &&& (63 : Int32))), (.int ((p0 &&& (15 : Int32)) <<< ((12 : Int32) &&& 31)))])) _
                refine XS.bipush X108.here hx rfl (hb hby own_d1_153) ?_
                show Steps p.tables e below (T108.setTop (mkF m 155 #[.val (.int p0), .val (.int p1), .val (.int p2), .val (.int p3), .val (.int p4), .val (.int (3 : Int32)), .unset] [(.int (6 : Int32)), (.int (p1 &&& (63 : Int32))), (.int ((p0 &&& (15 : Int32)) <<< ((12 : Int32) &&& 31)))])) _
                refine XS.ishl X108.here hx rfl (hb hby own_d1_155) rfl ?_
                show Steps p.tables e below (T108.setTop (mkF m 156 #[.val (.int p0), .val (.int p1), .val (.int p2), .val (.int p3), .val (.int p4), .val (.int (3 : Int32)), .unset] [(.int ((p1 &&& (63 : Int32)) <<< ((6 : Int32) &&& 31))), (.int ((p0 &&& (15 : Int32)) <<< ((12 : Int32) &&& 31)))])) _
                refine XS.ior X108.here hx rfl (hb hby own_d1_156) rfl ?_
                show Steps p.tables e below (T108.setTop (mkF m 157 #[.val (.int p0), .val (.int p1), .val (.int p2), .val (.int p3), .val (.int p4), .val (.int (3 : Int32)), .unset] [(.int (((p0 &&& (15 : Int32)) <<< ((12 : Int32) &&& 31)) ||| ((p1 &&& (63 : Int32)) <<< ((6 : Int32) &&& 31))))])) _
                refine XS.iloadN X108.here hx rfl (hb hby own_d1_157) rfl ?_
                show Steps p.tables e below (T108.setTop (mkF m 158 #[.val (.int p0), .val (.int p1), .val (.int p2), .val (.int p3), .val (.int p4), .val (.int (3 : Int32)), .unset] [(.int p2), (.int (((p0 &&& (15 : Int32)) <<< ((12 : Int32) &&& 31)) ||| ((p1 &&& (63 : Int32)) <<< ((6 : Int32) &&& 31))))])) _
                refine XS.bipush X108.here hx rfl (hb hby own_d1_158) ?_
                show Steps p.tables e below (T108.setTop (mkF m 160 #[.val (.int p0), .val (.int p1), .val (.int p2), .val (.int p3), .val (.int p4), .val (.int (3 : Int32)), .unset] [(.int (63 : Int32)), (.int p2), (.int (((p0 &&& (15 : Int32)) <<< ((12 : Int32) &&& 31)) ||| ((p1 &&& (63 : Int32)) <<< ((6 : Int32) &&& 31))))])) _
                refine XS.iand X108.here hx rfl (hb hby own_d1_160) rfl ?_
                show Steps p.tables e below (T108.setTop (mkF m 161 #[.val (.int p0), .val (.int p1), .val (.int p2), .val (.int p3), .val (.int p4), .val (.int (3 : Int32)), .unset] [(.int (p2 &&& (63 : Int32))), (.int (((p0 &&& (15 : Int32)) <<< ((12 : Int32) &&& 31)) ||| ((p1 &&& (63 : Int32)) <<< ((6 : Int32) &&& 31))))])) _
                refine XS.ior X108.here hx rfl (hb hby own_d1_161) rfl ?_
                show Steps p.tables e below (T108.setTop (mkF m 162 #[.val (.int p0), .val (.int p1), .val (.int p2), .val (.int p3), .val (.int p4), .val (.int (3 : Int32)), .unset] [(.int ((((p0 &&& (15 : Int32)) <<< ((12 : Int32) &&& 31)) ||| ((p1 &&& (63 : Int32)) <<< ((6 : Int32) &&& 31))) ||| (p2 &&& (63 : Int32))))])) _
                refine XS.istore X108.here hx rfl (hb hby own_d1_162) rfl (l' := #[.val (.int p0), .val (.int p1), .val (.int p2), .val (.int p3), .val (.int p4), .val (.int (3 : Int32)), .val (.int ((((p0 &&& (15 : Int32)) <<< ((12 : Int32) &&& 31)) ||| ((p1 &&& (63 : Int32)) <<< ((6 : Int32) &&& 31))) ||| (p2 &&& (63 : Int32))))]) rfl ?_
                show Steps p.tables e below (T108.setTop (mkF m 164 #[.val (.int p0), .val (.int p1), .val (.int p2), .val (.int p3), .val (.int p4), .val (.int (3 : Int32)), .val (.int ((((p0 &&& (15 : Int32)) <<< ((12 : Int32) &&& 31)) ||| ((p1 &&& (63 : Int32)) <<< ((6 : Int32) &&& 31))) ||| (p2 &&& (63 : Int32))))] [])) _
                refine XS.iload X108.here hx rfl (hb hby own_d1_164) rfl ?_
                show Steps p.tables e below (T108.setTop (mkF m 166 #[.val (.int p0), .val (.int p1), .val (.int p2), .val (.int p3), .val (.int p4), .val (.int (3 : Int32)), .val (.int ((((p0 &&& (15 : Int32)) <<< ((12 : Int32) &&& 31)) ||| ((p1 &&& (63 : Int32)) <<< ((6 : Int32) &&& 31))) ||| (p2 &&& (63 : Int32))))] [(.int ((((p0 &&& (15 : Int32)) <<< ((12 : Int32) &&& 31)) ||| ((p1 &&& (63 : Int32)) <<< ((6 : Int32) &&& 31))) ||| (p2 &&& (63 : Int32))))])) _
                refine XS.sipush X108.here hx rfl (hb hby own_d1_166) ?_
                exact kt
              by_cases hc169_138 : ((((p0 &&& (15 : Int32)) <<< ((12 : Int32) &&& 31)) ||| ((p1 &&& (63 : Int32)) <<< ((6 : Int32) &&& 31))) ||| (p2 &&& (63 : Int32))) < (2048 : Int32)
              · obtain ⟨fs, hr, hrun, hended, hW, hsame⟩ := X108.leave (v := some (.int (0 : Int32))) (fun h => by rw [Bd.returns] at h; cases h) (hlocks := BodyLoose.notSynchronized Bd)
                refine ⟨_, _, pre137 _ ?_, hrun, hended, _, _, rfl, ?_, ⟨_, rfl⟩, hW, hsame.mono (by decide) (by decide)⟩
                · show Steps p.tables e below (T108.setTop (mkF m 169 #[.val (.int p0), .val (.int p1), .val (.int p2), .val (.int p3), .val (.int p4), .val (.int (3 : Int32)), .val (.int ((((p0 &&& (15 : Int32)) <<< ((12 : Int32) &&& 31)) ||| ((p1 &&& (63 : Int32)) <<< ((6 : Int32) &&& 31))) ||| (p2 &&& (63 : Int32))))] [(.int (2048 : Int32)), (.int ((((p0 &&& (15 : Int32)) <<< ((12 : Int32) &&& 31)) ||| ((p1 &&& (63 : Int32)) <<< ((6 : Int32) &&& 31))) ||| (p2 &&& (63 : Int32))))])) _
                  refine XS.icmpNo X108.here hx rfl (hb hby own_d1_169) rfl (tlt hc169_138).2.1 ?_
                  show Steps p.tables e below (T108.setTop (mkF m 172 #[.val (.int p0), .val (.int p1), .val (.int p2), .val (.int p3), .val (.int p4), .val (.int (3 : Int32)), .val (.int ((((p0 &&& (15 : Int32)) <<< ((12 : Int32) &&& 31)) ||| ((p1 &&& (63 : Int32)) <<< ((6 : Int32) &&& 31))) ||| (p2 &&& (63 : Int32))))] [])) _
                  refine XS.iconst X108.here hx rfl (hb hby own_d1_172) ?_
                  show Steps p.tables e below (T108.setTop (mkF m 173 #[.val (.int p0), .val (.int p1), .val (.int p2), .val (.int p3), .val (.int p4), .val (.int (3 : Int32)), .val (.int ((((p0 &&& (15 : Int32)) <<< ((12 : Int32) &&& 31)) ||| ((p1 &&& (63 : Int32)) <<< ((6 : Int32) &&& 31))) ||| (p2 &&& (63 : Int32))))] [(.int (0 : Int32))])) _
                  exact retI X108 hx Bd.returns (hb hby own_d1_173) hr
                · show Qown_ref Z p0 p1 p2 p3 p4 h0 n0 _ T108.heap _
                  rw [eh108]
                  have hv : (own_ref_f p0 p1 p2 p3 p4) = (0 : Int32) := by unfold own_ref_f; rw [if_neg hc5_6, if_neg hc22_28, if_pos hc39_80, if_neg hc71_88, if_neg hc88_100, if_neg hc131_112, if_pos hc169_138]
                  exact ⟨(by rw [hv]), N109, rfl⟩
              · have pre144 : ∀ t, Steps p.tables e below (T108.setTop (mkF m 178 #[.val (.int p0), .val (.int p1), .val (.int p2), .val (.int p3), .val (.int p4), .val (.int (3 : Int32)), .val (.int ((((p0 &&& (15 : Int32)) <<< ((12 : Int32) &&& 31)) ||| ((p1 &&& (63 : Int32)) <<< ((6 : Int32) &&& 31))) ||| (p2 &&& (63 : Int32))))] [(.int (55296 : Int32)), (.int ((((p0 &&& (15 : Int32)) <<< ((12 : Int32) &&& 31)) ||| ((p1 &&& (63 : Int32)) <<< ((6 : Int32) &&& 31))) ||| (p2 &&& (63 : Int32))))])) t → Steps p.tables e below (s₁.setTop (entryFrame m #[(.int p0), (.int p1), (.int p2), (.int p3), (.int p4)] 7)) t := by
                  intro t kt
                  refine pre137 _ ?_
                  show Steps p.tables e below (T108.setTop (mkF m 169 #[.val (.int p0), .val (.int p1), .val (.int p2), .val (.int p3), .val (.int p4), .val (.int (3 : Int32)), .val (.int ((((p0 &&& (15 : Int32)) <<< ((12 : Int32) &&& 31)) ||| ((p1 &&& (63 : Int32)) <<< ((6 : Int32) &&& 31))) ||| (p2 &&& (63 : Int32))))] [(.int (2048 : Int32)), (.int ((((p0 &&& (15 : Int32)) <<< ((12 : Int32) &&& 31)) ||| ((p1 &&& (63 : Int32)) <<< ((6 : Int32) &&& 31))) ||| (p2 &&& (63 : Int32))))])) _
                  refine XS.icmpYes X108.here hx rfl (pc0 := 169) (pc' := 174) rfl (hb hby own_d1_169) rfl (flt hc169_138).2.1 (by decide) (by decide) ?_
                  show Steps p.tables e below (T108.setTop (mkF m 174 #[.val (.int p0), .val (.int p1), .val (.int p2), .val (.int p3), .val (.int p4), .val (.int (3 : Int32)), .val (.int ((((p0 &&& (15 : Int32)) <<< ((12 : Int32) &&& 31)) ||| ((p1 &&& (63 : Int32)) <<< ((6 : Int32) &&& 31))) ||| (p2 &&& (63 : Int32))))] [])) _
                  refine XS.iload X108.here hx rfl (hb hby own_d1_174) rfl ?_
                  show Steps p.tables e below (T108.setTop (mkF m 176 #[.val (.int p0), .val (.int p1), .val (.int p2), .val (.int p3), .val (.int p4), .val (.int (3 : Int32)), .val (.int ((((p0 &&& (15 : Int32)) <<< ((12 : Int32) &&& 31)) ||| ((p1 &&& (63 : Int32)) <<< ((6 : Int32) &&& 31))) ||| (p2 &&& (63 : Int32))))] [(.int ((((p0 &&& (15 : Int32)) <<< ((12 : Int32) &&& 31)) ||| ((p1 &&& (63 : Int32)) <<< ((6 : Int32) &&& 31))) ||| (p2 &&& (63 : Int32))))])) _
                  refine X108.ldcInt hx hown (mvT hZ (hw _ (List.mem_of_getElem? (i := 13) rfl))) (g := (mkF m 176 #[.val (.int p0), .val (.int p1), .val (.int p2), .val (.int p3), .val (.int p4), .val (.int (3 : Int32)), .val (.int ((((p0 &&& (15 : Int32)) <<< ((12 : Int32) &&& 31)) ||| ((p1 &&& (63 : Int32)) <<< ((6 : Int32) &&& 31))) ||| (p2 &&& (63 : Int32))))] [(.int ((((p0 &&& (15 : Int32)) <<< ((12 : Int32) &&& 31)) ||| ((p1 &&& (63 : Int32)) <<< ((6 : Int32) &&& 31))) ||| (p2 &&& (63 : Int32))))])) rfl (hb hby own_d1_176) _ ?_
                  exact kt
                by_cases hc178_145 : ((((p0 &&& (15 : Int32)) <<< ((12 : Int32) &&& 31)) ||| ((p1 &&& (63 : Int32)) <<< ((6 : Int32) &&& 31))) ||| (p2 &&& (63 : Int32))) < (55296 : Int32)
                · obtain ⟨fs, hr, hrun, hended, hW, hsame⟩ := X108.leave (v := some (.int (3 : Int32))) (fun h => by rw [Bd.returns] at h; cases h) (hlocks := BodyLoose.notSynchronized Bd)
                  refine ⟨_, _, pre144 _ ?_, hrun, hended, _, _, rfl, ?_, ⟨_, rfl⟩, hW, hsame.mono (by decide) (by decide)⟩
                  · show Steps p.tables e below (T108.setTop (mkF m 178 #[.val (.int p0), .val (.int p1), .val (.int p2), .val (.int p3), .val (.int p4), .val (.int (3 : Int32)), .val (.int ((((p0 &&& (15 : Int32)) <<< ((12 : Int32) &&& 31)) ||| ((p1 &&& (63 : Int32)) <<< ((6 : Int32) &&& 31))) ||| (p2 &&& (63 : Int32))))] [(.int (55296 : Int32)), (.int ((((p0 &&& (15 : Int32)) <<< ((12 : Int32) &&& 31)) ||| ((p1 &&& (63 : Int32)) <<< ((6 : Int32) &&& 31))) ||| (p2 &&& (63 : Int32))))])) _
                    refine XS.icmpYes X108.here hx rfl (pc0 := 178) (pc' := 190) rfl (hb hby own_d1_178) rfl (tlt hc178_145).1 (by decide) (by decide) ?_
                    show Steps p.tables e below (T108.setTop (mkF m 190 #[.val (.int p0), .val (.int p1), .val (.int p2), .val (.int p3), .val (.int p4), .val (.int (3 : Int32)), .val (.int ((((p0 &&& (15 : Int32)) <<< ((12 : Int32) &&& 31)) ||| ((p1 &&& (63 : Int32)) <<< ((6 : Int32) &&& 31))) ||| (p2 &&& (63 : Int32))))] [])) _
                    refine XS.iconst X108.here hx rfl (hb hby own_d1_190) ?_
                    show Steps p.tables e below (T108.setTop (mkF m 191 #[.val (.int p0), .val (.int p1), .val (.int p2), .val (.int p3), .val (.int p4), .val (.int (3 : Int32)), .val (.int ((((p0 &&& (15 : Int32)) <<< ((12 : Int32) &&& 31)) ||| ((p1 &&& (63 : Int32)) <<< ((6 : Int32) &&& 31))) ||| (p2 &&& (63 : Int32))))] [(.int (3 : Int32))])) _
                    exact retI X108 hx Bd.returns (hb hby own_d1_191) hr
                  · show Qown_ref Z p0 p1 p2 p3 p4 h0 n0 _ T108.heap _
                    rw [eh108]
                    have hv : (own_ref_f p0 p1 p2 p3 p4) = (3 : Int32) := by unfold own_ref_f; rw [if_neg hc5_6, if_neg hc22_28, if_pos hc39_80, if_neg hc71_88, if_neg hc88_100, if_neg hc131_112, if_neg hc169_138, if_pos hc178_145]
                    exact ⟨(by rw [hv]), N109, rfl⟩
                · have pre151 : ∀ t, Steps p.tables e below (T108.setTop (mkF m 185 #[.val (.int p0), .val (.int p1), .val (.int p2), .val (.int p3), .val (.int p4), .val (.int (3 : Int32)), .val (.int ((((p0 &&& (15 : Int32)) <<< ((12 : Int32) &&& 31)) ||| ((p1 &&& (63 : Int32)) <<< ((6 : Int32) &&& 31))) ||| (p2 &&& (63 : Int32))))] [(.int (57343 : Int32)), (.int ((((p0 &&& (15 : Int32)) <<< ((12 : Int32) &&& 31)) ||| ((p1 &&& (63 : Int32)) <<< ((6 : Int32) &&& 31))) ||| (p2 &&& (63 : Int32))))])) t → Steps p.tables e below (s₁.setTop (entryFrame m #[(.int p0), (.int p1), (.int p2), (.int p3), (.int p4)] 7)) t := by
                    intro t kt
                    refine pre144 _ ?_
                    show Steps p.tables e below (T108.setTop (mkF m 178 #[.val (.int p0), .val (.int p1), .val (.int p2), .val (.int p3), .val (.int p4), .val (.int (3 : Int32)), .val (.int ((((p0 &&& (15 : Int32)) <<< ((12 : Int32) &&& 31)) ||| ((p1 &&& (63 : Int32)) <<< ((6 : Int32) &&& 31))) ||| (p2 &&& (63 : Int32))))] [(.int (55296 : Int32)), (.int ((((p0 &&& (15 : Int32)) <<< ((12 : Int32) &&& 31)) ||| ((p1 &&& (63 : Int32)) <<< ((6 : Int32) &&& 31))) ||| (p2 &&& (63 : Int32))))])) _
                    refine XS.icmpNo X108.here hx rfl (hb hby own_d1_178) rfl (flt hc178_145).1 ?_
                    show Steps p.tables e below (T108.setTop (mkF m 181 #[.val (.int p0), .val (.int p1), .val (.int p2), .val (.int p3), .val (.int p4), .val (.int (3 : Int32)), .val (.int ((((p0 &&& (15 : Int32)) <<< ((12 : Int32) &&& 31)) ||| ((p1 &&& (63 : Int32)) <<< ((6 : Int32) &&& 31))) ||| (p2 &&& (63 : Int32))))] [])) _
                    refine XS.iload X108.here hx rfl (hb hby own_d1_181) rfl ?_
                    show Steps p.tables e below (T108.setTop (mkF m 183 #[.val (.int p0), .val (.int p1), .val (.int p2), .val (.int p3), .val (.int p4), .val (.int (3 : Int32)), .val (.int ((((p0 &&& (15 : Int32)) <<< ((12 : Int32) &&& 31)) ||| ((p1 &&& (63 : Int32)) <<< ((6 : Int32) &&& 31))) ||| (p2 &&& (63 : Int32))))] [(.int ((((p0 &&& (15 : Int32)) <<< ((12 : Int32) &&& 31)) ||| ((p1 &&& (63 : Int32)) <<< ((6 : Int32) &&& 31))) ||| (p2 &&& (63 : Int32))))])) _
                    refine X108.ldcInt hx hown (mvT hZ (hw _ (List.mem_of_getElem? (i := 14) rfl))) (g := (mkF m 183 #[.val (.int p0), .val (.int p1), .val (.int p2), .val (.int p3), .val (.int p4), .val (.int (3 : Int32)), .val (.int ((((p0 &&& (15 : Int32)) <<< ((12 : Int32) &&& 31)) ||| ((p1 &&& (63 : Int32)) <<< ((6 : Int32) &&& 31))) ||| (p2 &&& (63 : Int32))))] [(.int ((((p0 &&& (15 : Int32)) <<< ((12 : Int32) &&& 31)) ||| ((p1 &&& (63 : Int32)) <<< ((6 : Int32) &&& 31))) ||| (p2 &&& (63 : Int32))))])) rfl (hb hby own_d1_183) _ ?_
                    exact kt
                  by_cases hc185_152 : (57343 : Int32) < ((((p0 &&& (15 : Int32)) <<< ((12 : Int32) &&& 31)) ||| ((p1 &&& (63 : Int32)) <<< ((6 : Int32) &&& 31))) ||| (p2 &&& (63 : Int32)))
                  · obtain ⟨fs, hr, hrun, hended, hW, hsame⟩ := X108.leave (v := some (.int (3 : Int32))) (fun h => by rw [Bd.returns] at h; cases h) (hlocks := BodyLoose.notSynchronized Bd)
                    refine ⟨_, _, pre151 _ ?_, hrun, hended, _, _, rfl, ?_, ⟨_, rfl⟩, hW, hsame.mono (by decide) (by decide)⟩
                    · show Steps p.tables e below (T108.setTop (mkF m 185 #[.val (.int p0), .val (.int p1), .val (.int p2), .val (.int p3), .val (.int p4), .val (.int (3 : Int32)), .val (.int ((((p0 &&& (15 : Int32)) <<< ((12 : Int32) &&& 31)) ||| ((p1 &&& (63 : Int32)) <<< ((6 : Int32) &&& 31))) ||| (p2 &&& (63 : Int32))))] [(.int (57343 : Int32)), (.int ((((p0 &&& (15 : Int32)) <<< ((12 : Int32) &&& 31)) ||| ((p1 &&& (63 : Int32)) <<< ((6 : Int32) &&& 31))) ||| (p2 &&& (63 : Int32))))])) _
                      refine XS.icmpYes X108.here hx rfl (pc0 := 185) (pc' := 190) rfl (hb hby own_d1_185) rfl (tlt hc185_152).2.2.1 (by decide) (by decide) ?_
                      show Steps p.tables e below (T108.setTop (mkF m 190 #[.val (.int p0), .val (.int p1), .val (.int p2), .val (.int p3), .val (.int p4), .val (.int (3 : Int32)), .val (.int ((((p0 &&& (15 : Int32)) <<< ((12 : Int32) &&& 31)) ||| ((p1 &&& (63 : Int32)) <<< ((6 : Int32) &&& 31))) ||| (p2 &&& (63 : Int32))))] [])) _
                      refine XS.iconst X108.here hx rfl (hb hby own_d1_190) ?_
                      show Steps p.tables e below (T108.setTop (mkF m 191 #[.val (.int p0), .val (.int p1), .val (.int p2), .val (.int p3), .val (.int p4), .val (.int (3 : Int32)), .val (.int ((((p0 &&& (15 : Int32)) <<< ((12 : Int32) &&& 31)) ||| ((p1 &&& (63 : Int32)) <<< ((6 : Int32) &&& 31))) ||| (p2 &&& (63 : Int32))))] [(.int (3 : Int32))])) _
                      exact retI X108 hx Bd.returns (hb hby own_d1_191) hr
                    · show Qown_ref Z p0 p1 p2 p3 p4 h0 n0 _ T108.heap _
                      rw [eh108]
                      have hv : (own_ref_f p0 p1 p2 p3 p4) = (3 : Int32) := by unfold own_ref_f; rw [if_neg hc5_6, if_neg hc22_28, if_pos hc39_80, if_neg hc71_88, if_neg hc88_100, if_neg hc131_112, if_neg hc169_138, if_neg hc178_145, if_pos hc185_152]
                      exact ⟨(by rw [hv]), N109, rfl⟩
                  · obtain ⟨fs, hr, hrun, hended, hW, hsame⟩ := X108.leave (v := some (.int (0 : Int32))) (fun h => by rw [Bd.returns] at h; cases h) (hlocks := BodyLoose.notSynchronized Bd)
                    refine ⟨_, _, pre151 _ ?_, hrun, hended, _, _, rfl, ?_, ⟨_, rfl⟩, hW, hsame.mono (by decide) (by decide)⟩
                    · show Steps p.tables e below (T108.setTop (mkF m 185 #[.val (.int p0), .val (.int p1), .val (.int p2), .val (.int p3), .val (.int p4), .val (.int (3 : Int32)), .val (.int ((((p0 &&& (15 : Int32)) <<< ((12 : Int32) &&& 31)) ||| ((p1 &&& (63 : Int32)) <<< ((6 : Int32) &&& 31))) ||| (p2 &&& (63 : Int32))))] [(.int (57343 : Int32)), (.int ((((p0 &&& (15 : Int32)) <<< ((12 : Int32) &&& 31)) ||| ((p1 &&& (63 : Int32)) <<< ((6 : Int32) &&& 31))) ||| (p2 &&& (63 : Int32))))])) _
                      refine XS.icmpNo X108.here hx rfl (hb hby own_d1_185) rfl (flt hc185_152).2.2.1 ?_
                      show Steps p.tables e below (T108.setTop (mkF m 188 #[.val (.int p0), .val (.int p1), .val (.int p2), .val (.int p3), .val (.int p4), .val (.int (3 : Int32)), .val (.int ((((p0 &&& (15 : Int32)) <<< ((12 : Int32) &&& 31)) ||| ((p1 &&& (63 : Int32)) <<< ((6 : Int32) &&& 31))) ||| (p2 &&& (63 : Int32))))] [])) _
                      refine XS.iconst X108.here hx rfl (hb hby own_d1_188) ?_
                      show Steps p.tables e below (T108.setTop (mkF m 189 #[.val (.int p0), .val (.int p1), .val (.int p2), .val (.int p3), .val (.int p4), .val (.int (3 : Int32)), .val (.int ((((p0 &&& (15 : Int32)) <<< ((12 : Int32) &&& 31)) ||| ((p1 &&& (63 : Int32)) <<< ((6 : Int32) &&& 31))) ||| (p2 &&& (63 : Int32))))] [(.int (0 : Int32))])) _
                      exact retI X108 hx Bd.returns (hb hby own_d1_189) hr
                    · show Qown_ref Z p0 p1 p2 p3 p4 h0 n0 _ T108.heap _
                      rw [eh108]
                      have hv : (own_ref_f p0 p1 p2 p3 p4) = (0 : Int32) := by unfold own_ref_f; rw [if_neg hc5_6, if_neg hc22_28, if_pos hc39_80, if_neg hc71_88, if_neg hc88_100, if_neg hc131_112, if_neg hc169_138, if_neg hc178_145, if_neg hc185_152]
                      exact ⟨(by rw [hv]), N109, rfl⟩
      · have pre162 : ∀ t, Steps p.tables e below (s₁.setTop (mkF m 56 #[.val (.int p0), .val (.int p1), .val (.int p2), .val (.int p3), .val (.int p4), .unset, .unset] [(.int (240 : Int32)), (.int (p0 &&& (248 : Int32)))])) t → Steps p.tables e below (s₁.setTop (entryFrame m #[(.int p0), (.int p1), (.int p2), (.int p3), (.int p4)] 7)) t := by
          intro t kt
          refine pre79 _ ?_
          show Steps p.tables e below (s₁.setTop (mkF m 39 #[.val (.int p0), .val (.int p1), .val (.int p2), .val (.int p3), .val (.int p4), .unset, .unset] [(.int (224 : Int32)), (.int (p0 &&& (240 : Int32)))])) _
          refine XS.icmpYes X0.here hx rfl (pc0 := 39) (pc' := 48) rfl (hb hby own_d1_39) rfl (feq hc39_80).2 (by decide) (by decide) ?_
          show Steps p.tables e below (s₁.setTop (mkF m 48 #[.val (.int p0), .val (.int p1), .val (.int p2), .val (.int p3), .val (.int p4), .unset, .unset] [])) _
          refine XS.iloadN X0.here hx rfl (hb hby own_d1_48) rfl ?_
          show Steps p.tables e below (s₁.setTop (mkF m 49 #[.val (.int p0), .val (.int p1), .val (.int p2), .val (.int p3), .val (.int p4), .unset, .unset] [(.int p0)])) _
          refine XS.sipush X0.here hx rfl (hb hby own_d1_49) ?_
          show Steps p.tables e below (s₁.setTop (mkF m 52 #[.val (.int p0), .val (.int p1), .val (.int p2), .val (.int p3), .val (.int p4), .unset, .unset] [(.int (248 : Int32)), (.int p0)])) _
          refine XS.iand X0.here hx rfl (hb hby own_d1_52) rfl ?_
          show Steps p.tables e below (s₁.setTop (mkF m 53 #[.val (.int p0), .val (.int p1), .val (.int p2), .val (.int p3), .val (.int p4), .unset, .unset] [(.int (p0 &&& (248 : Int32)))])) _
          refine XS.sipush X0.here hx rfl (hb hby own_d1_53) ?_
          exact kt
        by_cases hc56_163 : (p0 &&& (248 : Int32)) = (240 : Int32)
        · have pre170 : ∀ t, Steps p.tables e below (s₁.setTop (mkF m 71 #[.val (.int p0), .val (.int p1), .val (.int p2), .val (.int p3), .val (.int p4), .val (.int (4 : Int32)), .unset] [(.int (4 : Int32)), (.int p4)])) t → Steps p.tables e below (s₁.setTop (entryFrame m #[(.int p0), (.int p1), (.int p2), (.int p3), (.int p4)] 7)) t := by
            intro t kt
            refine pre162 _ ?_
            show Steps p.tables e below (s₁.setTop (mkF m 56 #[.val (.int p0), .val (.int p1), .val (.int p2), .val (.int p3), .val (.int p4), .unset, .unset] [(.int (240 : Int32)), (.int (p0 &&& (248 : Int32)))])) _
            refine XS.icmpNo X0.here hx rfl (hb hby own_d1_56) rfl (teq hc56_163).2 ?_
            show Steps p.tables e below (s₁.setTop (mkF m 59 #[.val (.int p0), .val (.int p1), .val (.int p2), .val (.int p3), .val (.int p4), .unset, .unset] [])) _
            refine XS.iconst X0.here hx rfl (hb hby own_d1_59) ?_
            show Steps p.tables e below (s₁.setTop (mkF m 60 #[.val (.int p0), .val (.int p1), .val (.int p2), .val (.int p3), .val (.int p4), .unset, .unset] [(.int (4 : Int32))])) _
            refine XS.istore X0.here hx rfl (hb hby own_d1_60) rfl (l' := #[.val (.int p0), .val (.int p1), .val (.int p2), .val (.int p3), .val (.int p4), .val (.int (4 : Int32)), .unset]) rfl ?_
            show Steps p.tables e below (s₁.setTop (mkF m 62 #[.val (.int p0), .val (.int p1), .val (.int p2), .val (.int p3), .val (.int p4), .val (.int (4 : Int32)), .unset] [])) _
            refine XS.goto X0.here hx rfl (pc0 := 62) (pc' := 67) rfl (hb hby own_d1_62) (by decide) (by decide) ?_
            show Steps p.tables e below (s₁.setTop (mkF m 67 #[.val (.int p0), .val (.int p1), .val (.int p2), .val (.int p3), .val (.int p4), .val (.int (4 : Int32)), .unset] [])) _
            refine XS.iload X0.here hx rfl (hb hby own_d1_67) rfl ?_
            show Steps p.tables e below (s₁.setTop (mkF m 69 #[.val (.int p0), .val (.int p1), .val (.int p2), .val (.int p3), .val (.int p4), .val (.int (4 : Int32)), .unset] [(.int p4)])) _
            refine XS.iload X0.here hx rfl (hb hby own_d1_69) rfl ?_
            exact kt
          by_cases hc71_171 : p4 < (4 : Int32)
          · obtain ⟨fs, hr, hrun, hended, hW, hsame⟩ := X0.leave (v := some (.int (0 : Int32))) (fun h => by rw [Bd.returns] at h; cases h) (hlocks := BodyLoose.notSynchronized Bd)
            refine ⟨_, _, pre170 _ ?_, hrun, hended, _, _, rfl, ?_, ⟨_, rfl⟩, hW, hsame.mono (by decide) (by decide)⟩
            · show Steps p.tables e below (s₁.setTop (mkF m 71 #[.val (.int p0), .val (.int p1), .val (.int p2), .val (.int p3), .val (.int p4), .val (.int (4 : Int32)), .unset] [(.int (4 : Int32)), (.int p4)])) _
              refine XS.icmpNo X0.here hx rfl (hb hby own_d1_71) rfl (tlt hc71_171).2.1 ?_
              show Steps p.tables e below (s₁.setTop (mkF m 74 #[.val (.int p0), .val (.int p1), .val (.int p2), .val (.int p3), .val (.int p4), .val (.int (4 : Int32)), .unset] [])) _
              refine XS.iconst X0.here hx rfl (hb hby own_d1_74) ?_
              show Steps p.tables e below (s₁.setTop (mkF m 75 #[.val (.int p0), .val (.int p1), .val (.int p2), .val (.int p3), .val (.int p4), .val (.int (4 : Int32)), .unset] [(.int (0 : Int32))])) _
              exact retI X0 hx Bd.returns (hb hby own_d1_75) hr
            · show Qown_ref Z p0 p1 p2 p3 p4 h0 n0 _ s₁.heap _
              rw [e0]
              have hv : (own_ref_f p0 p1 p2 p3 p4) = (0 : Int32) := by unfold own_ref_f; rw [if_neg hc5_6, if_neg hc22_28, if_neg hc39_80, if_pos hc56_163, if_pos hc71_171]
              exact ⟨(by rw [hv]), N0, rfl⟩
          · obtain ⟨_, _, ⟨T179, L179, k179, n179⟩, -, X179, ⟨Lc179, hQ179, l179, y179, z179⟩, st179⟩ := Jvm.LawKit.callS X0 hx (y := (⟨"fieldstone/ByteReaderUtf8LengthPinLaw", "cont", "(I)Z"⟩ : MethodName)) hown (mvT hZ (hw _ (List.mem_of_getElem? (i := 10) rfl))) (mvT hZ (hw _ (List.mem_of_getElem? (i := 11) rfl))) (mvT hZ (hw _ (List.mem_of_getElem? (i := 4) rfl))) (mvT hZ (hw _ (List.mem_of_getElem? (i := 12) rfl))) (by decide) (backOf (W := 0) (own_cont l Z a0 hw [] p1 h0 n0 Z0 ) hZ (hw _ (List.mem_of_getElem? (i := 12) rfl)) (hw _ (List.mem_of_getElem? (i := 4) rfl)) (by decide) (by decide)) (g := (mkF m 85 #[.val (.int p0), .val (.int p1), .val (.int p2), .val (.int p3), .val (.int p4), .val (.int (4 : Int32)), .unset] [(.int p1)])) rfl (by rw [hml]; rfl) (argsL := [(.int p1)]) (rest := []) (lenOf own_pd0 rfl) rfl (by show 2 * 0 + _ ≤ _; exact Nat.le_of_eq rfl) (hb hby own_d1_85) (fun _ _ => ⟨rfl, e0, (by decide : 0 + 0 ≤ _), (by decide : 0 + 0 ≤ _)⟩)
            dsimp only [Pt.U, Pt.locs, Pt.cells, Pt.slots] at X179 l179 y179 z179 st179 hQ179
            subst l179 y179 z179
            obtain ⟨rfl, Nq179, eh179⟩ := hQ179
            have N180 := Fr.app N0 Nq179
            have pre182 : ∀ t, Steps p.tables e below (T179.setTop (mkF m 88 #[.val (.int p0), .val (.int p1), .val (.int p2), .val (.int p3), .val (.int p4), .val (.int (4 : Int32)), .unset] [(.int (own_cont_f p1))])) t → Steps p.tables e below (s₁.setTop (entryFrame m #[(.int p0), (.int p1), (.int p2), (.int p3), (.int p4)] 7)) t := by
              intro t kt
              refine pre170 _ ?_
              show Steps p.tables e below (s₁.setTop (mkF m 71 #[.val (.int p0), .val (.int p1), .val (.int p2), .val (.int p3), .val (.int p4), .val (.int (4 : Int32)), .unset] [(.int (4 : Int32)), (.int p4)])) _
              refine XS.icmpYes X0.here hx rfl (pc0 := 71) (pc' := 76) rfl (hb hby own_d1_71) rfl (flt hc71_171).2.1 (by decide) (by decide) ?_
              show Steps p.tables e below (s₁.setTop (mkF m 76 #[.val (.int p0), .val (.int p1), .val (.int p2), .val (.int p3), .val (.int p4), .val (.int (4 : Int32)), .unset] [])) _
              refine XS.iload X0.here hx rfl (hb hby own_d1_76) rfl ?_
              show Steps p.tables e below (s₁.setTop (mkF m 78 #[.val (.int p0), .val (.int p1), .val (.int p2), .val (.int p3), .val (.int p4), .val (.int (4 : Int32)), .unset] [(.int (4 : Int32))])) _
              refine XS.iconst X0.here hx rfl (hb hby own_d1_78) ?_
              show Steps p.tables e below (s₁.setTop (mkF m 79 #[.val (.int p0), .val (.int p1), .val (.int p2), .val (.int p3), .val (.int p4), .val (.int (4 : Int32)), .unset] [(.int (1 : Int32)), (.int (4 : Int32))])) _
              refine XS.icmpYes X0.here hx rfl (pc0 := 79) (pc' := 84) rfl (hb hby own_d1_79) rfl (feq ((by decide) : ¬ ((4 : Int32) = (1 : Int32)))).2 (by decide) (by decide) ?_
              show Steps p.tables e below (s₁.setTop (mkF m 84 #[.val (.int p0), .val (.int p1), .val (.int p2), .val (.int p3), .val (.int p4), .val (.int (4 : Int32)), .unset] [])) _
              refine XS.iloadN X0.here hx rfl (hb hby own_d1_84) rfl ?_
              show Steps p.tables e below (s₁.setTop (mkF m 85 #[.val (.int p0), .val (.int p1), .val (.int p2), .val (.int p3), .val (.int p4), .val (.int (4 : Int32)), .unset] [(.int p1)])) _
              refine st179 _ ?_
              exact kt
            by_cases hc88_183 : (own_cont_f p1) = (0 : Int32)
            · obtain ⟨fs, hr, hrun, hended, hW, hsame⟩ := X179.leave (v := some (.int (0 : Int32))) (fun h => by rw [Bd.returns] at h; cases h) (hlocks := BodyLoose.notSynchronized Bd)
              refine ⟨_, _, pre182 _ ?_, hrun, hended, _, _, rfl, ?_, ⟨_, rfl⟩, hW, hsame.mono (by decide) (by decide)⟩
              · show Steps p.tables e below (T179.setTop (mkF m 88 #[.val (.int p0), .val (.int p1), .val (.int p2), .val (.int p3), .val (.int p4), .val (.int (4 : Int32)), .unset] [(.int (own_cont_f p1))])) _
                refine XS.ifNo X179.here hx rfl (hb hby own_d1_88) rfl ((if0 _ _).trans (teq hc88_183).2) ?_
                show Steps p.tables e below (T179.setTop (mkF m 91 #[.val (.int p0), .val (.int p1), .val (.int p2), .val (.int p3), .val (.int p4), .val (.int (4 : Int32)), .unset] [])) _
                refine XS.iconst X179.here hx rfl (hb hby own_d1_91) ?_
                show Steps p.tables e below (T179.setTop (mkF m 92 #[.val (.int p0), .val (.int p1), .val (.int p2), .val (.int p3), .val (.int p4), .val (.int (4 : Int32)), .unset] [(.int (0 : Int32))])) _
                exact retI X179 hx Bd.returns (hb hby own_d1_92) hr
              · show Qown_ref Z p0 p1 p2 p3 p4 h0 n0 _ T179.heap _
                rw [eh179]
                have hv : (own_ref_f p0 p1 p2 p3 p4) = (0 : Int32) := by unfold own_ref_f; rw [if_neg hc5_6, if_neg hc22_28, if_neg hc39_80, if_pos hc56_163, if_neg hc71_171, if_pos hc88_183]
                exact ⟨(by rw [hv]), N180, rfl⟩
            · obtain ⟨_, _, ⟨T191, L191, k191, n191⟩, -, X191, ⟨Lc191, hQ191, l191, y191, z191⟩, st191⟩ := Jvm.LawKit.callS X179 hx (y := (⟨"fieldstone/ByteReaderUtf8LengthPinLaw", "cont", "(I)Z"⟩ : MethodName)) hown (mvT hZ (hw _ (List.mem_of_getElem? (i := 10) rfl))) (mvT hZ (hw _ (List.mem_of_getElem? (i := 11) rfl))) (mvT hZ (hw _ (List.mem_of_getElem? (i := 4) rfl))) (mvT hZ (hw _ (List.mem_of_getElem? (i := 12) rfl))) (by decide) (backOf (W := 0) (own_cont l Z a0 hw [] p2 h0 n0 Z0 ) hZ (hw _ (List.mem_of_getElem? (i := 12) rfl)) (hw _ (List.mem_of_getElem? (i := 4) rfl)) (by decide) (by decide)) (g := (mkF m 128 #[.val (.int p0), .val (.int p1), .val (.int p2), .val (.int p3), .val (.int p4), .val (.int (4 : Int32)), .unset] [(.int p2)])) rfl (by rw [hml]; rfl) (argsL := [(.int p2)]) (rest := []) (lenOf own_pd0 rfl) rfl (by show 2 * 0 + _ ≤ _; exact Nat.le_of_eq rfl) (hb hby own_d1_128) (fun _ _ => ⟨rfl, eh179, (by decide : 0 + 0 ≤ _), (by decide : 0 + 0 ≤ _)⟩)
              dsimp only [Pt.U, Pt.locs, Pt.cells, Pt.slots] at X191 l191 y191 z191 st191 hQ191
              subst l191 y191 z191
              obtain ⟨rfl, Nq191, eh191⟩ := hQ191
              have N192 := Fr.app N180 Nq191
              have pre194 : ∀ t, Steps p.tables e below (T191.setTop (mkF m 131 #[.val (.int p0), .val (.int p1), .val (.int p2), .val (.int p3), .val (.int p4), .val (.int (4 : Int32)), .unset] [(.int (own_cont_f p2))])) t → Steps p.tables e below (s₁.setTop (entryFrame m #[(.int p0), (.int p1), (.int p2), (.int p3), (.int p4)] 7)) t := by
                intro t kt
                refine pre182 _ ?_
                show Steps p.tables e below (T179.setTop (mkF m 88 #[.val (.int p0), .val (.int p1), .val (.int p2), .val (.int p3), .val (.int p4), .val (.int (4 : Int32)), .unset] [(.int (own_cont_f p1))])) _
                refine XS.ifYes X179.here hx rfl (pc0 := 88) (pc' := 93) rfl (hb hby own_d1_88) rfl ((if0 _ _).trans (feq hc88_183).2) (by decide) (by decide) ?_
                show Steps p.tables e below (T179.setTop (mkF m 93 #[.val (.int p0), .val (.int p1), .val (.int p2), .val (.int p3), .val (.int p4), .val (.int (4 : Int32)), .unset] [])) _
                refine XS.iload X179.here hx rfl (hb hby own_d1_93) rfl ?_
                show Steps p.tables e below (T179.setTop (mkF m 95 #[.val (.int p0), .val (.int p1), .val (.int p2), .val (.int p3), .val (.int p4), .val (.int (4 : Int32)), .unset] [(.int (4 : Int32))])) _
                refine XS.iconst X179.here hx rfl (hb hby own_d1_95) ?_
                show Steps p.tables e below (T179.setTop (mkF m 96 #[.val (.int p0), .val (.int p1), .val (.int p2), .val (.int p3), .val (.int p4), .val (.int (4 : Int32)), .unset] [(.int (2 : Int32)), (.int (4 : Int32))])) _
                refine XS.icmpYes X179.here hx rfl (pc0 := 96) (pc' := 127) rfl (hb hby own_d1_96) rfl (feq ((by decide) : ¬ ((4 : Int32) = (2 : Int32)))).2 (by decide) (by decide) ?_
                show Steps p.tables e below (T179.setTop (mkF m 127 #[.val (.int p0), .val (.int p1), .val (.int p2), .val (.int p3), .val (.int p4), .val (.int (4 : Int32)), .unset] [])) _
                refine XS.iloadN X179.here hx rfl (hb hby own_d1_127) rfl ?_
                show Steps p.tables e below (T179.setTop (mkF m 128 #[.val (.int p0), .val (.int p1), .val (.int p2), .val (.int p3), .val (.int p4), .val (.int (4 : Int32)), .unset] [(.int p2)])) _
                refine st191 _ ?_
                exact kt
              by_cases hc131_195 : (own_cont_f p2) = (0 : Int32)
              · obtain ⟨fs, hr, hrun, hended, hW, hsame⟩ := X191.leave (v := some (.int (0 : Int32))) (fun h => by rw [Bd.returns] at h; cases h) (hlocks := BodyLoose.notSynchronized Bd)
                refine ⟨_, _, pre194 _ ?_, hrun, hended, _, _, rfl, ?_, ⟨_, rfl⟩, hW, hsame.mono (by decide) (by decide)⟩
                · show Steps p.tables e below (T191.setTop (mkF m 131 #[.val (.int p0), .val (.int p1), .val (.int p2), .val (.int p3), .val (.int p4), .val (.int (4 : Int32)), .unset] [(.int (own_cont_f p2))])) _
                  refine XS.ifNo X191.here hx rfl (hb hby own_d1_131) rfl ((if0 _ _).trans (teq hc131_195).2) ?_
                  show Steps p.tables e below (T191.setTop (mkF m 134 #[.val (.int p0), .val (.int p1), .val (.int p2), .val (.int p3), .val (.int p4), .val (.int (4 : Int32)), .unset] [])) _
                  refine XS.iconst X191.here hx rfl (hb hby own_d1_134) ?_
                  show Steps p.tables e below (T191.setTop (mkF m 135 #[.val (.int p0), .val (.int p1), .val (.int p2), .val (.int p3), .val (.int p4), .val (.int (4 : Int32)), .unset] [(.int (0 : Int32))])) _
                  exact retI X191 hx Bd.returns (hb hby own_d1_135) hr
                · show Qown_ref Z p0 p1 p2 p3 p4 h0 n0 _ T191.heap _
                  rw [eh191]
                  have hv : (own_ref_f p0 p1 p2 p3 p4) = (0 : Int32) := by unfold own_ref_f; rw [if_neg hc5_6, if_neg hc22_28, if_neg hc39_80, if_pos hc56_163, if_neg hc71_171, if_neg hc88_183, if_pos hc131_195]
                  exact ⟨(by rw [hv]), N192, rfl⟩
              · obtain ⟨_, _, ⟨T203, L203, k203, n203⟩, -, X203, ⟨Lc203, hQ203, l203, y203, z203⟩, st203⟩ := Jvm.LawKit.callS X191 hx (y := (⟨"fieldstone/ByteReaderUtf8LengthPinLaw", "cont", "(I)Z"⟩ : MethodName)) hown (mvT hZ (hw _ (List.mem_of_getElem? (i := 10) rfl))) (mvT hZ (hw _ (List.mem_of_getElem? (i := 11) rfl))) (mvT hZ (hw _ (List.mem_of_getElem? (i := 4) rfl))) (mvT hZ (hw _ (List.mem_of_getElem? (i := 12) rfl))) (by decide) (backOf (W := 0) (own_cont l Z a0 hw [] p3 h0 n0 Z0 ) hZ (hw _ (List.mem_of_getElem? (i := 12) rfl)) (hw _ (List.mem_of_getElem? (i := 4) rfl)) (by decide) (by decide)) (g := (mkF m 193 #[.val (.int p0), .val (.int p1), .val (.int p2), .val (.int p3), .val (.int p4), .val (.int (4 : Int32)), .unset] [(.int p3)])) rfl (by rw [hml]; rfl) (argsL := [(.int p3)]) (rest := []) (lenOf own_pd0 rfl) rfl (by show 2 * 0 + _ ≤ _; exact Nat.le_of_eq rfl) (hb hby own_d1_193) (fun _ _ => ⟨rfl, eh191, (by decide : 0 + 0 ≤ _), (by decide : 0 + 0 ≤ _)⟩)
                dsimp only [Pt.U, Pt.locs, Pt.cells, Pt.slots] at X203 l203 y203 z203 st203 hQ203
                subst l203 y203 z203
                obtain ⟨rfl, Nq203, eh203⟩ := hQ203
                have N204 := Fr.app N192 Nq203
                have pre206 : ∀ t, Steps p.tables e below (T203.setTop (mkF m 196 #[.val (.int p0), .val (.int p1), .val (.int p2), .val (.int p3), .val (.int p4), .val (.int (4 : Int32)), .unset] [(.int (own_cont_f p3))])) t → Steps p.tables e below (s₁.setTop (entryFrame m #[(.int p0), (.int p1), (.int p2), (.int p3), (.int p4)] 7)) t := by
                  intro t kt
                  refine pre194 _ ?_
                  show Steps p.tables e below (T191.setTop (mkF m 131 #[.val (.int p0), .val (.int p1), .val (.int p2), .val (.int p3), .val (.int p4), .val (.int (4 : Int32)), .unset] [(.int (own_cont_f p2))])) _
                  refine XS.ifYes X191.here hx rfl (pc0 := 131) (pc' := 136) rfl (hb hby own_d1_131) rfl ((if0 _ _).trans (feq hc131_195).2) (by decide) (by decide) ?_
                  show Steps p.tables e below (T191.setTop (mkF m 136 #[.val (.int p0), .val (.int p1), .val (.int p2), .val (.int p3), .val (.int p4), .val (.int (4 : Int32)), .unset] [])) _
                  refine XS.iload X191.here hx rfl (hb hby own_d1_136) rfl ?_
                  show Steps p.tables e below (T191.setTop (mkF m 138 #[.val (.int p0), .val (.int p1), .val (.int p2), .val (.int p3), .val (.int p4), .val (.int (4 : Int32)), .unset] [(.int (4 : Int32))])) _
                  refine XS.iconst X191.here hx rfl (hb hby own_d1_138) ?_
                  show Steps p.tables e below (T191.setTop (mkF m 139 #[.val (.int p0), .val (.int p1), .val (.int p2), .val (.int p3), .val (.int p4), .val (.int (4 : Int32)), .unset] [(.int (3 : Int32)), (.int (4 : Int32))])) _
                  refine XS.icmpYes X191.here hx rfl (pc0 := 139) (pc' := 192) rfl (hb hby own_d1_139) rfl (feq ((by decide) : ¬ ((4 : Int32) = (3 : Int32)))).2 (by decide) (by decide) ?_
                  show Steps p.tables e below (T191.setTop (mkF m 192 #[.val (.int p0), .val (.int p1), .val (.int p2), .val (.int p3), .val (.int p4), .val (.int (4 : Int32)), .unset] [])) _
                  refine XS.iloadN X191.here hx rfl (hb hby own_d1_192) rfl ?_
                  show Steps p.tables e below (T191.setTop (mkF m 193 #[.val (.int p0), .val (.int p1), .val (.int p2), .val (.int p3), .val (.int p4), .val (.int (4 : Int32)), .unset] [(.int p3)])) _
                  refine st203 _ ?_
                  exact kt
                by_cases hc196_207 : (own_cont_f p3) = (0 : Int32)
                · obtain ⟨fs, hr, hrun, hended, hW, hsame⟩ := X203.leave (v := some (.int (0 : Int32))) (fun h => by rw [Bd.returns] at h; cases h) (hlocks := BodyLoose.notSynchronized Bd)
                  refine ⟨_, _, pre206 _ ?_, hrun, hended, _, _, rfl, ?_, ⟨_, rfl⟩, hW, hsame.mono (by decide) (by decide)⟩
                  · show Steps p.tables e below (T203.setTop (mkF m 196 #[.val (.int p0), .val (.int p1), .val (.int p2), .val (.int p3), .val (.int p4), .val (.int (4 : Int32)), .unset] [(.int (own_cont_f p3))])) _
                    refine XS.ifNo X203.here hx rfl (hb hby own_d1_196) rfl ((if0 _ _).trans (teq hc196_207).2) ?_
                    show Steps p.tables e below (T203.setTop (mkF m 199 #[.val (.int p0), .val (.int p1), .val (.int p2), .val (.int p3), .val (.int p4), .val (.int (4 : Int32)), .unset] [])) _
                    refine XS.iconst X203.here hx rfl (hb hby own_d1_199) ?_
                    show Steps p.tables e below (T203.setTop (mkF m 200 #[.val (.int p0), .val (.int p1), .val (.int p2), .val (.int p3), .val (.int p4), .val (.int (4 : Int32)), .unset] [(.int (0 : Int32))])) _
                    exact retI X203 hx Bd.returns (hb hby own_d1_200) hr
                  · show Qown_ref Z p0 p1 p2 p3 p4 h0 n0 _ T203.heap _
                    rw [eh203]
                    have hv : (own_ref_f p0 p1 p2 p3 p4) = (0 : Int32) := by unfold own_ref_f; rw [if_neg hc5_6, if_neg hc22_28, if_neg hc39_80, if_pos hc56_163, if_neg hc71_171, if_neg hc88_183, if_neg hc131_195, if_pos hc196_207]
                    exact ⟨(by rw [hv]), N204, rfl⟩
                · have pre235 : ∀ t, Steps p.tables e below (T203.setTop (mkF m 235 #[.val (.int p0), .val (.int p1), .val (.int p2), .val (.int p3), .val (.int p4), .val (.int (4 : Int32)), .val (.int (((((p0 &&& (7 : Int32)) <<< ((18 : Int32) &&& 31)) ||| ((p1 &&& (63 : Int32)) <<< ((12 : Int32) &&& 31))) ||| ((p2 &&& (63 : Int32)) <<< ((6 : Int32) &&& 31))) ||| (p3 &&& (63 : Int32))))] [(.int (65536 : Int32)), (.int (((((p0 &&& (7 : Int32)) <<< ((18 : Int32) &&& 31)) ||| ((p1 &&& (63 : Int32)) <<< ((12 : Int32) &&& 31))) ||| ((p2 &&& (63 : Int32)) <<< ((6 : Int32) &&& 31))) ||| (p3 &&& (63 : Int32))))])) t → Steps p.tables e below (s₁.setTop (entryFrame m #[(.int p0), (.int p1), (.int p2), (.int p3), (.int p4)] 7)) t := by
                    intro t kt
                    refine pre206 _ ?_
                    show Steps p.tables e below (T203.setTop (mkF m 196 #[.val (.int p0), .val (.int p1), .val (.int p2), .val (.int p3), .val (.int p4), .val (.int (4 : Int32)), .unset] [(.int (own_cont_f p3))])) _
                    refine XS.ifYes X203.here hx rfl (pc0 := 196) (pc' := 201) rfl (hb hby own_d1_196) rfl ((if0 _ _).trans (feq hc196_207).2) (by decide) (by decide) ?_
                    show Steps p.tables e below (T203.setTop (mkF m 201 #[.val (.int p0), .val (.int p1), .val (.int p2), .val (.int p3), .val (.int p4), .val (.int (4 : Int32)), .unset] [])) _
                    refine XS.iloadN X203.here hx rfl (hb hby own_d1_201) rfl ?_
                    show Steps p.tables e below (T203.setTop (mkF m 202 #[.val (.int p0), .val (.int p1), .val (.int p2), .val (.int p3), .val (.int p4), .val (.int (4 : Int32)), .unset] [(.int p0)])) _
                    refine XS.bipush X203.here hx rfl (hb hby own_d1_202) ?_
                    show Steps p.tables e below (T203.setTop (mkF m 204 #[.val (.int p0), .val (.int p1), .val (.int p2), .val (.int p3), .val (.int p4), .val (.int (4 : Int32)), .unset] [(.int (7 : Int32)), (.int p0)])) _
                    refine XS.iand X203.here hx rfl (hb hby own_d1_204) rfl ?_
                    show Steps p.tables e below (T203.setTop (mkF m 205 #[.val (.int p0), .val (.int p1), .val (.int p2), .val (.int p3), .val (.int p4), .val (.int (4 : Int32)), .unset] [(.int (p0 &&& (7 : Int32)))])) _
                    refine XS.bipush X203.here hx rfl (hb hby own_d1_205) ?_
                    show Steps p.tables e below (T203.setTop (mkF m 207 #[.val (.int p0), .val (.int p1), .val (.int p2), .val (.int p3), .val (.int p4), .val (.int (4 : Int32)), .unset] [(.int (18 : Int32)), (.int (p0 &&& (7 : Int32)))])) _
                    refine XS.ishl X203.here hx rfl (hb hby own_d1_207) rfl ?_
                    show Steps p.tables e below (T203.setTop (mkF m 208 #[.val (.int p0), .val (.int p1), .val (.int p2), .val (.int p3), .val (.int p4), .val (.int (4 : Int32)), .unset] [(.int ((p0 &&& (7 : Int32)) <<< ((18 : Int32) &&& 31)))])) _
                    refine XS.iloadN X203.here hx rfl (hb hby own_d1_208) rfl ?_
                    show Steps p.tables e below (T203.setTop (mkF m 209 #[.val (.int p0), .val (.int p1), .val (.int p2), .val (.int p3), .val (.int p4), .val (.int (4 : Int32)), .unset] [(.int p1), (.int ((p0 &&& (7 : Int32)) <<< ((18 : Int32) &&& 31)))])) _
                    refine XS.bipush X203.here hx rfl (hb hby own_d1_209) ?_
                    show Steps p.tables e below (T203.setTop (mkF m 211 #[.val (.int p0), .val (.int p1), .val (.int p2), .val (.int p3), .val (.int p4), .val (.int (4 : Int32)), .unset] [(.int (63 : Int32)), (.int p1), (.int ((p0 &&& (7 : Int32)) <<< ((18 : Int32) &&& 31)))])) _
                    refine XS.iand X203.here hx rfl (hb hby own_d1_211) rfl ?_
                    show Steps p.tables e below (T203.setTop (mkF m 212 #[.val (.int p0), .val (.int p1), .val (.int p2), .val (.int p3), .val (.int p4), .val (.int (4 : Int32)), .unset] [(.int (p1 &&& (63 : Int32))), (.int ((p0 &&& (7 : Int32)) <<< ((18 : Int32) &&& 31)))])) _
                    refine XS.bipush X203.here hx rfl (hb hby own_d1_212) ?_
                    show Steps p.tables e below (T203.setTop (mkF m 214 #[.val (.int p0), .val (.int p1), .val (.int p2), .val (.int p3), .val (.int p4), .val (.int (4 : Int32)), .unset] [(.int (12 : Int32)), (.int (p1 &&& (63 : Int32))), (.int ((p0 &&& (7 : Int32)) <<< ((18 : Int32) &&& 31)))])) _
                    refine XS.ishl X203.here hx rfl (hb hby own_d1_214) rfl ?_
                    show Steps p.tables e below (T203.setTop (mkF m 215 #[.val (.int p0), .val (.int p1), .val (.int p2), .val (.int p3), .val (.int p4), .val (.int (4 : Int32)), .unset] [(.int ((p1 &&& (63 : Int32)) <<< ((12 : Int32) &&& 31))), (.int ((p0 &&& (7 : Int32)) <<< ((18 : Int32) &&& 31)))])) _
                    refine XS.ior X203.here hx rfl (hb hby own_d1_215) rfl ?_
                    show Steps p.tables e below (T203.setTop (mkF m 216 #[.val (.int p0), .val (.int p1), .val (.int p2), .val (.int p3), .val (.int p4), .val (.int (4 : Int32)), .unset] [(.int (((p0 &&& (7 : Int32)) <<< ((18 : Int32) &&& 31)) ||| ((p1 &&& (63 : Int32)) <<< ((12 : Int32) &&& 31))))])) _
                    refine XS.iloadN X203.here hx rfl (hb hby own_d1_216) rfl ?_
                    show Steps p.tables e below (T203.setTop (mkF m 217 #[.val (.int p0), .val (.int p1), .val (.int p2), .val (.int p3), .val (.int p4), .val (.int (4 : Int32)), .unset] [(.int p2), (.int (((p0 &&& (7 : Int32)) <<< ((18 : Int32) &&& 31)) ||| ((p1 &&& (63 : Int32)) <<< ((12 : Int32) &&& 31))))])) _
                    refine XS.bipush X203.here hx rfl (hb hby own_d1_217) ?_
                    show Steps p.tables e below (T203.setTop (mkF m 219 #[.val (.int p0), .val (.int p1), .val (.int p2), .val (.int p3), .val (.int p4), .val (.int (4 : Int32)), .unset] [(.int (63 : Int32)), (.int p2), (.int (((p0 &&& (7 : Int32)) <<< ((18 : Int32) &&& 31)) ||| ((p1 &&& (63 : Int32)) <<< ((12 : Int32) &&& 31))))])) _
                    refine XS.iand X203.here hx rfl (hb hby own_d1_219) rfl ?_
                    show Steps p.tables e below (T203.setTop (mkF m 220 #[.val (.int p0), .val (.int p1), .val (.int p2), .val (.int p3), .val (.int p4), .val (.int (4 : Int32)), .unset] [(.int (p2 &&& (63 : Int32))), (.int (((p0 &&& (7 : Int32)) <<< ((18 : Int32) &&& 31)) ||| ((p1 &&& (63 : Int32)) <<< ((12 : Int32) &&& 31))))])) _
                    refine XS.bipush X203.here hx rfl (hb hby own_d1_220) ?_
                    show Steps p.tables e below (T203.setTop (mkF m 222 #[.val (.int p0), .val (.int p1), .val (.int p2), .val (.int p3), .val (.int p4), .val (.int (4 : Int32)), .unset] [(.int (6 : Int32)), (.int (p2 &&& (63 : Int32))), (.int (((p0 &&& (7 : Int32)) <<< ((18 : Int32) &&& 31)) ||| ((p1 &&& (63 : Int32)) <<< ((12 : Int32) &&& 31))))])) _
                    refine XS.ishl X203.here hx rfl (hb hby own_d1_222) rfl ?_
                    show Steps p.tables e below (T203.setTop (mkF m 223 #[.val (.int p0), .val (.int p1), .val (.int p2), .val (.int p3), .val (.int p4), .val (.int (4 : Int32)), .unset] [(.int ((p2 &&& (63 : Int32)) <<< ((6 : Int32) &&& 31))), (.int (((p0 &&& (7 : Int32)) <<< ((18 : Int32) &&& 31)) ||| ((p1 &&& (63 : Int32)) <<< ((12 : Int32) &&& 31))))])) _
                    refine XS.ior X203.here hx rfl (hb hby own_d1_223) rfl ?_
                    show Steps p.tables e below (T203.setTop (mkF m 224 #[.val (.int p0), .val (.int p1), .val (.int p2), .val (.int p3), .val (.int p4), .val (.int (4 : Int32)), .unset] [(.int ((((p0 &&& (7 : Int32)) <<< ((18 : Int32) &&& 31)) ||| ((p1 &&& (63 : Int32)) <<< ((12 : Int32) &&& 31))) ||| ((p2 &&& (63 : Int32)) <<< ((6 : Int32) &&& 31))))])) _
                    refine XS.iloadN X203.here hx rfl (hb hby own_d1_224) rfl ?_
                    show Steps p.tables e below (T203.setTop (mkF m 225 #[.val (.int p0), .val (.int p1), .val (.int p2), .val (.int p3), .val (.int p4), .val (.int (4 : Int32)), .unset] [(.int p3), (.int ((((p0 &&& (7 : Int32)) <<< ((18 : Int32) &&& 31)) ||| ((p1 &&& (63 : Int32)) <<< ((12 : Int32) &&& 31))) ||| ((p2 &&& (63 : Int32)) <<< ((6 : Int32) &&& 31))))])) _
                    refine XS.bipush X203.here hx rfl (hb hby own_d1_225) ?_
                    show Steps p.tables e below (T203.setTop (mkF m 227 #[.val (.int p0), .val (.int p1), .val (.int p2), .val (.int p3), .val (.int p4), .val (.int (4 : Int32)), .unset] [(.int (63 : Int32)), (.int p3), (.int ((((p0 &&& (7 : Int32)) <<< ((18 : Int32) &&& 31)) ||| ((p1 &&& (63 : Int32)) <<< ((12 : Int32) &&& 31))) ||| ((p2 &&& (63 : Int32)) <<< ((6 : Int32) &&& 31))))])) _
                    refine XS.iand X203.here hx rfl (hb hby own_d1_227) rfl ?_
                    show Steps p.tables e below (T203.setTop (mkF m 228 #[.val (.int p0), .val (.int p1), .val (.int p2), .val (.int p3), .val (.int p4), .val (.int (4 : Int32)), .unset] [(.int (p3 &&& (63 : Int32))), (.int ((((p0 &&& (7 : Int32)) <<< ((18 : Int32) &&& 31)) ||| ((p1 &&& (63 : Int32)) <<< ((12 : Int32) &&& 31))) ||| ((p2 &&& (63 : Int32)) <<< ((6 : Int32) &&& 31))))])) _
                    refine XS.ior X203.here hx rfl (hb hby own_d1_228) rfl ?_
                    show Steps p.tables e below (T203.setTop (mkF m 229 #[.val (.int p0), .val (.int p1), .val (.int p2), .val (.int p3), .val (.int p4), .val (.int (4 : Int32)), .unset] [(.int (((((p0 &&& (7 : Int32)) <<< ((18 : Int32) &&& 31)) ||| ((p1 &&& (63 : Int32)) <<< ((12 : Int32) &&& 31))) ||| ((p2 &&& (63 : Int32)) <<< ((6 : Int32) &&& 31))) ||| (p3 &&& (63 : Int32))))])) _
                    refine XS.istore X203.here hx rfl (hb hby own_d1_229) rfl (l' := #[.val (.int p0), .val (.int p1), .val (.int p2), .val (.int p3), .val (.int p4), .val (.int (4 : Int32)), .val (.int (((((p0 &&& (7 : Int32)) <<< ((18 : Int32) &&& 31)) ||| ((p1 &&& (63 : Int32)) <<< ((12 : Int32) &&& 31))) ||| ((p2 &&& (63 : Int32)) <<< ((6 : Int32) &&& 31))) ||| (p3 &&& (63 : Int32))))]) rfl ?_
                    show Steps p.tables e below (T203.setTop (mkF m 231 #[.val (.int p0), .val (.int p1), .val (.int p2), .val (.int p3), .val (.int p4), .val (.int (4 : Int32)), .val (.int (((((p0 &&& (7 : Int32)) <<< ((18 : Int32) &&& 31)) ||| ((p1 &&& (63 : Int32)) <<< ((12 : Int32) &&& 31))) ||| ((p2 &&& (63 : Int32)) <<< ((6 : Int32) &&& 31))) ||| (p3 &&& (63 : Int32))))] [])) _
                    refine XS.iload X203.here hx rfl (hb hby own_d1_231) rfl ?_
                    show Steps p.tables e below (T203.setTop (mkF m 233 #[.val (.int p0), .val (.int p1), .val (.int p2), .val (.int p3), .val (.int p4), .val (.int (4 : Int32)), .val (.int (((((p0 &&& (7 : Int32)) <<< ((18 : Int32) &&& 31)) ||| ((p1 &&& (63 : Int32)) <<< ((12 : Int32) &&& 31))) ||| ((p2 &&& (63 : Int32)) <<< ((6 : Int32) &&& 31))) ||| (p3 &&& (63 : Int32))))] [(.int (((((p0 &&& (7 : Int32)) <<< ((18 : Int32) &&& 31)) ||| ((p1 &&& (63 : Int32)) <<< ((12 : Int32) &&& 31))) ||| ((p2 &&& (63 : Int32)) <<< ((6 : Int32) &&& 31))) ||| (p3 &&& (63 : Int32))))])) _
                    refine X203.ldcInt hx hown (mvT hZ (hw _ (List.mem_of_getElem? (i := 15) rfl))) (g := (mkF m 233 #[.val (.int p0), .val (.int p1), .val (.int p2), .val (.int p3), .val (.int p4), .val (.int (4 : Int32)), .val (.int (((((p0 &&& (7 : Int32)) <<< ((18 : Int32) &&& 31)) ||| ((p1 &&& (63 : Int32)) <<< ((12 : Int32) &&& 31))) ||| ((p2 &&& (63 : Int32)) <<< ((6 : Int32) &&& 31))) ||| (p3 &&& (63 : Int32))))] [(.int (((((p0 &&& (7 : Int32)) <<< ((18 : Int32) &&& 31)) ||| ((p1 &&& (63 : Int32)) <<< ((12 : Int32) &&& 31))) ||| ((p2 &&& (63 : Int32)) <<< ((6 : Int32) &&& 31))) ||| (p3 &&& (63 : Int32))))])) rfl (hb hby own_d1_233) _ ?_
                    exact kt
                  by_cases hc235_236 : (((((p0 &&& (7 : Int32)) <<< ((18 : Int32) &&& 31)) ||| ((p1 &&& (63 : Int32)) <<< ((12 : Int32) &&& 31))) ||| ((p2 &&& (63 : Int32)) <<< ((6 : Int32) &&& 31))) ||| (p3 &&& (63 : Int32))) < (65536 : Int32)
                  · obtain ⟨fs, hr, hrun, hended, hW, hsame⟩ := X203.leave (v := some (.int (0 : Int32))) (fun h => by rw [Bd.returns] at h; cases h) (hlocks := BodyLoose.notSynchronized Bd)
                    refine ⟨_, _, pre235 _ ?_, hrun, hended, _, _, rfl, ?_, ⟨_, rfl⟩, hW, hsame.mono (by decide) (by decide)⟩
                    · show Steps p.tables e below (T203.setTop (mkF m 235 #[.val (.int p0), .val (.int p1), .val (.int p2), .val (.int p3), .val (.int p4), .val (.int (4 : Int32)), .val (.int (((((p0 &&& (7 : Int32)) <<< ((18 : Int32) &&& 31)) ||| ((p1 &&& (63 : Int32)) <<< ((12 : Int32) &&& 31))) ||| ((p2 &&& (63 : Int32)) <<< ((6 : Int32) &&& 31))) ||| (p3 &&& (63 : Int32))))] [(.int (65536 : Int32)), (.int (((((p0 &&& (7 : Int32)) <<< ((18 : Int32) &&& 31)) ||| ((p1 &&& (63 : Int32)) <<< ((12 : Int32) &&& 31))) ||| ((p2 &&& (63 : Int32)) <<< ((6 : Int32) &&& 31))) ||| (p3 &&& (63 : Int32))))])) _
                      refine XS.icmpYes X203.here hx rfl (pc0 := 235) (pc' := 245) rfl (hb hby own_d1_235) rfl (tlt hc235_236).1 (by decide) (by decide) ?_
                      show Steps p.tables e below (T203.setTop (mkF m 245 #[.val (.int p0), .val (.int p1), .val (.int p2), .val (.int p3), .val (.int p4), .val (.int (4 : Int32)), .val (.int (((((p0 &&& (7 : Int32)) <<< ((18 : Int32) &&& 31)) ||| ((p1 &&& (63 : Int32)) <<< ((12 : Int32) &&& 31))) ||| ((p2 &&& (63 : Int32)) <<< ((6 : Int32) &&& 31))) ||| (p3 &&& (63 : Int32))))] [])) _
                      refine XS.iconst X203.here hx rfl (hb hby own_d1_245) ?_
                      show Steps p.tables e below (T203.setTop (mkF m 246 #[.val (.int p0), .val (.int p1), .val (.int p2), .val (.int p3), .val (.int p4), .val (.int (4 : Int32)), .val (.int (((((p0 &&& (7 : Int32)) <<< ((18 : Int32) &&& 31)) ||| ((p1 &&& (63 : Int32)) <<< ((12 : Int32) &&& 31))) ||| ((p2 &&& (63 : Int32)) <<< ((6 : Int32) &&& 31))) ||| (p3 &&& (63 : Int32))))] [(.int (0 : Int32))])) _
                      exact retI X203 hx Bd.returns (hb hby own_d1_246) hr
                    · show Qown_ref Z p0 p1 p2 p3 p4 h0 n0 _ T203.heap _
                      rw [eh203]
                      have hv : (own_ref_f p0 p1 p2 p3 p4) = (0 : Int32) := by unfold own_ref_f; rw [if_neg hc5_6, if_neg hc22_28, if_neg hc39_80, if_pos hc56_163, if_neg hc71_171, if_neg hc88_183, if_neg hc131_195, if_neg hc196_207, if_pos hc235_236]
                      exact ⟨(by rw [hv]), N204, rfl⟩
                  · have pre242 : ∀ t, Steps p.tables e below (T203.setTop (mkF m 242 #[.val (.int p0), .val (.int p1), .val (.int p2), .val (.int p3), .val (.int p4), .val (.int (4 : Int32)), .val (.int (((((p0 &&& (7 : Int32)) <<< ((18 : Int32) &&& 31)) ||| ((p1 &&& (63 : Int32)) <<< ((12 : Int32) &&& 31))) ||| ((p2 &&& (63 : Int32)) <<< ((6 : Int32) &&& 31))) ||| (p3 &&& (63 : Int32))))] [(.int (1114111 : Int32)), (.int (((((p0 &&& (7 : Int32)) <<< ((18 : Int32) &&& 31)) ||| ((p1 &&& (63 : Int32)) <<< ((12 : Int32) &&& 31))) ||| ((p2 &&& (63 : Int32)) <<< ((6 : Int32) &&& 31))) ||| (p3 &&& (63 : Int32))))])) t → Steps p.tables e below (s₁.setTop (entryFrame m #[(.int p0), (.int p1), (.int p2), (.int p3), (.int p4)] 7)) t := by
                      intro t kt
                      refine pre235 _ ?_
                      show Steps p.tables e below (T203.setTop (mkF m 235 #[.val (.int p0), .val (.int p1), .val (.int p2), .val (.int p3), .val (.int p4), .val (.int (4 : Int32)), .val (.int (((((p0 &&& (7 : Int32)) <<< ((18 : Int32) &&& 31)) ||| ((p1 &&& (63 : Int32)) <<< ((12 : Int32) &&& 31))) ||| ((p2 &&& (63 : Int32)) <<< ((6 : Int32) &&& 31))) ||| (p3 &&& (63 : Int32))))] [(.int (65536 : Int32)), (.int (((((p0 &&& (7 : Int32)) <<< ((18 : Int32) &&& 31)) ||| ((p1 &&& (63 : Int32)) <<< ((12 : Int32) &&& 31))) ||| ((p2 &&& (63 : Int32)) <<< ((6 : Int32) &&& 31))) ||| (p3 &&& (63 : Int32))))])) _
                      refine XS.icmpNo X203.here hx rfl (hb hby own_d1_235) rfl (flt hc235_236).1 ?_
                      show Steps p.tables e below (T203.setTop (mkF m 238 #[.val (.int p0), .val (.int p1), .val (.int p2), .val (.int p3), .val (.int p4), .val (.int (4 : Int32)), .val (.int (((((p0 &&& (7 : Int32)) <<< ((18 : Int32) &&& 31)) ||| ((p1 &&& (63 : Int32)) <<< ((12 : Int32) &&& 31))) ||| ((p2 &&& (63 : Int32)) <<< ((6 : Int32) &&& 31))) ||| (p3 &&& (63 : Int32))))] [])) _
                      refine XS.iload X203.here hx rfl (hb hby own_d1_238) rfl ?_
                      show Steps p.tables e below (T203.setTop (mkF m 240 #[.val (.int p0), .val (.int p1), .val (.int p2), .val (.int p3), .val (.int p4), .val (.int (4 : Int32)), .val (.int (((((p0 &&& (7 : Int32)) <<< ((18 : Int32) &&& 31)) ||| ((p1 &&& (63 : Int32)) <<< ((12 : Int32) &&& 31))) ||| ((p2 &&& (63 : Int32)) <<< ((6 : Int32) &&& 31))) ||| (p3 &&& (63 : Int32))))] [(.int (((((p0 &&& (7 : Int32)) <<< ((18 : Int32) &&& 31)) ||| ((p1 &&& (63 : Int32)) <<< ((12 : Int32) &&& 31))) ||| ((p2 &&& (63 : Int32)) <<< ((6 : Int32) &&& 31))) ||| (p3 &&& (63 : Int32))))])) _
                      refine X203.ldcInt hx hown (mvT hZ (hw _ (List.mem_of_getElem? (i := 16) rfl))) (g := (mkF m 240 #[.val (.int p0), .val (.int p1), .val (.int p2), .val (.int p3), .val (.int p4), .val (.int (4 : Int32)), .val (.int (((((p0 &&& (7 : Int32)) <<< ((18 : Int32) &&& 31)) ||| ((p1 &&& (63 : Int32)) <<< ((12 : Int32) &&& 31))) ||| ((p2 &&& (63 : Int32)) <<< ((6 : Int32) &&& 31))) ||| (p3 &&& (63 : Int32))))] [(.int (((((p0 &&& (7 : Int32)) <<< ((18 : Int32) &&& 31)) ||| ((p1 &&& (63 : Int32)) <<< ((12 : Int32) &&& 31))) ||| ((p2 &&& (63 : Int32)) <<< ((6 : Int32) &&& 31))) ||| (p3 &&& (63 : Int32))))])) rfl (hb hby own_d1_240) _ ?_
                      exact kt
                    by_cases hc242_243 : (1114111 : Int32) < (((((p0 &&& (7 : Int32)) <<< ((18 : Int32) &&& 31)) ||| ((p1 &&& (63 : Int32)) <<< ((12 : Int32) &&& 31))) ||| ((p2 &&& (63 : Int32)) <<< ((6 : Int32) &&& 31))) ||| (p3 &&& (63 : Int32)))
                    · obtain ⟨fs, hr, hrun, hended, hW, hsame⟩ := X203.leave (v := some (.int (0 : Int32))) (fun h => by rw [Bd.returns] at h; cases h) (hlocks := BodyLoose.notSynchronized Bd)
                      refine ⟨_, _, pre242 _ ?_, hrun, hended, _, _, rfl, ?_, ⟨_, rfl⟩, hW, hsame.mono (by decide) (by decide)⟩
                      · show Steps p.tables e below (T203.setTop (mkF m 242 #[.val (.int p0), .val (.int p1), .val (.int p2), .val (.int p3), .val (.int p4), .val (.int (4 : Int32)), .val (.int (((((p0 &&& (7 : Int32)) <<< ((18 : Int32) &&& 31)) ||| ((p1 &&& (63 : Int32)) <<< ((12 : Int32) &&& 31))) ||| ((p2 &&& (63 : Int32)) <<< ((6 : Int32) &&& 31))) ||| (p3 &&& (63 : Int32))))] [(.int (1114111 : Int32)), (.int (((((p0 &&& (7 : Int32)) <<< ((18 : Int32) &&& 31)) ||| ((p1 &&& (63 : Int32)) <<< ((12 : Int32) &&& 31))) ||| ((p2 &&& (63 : Int32)) <<< ((6 : Int32) &&& 31))) ||| (p3 &&& (63 : Int32))))])) _
                        refine XS.icmpNo X203.here hx rfl (hb hby own_d1_242) rfl (tlt hc242_243).2.2.2 ?_
                        show Steps p.tables e below (T203.setTop (mkF m 245 #[.val (.int p0), .val (.int p1), .val (.int p2), .val (.int p3), .val (.int p4), .val (.int (4 : Int32)), .val (.int (((((p0 &&& (7 : Int32)) <<< ((18 : Int32) &&& 31)) ||| ((p1 &&& (63 : Int32)) <<< ((12 : Int32) &&& 31))) ||| ((p2 &&& (63 : Int32)) <<< ((6 : Int32) &&& 31))) ||| (p3 &&& (63 : Int32))))] [])) _
                        refine XS.iconst X203.here hx rfl (hb hby own_d1_245) ?_
                        show Steps p.tables e below (T203.setTop (mkF m 246 #[.val (.int p0), .val (.int p1), .val (.int p2), .val (.int p3), .val (.int p4), .val (.int (4 : Int32)), .val (.int (((((p0 &&& (7 : Int32)) <<< ((18 : Int32) &&& 31)) ||| ((p1 &&& (63 : Int32)) <<< ((12 : Int32) &&& 31))) ||| ((p2 &&& (63 : Int32)) <<< ((6 : Int32) &&& 31))) ||| (p3 &&& (63 : Int32))))] [(.int (0 : Int32))])) _
                        exact retI X203 hx Bd.returns (hb hby own_d1_246) hr
                      · show Qown_ref Z p0 p1 p2 p3 p4 h0 n0 _ T203.heap _
                        rw [eh203]
                        have hv : (own_ref_f p0 p1 p2 p3 p4) = (0 : Int32) := by unfold own_ref_f; rw [if_neg hc5_6, if_neg hc22_28, if_neg hc39_80, if_pos hc56_163, if_neg hc71_171, if_neg hc88_183, if_neg hc131_195, if_neg hc196_207, if_neg hc235_236, if_pos hc242_243]
                        exact ⟨(by rw [hv]), N204, rfl⟩
                    · obtain ⟨fs, hr, hrun, hended, hW, hsame⟩ := X203.leave (v := some (.int (4 : Int32))) (fun h => by rw [Bd.returns] at h; cases h) (hlocks := BodyLoose.notSynchronized Bd)
                      refine ⟨_, _, pre242 _ ?_, hrun, hended, _, _, rfl, ?_, ⟨_, rfl⟩, hW, hsame.mono (by decide) (by decide)⟩
                      · show Steps p.tables e below (T203.setTop (mkF m 242 #[.val (.int p0), .val (.int p1), .val (.int p2), .val (.int p3), .val (.int p4), .val (.int (4 : Int32)), .val (.int (((((p0 &&& (7 : Int32)) <<< ((18 : Int32) &&& 31)) ||| ((p1 &&& (63 : Int32)) <<< ((12 : Int32) &&& 31))) ||| ((p2 &&& (63 : Int32)) <<< ((6 : Int32) &&& 31))) ||| (p3 &&& (63 : Int32))))] [(.int (1114111 : Int32)), (.int (((((p0 &&& (7 : Int32)) <<< ((18 : Int32) &&& 31)) ||| ((p1 &&& (63 : Int32)) <<< ((12 : Int32) &&& 31))) ||| ((p2 &&& (63 : Int32)) <<< ((6 : Int32) &&& 31))) ||| (p3 &&& (63 : Int32))))])) _
                        refine XS.icmpYes X203.here hx rfl (pc0 := 242) (pc' := 247) rfl (hb hby own_d1_242) rfl (flt hc242_243).2.2.2 (by decide) (by decide) ?_
                        show Steps p.tables e below (T203.setTop (mkF m 247 #[.val (.int p0), .val (.int p1), .val (.int p2), .val (.int p3), .val (.int p4), .val (.int (4 : Int32)), .val (.int (((((p0 &&& (7 : Int32)) <<< ((18 : Int32) &&& 31)) ||| ((p1 &&& (63 : Int32)) <<< ((12 : Int32) &&& 31))) ||| ((p2 &&& (63 : Int32)) <<< ((6 : Int32) &&& 31))) ||| (p3 &&& (63 : Int32))))] [])) _
                        refine XS.iconst X203.here hx rfl (hb hby own_d1_247) ?_
                        show Steps p.tables e below (T203.setTop (mkF m 248 #[.val (.int p0), .val (.int p1), .val (.int p2), .val (.int p3), .val (.int p4), .val (.int (4 : Int32)), .val (.int (((((p0 &&& (7 : Int32)) <<< ((18 : Int32) &&& 31)) ||| ((p1 &&& (63 : Int32)) <<< ((12 : Int32) &&& 31))) ||| ((p2 &&& (63 : Int32)) <<< ((6 : Int32) &&& 31))) ||| (p3 &&& (63 : Int32))))] [(.int (4 : Int32))])) _
                        exact retI X203 hx Bd.returns (hb hby own_d1_248) hr
                      · show Qown_ref Z p0 p1 p2 p3 p4 h0 n0 _ T203.heap _
                        rw [eh203]
                        have hv : (own_ref_f p0 p1 p2 p3 p4) = (4 : Int32) := by unfold own_ref_f; rw [if_neg hc5_6, if_neg hc22_28, if_neg hc39_80, if_pos hc56_163, if_neg hc71_171, if_neg hc88_183, if_neg hc131_195, if_neg hc196_207, if_neg hc235_236, if_neg hc242_243]
                        exact ⟨(by rw [hv]), N204, rfl⟩
        · obtain ⟨fs, hr, hrun, hended, hW, hsame⟩ := X0.leave (v := some (.int (0 : Int32))) (fun h => by rw [Bd.returns] at h; cases h) (hlocks := BodyLoose.notSynchronized Bd)
          refine ⟨_, _, pre162 _ ?_, hrun, hended, _, _, rfl, ?_, ⟨_, rfl⟩, hW, hsame.mono (by decide) (by decide)⟩
          · show Steps p.tables e below (s₁.setTop (mkF m 56 #[.val (.int p0), .val (.int p1), .val (.int p2), .val (.int p3), .val (.int p4), .unset, .unset] [(.int (240 : Int32)), (.int (p0 &&& (248 : Int32)))])) _
            refine XS.icmpYes X0.here hx rfl (pc0 := 56) (pc' := 65) rfl (hb hby own_d1_56) rfl (feq hc56_163).2 (by decide) (by decide) ?_
            show Steps p.tables e below (s₁.setTop (mkF m 65 #[.val (.int p0), .val (.int p1), .val (.int p2), .val (.int p3), .val (.int p4), .unset, .unset] [])) _
            refine XS.iconst X0.here hx rfl (hb hby own_d1_65) ?_
            show Steps p.tables e below (s₁.setTop (mkF m 66 #[.val (.int p0), .val (.int p1), .val (.int p2), .val (.int p3), .val (.int p4), .unset, .unset] [(.int (0 : Int32))])) _
            exact retI X0 hx Bd.returns (hb hby own_d1_66) hr
          · show Qown_ref Z p0 p1 p2 p3 p4 h0 n0 _ s₁.heap _
            rw [e0]
            have hv : (own_ref_f p0 p1 p2 p3 p4) = (0 : Int32) := by unfold own_ref_f; rw [if_neg hc5_6, if_neg hc22_28, if_neg hc39_80, if_neg hc56_163]
            exact ⟨(by rw [hv]), N0, rfl⟩
theorem own_pn1 : plainName "fieldstone/ByteReader" = true := by first | (simp [plainName, overriddenIn]; done) | decide +kernel
theorem own_ef_own_u (m : MethodId) (a_o : Addr) (i_1 : Int32) (t_1 : Int32) : entryFrame m #[(.ref a_o), (.int i_1), (.int t_1)] 9 = mkF m 0 #[.val (.ref a_o), .val (.int i_1), .val (.int t_1), .unset, .unset, .unset, .unset, .unset, .unset] [] := by first | (simp [entryFrame, mkF, argsToLocals, Value.category]; done) | rfl
theorem own_d2_0 : decode prog_2_method_23_code 0 = .ok (.aload_n 0, 1) := by decide +kernel
theorem own_d2_1 : decode prog_2_method_23_code 1 = .ok (.iload_n 1, 1) := by decide +kernel
theorem own_d2_2 : decode prog_2_method_23_code 2 = .ok (.baload, 1) := by decide +kernel
theorem own_d2_3 : decode prog_2_method_23_code 3 = .ok (.sipush 255, 3) := by decide +kernel
theorem own_d2_6 : decode prog_2_method_23_code 6 = .ok (.iand, 1) := by decide +kernel
theorem own_d2_7 : decode prog_2_method_23_code 7 = .ok (.istore_n 3, 1) := by decide +kernel
theorem own_d2_8 : decode prog_2_method_23_code 8 = .ok (.sipush 128, 3) := by decide +kernel
theorem own_d2_11 : decode prog_2_method_23_code 11 = .ok (.istore 5, 2) := by decide +kernel
theorem own_d2_13 : decode prog_2_method_23_code 13 = .ok (.sipush 191, 3) := by decide +kernel
theorem own_d2_16 : decode prog_2_method_23_code 16 = .ok (.istore 6, 2) := by decide +kernel
theorem own_d2_18 : decode prog_2_method_23_code 18 = .ok (.iload_n 3, 1) := by decide +kernel
theorem own_d2_19 : decode prog_2_method_23_code 19 = .ok (.sipush 128, 3) := by decide +kernel
theorem own_d2_22 : decode prog_2_method_23_code 22 = .ok (.if_icmp .ge 9, 3) := by decide +kernel
theorem own_d2_25 : decode prog_2_method_23_code 25 = .ok (.iconst 0, 1) := by decide +kernel
theorem own_d2_26 : decode prog_2_method_23_code 26 = .ok (.istore 4, 2) := by decide +kernel
theorem own_d2_28 : decode prog_2_method_23_code 28 = .ok (.goto 126, 3) := by decide +kernel
theorem own_d2_31 : decode prog_2_method_23_code 31 = .ok (.iload_n 3, 1) := by decide +kernel
theorem own_d2_32 : decode prog_2_method_23_code 32 = .ok (.sipush 194, 3) := by decide +kernel
theorem own_d2_35 : decode prog_2_method_23_code 35 = .ok (.if_icmp .ge 9, 3) := by decide +kernel
theorem own_d2_38 : decode prog_2_method_23_code 38 = .ok (.iconst (-1), 1) := by decide +kernel
theorem own_d2_39 : decode prog_2_method_23_code 39 = .ok (.istore 4, 2) := by decide +kernel
theorem own_d2_41 : decode prog_2_method_23_code 41 = .ok (.goto 113, 3) := by decide +kernel
theorem own_d2_44 : decode prog_2_method_23_code 44 = .ok (.iload_n 3, 1) := by decide +kernel
theorem own_d2_45 : decode prog_2_method_23_code 45 = .ok (.sipush 224, 3) := by decide +kernel
theorem own_d2_48 : decode prog_2_method_23_code 48 = .ok (.if_icmp .ge 9, 3) := by decide +kernel
theorem own_d2_51 : decode prog_2_method_23_code 51 = .ok (.iconst 1, 1) := by decide +kernel
theorem own_d2_52 : decode prog_2_method_23_code 52 = .ok (.istore 4, 2) := by decide +kernel
theorem own_d2_54 : decode prog_2_method_23_code 54 = .ok (.goto 100, 3) := by decide +kernel
theorem own_d2_57 : decode prog_2_method_23_code 57 = .ok (.iload_n 3, 1) := by decide +kernel
theorem own_d2_58 : decode prog_2_method_23_code 58 = .ok (.sipush 240, 3) := by decide +kernel
theorem own_d2_61 : decode prog_2_method_23_code 61 = .ok (.if_icmp .ge 43, 3) := by decide +kernel
theorem own_d2_64 : decode prog_2_method_23_code 64 = .ok (.iconst 2, 1) := by decide +kernel
theorem own_d2_65 : decode prog_2_method_23_code 65 = .ok (.istore 4, 2) := by decide +kernel
theorem own_d2_67 : decode prog_2_method_23_code 67 = .ok (.iload_n 3, 1) := by decide +kernel
theorem own_d2_68 : decode prog_2_method_23_code 68 = .ok (.sipush 224, 3) := by decide +kernel
theorem own_d2_71 : decode prog_2_method_23_code 71 = .ok (.if_icmp .ne 9, 3) := by decide +kernel
theorem own_d2_74 : decode prog_2_method_23_code 74 = .ok (.sipush 160, 3) := by decide +kernel
theorem own_d2_77 : decode prog_2_method_23_code 77 = .ok (.goto 5, 3) := by decide +kernel
theorem own_d2_80 : decode prog_2_method_23_code 80 = .ok (.iload 5, 2) := by decide +kernel
theorem own_d2_82 : decode prog_2_method_23_code 82 = .ok (.istore 5, 2) := by decide +kernel
theorem own_d2_84 : decode prog_2_method_23_code 84 = .ok (.iload_n 3, 1) := by decide +kernel
theorem own_d2_85 : decode prog_2_method_23_code 85 = .ok (.sipush 237, 3) := by decide +kernel
theorem own_d2_88 : decode prog_2_method_23_code 88 = .ok (.if_icmp .ne 9, 3) := by decide +kernel
theorem own_d2_91 : decode prog_2_method_23_code 91 = .ok (.sipush 159, 3) := by decide +kernel
theorem own_d2_94 : decode prog_2_method_23_code 94 = .ok (.goto 5, 3) := by decide +kernel
theorem own_d2_97 : decode prog_2_method_23_code 97 = .ok (.iload 6, 2) := by decide +kernel
theorem own_d2_99 : decode prog_2_method_23_code 99 = .ok (.istore 6, 2) := by decide +kernel
theorem own_d2_101 : decode prog_2_method_23_code 101 = .ok (.goto 53, 3) := by decide +kernel
theorem own_d2_104 : decode prog_2_method_23_code 104 = .ok (.iload_n 3, 1) := by decide +kernel
theorem own_d2_105 : decode prog_2_method_23_code 105 = .ok (.sipush 245, 3) := by decide +kernel
theorem own_d2_108 : decode prog_2_method_23_code 108 = .ok (.if_icmp .ge 43, 3) := by decide +kernel
theorem own_d2_111 : decode prog_2_method_23_code 111 = .ok (.iconst 3, 1) := by decide +kernel
theorem own_d2_112 : decode prog_2_method_23_code 112 = .ok (.istore 4, 2) := by decide +kernel
theorem own_d2_114 : decode prog_2_method_23_code 114 = .ok (.iload_n 3, 1) := by decide +kernel
theorem own_d2_115 : decode prog_2_method_23_code 115 = .ok (.sipush 240, 3) := by decide +kernel
theorem own_d2_118 : decode prog_2_method_23_code 118 = .ok (.if_icmp .ne 9, 3) := by decide +kernel
theorem own_d2_121 : decode prog_2_method_23_code 121 = .ok (.sipush 144, 3) := by decide +kernel
theorem own_d2_124 : decode prog_2_method_23_code 124 = .ok (.goto 5, 3) := by decide +kernel
theorem own_d2_127 : decode prog_2_method_23_code 127 = .ok (.iload 5, 2) := by decide +kernel
theorem own_d2_129 : decode prog_2_method_23_code 129 = .ok (.istore 5, 2) := by decide +kernel
theorem own_d2_131 : decode prog_2_method_23_code 131 = .ok (.iload_n 3, 1) := by decide +kernel
theorem own_d2_132 : decode prog_2_method_23_code 132 = .ok (.sipush 244, 3) := by decide +kernel
theorem own_d2_135 : decode prog_2_method_23_code 135 = .ok (.if_icmp .ne 9, 3) := by decide +kernel
theorem own_d2_138 : decode prog_2_method_23_code 138 = .ok (.sipush 143, 3) := by decide +kernel
theorem own_d2_141 : decode prog_2_method_23_code 141 = .ok (.goto 5, 3) := by decide +kernel
theorem own_d2_144 : decode prog_2_method_23_code 144 = .ok (.iload 6, 2) := by decide +kernel
theorem own_d2_146 : decode prog_2_method_23_code 146 = .ok (.istore 6, 2) := by decide +kernel
theorem own_d2_148 : decode prog_2_method_23_code 148 = .ok (.goto 6, 3) := by decide +kernel
theorem own_d2_151 : decode prog_2_method_23_code 151 = .ok (.iconst (-1), 1) := by decide +kernel
theorem own_d2_152 : decode prog_2_method_23_code 152 = .ok (.istore 4, 2) := by decide +kernel
theorem own_d2_154 : decode prog_2_method_23_code 154 = .ok (.iload 4, 2) := by decide +kernel
theorem own_d2_156 : decode prog_2_method_23_code 156 = .ok (.ifCond .lt 11, 3) := by decide +kernel
theorem own_d2_159 : decode prog_2_method_23_code 159 = .ok (.iload_n 2, 1) := by decide +kernel
theorem own_d2_160 : decode prog_2_method_23_code 160 = .ok (.iload_n 1, 1) := by decide +kernel
theorem own_d2_161 : decode prog_2_method_23_code 161 = .ok (.isub, 1) := by decide +kernel
theorem own_d2_162 : decode prog_2_method_23_code 162 = .ok (.iload 4, 2) := by decide +kernel
theorem own_d2_164 : decode prog_2_method_23_code 164 = .ok (.if_icmp .gt 5, 3) := by decide +kernel
theorem own_d2_167 : decode prog_2_method_23_code 167 = .ok (.iconst 0, 1) := by decide +kernel
theorem own_d2_168 : decode prog_2_method_23_code 168 = .ok (.ireturn, 1) := by decide +kernel
theorem own_d2_169 : decode prog_2_method_23_code 169 = .ok (.iload 4, 2) := by decide +kernel
theorem own_d2_171 : decode prog_2_method_23_code 171 = .ok (.ifCond .le 64, 3) := by decide +kernel
theorem own_d2_174 : decode prog_2_method_23_code 174 = .ok (.aload_n 0, 1) := by decide +kernel
theorem own_d2_175 : decode prog_2_method_23_code 175 = .ok (.iload_n 1, 1) := by decide +kernel
theorem own_d2_176 : decode prog_2_method_23_code 176 = .ok (.iconst 1, 1) := by decide +kernel
theorem own_d2_177 : decode prog_2_method_23_code 177 = .ok (.iadd, 1) := by decide +kernel
theorem own_d2_178 : decode prog_2_method_23_code 178 = .ok (.baload, 1) := by decide +kernel
theorem own_d2_179 : decode prog_2_method_23_code 179 = .ok (.sipush 255, 3) := by decide +kernel
theorem own_d2_182 : decode prog_2_method_23_code 182 = .ok (.iand, 1) := by decide +kernel
theorem own_d2_183 : decode prog_2_method_23_code 183 = .ok (.istore 7, 2) := by decide +kernel
theorem own_d2_185 : decode prog_2_method_23_code 185 = .ok (.iload 7, 2) := by decide +kernel
theorem own_d2_187 : decode prog_2_method_23_code 187 = .ok (.iload 5, 2) := by decide +kernel
theorem own_d2_189 : decode prog_2_method_23_code 189 = .ok (.if_icmp .lt 10, 3) := by decide +kernel
theorem own_d2_192 : decode prog_2_method_23_code 192 = .ok (.iload 7, 2) := by decide +kernel
theorem own_d2_194 : decode prog_2_method_23_code 194 = .ok (.iload 6, 2) := by decide +kernel
theorem own_d2_196 : decode prog_2_method_23_code 196 = .ok (.if_icmp .le 5, 3) := by decide +kernel
theorem own_d2_199 : decode prog_2_method_23_code 199 = .ok (.iconst 0, 1) := by decide +kernel
theorem own_d2_200 : decode prog_2_method_23_code 200 = .ok (.ireturn, 1) := by decide +kernel
theorem own_d2_201 : decode prog_2_method_23_code 201 = .ok (.iconst 2, 1) := by decide +kernel
theorem own_d2_202 : decode prog_2_method_23_code 202 = .ok (.istore 8, 2) := by decide +kernel
theorem own_d2_204 : decode prog_2_method_23_code 204 = .ok (.iload 8, 2) := by decide +kernel
theorem own_d2_206 : decode prog_2_method_23_code 206 = .ok (.iload 4, 2) := by decide +kernel
theorem own_d2_208 : decode prog_2_method_23_code 208 = .ok (.if_icmp .gt 27, 3) := by decide +kernel
theorem own_d2_211 : decode prog_2_method_23_code 211 = .ok (.aload_n 0, 1) := by decide +kernel
theorem own_d2_212 : decode prog_2_method_23_code 212 = .ok (.iload_n 1, 1) := by decide +kernel
theorem own_d2_213 : decode prog_2_method_23_code 213 = .ok (.iload 8, 2) := by decide +kernel
theorem own_d2_215 : decode prog_2_method_23_code 215 = .ok (.iadd, 1) := by decide +kernel
theorem own_d2_216 : decode prog_2_method_23_code 216 = .ok (.baload, 1) := by decide +kernel
theorem own_d2_217 : decode prog_2_method_23_code 217 = .ok (.sipush 192, 3) := by decide +kernel
theorem own_d2_220 : decode prog_2_method_23_code 220 = .ok (.iand, 1) := by decide +kernel
theorem own_d2_221 : decode prog_2_method_23_code 221 = .ok (.sipush 128, 3) := by decide +kernel
theorem own_d2_224 : decode prog_2_method_23_code 224 = .ok (.if_icmp .eq 5, 3) := by decide +kernel
theorem own_d2_227 : decode prog_2_method_23_code 227 = .ok (.iconst 0, 1) := by decide +kernel
theorem own_d2_228 : decode prog_2_method_23_code 228 = .ok (.ireturn, 1) := by decide +kernel
theorem own_d2_229 : decode prog_2_method_23_code 229 = .ok (.iinc 8 1, 3) := by decide +kernel
theorem own_d2_232 : decode prog_2_method_23_code 232 = .ok (.goto (-28), 3) := by decide +kernel
theorem own_d2_235 : decode prog_2_method_23_code 235 = .ok (.iload 4, 2) := by decide +kernel
theorem own_d2_237 : decode prog_2_method_23_code 237 = .ok (.iconst 1, 1) := by decide +kernel
theorem own_d2_238 : decode prog_2_method_23_code 238 = .ok (.iadd, 1) := by decide +kernel
theorem own_d2_239 : decode prog_2_method_23_code 239 = .ok (.ireturn, 1) := by decide +kernel
def own_u_f (y_0 : Int32) (y_1 : Int32) (y_2 : Int32) (y_3 : Int32) (av : Int32) : Int32 := (if (y_0 &&& (255 : Int32)) < (128 : Int32) then (if (0 : Int32) < av then (1 : Int32) else (0 : Int32)) else (if (y_0 &&& (255 : Int32)) < (194 : Int32) then (0 : Int32) else (if (y_0 &&& (255 : Int32)) < (224 : Int32) then (if (1 : Int32) < av then (if (y_1 &&& (255 : Int32)) < (128 : Int32) then (0 : Int32) else (if (191 : Int32) < (y_1 &&& (255 : Int32)) then (0 : Int32) else (2 : Int32))) else (0 : Int32)) else (if (y_0 &&& (255 : Int32)) < (240 : Int32) then (if (y_0 &&& (255 : Int32)) = (224 : Int32) then (if (2 : Int32) < av then (if (y_1 &&& (255 : Int32)) < (160 : Int32) then (0 : Int32) else (if (191 : Int32) < (y_1 &&& (255 : Int32)) then (0 : Int32) else (if (y_2 &&& (192 : Int32)) = (128 : Int32) then (3 : Int32) else (0 : Int32)))) else (0 : Int32)) else (if (y_0 &&& (255 : Int32)) = (237 : Int32) then (if (2 : Int32) < av then (if (y_1 &&& (255 : Int32)) < (128 : Int32) then (0 : Int32) else (if (159 : Int32) < (y_1 &&& (255 : Int32)) then (0 : Int32) else (if (y_2 &&& (192 : Int32)) = (128 : Int32) then (3 : Int32) else (0 : Int32)))) else (0 : Int32)) else (if (2 : Int32) < av then (if (y_1 &&& (255 : Int32)) < (128 : Int32) then (0 : Int32) else (if (191 : Int32) < (y_1 &&& (255 : Int32)) then (0 : Int32) else (if (y_2 &&& (192 : Int32)) = (128 : Int32) then (3 : Int32) else (0 : Int32)))) else (0 : Int32)))) else (if (y_0 &&& (255 : Int32)) < (245 : Int32) then (if (y_0 &&& (255 : Int32)) = (240 : Int32) then (if (3 : Int32) < av then (if (y_1 &&& (255 : Int32)) < (144 : Int32) then (0 : Int32) else (if (191 : Int32) < (y_1 &&& (255 : Int32)) then (0 : Int32) else (if (y_2 &&& (192 : Int32)) = (128 : Int32) then (if (y_3 &&& (192 : Int32)) = (128 : Int32) then (4 : Int32) else (0 : Int32)) else (0 : Int32)))) else (0 : Int32)) else (if (y_0 &&& (255 : Int32)) = (244 : Int32) then (if (3 : Int32) < av then (if (y_1 &&& (255 : Int32)) < (128 : Int32) then (0 : Int32) else (if (143 : Int32) < (y_1 &&& (255 : Int32)) then (0 : Int32) else (if (y_2 &&& (192 : Int32)) = (128 : Int32) then (if (y_3 &&& (192 : Int32)) = (128 : Int32) then (4 : Int32) else (0 : Int32)) else (0 : Int32)))) else (0 : Int32)) else (if (3 : Int32) < av then (if (y_1 &&& (255 : Int32)) < (128 : Int32) then (0 : Int32) else (if (191 : Int32) < (y_1 &&& (255 : Int32)) then (0 : Int32) else (if (y_2 &&& (192 : Int32)) = (128 : Int32) then (if (y_3 &&& (192 : Int32)) = (128 : Int32) then (4 : Int32) else (0 : Int32)) else (0 : Int32)))) else (0 : Int32)))) else (0 : Int32))))))
def Qown_u (Z : State) (a_o : Addr) (i_1 : Int32) (t_1 : Int32) (av : Int32) (k_a : ClassId) (vs : List Value) (y_0 : Int32) (y_1 : Int32) (y_2 : Int32) (y_3 : Int32) (h0 : Heap) (n0 : Nat) (v : Option Value) (h : Heap) (L : List Loc) : Prop := v = some (.int (own_u_f y_0 y_1 y_2 y_3 av)) ∧ Fr n0 L ∧ h = h0
set_option maxRecDepth 65536 in
set_option maxHeartbeats 40000000 in
theorem own_u (l : Launch) (Z : State) (a0 : Array Value) (hw : ∀ d ∈ tables_1, d.before a0 Z = true) (ws : List Jvm.Cond) (a_o : Addr) (i_1 : Int32) (t_1 : Int32) (av : Int32) (k_a : ClassId) (vs : List Value) (y_0 : Int32) (y_1 : Int32) (y_2 : Int32) (y_3 : Int32) (h0 : Heap) (n0 : Nat) (Z0 : n0 ≤ h0.size) (V_a : Arv Z h0 a_o k_a .byte (5 : Int32) vs (.int (0 : Int32))) (ht : t_1 - i_1 = av) (hi_0 : ¬ i_1 < 0 ∧ i_1 < 5) (hi_1 : ¬ (i_1 + (1 : Int32)) < 0 ∧ (i_1 + (1 : Int32)) < 5) (hi_2 : ¬ (i_1 + (2 : Int32)) < 0 ∧ (i_1 + (2 : Int32)) < 5) (hi_3 : ¬ (i_1 + (3 : Int32)) < 0 ∧ (i_1 + (3 : Int32)) < 5) (hg_0 : vs.getD (i_1).toNatClampNeg (.int (0 : Int32)) = .int y_0) (hg_1 : vs.getD ((i_1 + (1 : Int32))).toNatClampNeg (.int (0 : Int32)) = .int y_1) (hg_2 : vs.getD ((i_1 + (2 : Int32))).toNatClampNeg (.int (0 : Int32)) = .int y_2) (hg_3 : vs.getD ((i_1 + (3 : Int32))).toNatClampNeg (.int (0 : Int32)) = .int y_3) :
    MetFree l (⟨"fieldstone/ByteReader", "utf8Length", "([BII)I"⟩ : MethodName) (head1 (Jvm.Cond.code (⟨"fieldstone/ByteReader", "utf8Length", "([BII)I"⟩ : MethodName) prog_2_method_23_code 9 (some .int) :: ws) ({ frames := 0, cells := 0, slots := 0, locals := 0 } : Room)) (fun a U => a = #[(.ref a_o), (.int i_1), (.int t_1)] ∧ Z.Warmed39 U.vm ∧ U.heap = h0) (fun _ _ _ _ _ => True) (fun _ U o U' => ∃ v L, o = .returned v ∧ Qown_u Z a_o i_1 t_1 av k_a vs y_0 y_1 y_2 y_3 h0 n0 v U'.heap L ∧ FrameEnd U o U' L ({ frames := 0, cells := 0, slots := 0, locals := 0 } : Room).cells ({ frames := 0, cells := 0, slots := 0, locals := 0 } : Room).slots) := by
  refine MetFree.of_bodySF (plainFor_of_name own_pn1) hisR ?_
  intro p e s m args below meth c s₁ Bd hml0 hP hK
  obtain ⟨rfl, hZ, hh⟩ := hP
  have hx := Bd.exec
  have hby := Bd.bytes
  have hml : c.maxLocals = 9 := hml0
  have hown : s.vm.findClass "fieldstone/ByteReader" = some m.cls := findClass_of_methodNamed Bd.named
  have hnm := (name_of_methodNamed Bd.named Bd.method).1
  have X0 : Stand p l e ({ frames := 0, cells := 0, slots := 0, locals := 0 } : Room) s m #[(.ref a_o), (.int i_1), (.int t_1)] below meth c s₁ [] 0 0 := Stand.of_body Bd
  have e0 : s₁.heap = h0 := by rw [← hh, Bd.state]; rfl
  have N0 := Fr.nil n0
  have pre0 : ∀ t, Steps p.tables e below (s₁.setTop (mkF m 0 #[.val (.ref a_o), .val (.int i_1), .val (.int t_1), .unset, .unset, .unset, .unset, .unset, .unset] [])) t → Steps p.tables e below (s₁.setTop (entryFrame m #[(.ref a_o), (.int i_1), (.int t_1)] 9)) t := fun t k => castTop (own_ef_own_u m a_o i_1 t_1) k
  obtain ⟨cl4, Ar4, q4, S4, M4, H4, G4⟩ := id V_a
  have hin4 : ¬ (i_1 < 0 ∨ cl4.slots.size ≤ (i_1).toNatClampNeg) := inb_of S4 hi_0
  have hat4 : cl4.slots[(i_1).toNatClampNeg]? = some (.int y_0) := H4.at hin4 hg_0
  have pre15 : ∀ t, Steps p.tables e below (s₁.setTop (mkF m 22 #[.val (.ref a_o), .val (.int i_1), .val (.int t_1), .val (.int (y_0 &&& (255 : Int32))), .unset, .val (.int (128 : Int32)), .val (.int (191 : Int32)), .unset, .unset] [(.int (128 : Int32)), (.int (y_0 &&& (255 : Int32)))])) t → Steps p.tables e below (s₁.setTop (entryFrame m #[(.ref a_o), (.int i_1), (.int t_1)] 9)) t := by
    intro t kt
    refine pre0 _ ?_
    show Steps p.tables e below (s₁.setTop (mkF m 0 #[.val (.ref a_o), .val (.int i_1), .val (.int t_1), .unset, .unset, .unset, .unset, .unset, .unset] [])) _
    refine XS.aloadN X0.here hx rfl (hb hby own_d2_0) rfl rfl ?_
    show Steps p.tables e below (s₁.setTop (mkF m 1 #[.val (.ref a_o), .val (.int i_1), .val (.int t_1), .unset, .unset, .unset, .unset, .unset, .unset] [(.ref a_o)])) _
    refine XS.iloadN X0.here hx rfl (hb hby own_d2_1) rfl ?_
    show Steps p.tables e below (s₁.setTop (mkF m 2 #[.val (.ref a_o), .val (.int i_1), .val (.int t_1), .unset, .unset, .unset, .unset, .unset, .unset] [(.int i_1), (.ref a_o)])) _
    refine X0.baloadBytes hx (j := i_1) (v := (.int y_0)) (by rw [e0]; exact Ar4.1) (State.isArrayOf_alike hZ.alike Ar4.2.1) Ar4.2.2 hin4 hat4 (g := (mkF m 2 #[.val (.ref a_o), .val (.int i_1), .val (.int t_1), .unset, .unset, .unset, .unset, .unset, .unset] [(.int i_1), (.ref a_o)])) rfl rfl (hb hby own_d2_2) _ ?_
    show Steps p.tables e below (s₁.setTop (mkF m 3 #[.val (.ref a_o), .val (.int i_1), .val (.int t_1), .unset, .unset, .unset, .unset, .unset, .unset] [(.int y_0)])) _
    refine XS.sipush X0.here hx rfl (hb hby own_d2_3) ?_
    show Steps p.tables e below (s₁.setTop (mkF m 6 #[.val (.ref a_o), .val (.int i_1), .val (.int t_1), .unset, .unset, .unset, .unset, .unset, .unset] [(.int (255 : Int32)), (.int y_0)])) _
    refine XS.iand X0.here hx rfl (hb hby own_d2_6) rfl ?_
    show Steps p.tables e below (s₁.setTop (mkF m 7 #[.val (.ref a_o), .val (.int i_1), .val (.int t_1), .unset, .unset, .unset, .unset, .unset, .unset] [(.int (y_0 &&& (255 : Int32)))])) _
    refine XS.istoreN X0.here hx rfl (hb hby own_d2_7) rfl (l' := #[.val (.ref a_o), .val (.int i_1), .val (.int t_1), .val (.int (y_0 &&& (255 : Int32))), .unset, .unset, .unset, .unset, .unset]) rfl ?_
    show Steps p.tables e below (s₁.setTop (mkF m 8 #[.val (.ref a_o), .val (.int i_1), .val (.int t_1), .val (.int (y_0 &&& (255 : Int32))), .unset, .unset, .unset, .unset, .unset] [])) _
    refine XS.sipush X0.here hx rfl (hb hby own_d2_8) ?_
    show Steps p.tables e below (s₁.setTop (mkF m 11 #[.val (.ref a_o), .val (.int i_1), .val (.int t_1), .val (.int (y_0 &&& (255 : Int32))), .unset, .unset, .unset, .unset, .unset] [(.int (128 : Int32))])) _
    refine XS.istore X0.here hx rfl (hb hby own_d2_11) rfl (l' := #[.val (.ref a_o), .val (.int i_1), .val (.int t_1), .val (.int (y_0 &&& (255 : Int32))), .unset, .val (.int (128 : Int32)), .unset, .unset, .unset]) rfl ?_
    show Steps p.tables e below (s₁.setTop (mkF m 13 #[.val (.ref a_o), .val (.int i_1), .val (.int t_1), .val (.int (y_0 &&& (255 : Int32))), .unset, .val (.int (128 : Int32)), .unset, .unset, .unset] [])) _
    refine XS.sipush X0.here hx rfl (hb hby own_d2_13) ?_
    show Steps p.tables e below (s₁.setTop (mkF m 16 #[.val (.ref a_o), .val (.int i_1), .val (.int t_1), .val (.int (y_0 &&& (255 : Int32))), .unset, .val (.int (128 : Int32)), .unset, .unset, .unset] [(.int (191 : Int32))])) _
    refine XS.istore X0.here hx rfl (hb hby own_d2_16) rfl (l' := #[.val (.ref a_o), .val (.int i_1), .val (.int t_1), .val (.int (y_0 &&& (255 : Int32))), .unset, .val (.int (128 : Int32)), .val (.int (191 : Int32)), .unset, .unset]) rfl ?_
    show Steps p.tables e below (s₁.setTop (mkF m 18 #[.val (.ref a_o), .val (.int i_1), .val (.int t_1), .val (.int (y_0 &&& (255 : Int32))), .unset, .val (.int (128 : Int32)), .val (.int (191 : Int32)), .unset, .unset] [])) _
    refine XS.iloadN X0.here hx rfl (hb hby own_d2_18) rfl ?_
    show Steps p.tables e below (s₁.setTop (mkF m 19 #[.val (.ref a_o), .val (.int i_1), .val (.int t_1), .val (.int (y_0 &&& (255 : Int32))), .unset, .val (.int (128 : Int32)), .val (.int (191 : Int32)), .unset, .unset] [(.int (y_0 &&& (255 : Int32)))])) _
    refine XS.sipush X0.here hx rfl (hb hby own_d2_19) ?_
    exact kt
  by_cases hc22_16 : (y_0 &&& (255 : Int32)) < (128 : Int32)
  · have pre27 : ∀ t, Steps p.tables e below (s₁.setTop (mkF m 164 #[.val (.ref a_o), .val (.int i_1), .val (.int t_1), .val (.int (y_0 &&& (255 : Int32))), .val (.int (0 : Int32)), .val (.int (128 : Int32)), .val (.int (191 : Int32)), .unset, .unset] [(.int (0 : Int32)), (.int av)])) t → Steps p.tables e below (s₁.setTop (entryFrame m #[(.ref a_o), (.int i_1), (.int t_1)] 9)) t := by
      intro t kt
      refine pre15 _ ?_
      show Steps p.tables e below (s₁.setTop (mkF m 22 #[.val (.ref a_o), .val (.int i_1), .val (.int t_1), .val (.int (y_0 &&& (255 : Int32))), .unset, .val (.int (128 : Int32)), .val (.int (191 : Int32)), .unset, .unset] [(.int (128 : Int32)), (.int (y_0 &&& (255 : Int32)))])) _
      refine XS.icmpNo X0.here hx rfl (hb hby own_d2_22) rfl (tlt hc22_16).2.1 ?_
      show Steps p.tables e below (s₁.setTop (mkF m 25 #[.val (.ref a_o), .val (.int i_1), .val (.int t_1), .val (.int (y_0 &&& (255 : Int32))), .unset, .val (.int (128 : Int32)), .val (.int (191 : Int32)), .unset, .unset] [])) _
      refine XS.iconst X0.here hx rfl (hb hby own_d2_25) ?_
      show Steps p.tables e below (s₁.setTop (mkF m 26 #[.val (.ref a_o), .val (.int i_1), .val (.int t_1), .val (.int (y_0 &&& (255 : Int32))), .unset, .val (.int (128 : Int32)), .val (.int (191 : Int32)), .unset, .unset] [(.int (0 : Int32))])) _
      refine XS.istore X0.here hx rfl (hb hby own_d2_26) rfl (l' := #[.val (.ref a_o), .val (.int i_1), .val (.int t_1), .val (.int (y_0 &&& (255 : Int32))), .val (.int (0 : Int32)), .val (.int (128 : Int32)), .val (.int (191 : Int32)), .unset, .unset]) rfl ?_
      show Steps p.tables e below (s₁.setTop (mkF m 28 #[.val (.ref a_o), .val (.int i_1), .val (.int t_1), .val (.int (y_0 &&& (255 : Int32))), .val (.int (0 : Int32)), .val (.int (128 : Int32)), .val (.int (191 : Int32)), .unset, .unset] [])) _
      refine XS.goto X0.here hx rfl (pc0 := 28) (pc' := 154) rfl (hb hby own_d2_28) (by decide) (by decide) ?_
      show Steps p.tables e below (s₁.setTop (mkF m 154 #[.val (.ref a_o), .val (.int i_1), .val (.int t_1), .val (.int (y_0 &&& (255 : Int32))), .val (.int (0 : Int32)), .val (.int (128 : Int32)), .val (.int (191 : Int32)), .unset, .unset] [])) _
      refine XS.iload X0.here hx rfl (hb hby own_d2_154) rfl ?_
      show Steps p.tables e below (s₁.setTop (mkF m 156 #[.val (.ref a_o), .val (.int i_1), .val (.int t_1), .val (.int (y_0 &&& (255 : Int32))), .val (.int (0 : Int32)), .val (.int (128 : Int32)), .val (.int (191 : Int32)), .unset, .unset] [(.int (0 : Int32))])) _
      refine XS.ifNo X0.here hx rfl (hb hby own_d2_156) rfl ((if0 _ _).trans (flt ((by decide) : ¬ ((0 : Int32) < (0 : Int32)))).1) ?_
      show Steps p.tables e below (s₁.setTop (mkF m 159 #[.val (.ref a_o), .val (.int i_1), .val (.int t_1), .val (.int (y_0 &&& (255 : Int32))), .val (.int (0 : Int32)), .val (.int (128 : Int32)), .val (.int (191 : Int32)), .unset, .unset] [])) _
      refine XS.iloadN X0.here hx rfl (hb hby own_d2_159) rfl ?_
      show Steps p.tables e below (s₁.setTop (mkF m 160 #[.val (.ref a_o), .val (.int i_1), .val (.int t_1), .val (.int (y_0 &&& (255 : Int32))), .val (.int (0 : Int32)), .val (.int (128 : Int32)), .val (.int (191 : Int32)), .unset, .unset] [(.int t_1)])) _
      refine XS.iloadN X0.here hx rfl (hb hby own_d2_160) rfl ?_
      show Steps p.tables e below (s₁.setTop (mkF m 161 #[.val (.ref a_o), .val (.int i_1), .val (.int t_1), .val (.int (y_0 &&& (255 : Int32))), .val (.int (0 : Int32)), .val (.int (128 : Int32)), .val (.int (191 : Int32)), .unset, .unset] [(.int i_1), (.int t_1)])) _
      refine XS.isub X0.here hx rfl (hb hby own_d2_161) rfl ?_
      rw [ht]
      show Steps p.tables e below (s₁.setTop (mkF m 162 #[.val (.ref a_o), .val (.int i_1), .val (.int t_1), .val (.int (y_0 &&& (255 : Int32))), .val (.int (0 : Int32)), .val (.int (128 : Int32)), .val (.int (191 : Int32)), .unset, .unset] [(.int av)])) _
      refine XS.iload X0.here hx rfl (hb hby own_d2_162) rfl ?_
      exact kt
    by_cases hc164_28 : (0 : Int32) < av
    · obtain ⟨fs, hr, hrun, hended, hW, hsame⟩ := X0.leave (v := some (.int (1 : Int32))) (fun h => by rw [Bd.returns] at h; cases h) (hlocks := BodyLoose.notSynchronized Bd)
      refine ⟨_, _, pre27 _ ?_, hrun, hended, _, _, rfl, ?_, ⟨_, rfl⟩, hW, hsame.mono (by decide) (by decide)⟩
      · show Steps p.tables e below (s₁.setTop (mkF m 164 #[.val (.ref a_o), .val (.int i_1), .val (.int t_1), .val (.int (y_0 &&& (255 : Int32))), .val (.int (0 : Int32)), .val (.int (128 : Int32)), .val (.int (191 : Int32)), .unset, .unset] [(.int (0 : Int32)), (.int av)])) _
        refine XS.icmpYes X0.here hx rfl (pc0 := 164) (pc' := 169) rfl (hb hby own_d2_164) rfl (tlt hc164_28).2.2.1 (by decide) (by decide) ?_
        show Steps p.tables e below (s₁.setTop (mkF m 169 #[.val (.ref a_o), .val (.int i_1), .val (.int t_1), .val (.int (y_0 &&& (255 : Int32))), .val (.int (0 : Int32)), .val (.int (128 : Int32)), .val (.int (191 : Int32)), .unset, .unset] [])) _
        refine XS.iload X0.here hx rfl (hb hby own_d2_169) rfl ?_
        show Steps p.tables e below (s₁.setTop (mkF m 171 #[.val (.ref a_o), .val (.int i_1), .val (.int t_1), .val (.int (y_0 &&& (255 : Int32))), .val (.int (0 : Int32)), .val (.int (128 : Int32)), .val (.int (191 : Int32)), .unset, .unset] [(.int (0 : Int32))])) _
        refine XS.ifYes X0.here hx rfl (pc0 := 171) (pc' := 235) rfl (hb hby own_d2_171) rfl ((if0 _ _).trans (flt ((by decide) : ¬ ((0 : Int32) < (0 : Int32)))).2.2.2) (by decide) (by decide) ?_
        show Steps p.tables e below (s₁.setTop (mkF m 235 #[.val (.ref a_o), .val (.int i_1), .val (.int t_1), .val (.int (y_0 &&& (255 : Int32))), .val (.int (0 : Int32)), .val (.int (128 : Int32)), .val (.int (191 : Int32)), .unset, .unset] [])) _
        refine XS.iload X0.here hx rfl (hb hby own_d2_235) rfl ?_
        show Steps p.tables e below (s₁.setTop (mkF m 237 #[.val (.ref a_o), .val (.int i_1), .val (.int t_1), .val (.int (y_0 &&& (255 : Int32))), .val (.int (0 : Int32)), .val (.int (128 : Int32)), .val (.int (191 : Int32)), .unset, .unset] [(.int (0 : Int32))])) _
        refine XS.iconst X0.here hx rfl (hb hby own_d2_237) ?_
        show Steps p.tables e below (s₁.setTop (mkF m 238 #[.val (.ref a_o), .val (.int i_1), .val (.int t_1), .val (.int (y_0 &&& (255 : Int32))), .val (.int (0 : Int32)), .val (.int (128 : Int32)), .val (.int (191 : Int32)), .unset, .unset] [(.int (1 : Int32)), (.int (0 : Int32))])) _
        refine XS.iadd X0.here hx rfl (hb hby own_d2_238) rfl ?_
        show Steps p.tables e below (s₁.setTop (mkF m 239 #[.val (.ref a_o), .val (.int i_1), .val (.int t_1), .val (.int (y_0 &&& (255 : Int32))), .val (.int (0 : Int32)), .val (.int (128 : Int32)), .val (.int (191 : Int32)), .unset, .unset] [(.int (1 : Int32))])) _
        exact retI X0 hx Bd.returns (hb hby own_d2_239) hr
      · show Qown_u Z a_o i_1 t_1 av k_a vs y_0 y_1 y_2 y_3 h0 n0 _ s₁.heap _
        rw [e0]
        have hv : (own_u_f y_0 y_1 y_2 y_3 av) = (1 : Int32) := by unfold own_u_f; rw [if_pos hc22_16, if_pos hc164_28]
        exact ⟨(by rw [hv]), N0, rfl⟩
    · obtain ⟨fs, hr, hrun, hended, hW, hsame⟩ := X0.leave (v := some (.int (0 : Int32))) (fun h => by rw [Bd.returns] at h; cases h) (hlocks := BodyLoose.notSynchronized Bd)
      refine ⟨_, _, pre27 _ ?_, hrun, hended, _, _, rfl, ?_, ⟨_, rfl⟩, hW, hsame.mono (by decide) (by decide)⟩
      · show Steps p.tables e below (s₁.setTop (mkF m 164 #[.val (.ref a_o), .val (.int i_1), .val (.int t_1), .val (.int (y_0 &&& (255 : Int32))), .val (.int (0 : Int32)), .val (.int (128 : Int32)), .val (.int (191 : Int32)), .unset, .unset] [(.int (0 : Int32)), (.int av)])) _
        refine XS.icmpNo X0.here hx rfl (hb hby own_d2_164) rfl (flt hc164_28).2.2.1 ?_
        show Steps p.tables e below (s₁.setTop (mkF m 167 #[.val (.ref a_o), .val (.int i_1), .val (.int t_1), .val (.int (y_0 &&& (255 : Int32))), .val (.int (0 : Int32)), .val (.int (128 : Int32)), .val (.int (191 : Int32)), .unset, .unset] [])) _
        refine XS.iconst X0.here hx rfl (hb hby own_d2_167) ?_
        show Steps p.tables e below (s₁.setTop (mkF m 168 #[.val (.ref a_o), .val (.int i_1), .val (.int t_1), .val (.int (y_0 &&& (255 : Int32))), .val (.int (0 : Int32)), .val (.int (128 : Int32)), .val (.int (191 : Int32)), .unset, .unset] [(.int (0 : Int32))])) _
        exact retI X0 hx Bd.returns (hb hby own_d2_168) hr
      · show Qown_u Z a_o i_1 t_1 av k_a vs y_0 y_1 y_2 y_3 h0 n0 _ s₁.heap _
        rw [e0]
        have hv : (own_u_f y_0 y_1 y_2 y_3 av) = (0 : Int32) := by unfold own_u_f; rw [if_pos hc22_16, if_neg hc164_28]
        exact ⟨(by rw [hv]), N0, rfl⟩
  · have pre40 : ∀ t, Steps p.tables e below (s₁.setTop (mkF m 35 #[.val (.ref a_o), .val (.int i_1), .val (.int t_1), .val (.int (y_0 &&& (255 : Int32))), .unset, .val (.int (128 : Int32)), .val (.int (191 : Int32)), .unset, .unset] [(.int (194 : Int32)), (.int (y_0 &&& (255 : Int32)))])) t → Steps p.tables e below (s₁.setTop (entryFrame m #[(.ref a_o), (.int i_1), (.int t_1)] 9)) t := by
      intro t kt
      refine pre15 _ ?_
      show Steps p.tables e below (s₁.setTop (mkF m 22 #[.val (.ref a_o), .val (.int i_1), .val (.int t_1), .val (.int (y_0 &&& (255 : Int32))), .unset, .val (.int (128 : Int32)), .val (.int (191 : Int32)), .unset, .unset] [(.int (128 : Int32)), (.int (y_0 &&& (255 : Int32)))])) _
      refine XS.icmpYes X0.here hx rfl (pc0 := 22) (pc' := 31) rfl (hb hby own_d2_22) rfl (flt hc22_16).2.1 (by decide) (by decide) ?_
      show Steps p.tables e below (s₁.setTop (mkF m 31 #[.val (.ref a_o), .val (.int i_1), .val (.int t_1), .val (.int (y_0 &&& (255 : Int32))), .unset, .val (.int (128 : Int32)), .val (.int (191 : Int32)), .unset, .unset] [])) _
      refine XS.iloadN X0.here hx rfl (hb hby own_d2_31) rfl ?_
      show Steps p.tables e below (s₁.setTop (mkF m 32 #[.val (.ref a_o), .val (.int i_1), .val (.int t_1), .val (.int (y_0 &&& (255 : Int32))), .unset, .val (.int (128 : Int32)), .val (.int (191 : Int32)), .unset, .unset] [(.int (y_0 &&& (255 : Int32)))])) _
      refine XS.sipush X0.here hx rfl (hb hby own_d2_32) ?_
      exact kt
    by_cases hc35_41 : (y_0 &&& (255 : Int32)) < (194 : Int32)
    · obtain ⟨fs, hr, hrun, hended, hW, hsame⟩ := X0.leave (v := some (.int (0 : Int32))) (fun h => by rw [Bd.returns] at h; cases h) (hlocks := BodyLoose.notSynchronized Bd)
      refine ⟨_, _, pre40 _ ?_, hrun, hended, _, _, rfl, ?_, ⟨_, rfl⟩, hW, hsame.mono (by decide) (by decide)⟩
      · show Steps p.tables e below (s₁.setTop (mkF m 35 #[.val (.ref a_o), .val (.int i_1), .val (.int t_1), .val (.int (y_0 &&& (255 : Int32))), .unset, .val (.int (128 : Int32)), .val (.int (191 : Int32)), .unset, .unset] [(.int (194 : Int32)), (.int (y_0 &&& (255 : Int32)))])) _
        refine XS.icmpNo X0.here hx rfl (hb hby own_d2_35) rfl (tlt hc35_41).2.1 ?_
        show Steps p.tables e below (s₁.setTop (mkF m 38 #[.val (.ref a_o), .val (.int i_1), .val (.int t_1), .val (.int (y_0 &&& (255 : Int32))), .unset, .val (.int (128 : Int32)), .val (.int (191 : Int32)), .unset, .unset] [])) _
        refine XS.iconst X0.here hx rfl (hb hby own_d2_38) ?_
        show Steps p.tables e below (s₁.setTop (mkF m 39 #[.val (.ref a_o), .val (.int i_1), .val (.int t_1), .val (.int (y_0 &&& (255 : Int32))), .unset, .val (.int (128 : Int32)), .val (.int (191 : Int32)), .unset, .unset] [(.int (-1 : Int32))])) _
        refine XS.istore X0.here hx rfl (hb hby own_d2_39) rfl (l' := #[.val (.ref a_o), .val (.int i_1), .val (.int t_1), .val (.int (y_0 &&& (255 : Int32))), .val (.int (-1 : Int32)), .val (.int (128 : Int32)), .val (.int (191 : Int32)), .unset, .unset]) rfl ?_
        show Steps p.tables e below (s₁.setTop (mkF m 41 #[.val (.ref a_o), .val (.int i_1), .val (.int t_1), .val (.int (y_0 &&& (255 : Int32))), .val (.int (-1 : Int32)), .val (.int (128 : Int32)), .val (.int (191 : Int32)), .unset, .unset] [])) _
        refine XS.goto X0.here hx rfl (pc0 := 41) (pc' := 154) rfl (hb hby own_d2_41) (by decide) (by decide) ?_
        show Steps p.tables e below (s₁.setTop (mkF m 154 #[.val (.ref a_o), .val (.int i_1), .val (.int t_1), .val (.int (y_0 &&& (255 : Int32))), .val (.int (-1 : Int32)), .val (.int (128 : Int32)), .val (.int (191 : Int32)), .unset, .unset] [])) _
        refine XS.iload X0.here hx rfl (hb hby own_d2_154) rfl ?_
        show Steps p.tables e below (s₁.setTop (mkF m 156 #[.val (.ref a_o), .val (.int i_1), .val (.int t_1), .val (.int (y_0 &&& (255 : Int32))), .val (.int (-1 : Int32)), .val (.int (128 : Int32)), .val (.int (191 : Int32)), .unset, .unset] [(.int (-1 : Int32))])) _
        refine XS.ifYes X0.here hx rfl (pc0 := 156) (pc' := 167) rfl (hb hby own_d2_156) rfl ((if0 _ _).trans (tlt ((by decide) : (-1 : Int32) < (0 : Int32))).1) (by decide) (by decide) ?_
        show Steps p.tables e below (s₁.setTop (mkF m 167 #[.val (.ref a_o), .val (.int i_1), .val (.int t_1), .val (.int (y_0 &&& (255 : Int32))), .val (.int (-1 : Int32)), .val (.int (128 : Int32)), .val (.int (191 : Int32)), .unset, .unset] [])) _
        refine XS.iconst X0.here hx rfl (hb hby own_d2_167) ?_
        show Steps p.tables e below (s₁.setTop (mkF m 168 #[.val (.ref a_o), .val (.int i_1), .val (.int t_1), .val (.int (y_0 &&& (255 : Int32))), .val (.int (-1 : Int32)), .val (.int (128 : Int32)), .val (.int (191 : Int32)), .unset, .unset] [(.int (0 : Int32))])) _
        exact retI X0 hx Bd.returns (hb hby own_d2_168) hr
      · show Qown_u Z a_o i_1 t_1 av k_a vs y_0 y_1 y_2 y_3 h0 n0 _ s₁.heap _
        rw [e0]
        have hv : (own_u_f y_0 y_1 y_2 y_3 av) = (0 : Int32) := by unfold own_u_f; rw [if_neg hc22_16, if_pos hc35_41]
        exact ⟨(by rw [hv]), N0, rfl⟩
    · have pre52 : ∀ t, Steps p.tables e below (s₁.setTop (mkF m 48 #[.val (.ref a_o), .val (.int i_1), .val (.int t_1), .val (.int (y_0 &&& (255 : Int32))), .unset, .val (.int (128 : Int32)), .val (.int (191 : Int32)), .unset, .unset] [(.int (224 : Int32)), (.int (y_0 &&& (255 : Int32)))])) t → Steps p.tables e below (s₁.setTop (entryFrame m #[(.ref a_o), (.int i_1), (.int t_1)] 9)) t := by
        intro t kt
        refine pre40 _ ?_
        show Steps p.tables e below (s₁.setTop (mkF m 35 #[.val (.ref a_o), .val (.int i_1), .val (.int t_1), .val (.int (y_0 &&& (255 : Int32))), .unset, .val (.int (128 : Int32)), .val (.int (191 : Int32)), .unset, .unset] [(.int (194 : Int32)), (.int (y_0 &&& (255 : Int32)))])) _
        refine XS.icmpYes X0.here hx rfl (pc0 := 35) (pc' := 44) rfl (hb hby own_d2_35) rfl (flt hc35_41).2.1 (by decide) (by decide) ?_
        show Steps p.tables e below (s₁.setTop (mkF m 44 #[.val (.ref a_o), .val (.int i_1), .val (.int t_1), .val (.int (y_0 &&& (255 : Int32))), .unset, .val (.int (128 : Int32)), .val (.int (191 : Int32)), .unset, .unset] [])) _
        refine XS.iloadN X0.here hx rfl (hb hby own_d2_44) rfl ?_
        show Steps p.tables e below (s₁.setTop (mkF m 45 #[.val (.ref a_o), .val (.int i_1), .val (.int t_1), .val (.int (y_0 &&& (255 : Int32))), .unset, .val (.int (128 : Int32)), .val (.int (191 : Int32)), .unset, .unset] [(.int (y_0 &&& (255 : Int32)))])) _
        refine XS.sipush X0.here hx rfl (hb hby own_d2_45) ?_
        exact kt
      by_cases hc48_53 : (y_0 &&& (255 : Int32)) < (224 : Int32)
      · have pre64 : ∀ t, Steps p.tables e below (s₁.setTop (mkF m 164 #[.val (.ref a_o), .val (.int i_1), .val (.int t_1), .val (.int (y_0 &&& (255 : Int32))), .val (.int (1 : Int32)), .val (.int (128 : Int32)), .val (.int (191 : Int32)), .unset, .unset] [(.int (1 : Int32)), (.int av)])) t → Steps p.tables e below (s₁.setTop (entryFrame m #[(.ref a_o), (.int i_1), (.int t_1)] 9)) t := by
          intro t kt
          refine pre52 _ ?_
          show Steps p.tables e below (s₁.setTop (mkF m 48 #[.val (.ref a_o), .val (.int i_1), .val (.int t_1), .val (.int (y_0 &&& (255 : Int32))), .unset, .val (.int (128 : Int32)), .val (.int (191 : Int32)), .unset, .unset] [(.int (224 : Int32)), (.int (y_0 &&& (255 : Int32)))])) _
          refine XS.icmpNo X0.here hx rfl (hb hby own_d2_48) rfl (tlt hc48_53).2.1 ?_
          show Steps p.tables e below (s₁.setTop (mkF m 51 #[.val (.ref a_o), .val (.int i_1), .val (.int t_1), .val (.int (y_0 &&& (255 : Int32))), .unset, .val (.int (128 : Int32)), .val (.int (191 : Int32)), .unset, .unset] [])) _
          refine XS.iconst X0.here hx rfl (hb hby own_d2_51) ?_
          show Steps p.tables e below (s₁.setTop (mkF m 52 #[.val (.ref a_o), .val (.int i_1), .val (.int t_1), .val (.int (y_0 &&& (255 : Int32))), .unset, .val (.int (128 : Int32)), .val (.int (191 : Int32)), .unset, .unset] [(.int (1 : Int32))])) _
          refine XS.istore X0.here hx rfl (hb hby own_d2_52) rfl (l' := #[.val (.ref a_o), .val (.int i_1), .val (.int t_1), .val (.int (y_0 &&& (255 : Int32))), .val (.int (1 : Int32)), .val (.int (128 : Int32)), .val (.int (191 : Int32)), .unset, .unset]) rfl ?_
          show Steps p.tables e below (s₁.setTop (mkF m 54 #[.val (.ref a_o), .val (.int i_1), .val (.int t_1), .val (.int (y_0 &&& (255 : Int32))), .val (.int (1 : Int32)), .val (.int (128 : Int32)), .val (.int (191 : Int32)), .unset, .unset] [])) _
          refine XS.goto X0.here hx rfl (pc0 := 54) (pc' := 154) rfl (hb hby own_d2_54) (by decide) (by decide) ?_
          show Steps p.tables e below (s₁.setTop (mkF m 154 #[.val (.ref a_o), .val (.int i_1), .val (.int t_1), .val (.int (y_0 &&& (255 : Int32))), .val (.int (1 : Int32)), .val (.int (128 : Int32)), .val (.int (191 : Int32)), .unset, .unset] [])) _
          refine XS.iload X0.here hx rfl (hb hby own_d2_154) rfl ?_
          show Steps p.tables e below (s₁.setTop (mkF m 156 #[.val (.ref a_o), .val (.int i_1), .val (.int t_1), .val (.int (y_0 &&& (255 : Int32))), .val (.int (1 : Int32)), .val (.int (128 : Int32)), .val (.int (191 : Int32)), .unset, .unset] [(.int (1 : Int32))])) _
          refine XS.ifNo X0.here hx rfl (hb hby own_d2_156) rfl ((if0 _ _).trans (flt ((by decide) : ¬ ((1 : Int32) < (0 : Int32)))).1) ?_
          show Steps p.tables e below (s₁.setTop (mkF m 159 #[.val (.ref a_o), .val (.int i_1), .val (.int t_1), .val (.int (y_0 &&& (255 : Int32))), .val (.int (1 : Int32)), .val (.int (128 : Int32)), .val (.int (191 : Int32)), .unset, .unset] [])) _
          refine XS.iloadN X0.here hx rfl (hb hby own_d2_159) rfl ?_
          show Steps p.tables e below (s₁.setTop (mkF m 160 #[.val (.ref a_o), .val (.int i_1), .val (.int t_1), .val (.int (y_0 &&& (255 : Int32))), .val (.int (1 : Int32)), .val (.int (128 : Int32)), .val (.int (191 : Int32)), .unset, .unset] [(.int t_1)])) _
          refine XS.iloadN X0.here hx rfl (hb hby own_d2_160) rfl ?_
          show Steps p.tables e below (s₁.setTop (mkF m 161 #[.val (.ref a_o), .val (.int i_1), .val (.int t_1), .val (.int (y_0 &&& (255 : Int32))), .val (.int (1 : Int32)), .val (.int (128 : Int32)), .val (.int (191 : Int32)), .unset, .unset] [(.int i_1), (.int t_1)])) _
          refine XS.isub X0.here hx rfl (hb hby own_d2_161) rfl ?_
          rw [ht]
          show Steps p.tables e below (s₁.setTop (mkF m 162 #[.val (.ref a_o), .val (.int i_1), .val (.int t_1), .val (.int (y_0 &&& (255 : Int32))), .val (.int (1 : Int32)), .val (.int (128 : Int32)), .val (.int (191 : Int32)), .unset, .unset] [(.int av)])) _
          refine XS.iload X0.here hx rfl (hb hby own_d2_162) rfl ?_
          exact kt
        by_cases hc164_65 : (1 : Int32) < av
        · obtain ⟨cl73, Ar73, q73, S73, M73, H73, G73⟩ := id V_a
          have hin73 : ¬ ((i_1 + (1 : Int32)) < 0 ∨ cl73.slots.size ≤ ((i_1 + (1 : Int32))).toNatClampNeg) := inb_of S73 hi_1
          have hat73 : cl73.slots[((i_1 + (1 : Int32))).toNatClampNeg]? = some (.int y_1) := H73.at hin73 hg_1
          have pre80 : ∀ t, Steps p.tables e below (s₁.setTop (mkF m 189 #[.val (.ref a_o), .val (.int i_1), .val (.int t_1), .val (.int (y_0 &&& (255 : Int32))), .val (.int (1 : Int32)), .val (.int (128 : Int32)), .val (.int (191 : Int32)), .val (.int (y_1 &&& (255 : Int32))), .unset] [(.int (128 : Int32)), (.int (y_1 &&& (255 : Int32)))])) t → Steps p.tables e below (s₁.setTop (entryFrame m #[(.ref a_o), (.int i_1), (.int t_1)] 9)) t := by
            intro t kt
            refine pre64 _ ?_
            show Steps p.tables e below (s₁.setTop (mkF m 164 #[.val (.ref a_o), .val (.int i_1), .val (.int t_1), .val (.int (y_0 &&& (255 : Int32))), .val (.int (1 : Int32)), .val (.int (128 : Int32)), .val (.int (191 : Int32)), .unset, .unset] [(.int (1 : Int32)), (.int av)])) _
            refine XS.icmpYes X0.here hx rfl (pc0 := 164) (pc' := 169) rfl (hb hby own_d2_164) rfl (tlt hc164_65).2.2.1 (by decide) (by decide) ?_
            show Steps p.tables e below (s₁.setTop (mkF m 169 #[.val (.ref a_o), .val (.int i_1), .val (.int t_1), .val (.int (y_0 &&& (255 : Int32))), .val (.int (1 : Int32)), .val (.int (128 : Int32)), .val (.int (191 : Int32)), .unset, .unset] [])) _
            refine XS.iload X0.here hx rfl (hb hby own_d2_169) rfl ?_
            show Steps p.tables e below (s₁.setTop (mkF m 171 #[.val (.ref a_o), .val (.int i_1), .val (.int t_1), .val (.int (y_0 &&& (255 : Int32))), .val (.int (1 : Int32)), .val (.int (128 : Int32)), .val (.int (191 : Int32)), .unset, .unset] [(.int (1 : Int32))])) _
            refine XS.ifNo X0.here hx rfl (hb hby own_d2_171) rfl ((if0 _ _).trans (tlt ((by decide) : (0 : Int32) < (1 : Int32))).2.2.2) ?_
            show Steps p.tables e below (s₁.setTop (mkF m 174 #[.val (.ref a_o), .val (.int i_1), .val (.int t_1), .val (.int (y_0 &&& (255 : Int32))), .val (.int (1 : Int32)), .val (.int (128 : Int32)), .val (.int (191 : Int32)), .unset, .unset] [])) _
            refine XS.aloadN X0.here hx rfl (hb hby own_d2_174) rfl rfl ?_
            show Steps p.tables e below (s₁.setTop (mkF m 175 #[.val (.ref a_o), .val (.int i_1), .val (.int t_1), .val (.int (y_0 &&& (255 : Int32))), .val (.int (1 : Int32)), .val (.int (128 : Int32)), .val (.int (191 : Int32)), .unset, .unset] [(.ref a_o)])) _
            refine XS.iloadN X0.here hx rfl (hb hby own_d2_175) rfl ?_
            show Steps p.tables e below (s₁.setTop (mkF m 176 #[.val (.ref a_o), .val (.int i_1), .val (.int t_1), .val (.int (y_0 &&& (255 : Int32))), .val (.int (1 : Int32)), .val (.int (128 : Int32)), .val (.int (191 : Int32)), .unset, .unset] [(.int i_1), (.ref a_o)])) _
            refine XS.iconst X0.here hx rfl (hb hby own_d2_176) ?_
            show Steps p.tables e below (s₁.setTop (mkF m 177 #[.val (.ref a_o), .val (.int i_1), .val (.int t_1), .val (.int (y_0 &&& (255 : Int32))), .val (.int (1 : Int32)), .val (.int (128 : Int32)), .val (.int (191 : Int32)), .unset, .unset] [(.int (1 : Int32)), (.int i_1), (.ref a_o)])) _
            refine XS.iadd X0.here hx rfl (hb hby own_d2_177) rfl ?_
            show Steps p.tables e below (s₁.setTop (mkF m 178 #[.val (.ref a_o), .val (.int i_1), .val (.int t_1), .val (.int (y_0 &&& (255 : Int32))), .val (.int (1 : Int32)), .val (.int (128 : Int32)), .val (.int (191 : Int32)), .unset, .unset] [(.int (i_1 + (1 : Int32))), (.ref a_o)])) _
            refine X0.baloadBytes hx (j := (i_1 + (1 : Int32))) (v := (.int y_1)) (by rw [e0]; exact Ar73.1) (State.isArrayOf_alike hZ.alike Ar73.2.1) Ar73.2.2 hin73 hat73 (g := (mkF m 178 #[.val (.ref a_o), .val (.int i_1), .val (.int t_1), .val (.int (y_0 &&& (255 : Int32))), .val (.int (1 : Int32)), .val (.int (128 : Int32)), .val (.int (191 : Int32)), .unset, .unset] [(.int (i_1 + (1 : Int32))), (.ref a_o)])) rfl rfl (hb hby own_d2_178) _ ?_
            show Steps p.tables e below (s₁.setTop (mkF m 179 #[.val (.ref a_o), .val (.int i_1), .val (.int t_1), .val (.int (y_0 &&& (255 : Int32))), .val (.int (1 : Int32)), .val (.int (128 : Int32)), .val (.int (191 : Int32)), .unset, .unset] [(.int y_1)])) _
            refine XS.sipush X0.here hx rfl (hb hby own_d2_179) ?_
            show Steps p.tables e below (s₁.setTop (mkF m 182 #[.val (.ref a_o), .val (.int i_1), .val (.int t_1), .val (.int (y_0 &&& (255 : Int32))), .val (.int (1 : Int32)), .val (.int (128 : Int32)), .val (.int (191 : Int32)), .unset, .unset] [(.int (255 : Int32)), (.int y_1)])) _
            refine XS.iand X0.here hx rfl (hb hby own_d2_182) rfl ?_
            show Steps p.tables e below (s₁.setTop (mkF m 183 #[.val (.ref a_o), .val (.int i_1), .val (.int t_1), .val (.int (y_0 &&& (255 : Int32))), .val (.int (1 : Int32)), .val (.int (128 : Int32)), .val (.int (191 : Int32)), .unset, .unset] [(.int (y_1 &&& (255 : Int32)))])) _
            refine XS.istore X0.here hx rfl (hb hby own_d2_183) rfl (l' := #[.val (.ref a_o), .val (.int i_1), .val (.int t_1), .val (.int (y_0 &&& (255 : Int32))), .val (.int (1 : Int32)), .val (.int (128 : Int32)), .val (.int (191 : Int32)), .val (.int (y_1 &&& (255 : Int32))), .unset]) rfl ?_
            show Steps p.tables e below (s₁.setTop (mkF m 185 #[.val (.ref a_o), .val (.int i_1), .val (.int t_1), .val (.int (y_0 &&& (255 : Int32))), .val (.int (1 : Int32)), .val (.int (128 : Int32)), .val (.int (191 : Int32)), .val (.int (y_1 &&& (255 : Int32))), .unset] [])) _
            refine XS.iload X0.here hx rfl (hb hby own_d2_185) rfl ?_
            show Steps p.tables e below (s₁.setTop (mkF m 187 #[.val (.ref a_o), .val (.int i_1), .val (.int t_1), .val (.int (y_0 &&& (255 : Int32))), .val (.int (1 : Int32)), .val (.int (128 : Int32)), .val (.int (191 : Int32)), .val (.int (y_1 &&& (255 : Int32))), .unset] [(.int (y_1 &&& (255 : Int32)))])) _
            refine XS.iload X0.here hx rfl (hb hby own_d2_187) rfl ?_
            exact kt
          by_cases hc189_81 : (y_1 &&& (255 : Int32)) < (128 : Int32)
          · obtain ⟨fs, hr, hrun, hended, hW, hsame⟩ := X0.leave (v := some (.int (0 : Int32))) (fun h => by rw [Bd.returns] at h; cases h) (hlocks := BodyLoose.notSynchronized Bd)
            refine ⟨_, _, pre80 _ ?_, hrun, hended, _, _, rfl, ?_, ⟨_, rfl⟩, hW, hsame.mono (by decide) (by decide)⟩
            · show Steps p.tables e below (s₁.setTop (mkF m 189 #[.val (.ref a_o), .val (.int i_1), .val (.int t_1), .val (.int (y_0 &&& (255 : Int32))), .val (.int (1 : Int32)), .val (.int (128 : Int32)), .val (.int (191 : Int32)), .val (.int (y_1 &&& (255 : Int32))), .unset] [(.int (128 : Int32)), (.int (y_1 &&& (255 : Int32)))])) _
              refine XS.icmpYes X0.here hx rfl (pc0 := 189) (pc' := 199) rfl (hb hby own_d2_189) rfl (tlt hc189_81).1 (by decide) (by decide) ?_
              show Steps p.tables e below (s₁.setTop (mkF m 199 #[.val (.ref a_o), .val (.int i_1), .val (.int t_1), .val (.int (y_0 &&& (255 : Int32))), .val (.int (1 : Int32)), .val (.int (128 : Int32)), .val (.int (191 : Int32)), .val (.int (y_1 &&& (255 : Int32))), .unset] [])) _
              refine XS.iconst X0.here hx rfl (hb hby own_d2_199) ?_
              show Steps p.tables e below (s₁.setTop (mkF m 200 #[.val (.ref a_o), .val (.int i_1), .val (.int t_1), .val (.int (y_0 &&& (255 : Int32))), .val (.int (1 : Int32)), .val (.int (128 : Int32)), .val (.int (191 : Int32)), .val (.int (y_1 &&& (255 : Int32))), .unset] [(.int (0 : Int32))])) _
              exact retI X0 hx Bd.returns (hb hby own_d2_200) hr
            · show Qown_u Z a_o i_1 t_1 av k_a vs y_0 y_1 y_2 y_3 h0 n0 _ s₁.heap _
              rw [e0]
              have hv : (own_u_f y_0 y_1 y_2 y_3 av) = (0 : Int32) := by unfold own_u_f; rw [if_neg hc22_16, if_neg hc35_41, if_pos hc48_53, if_pos hc164_65, if_pos hc189_81]
              exact ⟨(by rw [hv]), N0, rfl⟩
          · have pre87 : ∀ t, Steps p.tables e below (s₁.setTop (mkF m 196 #[.val (.ref a_o), .val (.int i_1), .val (.int t_1), .val (.int (y_0 &&& (255 : Int32))), .val (.int (1 : Int32)), .val (.int (128 : Int32)), .val (.int (191 : Int32)), .val (.int (y_1 &&& (255 : Int32))), .unset] [(.int (191 : Int32)), (.int (y_1 &&& (255 : Int32)))])) t → Steps p.tables e below (s₁.setTop (entryFrame m #[(.ref a_o), (.int i_1), (.int t_1)] 9)) t := by
              intro t kt
              refine pre80 _ ?_
              show Steps p.tables e below (s₁.setTop (mkF m 189 #[.val (.ref a_o), .val (.int i_1), .val (.int t_1), .val (.int (y_0 &&& (255 : Int32))), .val (.int (1 : Int32)), .val (.int (128 : Int32)), .val (.int (191 : Int32)), .val (.int (y_1 &&& (255 : Int32))), .unset] [(.int (128 : Int32)), (.int (y_1 &&& (255 : Int32)))])) _
              refine XS.icmpNo X0.here hx rfl (hb hby own_d2_189) rfl (flt hc189_81).1 ?_
              show Steps p.tables e below (s₁.setTop (mkF m 192 #[.val (.ref a_o), .val (.int i_1), .val (.int t_1), .val (.int (y_0 &&& (255 : Int32))), .val (.int (1 : Int32)), .val (.int (128 : Int32)), .val (.int (191 : Int32)), .val (.int (y_1 &&& (255 : Int32))), .unset] [])) _
              refine XS.iload X0.here hx rfl (hb hby own_d2_192) rfl ?_
              show Steps p.tables e below (s₁.setTop (mkF m 194 #[.val (.ref a_o), .val (.int i_1), .val (.int t_1), .val (.int (y_0 &&& (255 : Int32))), .val (.int (1 : Int32)), .val (.int (128 : Int32)), .val (.int (191 : Int32)), .val (.int (y_1 &&& (255 : Int32))), .unset] [(.int (y_1 &&& (255 : Int32)))])) _
              refine XS.iload X0.here hx rfl (hb hby own_d2_194) rfl ?_
              exact kt
            by_cases hc196_88 : (191 : Int32) < (y_1 &&& (255 : Int32))
            · obtain ⟨fs, hr, hrun, hended, hW, hsame⟩ := X0.leave (v := some (.int (0 : Int32))) (fun h => by rw [Bd.returns] at h; cases h) (hlocks := BodyLoose.notSynchronized Bd)
              refine ⟨_, _, pre87 _ ?_, hrun, hended, _, _, rfl, ?_, ⟨_, rfl⟩, hW, hsame.mono (by decide) (by decide)⟩
              · show Steps p.tables e below (s₁.setTop (mkF m 196 #[.val (.ref a_o), .val (.int i_1), .val (.int t_1), .val (.int (y_0 &&& (255 : Int32))), .val (.int (1 : Int32)), .val (.int (128 : Int32)), .val (.int (191 : Int32)), .val (.int (y_1 &&& (255 : Int32))), .unset] [(.int (191 : Int32)), (.int (y_1 &&& (255 : Int32)))])) _
                refine XS.icmpNo X0.here hx rfl (hb hby own_d2_196) rfl (tlt hc196_88).2.2.2 ?_
                show Steps p.tables e below (s₁.setTop (mkF m 199 #[.val (.ref a_o), .val (.int i_1), .val (.int t_1), .val (.int (y_0 &&& (255 : Int32))), .val (.int (1 : Int32)), .val (.int (128 : Int32)), .val (.int (191 : Int32)), .val (.int (y_1 &&& (255 : Int32))), .unset] [])) _
                refine XS.iconst X0.here hx rfl (hb hby own_d2_199) ?_
                show Steps p.tables e below (s₁.setTop (mkF m 200 #[.val (.ref a_o), .val (.int i_1), .val (.int t_1), .val (.int (y_0 &&& (255 : Int32))), .val (.int (1 : Int32)), .val (.int (128 : Int32)), .val (.int (191 : Int32)), .val (.int (y_1 &&& (255 : Int32))), .unset] [(.int (0 : Int32))])) _
                exact retI X0 hx Bd.returns (hb hby own_d2_200) hr
              · show Qown_u Z a_o i_1 t_1 av k_a vs y_0 y_1 y_2 y_3 h0 n0 _ s₁.heap _
                rw [e0]
                have hv : (own_u_f y_0 y_1 y_2 y_3 av) = (0 : Int32) := by unfold own_u_f; rw [if_neg hc22_16, if_neg hc35_41, if_pos hc48_53, if_pos hc164_65, if_neg hc189_81, if_pos hc196_88]
                exact ⟨(by rw [hv]), N0, rfl⟩
            · obtain ⟨fs, hr, hrun, hended, hW, hsame⟩ := X0.leave (v := some (.int (2 : Int32))) (fun h => by rw [Bd.returns] at h; cases h) (hlocks := BodyLoose.notSynchronized Bd)
              refine ⟨_, _, pre87 _ ?_, hrun, hended, _, _, rfl, ?_, ⟨_, rfl⟩, hW, hsame.mono (by decide) (by decide)⟩
              · show Steps p.tables e below (s₁.setTop (mkF m 196 #[.val (.ref a_o), .val (.int i_1), .val (.int t_1), .val (.int (y_0 &&& (255 : Int32))), .val (.int (1 : Int32)), .val (.int (128 : Int32)), .val (.int (191 : Int32)), .val (.int (y_1 &&& (255 : Int32))), .unset] [(.int (191 : Int32)), (.int (y_1 &&& (255 : Int32)))])) _
                refine XS.icmpYes X0.here hx rfl (pc0 := 196) (pc' := 201) rfl (hb hby own_d2_196) rfl (flt hc196_88).2.2.2 (by decide) (by decide) ?_
                show Steps p.tables e below (s₁.setTop (mkF m 201 #[.val (.ref a_o), .val (.int i_1), .val (.int t_1), .val (.int (y_0 &&& (255 : Int32))), .val (.int (1 : Int32)), .val (.int (128 : Int32)), .val (.int (191 : Int32)), .val (.int (y_1 &&& (255 : Int32))), .unset] [])) _
                refine XS.iconst X0.here hx rfl (hb hby own_d2_201) ?_
                show Steps p.tables e below (s₁.setTop (mkF m 202 #[.val (.ref a_o), .val (.int i_1), .val (.int t_1), .val (.int (y_0 &&& (255 : Int32))), .val (.int (1 : Int32)), .val (.int (128 : Int32)), .val (.int (191 : Int32)), .val (.int (y_1 &&& (255 : Int32))), .unset] [(.int (2 : Int32))])) _
                refine XS.istore X0.here hx rfl (hb hby own_d2_202) rfl (l' := #[.val (.ref a_o), .val (.int i_1), .val (.int t_1), .val (.int (y_0 &&& (255 : Int32))), .val (.int (1 : Int32)), .val (.int (128 : Int32)), .val (.int (191 : Int32)), .val (.int (y_1 &&& (255 : Int32))), .val (.int (2 : Int32))]) rfl ?_
                show Steps p.tables e below (s₁.setTop (mkF m 204 #[.val (.ref a_o), .val (.int i_1), .val (.int t_1), .val (.int (y_0 &&& (255 : Int32))), .val (.int (1 : Int32)), .val (.int (128 : Int32)), .val (.int (191 : Int32)), .val (.int (y_1 &&& (255 : Int32))), .val (.int (2 : Int32))] [])) _
                refine XS.iload X0.here hx rfl (hb hby own_d2_204) rfl ?_
                show Steps p.tables e below (s₁.setTop (mkF m 206 #[.val (.ref a_o), .val (.int i_1), .val (.int t_1), .val (.int (y_0 &&& (255 : Int32))), .val (.int (1 : Int32)), .val (.int (128 : Int32)), .val (.int (191 : Int32)), .val (.int (y_1 &&& (255 : Int32))), .val (.int (2 : Int32))] [(.int (2 : Int32))])) _
                refine XS.iload X0.here hx rfl (hb hby own_d2_206) rfl ?_
                show Steps p.tables e below (s₁.setTop (mkF m 208 #[.val (.ref a_o), .val (.int i_1), .val (.int t_1), .val (.int (y_0 &&& (255 : Int32))), .val (.int (1 : Int32)), .val (.int (128 : Int32)), .val (.int (191 : Int32)), .val (.int (y_1 &&& (255 : Int32))), .val (.int (2 : Int32))] [(.int (1 : Int32)), (.int (2 : Int32))])) _
                refine XS.icmpYes X0.here hx rfl (pc0 := 208) (pc' := 235) rfl (hb hby own_d2_208) rfl (tlt ((by decide) : (1 : Int32) < (2 : Int32))).2.2.1 (by decide) (by decide) ?_
                show Steps p.tables e below (s₁.setTop (mkF m 235 #[.val (.ref a_o), .val (.int i_1), .val (.int t_1), .val (.int (y_0 &&& (255 : Int32))), .val (.int (1 : Int32)), .val (.int (128 : Int32)), .val (.int (191 : Int32)), .val (.int (y_1 &&& (255 : Int32))), .val (.int (2 : Int32))] [])) _
                refine XS.iload X0.here hx rfl (hb hby own_d2_235) rfl ?_
                show Steps p.tables e below (s₁.setTop (mkF m 237 #[.val (.ref a_o), .val (.int i_1), .val (.int t_1), .val (.int (y_0 &&& (255 : Int32))), .val (.int (1 : Int32)), .val (.int (128 : Int32)), .val (.int (191 : Int32)), .val (.int (y_1 &&& (255 : Int32))), .val (.int (2 : Int32))] [(.int (1 : Int32))])) _
                refine XS.iconst X0.here hx rfl (hb hby own_d2_237) ?_
                show Steps p.tables e below (s₁.setTop (mkF m 238 #[.val (.ref a_o), .val (.int i_1), .val (.int t_1), .val (.int (y_0 &&& (255 : Int32))), .val (.int (1 : Int32)), .val (.int (128 : Int32)), .val (.int (191 : Int32)), .val (.int (y_1 &&& (255 : Int32))), .val (.int (2 : Int32))] [(.int (1 : Int32)), (.int (1 : Int32))])) _
                refine XS.iadd X0.here hx rfl (hb hby own_d2_238) rfl ?_
                show Steps p.tables e below (s₁.setTop (mkF m 239 #[.val (.ref a_o), .val (.int i_1), .val (.int t_1), .val (.int (y_0 &&& (255 : Int32))), .val (.int (1 : Int32)), .val (.int (128 : Int32)), .val (.int (191 : Int32)), .val (.int (y_1 &&& (255 : Int32))), .val (.int (2 : Int32))] [(.int (2 : Int32))])) _
                exact retI X0 hx Bd.returns (hb hby own_d2_239) hr
              · show Qown_u Z a_o i_1 t_1 av k_a vs y_0 y_1 y_2 y_3 h0 n0 _ s₁.heap _
                rw [e0]
                have hv : (own_u_f y_0 y_1 y_2 y_3 av) = (2 : Int32) := by unfold own_u_f; rw [if_neg hc22_16, if_neg hc35_41, if_pos hc48_53, if_pos hc164_65, if_neg hc189_81, if_neg hc196_88]
                exact ⟨(by rw [hv]), N0, rfl⟩
        · obtain ⟨fs, hr, hrun, hended, hW, hsame⟩ := X0.leave (v := some (.int (0 : Int32))) (fun h => by rw [Bd.returns] at h; cases h) (hlocks := BodyLoose.notSynchronized Bd)
          refine ⟨_, _, pre64 _ ?_, hrun, hended, _, _, rfl, ?_, ⟨_, rfl⟩, hW, hsame.mono (by decide) (by decide)⟩
          · show Steps p.tables e below (s₁.setTop (mkF m 164 #[.val (.ref a_o), .val (.int i_1), .val (.int t_1), .val (.int (y_0 &&& (255 : Int32))), .val (.int (1 : Int32)), .val (.int (128 : Int32)), .val (.int (191 : Int32)), .unset, .unset] [(.int (1 : Int32)), (.int av)])) _
            refine XS.icmpNo X0.here hx rfl (hb hby own_d2_164) rfl (flt hc164_65).2.2.1 ?_
            show Steps p.tables e below (s₁.setTop (mkF m 167 #[.val (.ref a_o), .val (.int i_1), .val (.int t_1), .val (.int (y_0 &&& (255 : Int32))), .val (.int (1 : Int32)), .val (.int (128 : Int32)), .val (.int (191 : Int32)), .unset, .unset] [])) _
            refine XS.iconst X0.here hx rfl (hb hby own_d2_167) ?_
            show Steps p.tables e below (s₁.setTop (mkF m 168 #[.val (.ref a_o), .val (.int i_1), .val (.int t_1), .val (.int (y_0 &&& (255 : Int32))), .val (.int (1 : Int32)), .val (.int (128 : Int32)), .val (.int (191 : Int32)), .unset, .unset] [(.int (0 : Int32))])) _
            exact retI X0 hx Bd.returns (hb hby own_d2_168) hr
          · show Qown_u Z a_o i_1 t_1 av k_a vs y_0 y_1 y_2 y_3 h0 n0 _ s₁.heap _
            rw [e0]
            have hv : (own_u_f y_0 y_1 y_2 y_3 av) = (0 : Int32) := by unfold own_u_f; rw [if_neg hc22_16, if_neg hc35_41, if_pos hc48_53, if_neg hc164_65]
            exact ⟨(by rw [hv]), N0, rfl⟩
      · have pre105 : ∀ t, Steps p.tables e below (s₁.setTop (mkF m 61 #[.val (.ref a_o), .val (.int i_1), .val (.int t_1), .val (.int (y_0 &&& (255 : Int32))), .unset, .val (.int (128 : Int32)), .val (.int (191 : Int32)), .unset, .unset] [(.int (240 : Int32)), (.int (y_0 &&& (255 : Int32)))])) t → Steps p.tables e below (s₁.setTop (entryFrame m #[(.ref a_o), (.int i_1), (.int t_1)] 9)) t := by
          intro t kt
          refine pre52 _ ?_
          show Steps p.tables e below (s₁.setTop (mkF m 48 #[.val (.ref a_o), .val (.int i_1), .val (.int t_1), .val (.int (y_0 &&& (255 : Int32))), .unset, .val (.int (128 : Int32)), .val (.int (191 : Int32)), .unset, .unset] [(.int (224 : Int32)), (.int (y_0 &&& (255 : Int32)))])) _
          refine XS.icmpYes X0.here hx rfl (pc0 := 48) (pc' := 57) rfl (hb hby own_d2_48) rfl (flt hc48_53).2.1 (by decide) (by decide) ?_
          show Steps p.tables e below (s₁.setTop (mkF m 57 #[.val (.ref a_o), .val (.int i_1), .val (.int t_1), .val (.int (y_0 &&& (255 : Int32))), .unset, .val (.int (128 : Int32)), .val (.int (191 : Int32)), .unset, .unset] [])) _
          refine XS.iloadN X0.here hx rfl (hb hby own_d2_57) rfl ?_
          show Steps p.tables e below (s₁.setTop (mkF m 58 #[.val (.ref a_o), .val (.int i_1), .val (.int t_1), .val (.int (y_0 &&& (255 : Int32))), .unset, .val (.int (128 : Int32)), .val (.int (191 : Int32)), .unset, .unset] [(.int (y_0 &&& (255 : Int32)))])) _
          refine XS.sipush X0.here hx rfl (hb hby own_d2_58) ?_
          exact kt
        by_cases hc61_106 : (y_0 &&& (255 : Int32)) < (240 : Int32)
        · have pre112 : ∀ t, Steps p.tables e below (s₁.setTop (mkF m 71 #[.val (.ref a_o), .val (.int i_1), .val (.int t_1), .val (.int (y_0 &&& (255 : Int32))), .val (.int (2 : Int32)), .val (.int (128 : Int32)), .val (.int (191 : Int32)), .unset, .unset] [(.int (224 : Int32)), (.int (y_0 &&& (255 : Int32)))])) t → Steps p.tables e below (s₁.setTop (entryFrame m #[(.ref a_o), (.int i_1), (.int t_1)] 9)) t := by
            intro t kt
            refine pre105 _ ?_
            show Steps p.tables e below (s₁.setTop (mkF m 61 #[.val (.ref a_o), .val (.int i_1), .val (.int t_1), .val (.int (y_0 &&& (255 : Int32))), .unset, .val (.int (128 : Int32)), .val (.int (191 : Int32)), .unset, .unset] [(.int (240 : Int32)), (.int (y_0 &&& (255 : Int32)))])) _
            refine XS.icmpNo X0.here hx rfl (hb hby own_d2_61) rfl (tlt hc61_106).2.1 ?_
            show Steps p.tables e below (s₁.setTop (mkF m 64 #[.val (.ref a_o), .val (.int i_1), .val (.int t_1), .val (.int (y_0 &&& (255 : Int32))), .unset, .val (.int (128 : Int32)), .val (.int (191 : Int32)), .unset, .unset] [])) _
            refine XS.iconst X0.here hx rfl (hb hby own_d2_64) ?_
            show Steps p.tables e below (s₁.setTop (mkF m 65 #[.val (.ref a_o), .val (.int i_1), .val (.int t_1), .val (.int (y_0 &&& (255 : Int32))), .unset, .val (.int (128 : Int32)), .val (.int (191 : Int32)), .unset, .unset] [(.int (2 : Int32))])) _
            refine XS.istore X0.here hx rfl (hb hby own_d2_65) rfl (l' := #[.val (.ref a_o), .val (.int i_1), .val (.int t_1), .val (.int (y_0 &&& (255 : Int32))), .val (.int (2 : Int32)), .val (.int (128 : Int32)), .val (.int (191 : Int32)), .unset, .unset]) rfl ?_
            show Steps p.tables e below (s₁.setTop (mkF m 67 #[.val (.ref a_o), .val (.int i_1), .val (.int t_1), .val (.int (y_0 &&& (255 : Int32))), .val (.int (2 : Int32)), .val (.int (128 : Int32)), .val (.int (191 : Int32)), .unset, .unset] [])) _
            refine XS.iloadN X0.here hx rfl (hb hby own_d2_67) rfl ?_
            show Steps p.tables e below (s₁.setTop (mkF m 68 #[.val (.ref a_o), .val (.int i_1), .val (.int t_1), .val (.int (y_0 &&& (255 : Int32))), .val (.int (2 : Int32)), .val (.int (128 : Int32)), .val (.int (191 : Int32)), .unset, .unset] [(.int (y_0 &&& (255 : Int32)))])) _
            refine XS.sipush X0.here hx rfl (hb hby own_d2_68) ?_
            exact kt
          by_cases hc71_113 : (y_0 &&& (255 : Int32)) = (224 : Int32)
          · have pre120 : ∀ t, Steps p.tables e below (s₁.setTop (mkF m 88 #[.val (.ref a_o), .val (.int i_1), .val (.int t_1), .val (.int (y_0 &&& (255 : Int32))), .val (.int (2 : Int32)), .val (.int (160 : Int32)), .val (.int (191 : Int32)), .unset, .unset] [(.int (237 : Int32)), (.int (y_0 &&& (255 : Int32)))])) t → Steps p.tables e below (s₁.setTop (entryFrame m #[(.ref a_o), (.int i_1), (.int t_1)] 9)) t := by
              intro t kt
              refine pre112 _ ?_
              show Steps p.tables e below (s₁.setTop (mkF m 71 #[.val (.ref a_o), .val (.int i_1), .val (.int t_1), .val (.int (y_0 &&& (255 : Int32))), .val (.int (2 : Int32)), .val (.int (128 : Int32)), .val (.int (191 : Int32)), .unset, .unset] [(.int (224 : Int32)), (.int (y_0 &&& (255 : Int32)))])) _
              refine XS.icmpNo X0.here hx rfl (hb hby own_d2_71) rfl (teq hc71_113).2 ?_
              show Steps p.tables e below (s₁.setTop (mkF m 74 #[.val (.ref a_o), .val (.int i_1), .val (.int t_1), .val (.int (y_0 &&& (255 : Int32))), .val (.int (2 : Int32)), .val (.int (128 : Int32)), .val (.int (191 : Int32)), .unset, .unset] [])) _
              refine XS.sipush X0.here hx rfl (hb hby own_d2_74) ?_
              show Steps p.tables e below (s₁.setTop (mkF m 77 #[.val (.ref a_o), .val (.int i_1), .val (.int t_1), .val (.int (y_0 &&& (255 : Int32))), .val (.int (2 : Int32)), .val (.int (128 : Int32)), .val (.int (191 : Int32)), .unset, .unset] [(.int (160 : Int32))])) _
              refine XS.goto X0.here hx rfl (pc0 := 77) (pc' := 82) rfl (hb hby own_d2_77) (by decide) (by decide) ?_
              show Steps p.tables e below (s₁.setTop (mkF m 82 #[.val (.ref a_o), .val (.int i_1), .val (.int t_1), .val (.int (y_0 &&& (255 : Int32))), .val (.int (2 : Int32)), .val (.int (128 : Int32)), .val (.int (191 : Int32)), .unset, .unset] [(.int (160 : Int32))])) _
              refine XS.istore X0.here hx rfl (hb hby own_d2_82) rfl (l' := #[.val (.ref a_o), .val (.int i_1), .val (.int t_1), .val (.int (y_0 &&& (255 : Int32))), .val (.int (2 : Int32)), .val (.int (160 : Int32)), .val (.int (191 : Int32)), .unset, .unset]) rfl ?_
              show Steps p.tables e below (s₁.setTop (mkF m 84 #[.val (.ref a_o), .val (.int i_1), .val (.int t_1), .val (.int (y_0 &&& (255 : Int32))), .val (.int (2 : Int32)), .val (.int (160 : Int32)), .val (.int (191 : Int32)), .unset, .unset] [])) _
              refine XS.iloadN X0.here hx rfl (hb hby own_d2_84) rfl ?_
              show Steps p.tables e below (s₁.setTop (mkF m 85 #[.val (.ref a_o), .val (.int i_1), .val (.int t_1), .val (.int (y_0 &&& (255 : Int32))), .val (.int (2 : Int32)), .val (.int (160 : Int32)), .val (.int (191 : Int32)), .unset, .unset] [(.int (y_0 &&& (255 : Int32)))])) _
              refine XS.sipush X0.here hx rfl (hb hby own_d2_85) ?_
              exact kt
            by_cases hc88_121 : (y_0 &&& (255 : Int32)) = (237 : Int32)
            · exact absurd (hc71_113.symm.trans hc88_121) (by decide)
            · have pre132 : ∀ t, Steps p.tables e below (s₁.setTop (mkF m 164 #[.val (.ref a_o), .val (.int i_1), .val (.int t_1), .val (.int (y_0 &&& (255 : Int32))), .val (.int (2 : Int32)), .val (.int (160 : Int32)), .val (.int (191 : Int32)), .unset, .unset] [(.int (2 : Int32)), (.int av)])) t → Steps p.tables e below (s₁.setTop (entryFrame m #[(.ref a_o), (.int i_1), (.int t_1)] 9)) t := by
                intro t kt
                refine pre120 _ ?_
                show Steps p.tables e below (s₁.setTop (mkF m 88 #[.val (.ref a_o), .val (.int i_1), .val (.int t_1), .val (.int (y_0 &&& (255 : Int32))), .val (.int (2 : Int32)), .val (.int (160 : Int32)), .val (.int (191 : Int32)), .unset, .unset] [(.int (237 : Int32)), (.int (y_0 &&& (255 : Int32)))])) _
                refine XS.icmpYes X0.here hx rfl (pc0 := 88) (pc' := 97) rfl (hb hby own_d2_88) rfl (feq hc88_121).2 (by decide) (by decide) ?_
                show Steps p.tables e below (s₁.setTop (mkF m 97 #[.val (.ref a_o), .val (.int i_1), .val (.int t_1), .val (.int (y_0 &&& (255 : Int32))), .val (.int (2 : Int32)), .val (.int (160 : Int32)), .val (.int (191 : Int32)), .unset, .unset] [])) _
                refine XS.iload X0.here hx rfl (hb hby own_d2_97) rfl ?_
                show Steps p.tables e below (s₁.setTop (mkF m 99 #[.val (.ref a_o), .val (.int i_1), .val (.int t_1), .val (.int (y_0 &&& (255 : Int32))), .val (.int (2 : Int32)), .val (.int (160 : Int32)), .val (.int (191 : Int32)), .unset, .unset] [(.int (191 : Int32))])) _
                refine XS.istore X0.here hx rfl (hb hby own_d2_99) rfl (l' := #[.val (.ref a_o), .val (.int i_1), .val (.int t_1), .val (.int (y_0 &&& (255 : Int32))), .val (.int (2 : Int32)), .val (.int (160 : Int32)), .val (.int (191 : Int32)), .unset, .unset]) rfl ?_
                show Steps p.tables e below (s₁.setTop (mkF m 101 #[.val (.ref a_o), .val (.int i_1), .val (.int t_1), .val (.int (y_0 &&& (255 : Int32))), .val (.int (2 : Int32)), .val (.int (160 : Int32)), .val (.int (191 : Int32)), .unset, .unset] [])) _
                refine XS.goto X0.here hx rfl (pc0 := 101) (pc' := 154) rfl (hb hby own_d2_101) (by decide) (by decide) ?_
                show Steps p.tables e below (s₁.setTop (mkF m 154 #[.val (.ref a_o), .val (.int i_1), .val (.int t_1), .val (.int (y_0 &&& (255 : Int32))), .val (.int (2 : Int32)), .val (.int (160 : Int32)), .val (.int (191 : Int32)), .unset, .unset] [])) _
                refine XS.iload X0.here hx rfl (hb hby own_d2_154) rfl ?_
                show Steps p.tables e below (s₁.setTop (mkF m 156 #[.val (.ref a_o), .val (.int i_1), .val (.int t_1), .val (.int (y_0 &&& (255 : Int32))), .val (.int (2 : Int32)), .val (.int (160 : Int32)), .val (.int (191 : Int32)), .unset, .unset] [(.int (2 : Int32))])) _
                refine XS.ifNo X0.here hx rfl (hb hby own_d2_156) rfl ((if0 _ _).trans (flt ((by decide) : ¬ ((2 : Int32) < (0 : Int32)))).1) ?_
                show Steps p.tables e below (s₁.setTop (mkF m 159 #[.val (.ref a_o), .val (.int i_1), .val (.int t_1), .val (.int (y_0 &&& (255 : Int32))), .val (.int (2 : Int32)), .val (.int (160 : Int32)), .val (.int (191 : Int32)), .unset, .unset] [])) _
                refine XS.iloadN X0.here hx rfl (hb hby own_d2_159) rfl ?_
                show Steps p.tables e below (s₁.setTop (mkF m 160 #[.val (.ref a_o), .val (.int i_1), .val (.int t_1), .val (.int (y_0 &&& (255 : Int32))), .val (.int (2 : Int32)), .val (.int (160 : Int32)), .val (.int (191 : Int32)), .unset, .unset] [(.int t_1)])) _
                refine XS.iloadN X0.here hx rfl (hb hby own_d2_160) rfl ?_
                show Steps p.tables e below (s₁.setTop (mkF m 161 #[.val (.ref a_o), .val (.int i_1), .val (.int t_1), .val (.int (y_0 &&& (255 : Int32))), .val (.int (2 : Int32)), .val (.int (160 : Int32)), .val (.int (191 : Int32)), .unset, .unset] [(.int i_1), (.int t_1)])) _
                refine XS.isub X0.here hx rfl (hb hby own_d2_161) rfl ?_
                rw [ht]
                show Steps p.tables e below (s₁.setTop (mkF m 162 #[.val (.ref a_o), .val (.int i_1), .val (.int t_1), .val (.int (y_0 &&& (255 : Int32))), .val (.int (2 : Int32)), .val (.int (160 : Int32)), .val (.int (191 : Int32)), .unset, .unset] [(.int av)])) _
                refine XS.iload X0.here hx rfl (hb hby own_d2_162) rfl ?_
                exact kt
              by_cases hc164_133 : (2 : Int32) < av
              · obtain ⟨cl141, Ar141, q141, S141, M141, H141, G141⟩ := id V_a
                have hin141 : ¬ ((i_1 + (1 : Int32)) < 0 ∨ cl141.slots.size ≤ ((i_1 + (1 : Int32))).toNatClampNeg) := inb_of S141 hi_1
                have hat141 : cl141.slots[((i_1 + (1 : Int32))).toNatClampNeg]? = some (.int y_1) := H141.at hin141 hg_1
                have pre148 : ∀ t, Steps p.tables e below (s₁.setTop (mkF m 189 #[.val (.ref a_o), .val (.int i_1), .val (.int t_1), .val (.int (y_0 &&& (255 : Int32))), .val (.int (2 : Int32)), .val (.int (160 : Int32)), .val (.int (191 : Int32)), .val (.int (y_1 &&& (255 : Int32))), .unset] [(.int (160 : Int32)), (.int (y_1 &&& (255 : Int32)))])) t → Steps p.tables e below (s₁.setTop (entryFrame m #[(.ref a_o), (.int i_1), (.int t_1)] 9)) t := by
                  intro t kt
                  refine pre132 _ ?_
                  show Steps p.tables e below (s₁.setTop (mkF m 164 #[.val (.ref a_o), .val (.int i_1), .val (.int t_1), .val (.int (y_0 &&& (255 : Int32))), .val (.int (2 : Int32)), .val (.int (160 : Int32)), .val (.int (191 : Int32)), .unset, .unset] [(.int (2 : Int32)), (.int av)])) _
                  refine XS.icmpYes X0.here hx rfl (pc0 := 164) (pc' := 169) rfl (hb hby own_d2_164) rfl (tlt hc164_133).2.2.1 (by decide) (by decide) ?_
                  show Steps p.tables e below (s₁.setTop (mkF m 169 #[.val (.ref a_o), .val (.int i_1), .val (.int t_1), .val (.int (y_0 &&& (255 : Int32))), .val (.int (2 : Int32)), .val (.int (160 : Int32)), .val (.int (191 : Int32)), .unset, .unset] [])) _
                  refine XS.iload X0.here hx rfl (hb hby own_d2_169) rfl ?_
                  show Steps p.tables e below (s₁.setTop (mkF m 171 #[.val (.ref a_o), .val (.int i_1), .val (.int t_1), .val (.int (y_0 &&& (255 : Int32))), .val (.int (2 : Int32)), .val (.int (160 : Int32)), .val (.int (191 : Int32)), .unset, .unset] [(.int (2 : Int32))])) _
                  refine XS.ifNo X0.here hx rfl (hb hby own_d2_171) rfl ((if0 _ _).trans (tlt ((by decide) : (0 : Int32) < (2 : Int32))).2.2.2) ?_
                  show Steps p.tables e below (s₁.setTop (mkF m 174 #[.val (.ref a_o), .val (.int i_1), .val (.int t_1), .val (.int (y_0 &&& (255 : Int32))), .val (.int (2 : Int32)), .val (.int (160 : Int32)), .val (.int (191 : Int32)), .unset, .unset] [])) _
                  refine XS.aloadN X0.here hx rfl (hb hby own_d2_174) rfl rfl ?_
                  show Steps p.tables e below (s₁.setTop (mkF m 175 #[.val (.ref a_o), .val (.int i_1), .val (.int t_1), .val (.int (y_0 &&& (255 : Int32))), .val (.int (2 : Int32)), .val (.int (160 : Int32)), .val (.int (191 : Int32)), .unset, .unset] [(.ref a_o)])) _
                  refine XS.iloadN X0.here hx rfl (hb hby own_d2_175) rfl ?_
                  show Steps p.tables e below (s₁.setTop (mkF m 176 #[.val (.ref a_o), .val (.int i_1), .val (.int t_1), .val (.int (y_0 &&& (255 : Int32))), .val (.int (2 : Int32)), .val (.int (160 : Int32)), .val (.int (191 : Int32)), .unset, .unset] [(.int i_1), (.ref a_o)])) _
                  refine XS.iconst X0.here hx rfl (hb hby own_d2_176) ?_
                  show Steps p.tables e below (s₁.setTop (mkF m 177 #[.val (.ref a_o), .val (.int i_1), .val (.int t_1), .val (.int (y_0 &&& (255 : Int32))), .val (.int (2 : Int32)), .val (.int (160 : Int32)), .val (.int (191 : Int32)), .unset, .unset] [(.int (1 : Int32)), (.int i_1), (.ref a_o)])) _
                  refine XS.iadd X0.here hx rfl (hb hby own_d2_177) rfl ?_
                  show Steps p.tables e below (s₁.setTop (mkF m 178 #[.val (.ref a_o), .val (.int i_1), .val (.int t_1), .val (.int (y_0 &&& (255 : Int32))), .val (.int (2 : Int32)), .val (.int (160 : Int32)), .val (.int (191 : Int32)), .unset, .unset] [(.int (i_1 + (1 : Int32))), (.ref a_o)])) _
                  refine X0.baloadBytes hx (j := (i_1 + (1 : Int32))) (v := (.int y_1)) (by rw [e0]; exact Ar141.1) (State.isArrayOf_alike hZ.alike Ar141.2.1) Ar141.2.2 hin141 hat141 (g := (mkF m 178 #[.val (.ref a_o), .val (.int i_1), .val (.int t_1), .val (.int (y_0 &&& (255 : Int32))), .val (.int (2 : Int32)), .val (.int (160 : Int32)), .val (.int (191 : Int32)), .unset, .unset] [(.int (i_1 + (1 : Int32))), (.ref a_o)])) rfl rfl (hb hby own_d2_178) _ ?_
                  show Steps p.tables e below (s₁.setTop (mkF m 179 #[.val (.ref a_o), .val (.int i_1), .val (.int t_1), .val (.int (y_0 &&& (255 : Int32))), .val (.int (2 : Int32)), .val (.int (160 : Int32)), .val (.int (191 : Int32)), .unset, .unset] [(.int y_1)])) _
                  refine XS.sipush X0.here hx rfl (hb hby own_d2_179) ?_
                  show Steps p.tables e below (s₁.setTop (mkF m 182 #[.val (.ref a_o), .val (.int i_1), .val (.int t_1), .val (.int (y_0 &&& (255 : Int32))), .val (.int (2 : Int32)), .val (.int (160 : Int32)), .val (.int (191 : Int32)), .unset, .unset] [(.int (255 : Int32)), (.int y_1)])) _
                  refine XS.iand X0.here hx rfl (hb hby own_d2_182) rfl ?_
                  show Steps p.tables e below (s₁.setTop (mkF m 183 #[.val (.ref a_o), .val (.int i_1), .val (.int t_1), .val (.int (y_0 &&& (255 : Int32))), .val (.int (2 : Int32)), .val (.int (160 : Int32)), .val (.int (191 : Int32)), .unset, .unset] [(.int (y_1 &&& (255 : Int32)))])) _
                  refine XS.istore X0.here hx rfl (hb hby own_d2_183) rfl (l' := #[.val (.ref a_o), .val (.int i_1), .val (.int t_1), .val (.int (y_0 &&& (255 : Int32))), .val (.int (2 : Int32)), .val (.int (160 : Int32)), .val (.int (191 : Int32)), .val (.int (y_1 &&& (255 : Int32))), .unset]) rfl ?_
                  show Steps p.tables e below (s₁.setTop (mkF m 185 #[.val (.ref a_o), .val (.int i_1), .val (.int t_1), .val (.int (y_0 &&& (255 : Int32))), .val (.int (2 : Int32)), .val (.int (160 : Int32)), .val (.int (191 : Int32)), .val (.int (y_1 &&& (255 : Int32))), .unset] [])) _
                  refine XS.iload X0.here hx rfl (hb hby own_d2_185) rfl ?_
                  show Steps p.tables e below (s₁.setTop (mkF m 187 #[.val (.ref a_o), .val (.int i_1), .val (.int t_1), .val (.int (y_0 &&& (255 : Int32))), .val (.int (2 : Int32)), .val (.int (160 : Int32)), .val (.int (191 : Int32)), .val (.int (y_1 &&& (255 : Int32))), .unset] [(.int (y_1 &&& (255 : Int32)))])) _
                  refine XS.iload X0.here hx rfl (hb hby own_d2_187) rfl ?_
                  exact kt
                by_cases hc189_149 : (y_1 &&& (255 : Int32)) < (160 : Int32)
                · obtain ⟨fs, hr, hrun, hended, hW, hsame⟩ := X0.leave (v := some (.int (0 : Int32))) (fun h => by rw [Bd.returns] at h; cases h) (hlocks := BodyLoose.notSynchronized Bd)
                  refine ⟨_, _, pre148 _ ?_, hrun, hended, _, _, rfl, ?_, ⟨_, rfl⟩, hW, hsame.mono (by decide) (by decide)⟩
                  · show Steps p.tables e below (s₁.setTop (mkF m 189 #[.val (.ref a_o), .val (.int i_1), .val (.int t_1), .val (.int (y_0 &&& (255 : Int32))), .val (.int (2 : Int32)), .val (.int (160 : Int32)), .val (.int (191 : Int32)), .val (.int (y_1 &&& (255 : Int32))), .unset] [(.int (160 : Int32)), (.int (y_1 &&& (255 : Int32)))])) _
                    refine XS.icmpYes X0.here hx rfl (pc0 := 189) (pc' := 199) rfl (hb hby own_d2_189) rfl (tlt hc189_149).1 (by decide) (by decide) ?_
                    show Steps p.tables e below (s₁.setTop (mkF m 199 #[.val (.ref a_o), .val (.int i_1), .val (.int t_1), .val (.int (y_0 &&& (255 : Int32))), .val (.int (2 : Int32)), .val (.int (160 : Int32)), .val (.int (191 : Int32)), .val (.int (y_1 &&& (255 : Int32))), .unset] [])) _
                    refine XS.iconst X0.here hx rfl (hb hby own_d2_199) ?_
                    show Steps p.tables e below (s₁.setTop (mkF m 200 #[.val (.ref a_o), .val (.int i_1), .val (.int t_1), .val (.int (y_0 &&& (255 : Int32))), .val (.int (2 : Int32)), .val (.int (160 : Int32)), .val (.int (191 : Int32)), .val (.int (y_1 &&& (255 : Int32))), .unset] [(.int (0 : Int32))])) _
                    exact retI X0 hx Bd.returns (hb hby own_d2_200) hr
                  · show Qown_u Z a_o i_1 t_1 av k_a vs y_0 y_1 y_2 y_3 h0 n0 _ s₁.heap _
                    rw [e0]
                    have hv : (own_u_f y_0 y_1 y_2 y_3 av) = (0 : Int32) := by unfold own_u_f; rw [if_neg hc22_16, if_neg hc35_41, if_neg hc48_53, if_pos hc61_106, if_pos hc71_113, if_pos hc164_133, if_pos hc189_149]
                    exact ⟨(by rw [hv]), N0, rfl⟩
                · have pre155 : ∀ t, Steps p.tables e below (s₁.setTop (mkF m 196 #[.val (.ref a_o), .val (.int i_1), .val (.int t_1), .val (.int (y_0 &&& (255 : Int32))), .val (.int (2 : Int32)), .val (.int (160 : Int32)), .val (.int (191 : Int32)), .val (.int (y_1 &&& (255 : Int32))), .unset] [(.int (191 : Int32)), (.int (y_1 &&& (255 : Int32)))])) t → Steps p.tables e below (s₁.setTop (entryFrame m #[(.ref a_o), (.int i_1), (.int t_1)] 9)) t := by
                    intro t kt
                    refine pre148 _ ?_
                    show Steps p.tables e below (s₁.setTop (mkF m 189 #[.val (.ref a_o), .val (.int i_1), .val (.int t_1), .val (.int (y_0 &&& (255 : Int32))), .val (.int (2 : Int32)), .val (.int (160 : Int32)), .val (.int (191 : Int32)), .val (.int (y_1 &&& (255 : Int32))), .unset] [(.int (160 : Int32)), (.int (y_1 &&& (255 : Int32)))])) _
                    refine XS.icmpNo X0.here hx rfl (hb hby own_d2_189) rfl (flt hc189_149).1 ?_
                    show Steps p.tables e below (s₁.setTop (mkF m 192 #[.val (.ref a_o), .val (.int i_1), .val (.int t_1), .val (.int (y_0 &&& (255 : Int32))), .val (.int (2 : Int32)), .val (.int (160 : Int32)), .val (.int (191 : Int32)), .val (.int (y_1 &&& (255 : Int32))), .unset] [])) _
                    refine XS.iload X0.here hx rfl (hb hby own_d2_192) rfl ?_
                    show Steps p.tables e below (s₁.setTop (mkF m 194 #[.val (.ref a_o), .val (.int i_1), .val (.int t_1), .val (.int (y_0 &&& (255 : Int32))), .val (.int (2 : Int32)), .val (.int (160 : Int32)), .val (.int (191 : Int32)), .val (.int (y_1 &&& (255 : Int32))), .unset] [(.int (y_1 &&& (255 : Int32)))])) _
                    refine XS.iload X0.here hx rfl (hb hby own_d2_194) rfl ?_
                    exact kt
                  by_cases hc196_156 : (191 : Int32) < (y_1 &&& (255 : Int32))
                  · obtain ⟨fs, hr, hrun, hended, hW, hsame⟩ := X0.leave (v := some (.int (0 : Int32))) (fun h => by rw [Bd.returns] at h; cases h) (hlocks := BodyLoose.notSynchronized Bd)
                    refine ⟨_, _, pre155 _ ?_, hrun, hended, _, _, rfl, ?_, ⟨_, rfl⟩, hW, hsame.mono (by decide) (by decide)⟩
                    · show Steps p.tables e below (s₁.setTop (mkF m 196 #[.val (.ref a_o), .val (.int i_1), .val (.int t_1), .val (.int (y_0 &&& (255 : Int32))), .val (.int (2 : Int32)), .val (.int (160 : Int32)), .val (.int (191 : Int32)), .val (.int (y_1 &&& (255 : Int32))), .unset] [(.int (191 : Int32)), (.int (y_1 &&& (255 : Int32)))])) _
                      refine XS.icmpNo X0.here hx rfl (hb hby own_d2_196) rfl (tlt hc196_156).2.2.2 ?_
                      show Steps p.tables e below (s₁.setTop (mkF m 199 #[.val (.ref a_o), .val (.int i_1), .val (.int t_1), .val (.int (y_0 &&& (255 : Int32))), .val (.int (2 : Int32)), .val (.int (160 : Int32)), .val (.int (191 : Int32)), .val (.int (y_1 &&& (255 : Int32))), .unset] [])) _
                      refine XS.iconst X0.here hx rfl (hb hby own_d2_199) ?_
                      show Steps p.tables e below (s₁.setTop (mkF m 200 #[.val (.ref a_o), .val (.int i_1), .val (.int t_1), .val (.int (y_0 &&& (255 : Int32))), .val (.int (2 : Int32)), .val (.int (160 : Int32)), .val (.int (191 : Int32)), .val (.int (y_1 &&& (255 : Int32))), .unset] [(.int (0 : Int32))])) _
                      exact retI X0 hx Bd.returns (hb hby own_d2_200) hr
                    · show Qown_u Z a_o i_1 t_1 av k_a vs y_0 y_1 y_2 y_3 h0 n0 _ s₁.heap _
                      rw [e0]
                      have hv : (own_u_f y_0 y_1 y_2 y_3 av) = (0 : Int32) := by unfold own_u_f; rw [if_neg hc22_16, if_neg hc35_41, if_neg hc48_53, if_pos hc61_106, if_pos hc71_113, if_pos hc164_133, if_neg hc189_149, if_pos hc196_156]
                      exact ⟨(by rw [hv]), N0, rfl⟩
                  · obtain ⟨cl169, Ar169, q169, S169, M169, H169, G169⟩ := id V_a
                    have hin169 : ¬ ((i_1 + (2 : Int32)) < 0 ∨ cl169.slots.size ≤ ((i_1 + (2 : Int32))).toNatClampNeg) := inb_of S169 hi_2
                    have hat169 : cl169.slots[((i_1 + (2 : Int32))).toNatClampNeg]? = some (.int y_2) := H169.at hin169 hg_2
                    have pre174 : ∀ t, Steps p.tables e below (s₁.setTop (mkF m 224 #[.val (.ref a_o), .val (.int i_1), .val (.int t_1), .val (.int (y_0 &&& (255 : Int32))), .val (.int (2 : Int32)), .val (.int (160 : Int32)), .val (.int (191 : Int32)), .val (.int (y_1 &&& (255 : Int32))), .val (.int (2 : Int32))] [(.int (128 : Int32)), (.int (y_2 &&& (192 : Int32)))])) t → Steps p.tables e below (s₁.setTop (entryFrame m #[(.ref a_o), (.int i_1), (.int t_1)] 9)) t := by
                      intro t kt
                      refine pre155 _ ?_
                      show Steps p.tables e below (s₁.setTop (mkF m 196 #[.val (.ref a_o), .val (.int i_1), .val (.int t_1), .val (.int (y_0 &&& (255 : Int32))), .val (.int (2 : Int32)), .val (.int (160 : Int32)), .val (.int (191 : Int32)), .val (.int (y_1 &&& (255 : Int32))), .unset] [(.int (191 : Int32)), (.int (y_1 &&& (255 : Int32)))])) _
                      refine XS.icmpYes X0.here hx rfl (pc0 := 196) (pc' := 201) rfl (hb hby own_d2_196) rfl (flt hc196_156).2.2.2 (by decide) (by decide) ?_
                      show Steps p.tables e below (s₁.setTop (mkF m 201 #[.val (.ref a_o), .val (.int i_1), .val (.int t_1), .val (.int (y_0 &&& (255 : Int32))), .val (.int (2 : Int32)), .val (.int (160 : Int32)), .val (.int (191 : Int32)), .val (.int (y_1 &&& (255 : Int32))), .unset] [])) _
                      refine XS.iconst X0.here hx rfl (hb hby own_d2_201) ?_
                      show Steps p.tables e below (s₁.setTop (mkF m 202 #[.val (.ref a_o), .val (.int i_1), .val (.int t_1), .val (.int (y_0 &&& (255 : Int32))), .val (.int (2 : Int32)), .val (.int (160 : Int32)), .val (.int (191 : Int32)), .val (.int (y_1 &&& (255 : Int32))), .unset] [(.int (2 : Int32))])) _
                      refine XS.istore X0.here hx rfl (hb hby own_d2_202) rfl (l' := #[.val (.ref a_o), .val (.int i_1), .val (.int t_1), .val (.int (y_0 &&& (255 : Int32))), .val (.int (2 : Int32)), .val (.int (160 : Int32)), .val (.int (191 : Int32)), .val (.int (y_1 &&& (255 : Int32))), .val (.int (2 : Int32))]) rfl ?_
                      show Steps p.tables e below (s₁.setTop (mkF m 204 #[.val (.ref a_o), .val (.int i_1), .val (.int t_1), .val (.int (y_0 &&& (255 : Int32))), .val (.int (2 : Int32)), .val (.int (160 : Int32)), .val (.int (191 : Int32)), .val (.int (y_1 &&& (255 : Int32))), .val (.int (2 : Int32))] [])) _
                      refine XS.iload X0.here hx rfl (hb hby own_d2_204) rfl ?_
                      show Steps p.tables e below (s₁.setTop (mkF m 206 #[.val (.ref a_o), .val (.int i_1), .val (.int t_1), .val (.int (y_0 &&& (255 : Int32))), .val (.int (2 : Int32)), .val (.int (160 : Int32)), .val (.int (191 : Int32)), .val (.int (y_1 &&& (255 : Int32))), .val (.int (2 : Int32))] [(.int (2 : Int32))])) _
                      refine XS.iload X0.here hx rfl (hb hby own_d2_206) rfl ?_
                      show Steps p.tables e below (s₁.setTop (mkF m 208 #[.val (.ref a_o), .val (.int i_1), .val (.int t_1), .val (.int (y_0 &&& (255 : Int32))), .val (.int (2 : Int32)), .val (.int (160 : Int32)), .val (.int (191 : Int32)), .val (.int (y_1 &&& (255 : Int32))), .val (.int (2 : Int32))] [(.int (2 : Int32)), (.int (2 : Int32))])) _
                      refine XS.icmpNo X0.here hx rfl (hb hby own_d2_208) rfl (flt ((by decide) : ¬ ((2 : Int32) < (2 : Int32)))).2.2.1 ?_
                      show Steps p.tables e below (s₁.setTop (mkF m 211 #[.val (.ref a_o), .val (.int i_1), .val (.int t_1), .val (.int (y_0 &&& (255 : Int32))), .val (.int (2 : Int32)), .val (.int (160 : Int32)), .val (.int (191 : Int32)), .val (.int (y_1 &&& (255 : Int32))), .val (.int (2 : Int32))] [])) _
                      refine XS.aloadN X0.here hx rfl (hb hby own_d2_211) rfl rfl ?_
                      show Steps p.tables e below (s₁.setTop (mkF m 212 #[.val (.ref a_o), .val (.int i_1), .val (.int t_1), .val (.int (y_0 &&& (255 : Int32))), .val (.int (2 : Int32)), .val (.int (160 : Int32)), .val (.int (191 : Int32)), .val (.int (y_1 &&& (255 : Int32))), .val (.int (2 : Int32))] [(.ref a_o)])) _
                      refine XS.iloadN X0.here hx rfl (hb hby own_d2_212) rfl ?_
                      show Steps p.tables e below (s₁.setTop (mkF m 213 #[.val (.ref a_o), .val (.int i_1), .val (.int t_1), .val (.int (y_0 &&& (255 : Int32))), .val (.int (2 : Int32)), .val (.int (160 : Int32)), .val (.int (191 : Int32)), .val (.int (y_1 &&& (255 : Int32))), .val (.int (2 : Int32))] [(.int i_1), (.ref a_o)])) _
                      refine XS.iload X0.here hx rfl (hb hby own_d2_213) rfl ?_
                      show Steps p.tables e below (s₁.setTop (mkF m 215 #[.val (.ref a_o), .val (.int i_1), .val (.int t_1), .val (.int (y_0 &&& (255 : Int32))), .val (.int (2 : Int32)), .val (.int (160 : Int32)), .val (.int (191 : Int32)), .val (.int (y_1 &&& (255 : Int32))), .val (.int (2 : Int32))] [(.int (2 : Int32)), (.int i_1), (.ref a_o)])) _
                      refine XS.iadd X0.here hx rfl (hb hby own_d2_215) rfl ?_
                      show Steps p.tables e below (s₁.setTop (mkF m 216 #[.val (.ref a_o), .val (.int i_1), .val (.int t_1), .val (.int (y_0 &&& (255 : Int32))), .val (.int (2 : Int32)), .val (.int (160 : Int32)), .val (.int (191 : Int32)), .val (.int (y_1 &&& (255 : Int32))), .val (.int (2 : Int32))] [(.int (i_1 + (2 : Int32))), (.ref a_o)])) _
                      refine X0.baloadBytes hx (j := (i_1 + (2 : Int32))) (v := (.int y_2)) (by rw [e0]; exact Ar169.1) (State.isArrayOf_alike hZ.alike Ar169.2.1) Ar169.2.2 hin169 hat169 (g := (mkF m 216 #[.val (.ref a_o), .val (.int i_1), .val (.int t_1), .val (.int (y_0 &&& (255 : Int32))), .val (.int (2 : Int32)), .val (.int (160 : Int32)), .val (.int (191 : Int32)), .val (.int (y_1 &&& (255 : Int32))), .val (.int (2 : Int32))] [(.int (i_1 + (2 : Int32))), (.ref a_o)])) rfl rfl (hb hby own_d2_216) _ ?_
                      show Steps p.tables e below (s₁.setTop (mkF m 217 #[.val (.ref a_o), .val (.int i_1), .val (.int t_1), .val (.int (y_0 &&& (255 : Int32))), .val (.int (2 : Int32)), .val (.int (160 : Int32)), .val (.int (191 : Int32)), .val (.int (y_1 &&& (255 : Int32))), .val (.int (2 : Int32))] [(.int y_2)])) _
                      refine XS.sipush X0.here hx rfl (hb hby own_d2_217) ?_
                      show Steps p.tables e below (s₁.setTop (mkF m 220 #[.val (.ref a_o), .val (.int i_1), .val (.int t_1), .val (.int (y_0 &&& (255 : Int32))), .val (.int (2 : Int32)), .val (.int (160 : Int32)), .val (.int (191 : Int32)), .val (.int (y_1 &&& (255 : Int32))), .val (.int (2 : Int32))] [(.int (192 : Int32)), (.int y_2)])) _
                      refine XS.iand X0.here hx rfl (hb hby own_d2_220) rfl ?_
                      show Steps p.tables e below (s₁.setTop (mkF m 221 #[.val (.ref a_o), .val (.int i_1), .val (.int t_1), .val (.int (y_0 &&& (255 : Int32))), .val (.int (2 : Int32)), .val (.int (160 : Int32)), .val (.int (191 : Int32)), .val (.int (y_1 &&& (255 : Int32))), .val (.int (2 : Int32))] [(.int (y_2 &&& (192 : Int32)))])) _
                      refine XS.sipush X0.here hx rfl (hb hby own_d2_221) ?_
                      exact kt
                    by_cases hc224_175 : (y_2 &&& (192 : Int32)) = (128 : Int32)
                    · obtain ⟨fs, hr, hrun, hended, hW, hsame⟩ := X0.leave (v := some (.int (3 : Int32))) (fun h => by rw [Bd.returns] at h; cases h) (hlocks := BodyLoose.notSynchronized Bd)
                      refine ⟨_, _, pre174 _ ?_, hrun, hended, _, _, rfl, ?_, ⟨_, rfl⟩, hW, hsame.mono (by decide) (by decide)⟩
                      · show Steps p.tables e below (s₁.setTop (mkF m 224 #[.val (.ref a_o), .val (.int i_1), .val (.int t_1), .val (.int (y_0 &&& (255 : Int32))), .val (.int (2 : Int32)), .val (.int (160 : Int32)), .val (.int (191 : Int32)), .val (.int (y_1 &&& (255 : Int32))), .val (.int (2 : Int32))] [(.int (128 : Int32)), (.int (y_2 &&& (192 : Int32)))])) _
                        refine XS.icmpYes X0.here hx rfl (pc0 := 224) (pc' := 229) rfl (hb hby own_d2_224) rfl (teq hc224_175).1 (by decide) (by decide) ?_
                        show Steps p.tables e below (s₁.setTop (mkF m 229 #[.val (.ref a_o), .val (.int i_1), .val (.int t_1), .val (.int (y_0 &&& (255 : Int32))), .val (.int (2 : Int32)), .val (.int (160 : Int32)), .val (.int (191 : Int32)), .val (.int (y_1 &&& (255 : Int32))), .val (.int (2 : Int32))] [])) _
                        refine XS.iinc X0.here hx rfl (hb hby own_d2_229) rfl (l' := #[.val (.ref a_o), .val (.int i_1), .val (.int t_1), .val (.int (y_0 &&& (255 : Int32))), .val (.int (2 : Int32)), .val (.int (160 : Int32)), .val (.int (191 : Int32)), .val (.int (y_1 &&& (255 : Int32))), .val (.int (3 : Int32))]) rfl ?_
                        show Steps p.tables e below (s₁.setTop (mkF m 232 #[.val (.ref a_o), .val (.int i_1), .val (.int t_1), .val (.int (y_0 &&& (255 : Int32))), .val (.int (2 : Int32)), .val (.int (160 : Int32)), .val (.int (191 : Int32)), .val (.int (y_1 &&& (255 : Int32))), .val (.int (3 : Int32))] [])) _
                        refine XS.goto X0.here hx rfl (pc0 := 232) (pc' := 204) rfl (hb hby own_d2_232) (by decide) (by decide) ?_
                        show Steps p.tables e below (s₁.setTop (mkF m 204 #[.val (.ref a_o), .val (.int i_1), .val (.int t_1), .val (.int (y_0 &&& (255 : Int32))), .val (.int (2 : Int32)), .val (.int (160 : Int32)), .val (.int (191 : Int32)), .val (.int (y_1 &&& (255 : Int32))), .val (.int (3 : Int32))] [])) _
                        refine XS.iload X0.here hx rfl (hb hby own_d2_204) rfl ?_
                        show Steps p.tables e below (s₁.setTop (mkF m 206 #[.val (.ref a_o), .val (.int i_1), .val (.int t_1), .val (.int (y_0 &&& (255 : Int32))), .val (.int (2 : Int32)), .val (.int (160 : Int32)), .val (.int (191 : Int32)), .val (.int (y_1 &&& (255 : Int32))), .val (.int (3 : Int32))] [(.int (3 : Int32))])) _
                        refine XS.iload X0.here hx rfl (hb hby own_d2_206) rfl ?_
                        show Steps p.tables e below (s₁.setTop (mkF m 208 #[.val (.ref a_o), .val (.int i_1), .val (.int t_1), .val (.int (y_0 &&& (255 : Int32))), .val (.int (2 : Int32)), .val (.int (160 : Int32)), .val (.int (191 : Int32)), .val (.int (y_1 &&& (255 : Int32))), .val (.int (3 : Int32))] [(.int (2 : Int32)), (.int (3 : Int32))])) _
                        refine XS.icmpYes X0.here hx rfl (pc0 := 208) (pc' := 235) rfl (hb hby own_d2_208) rfl (tlt ((by decide) : (2 : Int32) < (3 : Int32))).2.2.1 (by decide) (by decide) ?_
                        show Steps p.tables e below (s₁.setTop (mkF m 235 #[.val (.ref a_o), .val (.int i_1), .val (.int t_1), .val (.int (y_0 &&& (255 : Int32))), .val (.int (2 : Int32)), .val (.int (160 : Int32)), .val (.int (191 : Int32)), .val (.int (y_1 &&& (255 : Int32))), .val (.int (3 : Int32))] [])) _
                        refine XS.iload X0.here hx rfl (hb hby own_d2_235) rfl ?_
                        show Steps p.tables e below (s₁.setTop (mkF m 237 #[.val (.ref a_o), .val (.int i_1), .val (.int t_1), .val (.int (y_0 &&& (255 : Int32))), .val (.int (2 : Int32)), .val (.int (160 : Int32)), .val (.int (191 : Int32)), .val (.int (y_1 &&& (255 : Int32))), .val (.int (3 : Int32))] [(.int (2 : Int32))])) _
                        refine XS.iconst X0.here hx rfl (hb hby own_d2_237) ?_
                        show Steps p.tables e below (s₁.setTop (mkF m 238 #[.val (.ref a_o), .val (.int i_1), .val (.int t_1), .val (.int (y_0 &&& (255 : Int32))), .val (.int (2 : Int32)), .val (.int (160 : Int32)), .val (.int (191 : Int32)), .val (.int (y_1 &&& (255 : Int32))), .val (.int (3 : Int32))] [(.int (1 : Int32)), (.int (2 : Int32))])) _
                        refine XS.iadd X0.here hx rfl (hb hby own_d2_238) rfl ?_
                        show Steps p.tables e below (s₁.setTop (mkF m 239 #[.val (.ref a_o), .val (.int i_1), .val (.int t_1), .val (.int (y_0 &&& (255 : Int32))), .val (.int (2 : Int32)), .val (.int (160 : Int32)), .val (.int (191 : Int32)), .val (.int (y_1 &&& (255 : Int32))), .val (.int (3 : Int32))] [(.int (3 : Int32))])) _
                        exact retI X0 hx Bd.returns (hb hby own_d2_239) hr
                      · show Qown_u Z a_o i_1 t_1 av k_a vs y_0 y_1 y_2 y_3 h0 n0 _ s₁.heap _
                        rw [e0]
                        have hv : (own_u_f y_0 y_1 y_2 y_3 av) = (3 : Int32) := by unfold own_u_f; rw [if_neg hc22_16, if_neg hc35_41, if_neg hc48_53, if_pos hc61_106, if_pos hc71_113, if_pos hc164_133, if_neg hc189_149, if_neg hc196_156, if_pos hc224_175]
                        exact ⟨(by rw [hv]), N0, rfl⟩
                    · obtain ⟨fs, hr, hrun, hended, hW, hsame⟩ := X0.leave (v := some (.int (0 : Int32))) (fun h => by rw [Bd.returns] at h; cases h) (hlocks := BodyLoose.notSynchronized Bd)
                      refine ⟨_, _, pre174 _ ?_, hrun, hended, _, _, rfl, ?_, ⟨_, rfl⟩, hW, hsame.mono (by decide) (by decide)⟩
                      · show Steps p.tables e below (s₁.setTop (mkF m 224 #[.val (.ref a_o), .val (.int i_1), .val (.int t_1), .val (.int (y_0 &&& (255 : Int32))), .val (.int (2 : Int32)), .val (.int (160 : Int32)), .val (.int (191 : Int32)), .val (.int (y_1 &&& (255 : Int32))), .val (.int (2 : Int32))] [(.int (128 : Int32)), (.int (y_2 &&& (192 : Int32)))])) _
                        refine XS.icmpNo X0.here hx rfl (hb hby own_d2_224) rfl (feq hc224_175).1 ?_
                        show Steps p.tables e below (s₁.setTop (mkF m 227 #[.val (.ref a_o), .val (.int i_1), .val (.int t_1), .val (.int (y_0 &&& (255 : Int32))), .val (.int (2 : Int32)), .val (.int (160 : Int32)), .val (.int (191 : Int32)), .val (.int (y_1 &&& (255 : Int32))), .val (.int (2 : Int32))] [])) _
                        refine XS.iconst X0.here hx rfl (hb hby own_d2_227) ?_
                        show Steps p.tables e below (s₁.setTop (mkF m 228 #[.val (.ref a_o), .val (.int i_1), .val (.int t_1), .val (.int (y_0 &&& (255 : Int32))), .val (.int (2 : Int32)), .val (.int (160 : Int32)), .val (.int (191 : Int32)), .val (.int (y_1 &&& (255 : Int32))), .val (.int (2 : Int32))] [(.int (0 : Int32))])) _
                        exact retI X0 hx Bd.returns (hb hby own_d2_228) hr
                      · show Qown_u Z a_o i_1 t_1 av k_a vs y_0 y_1 y_2 y_3 h0 n0 _ s₁.heap _
                        rw [e0]
                        have hv : (own_u_f y_0 y_1 y_2 y_3 av) = (0 : Int32) := by unfold own_u_f; rw [if_neg hc22_16, if_neg hc35_41, if_neg hc48_53, if_pos hc61_106, if_pos hc71_113, if_pos hc164_133, if_neg hc189_149, if_neg hc196_156, if_neg hc224_175]
                        exact ⟨(by rw [hv]), N0, rfl⟩
              · obtain ⟨fs, hr, hrun, hended, hW, hsame⟩ := X0.leave (v := some (.int (0 : Int32))) (fun h => by rw [Bd.returns] at h; cases h) (hlocks := BodyLoose.notSynchronized Bd)
                refine ⟨_, _, pre132 _ ?_, hrun, hended, _, _, rfl, ?_, ⟨_, rfl⟩, hW, hsame.mono (by decide) (by decide)⟩
                · show Steps p.tables e below (s₁.setTop (mkF m 164 #[.val (.ref a_o), .val (.int i_1), .val (.int t_1), .val (.int (y_0 &&& (255 : Int32))), .val (.int (2 : Int32)), .val (.int (160 : Int32)), .val (.int (191 : Int32)), .unset, .unset] [(.int (2 : Int32)), (.int av)])) _
                  refine XS.icmpNo X0.here hx rfl (hb hby own_d2_164) rfl (flt hc164_133).2.2.1 ?_
                  show Steps p.tables e below (s₁.setTop (mkF m 167 #[.val (.ref a_o), .val (.int i_1), .val (.int t_1), .val (.int (y_0 &&& (255 : Int32))), .val (.int (2 : Int32)), .val (.int (160 : Int32)), .val (.int (191 : Int32)), .unset, .unset] [])) _
                  refine XS.iconst X0.here hx rfl (hb hby own_d2_167) ?_
                  show Steps p.tables e below (s₁.setTop (mkF m 168 #[.val (.ref a_o), .val (.int i_1), .val (.int t_1), .val (.int (y_0 &&& (255 : Int32))), .val (.int (2 : Int32)), .val (.int (160 : Int32)), .val (.int (191 : Int32)), .unset, .unset] [(.int (0 : Int32))])) _
                  exact retI X0 hx Bd.returns (hb hby own_d2_168) hr
                · show Qown_u Z a_o i_1 t_1 av k_a vs y_0 y_1 y_2 y_3 h0 n0 _ s₁.heap _
                  rw [e0]
                  have hv : (own_u_f y_0 y_1 y_2 y_3 av) = (0 : Int32) := by unfold own_u_f; rw [if_neg hc22_16, if_neg hc35_41, if_neg hc48_53, if_pos hc61_106, if_pos hc71_113, if_neg hc164_133]
                  exact ⟨(by rw [hv]), N0, rfl⟩
          · have pre194 : ∀ t, Steps p.tables e below (s₁.setTop (mkF m 88 #[.val (.ref a_o), .val (.int i_1), .val (.int t_1), .val (.int (y_0 &&& (255 : Int32))), .val (.int (2 : Int32)), .val (.int (128 : Int32)), .val (.int (191 : Int32)), .unset, .unset] [(.int (237 : Int32)), (.int (y_0 &&& (255 : Int32)))])) t → Steps p.tables e below (s₁.setTop (entryFrame m #[(.ref a_o), (.int i_1), (.int t_1)] 9)) t := by
              intro t kt
              refine pre112 _ ?_
              show Steps p.tables e below (s₁.setTop (mkF m 71 #[.val (.ref a_o), .val (.int i_1), .val (.int t_1), .val (.int (y_0 &&& (255 : Int32))), .val (.int (2 : Int32)), .val (.int (128 : Int32)), .val (.int (191 : Int32)), .unset, .unset] [(.int (224 : Int32)), (.int (y_0 &&& (255 : Int32)))])) _
              refine XS.icmpYes X0.here hx rfl (pc0 := 71) (pc' := 80) rfl (hb hby own_d2_71) rfl (feq hc71_113).2 (by decide) (by decide) ?_
              show Steps p.tables e below (s₁.setTop (mkF m 80 #[.val (.ref a_o), .val (.int i_1), .val (.int t_1), .val (.int (y_0 &&& (255 : Int32))), .val (.int (2 : Int32)), .val (.int (128 : Int32)), .val (.int (191 : Int32)), .unset, .unset] [])) _
              refine XS.iload X0.here hx rfl (hb hby own_d2_80) rfl ?_
              show Steps p.tables e below (s₁.setTop (mkF m 82 #[.val (.ref a_o), .val (.int i_1), .val (.int t_1), .val (.int (y_0 &&& (255 : Int32))), .val (.int (2 : Int32)), .val (.int (128 : Int32)), .val (.int (191 : Int32)), .unset, .unset] [(.int (128 : Int32))])) _
              refine XS.istore X0.here hx rfl (hb hby own_d2_82) rfl (l' := #[.val (.ref a_o), .val (.int i_1), .val (.int t_1), .val (.int (y_0 &&& (255 : Int32))), .val (.int (2 : Int32)), .val (.int (128 : Int32)), .val (.int (191 : Int32)), .unset, .unset]) rfl ?_
              show Steps p.tables e below (s₁.setTop (mkF m 84 #[.val (.ref a_o), .val (.int i_1), .val (.int t_1), .val (.int (y_0 &&& (255 : Int32))), .val (.int (2 : Int32)), .val (.int (128 : Int32)), .val (.int (191 : Int32)), .unset, .unset] [])) _
              refine XS.iloadN X0.here hx rfl (hb hby own_d2_84) rfl ?_
              show Steps p.tables e below (s₁.setTop (mkF m 85 #[.val (.ref a_o), .val (.int i_1), .val (.int t_1), .val (.int (y_0 &&& (255 : Int32))), .val (.int (2 : Int32)), .val (.int (128 : Int32)), .val (.int (191 : Int32)), .unset, .unset] [(.int (y_0 &&& (255 : Int32)))])) _
              refine XS.sipush X0.here hx rfl (hb hby own_d2_85) ?_
              exact kt
            by_cases hc88_195 : (y_0 &&& (255 : Int32)) = (237 : Int32)
            · have pre207 : ∀ t, Steps p.tables e below (s₁.setTop (mkF m 164 #[.val (.ref a_o), .val (.int i_1), .val (.int t_1), .val (.int (y_0 &&& (255 : Int32))), .val (.int (2 : Int32)), .val (.int (128 : Int32)), .val (.int (159 : Int32)), .unset, .unset] [(.int (2 : Int32)), (.int av)])) t → Steps p.tables e below (s₁.setTop (entryFrame m #[(.ref a_o), (.int i_1), (.int t_1)] 9)) t := by
                intro t kt
                refine pre194 _ ?_
                show Steps p.tables e below (s₁.setTop (mkF m 88 #[.val (.ref a_o), .val (.int i_1), .val (.int t_1), .val (.int (y_0 &&& (255 : Int32))), .val (.int (2 : Int32)), .val (.int (128 : Int32)), .val (.int (191 : Int32)), .unset, .unset] [(.int (237 : Int32)), (.int (y_0 &&& (255 : Int32)))])) _
                refine XS.icmpNo X0.here hx rfl (hb hby own_d2_88) rfl (teq hc88_195).2 ?_
                show Steps p.tables e below (s₁.setTop (mkF m 91 #[.val (.ref a_o), .val (.int i_1), .val (.int t_1), .val (.int (y_0 &&& (255 : Int32))), .val (.int (2 : Int32)), .val (.int (128 : Int32)), .val (.int (191 : Int32)), .unset, .unset] [])) _
                refine XS.sipush X0.here hx rfl (hb hby own_d2_91) ?_
                show Steps p.tables e below (s₁.setTop (mkF m 94 #[.val (.ref a_o), .val (.int i_1), .val (.int t_1), .val (.int (y_0 &&& (255 : Int32))), .val (.int (2 : Int32)), .val (.int (128 : Int32)), .val (.int (191 : Int32)), .unset, .unset] [(.int (159 : Int32))])) _
                refine XS.goto X0.here hx rfl (pc0 := 94) (pc' := 99) rfl (hb hby own_d2_94) (by decide) (by decide) ?_
                show Steps p.tables e below (s₁.setTop (mkF m 99 #[.val (.ref a_o), .val (.int i_1), .val (.int t_1), .val (.int (y_0 &&& (255 : Int32))), .val (.int (2 : Int32)), .val (.int (128 : Int32)), .val (.int (191 : Int32)), .unset, .unset] [(.int (159 : Int32))])) _
                refine XS.istore X0.here hx rfl (hb hby own_d2_99) rfl (l' := #[.val (.ref a_o), .val (.int i_1), .val (.int t_1), .val (.int (y_0 &&& (255 : Int32))), .val (.int (2 : Int32)), .val (.int (128 : Int32)), .val (.int (159 : Int32)), .unset, .unset]) rfl ?_
                show Steps p.tables e below (s₁.setTop (mkF m 101 #[.val (.ref a_o), .val (.int i_1), .val (.int t_1), .val (.int (y_0 &&& (255 : Int32))), .val (.int (2 : Int32)), .val (.int (128 : Int32)), .val (.int (159 : Int32)), .unset, .unset] [])) _
                refine XS.goto X0.here hx rfl (pc0 := 101) (pc' := 154) rfl (hb hby own_d2_101) (by decide) (by decide) ?_
                show Steps p.tables e below (s₁.setTop (mkF m 154 #[.val (.ref a_o), .val (.int i_1), .val (.int t_1), .val (.int (y_0 &&& (255 : Int32))), .val (.int (2 : Int32)), .val (.int (128 : Int32)), .val (.int (159 : Int32)), .unset, .unset] [])) _
                refine XS.iload X0.here hx rfl (hb hby own_d2_154) rfl ?_
                show Steps p.tables e below (s₁.setTop (mkF m 156 #[.val (.ref a_o), .val (.int i_1), .val (.int t_1), .val (.int (y_0 &&& (255 : Int32))), .val (.int (2 : Int32)), .val (.int (128 : Int32)), .val (.int (159 : Int32)), .unset, .unset] [(.int (2 : Int32))])) _
                refine XS.ifNo X0.here hx rfl (hb hby own_d2_156) rfl ((if0 _ _).trans (flt ((by decide) : ¬ ((2 : Int32) < (0 : Int32)))).1) ?_
                show Steps p.tables e below (s₁.setTop (mkF m 159 #[.val (.ref a_o), .val (.int i_1), .val (.int t_1), .val (.int (y_0 &&& (255 : Int32))), .val (.int (2 : Int32)), .val (.int (128 : Int32)), .val (.int (159 : Int32)), .unset, .unset] [])) _
                refine XS.iloadN X0.here hx rfl (hb hby own_d2_159) rfl ?_
                show Steps p.tables e below (s₁.setTop (mkF m 160 #[.val (.ref a_o), .val (.int i_1), .val (.int t_1), .val (.int (y_0 &&& (255 : Int32))), .val (.int (2 : Int32)), .val (.int (128 : Int32)), .val (.int (159 : Int32)), .unset, .unset] [(.int t_1)])) _
                refine XS.iloadN X0.here hx rfl (hb hby own_d2_160) rfl ?_
                show Steps p.tables e below (s₁.setTop (mkF m 161 #[.val (.ref a_o), .val (.int i_1), .val (.int t_1), .val (.int (y_0 &&& (255 : Int32))), .val (.int (2 : Int32)), .val (.int (128 : Int32)), .val (.int (159 : Int32)), .unset, .unset] [(.int i_1), (.int t_1)])) _
                refine XS.isub X0.here hx rfl (hb hby own_d2_161) rfl ?_
                rw [ht]
                show Steps p.tables e below (s₁.setTop (mkF m 162 #[.val (.ref a_o), .val (.int i_1), .val (.int t_1), .val (.int (y_0 &&& (255 : Int32))), .val (.int (2 : Int32)), .val (.int (128 : Int32)), .val (.int (159 : Int32)), .unset, .unset] [(.int av)])) _
                refine XS.iload X0.here hx rfl (hb hby own_d2_162) rfl ?_
                exact kt
              by_cases hc164_208 : (2 : Int32) < av
              · obtain ⟨cl216, Ar216, q216, S216, M216, H216, G216⟩ := id V_a
                have hin216 : ¬ ((i_1 + (1 : Int32)) < 0 ∨ cl216.slots.size ≤ ((i_1 + (1 : Int32))).toNatClampNeg) := inb_of S216 hi_1
                have hat216 : cl216.slots[((i_1 + (1 : Int32))).toNatClampNeg]? = some (.int y_1) := H216.at hin216 hg_1
                have pre223 : ∀ t, Steps p.tables e below (s₁.setTop (mkF m 189 #[.val (.ref a_o), .val (.int i_1), .val (.int t_1), .val (.int (y_0 &&& (255 : Int32))), .val (.int (2 : Int32)), .val (.int (128 : Int32)), .val (.int (159 : Int32)), .val (.int (y_1 &&& (255 : Int32))), .unset] [(.int (128 : Int32)), (.int (y_1 &&& (255 : Int32)))])) t → Steps p.tables e below (s₁.setTop (entryFrame m #[(.ref a_o), (.int i_1), (.int t_1)] 9)) t := by
                  intro t kt
                  refine pre207 _ ?_
                  show Steps p.tables e below (s₁.setTop (mkF m 164 #[.val (.ref a_o), .val (.int i_1), .val (.int t_1), .val (.int (y_0 &&& (255 : Int32))), .val (.int (2 : Int32)), .val (.int (128 : Int32)), .val (.int (159 : Int32)), .unset, .unset] [(.int (2 : Int32)), (.int av)])) _
                  refine XS.icmpYes X0.here hx rfl (pc0 := 164) (pc' := 169) rfl (hb hby own_d2_164) rfl (tlt hc164_208).2.2.1 (by decide) (by decide) ?_
                  show Steps p.tables e below (s₁.setTop (mkF m 169 #[.val (.ref a_o), .val (.int i_1), .val (.int t_1), .val (.int (y_0 &&& (255 : Int32))), .val (.int (2 : Int32)), .val (.int (128 : Int32)), .val (.int (159 : Int32)), .unset, .unset] [])) _
                  refine XS.iload X0.here hx rfl (hb hby own_d2_169) rfl ?_
                  show Steps p.tables e below (s₁.setTop (mkF m 171 #[.val (.ref a_o), .val (.int i_1), .val (.int t_1), .val (.int (y_0 &&& (255 : Int32))), .val (.int (2 : Int32)), .val (.int (128 : Int32)), .val (.int (159 : Int32)), .unset, .unset] [(.int (2 : Int32))])) _
                  refine XS.ifNo X0.here hx rfl (hb hby own_d2_171) rfl ((if0 _ _).trans (tlt ((by decide) : (0 : Int32) < (2 : Int32))).2.2.2) ?_
                  show Steps p.tables e below (s₁.setTop (mkF m 174 #[.val (.ref a_o), .val (.int i_1), .val (.int t_1), .val (.int (y_0 &&& (255 : Int32))), .val (.int (2 : Int32)), .val (.int (128 : Int32)), .val (.int (159 : Int32)), .unset, .unset] [])) _
                  refine XS.aloadN X0.here hx rfl (hb hby own_d2_174) rfl rfl ?_
                  show Steps p.tables e below (s₁.setTop (mkF m 175 #[.val (.ref a_o), .val (.int i_1), .val (.int t_1), .val (.int (y_0 &&& (255 : Int32))), .val (.int (2 : Int32)), .val (.int (128 : Int32)), .val (.int (159 : Int32)), .unset, .unset] [(.ref a_o)])) _
                  refine XS.iloadN X0.here hx rfl (hb hby own_d2_175) rfl ?_
                  show Steps p.tables e below (s₁.setTop (mkF m 176 #[.val (.ref a_o), .val (.int i_1), .val (.int t_1), .val (.int (y_0 &&& (255 : Int32))), .val (.int (2 : Int32)), .val (.int (128 : Int32)), .val (.int (159 : Int32)), .unset, .unset] [(.int i_1), (.ref a_o)])) _
                  refine XS.iconst X0.here hx rfl (hb hby own_d2_176) ?_
                  show Steps p.tables e below (s₁.setTop (mkF m 177 #[.val (.ref a_o), .val (.int i_1), .val (.int t_1), .val (.int (y_0 &&& (255 : Int32))), .val (.int (2 : Int32)), .val (.int (128 : Int32)), .val (.int (159 : Int32)), .unset, .unset] [(.int (1 : Int32)), (.int i_1), (.ref a_o)])) _
                  refine XS.iadd X0.here hx rfl (hb hby own_d2_177) rfl ?_
                  show Steps p.tables e below (s₁.setTop (mkF m 178 #[.val (.ref a_o), .val (.int i_1), .val (.int t_1), .val (.int (y_0 &&& (255 : Int32))), .val (.int (2 : Int32)), .val (.int (128 : Int32)), .val (.int (159 : Int32)), .unset, .unset] [(.int (i_1 + (1 : Int32))), (.ref a_o)])) _
                  refine X0.baloadBytes hx (j := (i_1 + (1 : Int32))) (v := (.int y_1)) (by rw [e0]; exact Ar216.1) (State.isArrayOf_alike hZ.alike Ar216.2.1) Ar216.2.2 hin216 hat216 (g := (mkF m 178 #[.val (.ref a_o), .val (.int i_1), .val (.int t_1), .val (.int (y_0 &&& (255 : Int32))), .val (.int (2 : Int32)), .val (.int (128 : Int32)), .val (.int (159 : Int32)), .unset, .unset] [(.int (i_1 + (1 : Int32))), (.ref a_o)])) rfl rfl (hb hby own_d2_178) _ ?_
                  show Steps p.tables e below (s₁.setTop (mkF m 179 #[.val (.ref a_o), .val (.int i_1), .val (.int t_1), .val (.int (y_0 &&& (255 : Int32))), .val (.int (2 : Int32)), .val (.int (128 : Int32)), .val (.int (159 : Int32)), .unset, .unset] [(.int y_1)])) _
                  refine XS.sipush X0.here hx rfl (hb hby own_d2_179) ?_
                  show Steps p.tables e below (s₁.setTop (mkF m 182 #[.val (.ref a_o), .val (.int i_1), .val (.int t_1), .val (.int (y_0 &&& (255 : Int32))), .val (.int (2 : Int32)), .val (.int (128 : Int32)), .val (.int (159 : Int32)), .unset, .unset] [(.int (255 : Int32)), (.int y_1)])) _
                  refine XS.iand X0.here hx rfl (hb hby own_d2_182) rfl ?_
                  show Steps p.tables e below (s₁.setTop (mkF m 183 #[.val (.ref a_o), .val (.int i_1), .val (.int t_1), .val (.int (y_0 &&& (255 : Int32))), .val (.int (2 : Int32)), .val (.int (128 : Int32)), .val (.int (159 : Int32)), .unset, .unset] [(.int (y_1 &&& (255 : Int32)))])) _
                  refine XS.istore X0.here hx rfl (hb hby own_d2_183) rfl (l' := #[.val (.ref a_o), .val (.int i_1), .val (.int t_1), .val (.int (y_0 &&& (255 : Int32))), .val (.int (2 : Int32)), .val (.int (128 : Int32)), .val (.int (159 : Int32)), .val (.int (y_1 &&& (255 : Int32))), .unset]) rfl ?_
                  show Steps p.tables e below (s₁.setTop (mkF m 185 #[.val (.ref a_o), .val (.int i_1), .val (.int t_1), .val (.int (y_0 &&& (255 : Int32))), .val (.int (2 : Int32)), .val (.int (128 : Int32)), .val (.int (159 : Int32)), .val (.int (y_1 &&& (255 : Int32))), .unset] [])) _
                  refine XS.iload X0.here hx rfl (hb hby own_d2_185) rfl ?_
                  show Steps p.tables e below (s₁.setTop (mkF m 187 #[.val (.ref a_o), .val (.int i_1), .val (.int t_1), .val (.int (y_0 &&& (255 : Int32))), .val (.int (2 : Int32)), .val (.int (128 : Int32)), .val (.int (159 : Int32)), .val (.int (y_1 &&& (255 : Int32))), .unset] [(.int (y_1 &&& (255 : Int32)))])) _
                  refine XS.iload X0.here hx rfl (hb hby own_d2_187) rfl ?_
                  exact kt
                by_cases hc189_224 : (y_1 &&& (255 : Int32)) < (128 : Int32)
                · obtain ⟨fs, hr, hrun, hended, hW, hsame⟩ := X0.leave (v := some (.int (0 : Int32))) (fun h => by rw [Bd.returns] at h; cases h) (hlocks := BodyLoose.notSynchronized Bd)
                  refine ⟨_, _, pre223 _ ?_, hrun, hended, _, _, rfl, ?_, ⟨_, rfl⟩, hW, hsame.mono (by decide) (by decide)⟩
                  · show Steps p.tables e below (s₁.setTop (mkF m 189 #[.val (.ref a_o), .val (.int i_1), .val (.int t_1), .val (.int (y_0 &&& (255 : Int32))), .val (.int (2 : Int32)), .val (.int (128 : Int32)), .val (.int (159 : Int32)), .val (.int (y_1 &&& (255 : Int32))), .unset] [(.int (128 : Int32)), (.int (y_1 &&& (255 : Int32)))])) _
                    refine XS.icmpYes X0.here hx rfl (pc0 := 189) (pc' := 199) rfl (hb hby own_d2_189) rfl (tlt hc189_224).1 (by decide) (by decide) ?_
                    show Steps p.tables e below (s₁.setTop (mkF m 199 #[.val (.ref a_o), .val (.int i_1), .val (.int t_1), .val (.int (y_0 &&& (255 : Int32))), .val (.int (2 : Int32)), .val (.int (128 : Int32)), .val (.int (159 : Int32)), .val (.int (y_1 &&& (255 : Int32))), .unset] [])) _
                    refine XS.iconst X0.here hx rfl (hb hby own_d2_199) ?_
                    show Steps p.tables e below (s₁.setTop (mkF m 200 #[.val (.ref a_o), .val (.int i_1), .val (.int t_1), .val (.int (y_0 &&& (255 : Int32))), .val (.int (2 : Int32)), .val (.int (128 : Int32)), .val (.int (159 : Int32)), .val (.int (y_1 &&& (255 : Int32))), .unset] [(.int (0 : Int32))])) _
                    exact retI X0 hx Bd.returns (hb hby own_d2_200) hr
                  · show Qown_u Z a_o i_1 t_1 av k_a vs y_0 y_1 y_2 y_3 h0 n0 _ s₁.heap _
                    rw [e0]
                    have hv : (own_u_f y_0 y_1 y_2 y_3 av) = (0 : Int32) := by unfold own_u_f; rw [if_neg hc22_16, if_neg hc35_41, if_neg hc48_53, if_pos hc61_106, if_neg hc71_113, if_pos hc88_195, if_pos hc164_208, if_pos hc189_224]
                    exact ⟨(by rw [hv]), N0, rfl⟩
                · have pre230 : ∀ t, Steps p.tables e below (s₁.setTop (mkF m 196 #[.val (.ref a_o), .val (.int i_1), .val (.int t_1), .val (.int (y_0 &&& (255 : Int32))), .val (.int (2 : Int32)), .val (.int (128 : Int32)), .val (.int (159 : Int32)), .val (.int (y_1 &&& (255 : Int32))), .unset] [(.int (159 : Int32)), (.int (y_1 &&& (255 : Int32)))])) t → Steps p.tables e below (s₁.setTop (entryFrame m #[(.ref a_o), (.int i_1), (.int t_1)] 9)) t := by
                    intro t kt
                    refine pre223 _ ?_
                    show Steps p.tables e below (s₁.setTop (mkF m 189 #[.val (.ref a_o), .val (.int i_1), .val (.int t_1), .val (.int (y_0 &&& (255 : Int32))), .val (.int (2 : Int32)), .val (.int (128 : Int32)), .val (.int (159 : Int32)), .val (.int (y_1 &&& (255 : Int32))), .unset] [(.int (128 : Int32)), (.int (y_1 &&& (255 : Int32)))])) _
                    refine XS.icmpNo X0.here hx rfl (hb hby own_d2_189) rfl (flt hc189_224).1 ?_
                    show Steps p.tables e below (s₁.setTop (mkF m 192 #[.val (.ref a_o), .val (.int i_1), .val (.int t_1), .val (.int (y_0 &&& (255 : Int32))), .val (.int (2 : Int32)), .val (.int (128 : Int32)), .val (.int (159 : Int32)), .val (.int (y_1 &&& (255 : Int32))), .unset] [])) _
                    refine XS.iload X0.here hx rfl (hb hby own_d2_192) rfl ?_
                    show Steps p.tables e below (s₁.setTop (mkF m 194 #[.val (.ref a_o), .val (.int i_1), .val (.int t_1), .val (.int (y_0 &&& (255 : Int32))), .val (.int (2 : Int32)), .val (.int (128 : Int32)), .val (.int (159 : Int32)), .val (.int (y_1 &&& (255 : Int32))), .unset] [(.int (y_1 &&& (255 : Int32)))])) _
                    refine XS.iload X0.here hx rfl (hb hby own_d2_194) rfl ?_
                    exact kt
                  by_cases hc196_231 : (159 : Int32) < (y_1 &&& (255 : Int32))
                  · obtain ⟨fs, hr, hrun, hended, hW, hsame⟩ := X0.leave (v := some (.int (0 : Int32))) (fun h => by rw [Bd.returns] at h; cases h) (hlocks := BodyLoose.notSynchronized Bd)
                    refine ⟨_, _, pre230 _ ?_, hrun, hended, _, _, rfl, ?_, ⟨_, rfl⟩, hW, hsame.mono (by decide) (by decide)⟩
                    · show Steps p.tables e below (s₁.setTop (mkF m 196 #[.val (.ref a_o), .val (.int i_1), .val (.int t_1), .val (.int (y_0 &&& (255 : Int32))), .val (.int (2 : Int32)), .val (.int (128 : Int32)), .val (.int (159 : Int32)), .val (.int (y_1 &&& (255 : Int32))), .unset] [(.int (159 : Int32)), (.int (y_1 &&& (255 : Int32)))])) _
                      refine XS.icmpNo X0.here hx rfl (hb hby own_d2_196) rfl (tlt hc196_231).2.2.2 ?_
                      show Steps p.tables e below (s₁.setTop (mkF m 199 #[.val (.ref a_o), .val (.int i_1), .val (.int t_1), .val (.int (y_0 &&& (255 : Int32))), .val (.int (2 : Int32)), .val (.int (128 : Int32)), .val (.int (159 : Int32)), .val (.int (y_1 &&& (255 : Int32))), .unset] [])) _
                      refine XS.iconst X0.here hx rfl (hb hby own_d2_199) ?_
                      show Steps p.tables e below (s₁.setTop (mkF m 200 #[.val (.ref a_o), .val (.int i_1), .val (.int t_1), .val (.int (y_0 &&& (255 : Int32))), .val (.int (2 : Int32)), .val (.int (128 : Int32)), .val (.int (159 : Int32)), .val (.int (y_1 &&& (255 : Int32))), .unset] [(.int (0 : Int32))])) _
                      exact retI X0 hx Bd.returns (hb hby own_d2_200) hr
                    · show Qown_u Z a_o i_1 t_1 av k_a vs y_0 y_1 y_2 y_3 h0 n0 _ s₁.heap _
                      rw [e0]
                      have hv : (own_u_f y_0 y_1 y_2 y_3 av) = (0 : Int32) := by unfold own_u_f; rw [if_neg hc22_16, if_neg hc35_41, if_neg hc48_53, if_pos hc61_106, if_neg hc71_113, if_pos hc88_195, if_pos hc164_208, if_neg hc189_224, if_pos hc196_231]
                      exact ⟨(by rw [hv]), N0, rfl⟩
                  · obtain ⟨cl244, Ar244, q244, S244, M244, H244, G244⟩ := id V_a
                    have hin244 : ¬ ((i_1 + (2 : Int32)) < 0 ∨ cl244.slots.size ≤ ((i_1 + (2 : Int32))).toNatClampNeg) := inb_of S244 hi_2
                    have hat244 : cl244.slots[((i_1 + (2 : Int32))).toNatClampNeg]? = some (.int y_2) := H244.at hin244 hg_2
                    have pre249 : ∀ t, Steps p.tables e below (s₁.setTop (mkF m 224 #[.val (.ref a_o), .val (.int i_1), .val (.int t_1), .val (.int (y_0 &&& (255 : Int32))), .val (.int (2 : Int32)), .val (.int (128 : Int32)), .val (.int (159 : Int32)), .val (.int (y_1 &&& (255 : Int32))), .val (.int (2 : Int32))] [(.int (128 : Int32)), (.int (y_2 &&& (192 : Int32)))])) t → Steps p.tables e below (s₁.setTop (entryFrame m #[(.ref a_o), (.int i_1), (.int t_1)] 9)) t := by
                      intro t kt
                      refine pre230 _ ?_
                      show Steps p.tables e below (s₁.setTop (mkF m 196 #[.val (.ref a_o), .val (.int i_1), .val (.int t_1), .val (.int (y_0 &&& (255 : Int32))), .val (.int (2 : Int32)), .val (.int (128 : Int32)), .val (.int (159 : Int32)), .val (.int (y_1 &&& (255 : Int32))), .unset] [(.int (159 : Int32)), (.int (y_1 &&& (255 : Int32)))])) _
                      refine XS.icmpYes X0.here hx rfl (pc0 := 196) (pc' := 201) rfl (hb hby own_d2_196) rfl (flt hc196_231).2.2.2 (by decide) (by decide) ?_
                      show Steps p.tables e below (s₁.setTop (mkF m 201 #[.val (.ref a_o), .val (.int i_1), .val (.int t_1), .val (.int (y_0 &&& (255 : Int32))), .val (.int (2 : Int32)), .val (.int (128 : Int32)), .val (.int (159 : Int32)), .val (.int (y_1 &&& (255 : Int32))), .unset] [])) _
                      refine XS.iconst X0.here hx rfl (hb hby own_d2_201) ?_
                      show Steps p.tables e below (s₁.setTop (mkF m 202 #[.val (.ref a_o), .val (.int i_1), .val (.int t_1), .val (.int (y_0 &&& (255 : Int32))), .val (.int (2 : Int32)), .val (.int (128 : Int32)), .val (.int (159 : Int32)), .val (.int (y_1 &&& (255 : Int32))), .unset] [(.int (2 : Int32))])) _
                      refine XS.istore X0.here hx rfl (hb hby own_d2_202) rfl (l' := #[.val (.ref a_o), .val (.int i_1), .val (.int t_1), .val (.int (y_0 &&& (255 : Int32))), .val (.int (2 : Int32)), .val (.int (128 : Int32)), .val (.int (159 : Int32)), .val (.int (y_1 &&& (255 : Int32))), .val (.int (2 : Int32))]) rfl ?_
                      show Steps p.tables e below (s₁.setTop (mkF m 204 #[.val (.ref a_o), .val (.int i_1), .val (.int t_1), .val (.int (y_0 &&& (255 : Int32))), .val (.int (2 : Int32)), .val (.int (128 : Int32)), .val (.int (159 : Int32)), .val (.int (y_1 &&& (255 : Int32))), .val (.int (2 : Int32))] [])) _
                      refine XS.iload X0.here hx rfl (hb hby own_d2_204) rfl ?_
                      show Steps p.tables e below (s₁.setTop (mkF m 206 #[.val (.ref a_o), .val (.int i_1), .val (.int t_1), .val (.int (y_0 &&& (255 : Int32))), .val (.int (2 : Int32)), .val (.int (128 : Int32)), .val (.int (159 : Int32)), .val (.int (y_1 &&& (255 : Int32))), .val (.int (2 : Int32))] [(.int (2 : Int32))])) _
                      refine XS.iload X0.here hx rfl (hb hby own_d2_206) rfl ?_
                      show Steps p.tables e below (s₁.setTop (mkF m 208 #[.val (.ref a_o), .val (.int i_1), .val (.int t_1), .val (.int (y_0 &&& (255 : Int32))), .val (.int (2 : Int32)), .val (.int (128 : Int32)), .val (.int (159 : Int32)), .val (.int (y_1 &&& (255 : Int32))), .val (.int (2 : Int32))] [(.int (2 : Int32)), (.int (2 : Int32))])) _
                      refine XS.icmpNo X0.here hx rfl (hb hby own_d2_208) rfl (flt ((by decide) : ¬ ((2 : Int32) < (2 : Int32)))).2.2.1 ?_
                      show Steps p.tables e below (s₁.setTop (mkF m 211 #[.val (.ref a_o), .val (.int i_1), .val (.int t_1), .val (.int (y_0 &&& (255 : Int32))), .val (.int (2 : Int32)), .val (.int (128 : Int32)), .val (.int (159 : Int32)), .val (.int (y_1 &&& (255 : Int32))), .val (.int (2 : Int32))] [])) _
                      refine XS.aloadN X0.here hx rfl (hb hby own_d2_211) rfl rfl ?_
                      show Steps p.tables e below (s₁.setTop (mkF m 212 #[.val (.ref a_o), .val (.int i_1), .val (.int t_1), .val (.int (y_0 &&& (255 : Int32))), .val (.int (2 : Int32)), .val (.int (128 : Int32)), .val (.int (159 : Int32)), .val (.int (y_1 &&& (255 : Int32))), .val (.int (2 : Int32))] [(.ref a_o)])) _
                      refine XS.iloadN X0.here hx rfl (hb hby own_d2_212) rfl ?_
                      show Steps p.tables e below (s₁.setTop (mkF m 213 #[.val (.ref a_o), .val (.int i_1), .val (.int t_1), .val (.int (y_0 &&& (255 : Int32))), .val (.int (2 : Int32)), .val (.int (128 : Int32)), .val (.int (159 : Int32)), .val (.int (y_1 &&& (255 : Int32))), .val (.int (2 : Int32))] [(.int i_1), (.ref a_o)])) _
                      refine XS.iload X0.here hx rfl (hb hby own_d2_213) rfl ?_
                      show Steps p.tables e below (s₁.setTop (mkF m 215 #[.val (.ref a_o), .val (.int i_1), .val (.int t_1), .val (.int (y_0 &&& (255 : Int32))), .val (.int (2 : Int32)), .val (.int (128 : Int32)), .val (.int (159 : Int32)), .val (.int (y_1 &&& (255 : Int32))), .val (.int (2 : Int32))] [(.int (2 : Int32)), (.int i_1), (.ref a_o)])) _
                      refine XS.iadd X0.here hx rfl (hb hby own_d2_215) rfl ?_
                      show Steps p.tables e below (s₁.setTop (mkF m 216 #[.val (.ref a_o), .val (.int i_1), .val (.int t_1), .val (.int (y_0 &&& (255 : Int32))), .val (.int (2 : Int32)), .val (.int (128 : Int32)), .val (.int (159 : Int32)), .val (.int (y_1 &&& (255 : Int32))), .val (.int (2 : Int32))] [(.int (i_1 + (2 : Int32))), (.ref a_o)])) _
                      refine X0.baloadBytes hx (j := (i_1 + (2 : Int32))) (v := (.int y_2)) (by rw [e0]; exact Ar244.1) (State.isArrayOf_alike hZ.alike Ar244.2.1) Ar244.2.2 hin244 hat244 (g := (mkF m 216 #[.val (.ref a_o), .val (.int i_1), .val (.int t_1), .val (.int (y_0 &&& (255 : Int32))), .val (.int (2 : Int32)), .val (.int (128 : Int32)), .val (.int (159 : Int32)), .val (.int (y_1 &&& (255 : Int32))), .val (.int (2 : Int32))] [(.int (i_1 + (2 : Int32))), (.ref a_o)])) rfl rfl (hb hby own_d2_216) _ ?_
                      show Steps p.tables e below (s₁.setTop (mkF m 217 #[.val (.ref a_o), .val (.int i_1), .val (.int t_1), .val (.int (y_0 &&& (255 : Int32))), .val (.int (2 : Int32)), .val (.int (128 : Int32)), .val (.int (159 : Int32)), .val (.int (y_1 &&& (255 : Int32))), .val (.int (2 : Int32))] [(.int y_2)])) _
                      refine XS.sipush X0.here hx rfl (hb hby own_d2_217) ?_
                      show Steps p.tables e below (s₁.setTop (mkF m 220 #[.val (.ref a_o), .val (.int i_1), .val (.int t_1), .val (.int (y_0 &&& (255 : Int32))), .val (.int (2 : Int32)), .val (.int (128 : Int32)), .val (.int (159 : Int32)), .val (.int (y_1 &&& (255 : Int32))), .val (.int (2 : Int32))] [(.int (192 : Int32)), (.int y_2)])) _
                      refine XS.iand X0.here hx rfl (hb hby own_d2_220) rfl ?_
                      show Steps p.tables e below (s₁.setTop (mkF m 221 #[.val (.ref a_o), .val (.int i_1), .val (.int t_1), .val (.int (y_0 &&& (255 : Int32))), .val (.int (2 : Int32)), .val (.int (128 : Int32)), .val (.int (159 : Int32)), .val (.int (y_1 &&& (255 : Int32))), .val (.int (2 : Int32))] [(.int (y_2 &&& (192 : Int32)))])) _
                      refine XS.sipush X0.here hx rfl (hb hby own_d2_221) ?_
                      exact kt
                    by_cases hc224_250 : (y_2 &&& (192 : Int32)) = (128 : Int32)
                    · obtain ⟨fs, hr, hrun, hended, hW, hsame⟩ := X0.leave (v := some (.int (3 : Int32))) (fun h => by rw [Bd.returns] at h; cases h) (hlocks := BodyLoose.notSynchronized Bd)
                      refine ⟨_, _, pre249 _ ?_, hrun, hended, _, _, rfl, ?_, ⟨_, rfl⟩, hW, hsame.mono (by decide) (by decide)⟩
                      · show Steps p.tables e below (s₁.setTop (mkF m 224 #[.val (.ref a_o), .val (.int i_1), .val (.int t_1), .val (.int (y_0 &&& (255 : Int32))), .val (.int (2 : Int32)), .val (.int (128 : Int32)), .val (.int (159 : Int32)), .val (.int (y_1 &&& (255 : Int32))), .val (.int (2 : Int32))] [(.int (128 : Int32)), (.int (y_2 &&& (192 : Int32)))])) _
                        refine XS.icmpYes X0.here hx rfl (pc0 := 224) (pc' := 229) rfl (hb hby own_d2_224) rfl (teq hc224_250).1 (by decide) (by decide) ?_
                        show Steps p.tables e below (s₁.setTop (mkF m 229 #[.val (.ref a_o), .val (.int i_1), .val (.int t_1), .val (.int (y_0 &&& (255 : Int32))), .val (.int (2 : Int32)), .val (.int (128 : Int32)), .val (.int (159 : Int32)), .val (.int (y_1 &&& (255 : Int32))), .val (.int (2 : Int32))] [])) _
                        refine XS.iinc X0.here hx rfl (hb hby own_d2_229) rfl (l' := #[.val (.ref a_o), .val (.int i_1), .val (.int t_1), .val (.int (y_0 &&& (255 : Int32))), .val (.int (2 : Int32)), .val (.int (128 : Int32)), .val (.int (159 : Int32)), .val (.int (y_1 &&& (255 : Int32))), .val (.int (3 : Int32))]) rfl ?_
                        show Steps p.tables e below (s₁.setTop (mkF m 232 #[.val (.ref a_o), .val (.int i_1), .val (.int t_1), .val (.int (y_0 &&& (255 : Int32))), .val (.int (2 : Int32)), .val (.int (128 : Int32)), .val (.int (159 : Int32)), .val (.int (y_1 &&& (255 : Int32))), .val (.int (3 : Int32))] [])) _
                        refine XS.goto X0.here hx rfl (pc0 := 232) (pc' := 204) rfl (hb hby own_d2_232) (by decide) (by decide) ?_
                        show Steps p.tables e below (s₁.setTop (mkF m 204 #[.val (.ref a_o), .val (.int i_1), .val (.int t_1), .val (.int (y_0 &&& (255 : Int32))), .val (.int (2 : Int32)), .val (.int (128 : Int32)), .val (.int (159 : Int32)), .val (.int (y_1 &&& (255 : Int32))), .val (.int (3 : Int32))] [])) _
                        refine XS.iload X0.here hx rfl (hb hby own_d2_204) rfl ?_
                        show Steps p.tables e below (s₁.setTop (mkF m 206 #[.val (.ref a_o), .val (.int i_1), .val (.int t_1), .val (.int (y_0 &&& (255 : Int32))), .val (.int (2 : Int32)), .val (.int (128 : Int32)), .val (.int (159 : Int32)), .val (.int (y_1 &&& (255 : Int32))), .val (.int (3 : Int32))] [(.int (3 : Int32))])) _
                        refine XS.iload X0.here hx rfl (hb hby own_d2_206) rfl ?_
                        show Steps p.tables e below (s₁.setTop (mkF m 208 #[.val (.ref a_o), .val (.int i_1), .val (.int t_1), .val (.int (y_0 &&& (255 : Int32))), .val (.int (2 : Int32)), .val (.int (128 : Int32)), .val (.int (159 : Int32)), .val (.int (y_1 &&& (255 : Int32))), .val (.int (3 : Int32))] [(.int (2 : Int32)), (.int (3 : Int32))])) _
                        refine XS.icmpYes X0.here hx rfl (pc0 := 208) (pc' := 235) rfl (hb hby own_d2_208) rfl (tlt ((by decide) : (2 : Int32) < (3 : Int32))).2.2.1 (by decide) (by decide) ?_
                        show Steps p.tables e below (s₁.setTop (mkF m 235 #[.val (.ref a_o), .val (.int i_1), .val (.int t_1), .val (.int (y_0 &&& (255 : Int32))), .val (.int (2 : Int32)), .val (.int (128 : Int32)), .val (.int (159 : Int32)), .val (.int (y_1 &&& (255 : Int32))), .val (.int (3 : Int32))] [])) _
                        refine XS.iload X0.here hx rfl (hb hby own_d2_235) rfl ?_
                        show Steps p.tables e below (s₁.setTop (mkF m 237 #[.val (.ref a_o), .val (.int i_1), .val (.int t_1), .val (.int (y_0 &&& (255 : Int32))), .val (.int (2 : Int32)), .val (.int (128 : Int32)), .val (.int (159 : Int32)), .val (.int (y_1 &&& (255 : Int32))), .val (.int (3 : Int32))] [(.int (2 : Int32))])) _
                        refine XS.iconst X0.here hx rfl (hb hby own_d2_237) ?_
                        show Steps p.tables e below (s₁.setTop (mkF m 238 #[.val (.ref a_o), .val (.int i_1), .val (.int t_1), .val (.int (y_0 &&& (255 : Int32))), .val (.int (2 : Int32)), .val (.int (128 : Int32)), .val (.int (159 : Int32)), .val (.int (y_1 &&& (255 : Int32))), .val (.int (3 : Int32))] [(.int (1 : Int32)), (.int (2 : Int32))])) _
                        refine XS.iadd X0.here hx rfl (hb hby own_d2_238) rfl ?_
                        show Steps p.tables e below (s₁.setTop (mkF m 239 #[.val (.ref a_o), .val (.int i_1), .val (.int t_1), .val (.int (y_0 &&& (255 : Int32))), .val (.int (2 : Int32)), .val (.int (128 : Int32)), .val (.int (159 : Int32)), .val (.int (y_1 &&& (255 : Int32))), .val (.int (3 : Int32))] [(.int (3 : Int32))])) _
                        exact retI X0 hx Bd.returns (hb hby own_d2_239) hr
                      · show Qown_u Z a_o i_1 t_1 av k_a vs y_0 y_1 y_2 y_3 h0 n0 _ s₁.heap _
                        rw [e0]
                        have hv : (own_u_f y_0 y_1 y_2 y_3 av) = (3 : Int32) := by unfold own_u_f; rw [if_neg hc22_16, if_neg hc35_41, if_neg hc48_53, if_pos hc61_106, if_neg hc71_113, if_pos hc88_195, if_pos hc164_208, if_neg hc189_224, if_neg hc196_231, if_pos hc224_250]
                        exact ⟨(by rw [hv]), N0, rfl⟩
                    · obtain ⟨fs, hr, hrun, hended, hW, hsame⟩ := X0.leave (v := some (.int (0 : Int32))) (fun h => by rw [Bd.returns] at h; cases h) (hlocks := BodyLoose.notSynchronized Bd)
                      refine ⟨_, _, pre249 _ ?_, hrun, hended, _, _, rfl, ?_, ⟨_, rfl⟩, hW, hsame.mono (by decide) (by decide)⟩
                      · show Steps p.tables e below (s₁.setTop (mkF m 224 #[.val (.ref a_o), .val (.int i_1), .val (.int t_1), .val (.int (y_0 &&& (255 : Int32))), .val (.int (2 : Int32)), .val (.int (128 : Int32)), .val (.int (159 : Int32)), .val (.int (y_1 &&& (255 : Int32))), .val (.int (2 : Int32))] [(.int (128 : Int32)), (.int (y_2 &&& (192 : Int32)))])) _
                        refine XS.icmpNo X0.here hx rfl (hb hby own_d2_224) rfl (feq hc224_250).1 ?_
                        show Steps p.tables e below (s₁.setTop (mkF m 227 #[.val (.ref a_o), .val (.int i_1), .val (.int t_1), .val (.int (y_0 &&& (255 : Int32))), .val (.int (2 : Int32)), .val (.int (128 : Int32)), .val (.int (159 : Int32)), .val (.int (y_1 &&& (255 : Int32))), .val (.int (2 : Int32))] [])) _
                        refine XS.iconst X0.here hx rfl (hb hby own_d2_227) ?_
                        show Steps p.tables e below (s₁.setTop (mkF m 228 #[.val (.ref a_o), .val (.int i_1), .val (.int t_1), .val (.int (y_0 &&& (255 : Int32))), .val (.int (2 : Int32)), .val (.int (128 : Int32)), .val (.int (159 : Int32)), .val (.int (y_1 &&& (255 : Int32))), .val (.int (2 : Int32))] [(.int (0 : Int32))])) _
                        exact retI X0 hx Bd.returns (hb hby own_d2_228) hr
                      · show Qown_u Z a_o i_1 t_1 av k_a vs y_0 y_1 y_2 y_3 h0 n0 _ s₁.heap _
                        rw [e0]
                        have hv : (own_u_f y_0 y_1 y_2 y_3 av) = (0 : Int32) := by unfold own_u_f; rw [if_neg hc22_16, if_neg hc35_41, if_neg hc48_53, if_pos hc61_106, if_neg hc71_113, if_pos hc88_195, if_pos hc164_208, if_neg hc189_224, if_neg hc196_231, if_neg hc224_250]
                        exact ⟨(by rw [hv]), N0, rfl⟩
              · obtain ⟨fs, hr, hrun, hended, hW, hsame⟩ := X0.leave (v := some (.int (0 : Int32))) (fun h => by rw [Bd.returns] at h; cases h) (hlocks := BodyLoose.notSynchronized Bd)
                refine ⟨_, _, pre207 _ ?_, hrun, hended, _, _, rfl, ?_, ⟨_, rfl⟩, hW, hsame.mono (by decide) (by decide)⟩
                · show Steps p.tables e below (s₁.setTop (mkF m 164 #[.val (.ref a_o), .val (.int i_1), .val (.int t_1), .val (.int (y_0 &&& (255 : Int32))), .val (.int (2 : Int32)), .val (.int (128 : Int32)), .val (.int (159 : Int32)), .unset, .unset] [(.int (2 : Int32)), (.int av)])) _
                  refine XS.icmpNo X0.here hx rfl (hb hby own_d2_164) rfl (flt hc164_208).2.2.1 ?_
                  show Steps p.tables e below (s₁.setTop (mkF m 167 #[.val (.ref a_o), .val (.int i_1), .val (.int t_1), .val (.int (y_0 &&& (255 : Int32))), .val (.int (2 : Int32)), .val (.int (128 : Int32)), .val (.int (159 : Int32)), .unset, .unset] [])) _
                  refine XS.iconst X0.here hx rfl (hb hby own_d2_167) ?_
                  show Steps p.tables e below (s₁.setTop (mkF m 168 #[.val (.ref a_o), .val (.int i_1), .val (.int t_1), .val (.int (y_0 &&& (255 : Int32))), .val (.int (2 : Int32)), .val (.int (128 : Int32)), .val (.int (159 : Int32)), .unset, .unset] [(.int (0 : Int32))])) _
                  exact retI X0 hx Bd.returns (hb hby own_d2_168) hr
                · show Qown_u Z a_o i_1 t_1 av k_a vs y_0 y_1 y_2 y_3 h0 n0 _ s₁.heap _
                  rw [e0]
                  have hv : (own_u_f y_0 y_1 y_2 y_3 av) = (0 : Int32) := by unfold own_u_f; rw [if_neg hc22_16, if_neg hc35_41, if_neg hc48_53, if_pos hc61_106, if_neg hc71_113, if_pos hc88_195, if_neg hc164_208]
                  exact ⟨(by rw [hv]), N0, rfl⟩
            · have pre274 : ∀ t, Steps p.tables e below (s₁.setTop (mkF m 164 #[.val (.ref a_o), .val (.int i_1), .val (.int t_1), .val (.int (y_0 &&& (255 : Int32))), .val (.int (2 : Int32)), .val (.int (128 : Int32)), .val (.int (191 : Int32)), .unset, .unset] [(.int (2 : Int32)), (.int av)])) t → Steps p.tables e below (s₁.setTop (entryFrame m #[(.ref a_o), (.int i_1), (.int t_1)] 9)) t := by
                intro t kt
                refine pre194 _ ?_
                show Steps p.tables e below (s₁.setTop (mkF m 88 #[.val (.ref a_o), .val (.int i_1), .val (.int t_1), .val (.int (y_0 &&& (255 : Int32))), .val (.int (2 : Int32)), .val (.int (128 : Int32)), .val (.int (191 : Int32)), .unset, .unset] [(.int (237 : Int32)), (.int (y_0 &&& (255 : Int32)))])) _
                refine XS.icmpYes X0.here hx rfl (pc0 := 88) (pc' := 97) rfl (hb hby own_d2_88) rfl (feq hc88_195).2 (by decide) (by decide) ?_
                show Steps p.tables e below (s₁.setTop (mkF m 97 #[.val (.ref a_o), .val (.int i_1), .val (.int t_1), .val (.int (y_0 &&& (255 : Int32))), .val (.int (2 : Int32)), .val (.int (128 : Int32)), .val (.int (191 : Int32)), .unset, .unset] [])) _
                refine XS.iload X0.here hx rfl (hb hby own_d2_97) rfl ?_
                show Steps p.tables e below (s₁.setTop (mkF m 99 #[.val (.ref a_o), .val (.int i_1), .val (.int t_1), .val (.int (y_0 &&& (255 : Int32))), .val (.int (2 : Int32)), .val (.int (128 : Int32)), .val (.int (191 : Int32)), .unset, .unset] [(.int (191 : Int32))])) _
                refine XS.istore X0.here hx rfl (hb hby own_d2_99) rfl (l' := #[.val (.ref a_o), .val (.int i_1), .val (.int t_1), .val (.int (y_0 &&& (255 : Int32))), .val (.int (2 : Int32)), .val (.int (128 : Int32)), .val (.int (191 : Int32)), .unset, .unset]) rfl ?_
                show Steps p.tables e below (s₁.setTop (mkF m 101 #[.val (.ref a_o), .val (.int i_1), .val (.int t_1), .val (.int (y_0 &&& (255 : Int32))), .val (.int (2 : Int32)), .val (.int (128 : Int32)), .val (.int (191 : Int32)), .unset, .unset] [])) _
                refine XS.goto X0.here hx rfl (pc0 := 101) (pc' := 154) rfl (hb hby own_d2_101) (by decide) (by decide) ?_
                show Steps p.tables e below (s₁.setTop (mkF m 154 #[.val (.ref a_o), .val (.int i_1), .val (.int t_1), .val (.int (y_0 &&& (255 : Int32))), .val (.int (2 : Int32)), .val (.int (128 : Int32)), .val (.int (191 : Int32)), .unset, .unset] [])) _
                refine XS.iload X0.here hx rfl (hb hby own_d2_154) rfl ?_
                show Steps p.tables e below (s₁.setTop (mkF m 156 #[.val (.ref a_o), .val (.int i_1), .val (.int t_1), .val (.int (y_0 &&& (255 : Int32))), .val (.int (2 : Int32)), .val (.int (128 : Int32)), .val (.int (191 : Int32)), .unset, .unset] [(.int (2 : Int32))])) _
                refine XS.ifNo X0.here hx rfl (hb hby own_d2_156) rfl ((if0 _ _).trans (flt ((by decide) : ¬ ((2 : Int32) < (0 : Int32)))).1) ?_
                show Steps p.tables e below (s₁.setTop (mkF m 159 #[.val (.ref a_o), .val (.int i_1), .val (.int t_1), .val (.int (y_0 &&& (255 : Int32))), .val (.int (2 : Int32)), .val (.int (128 : Int32)), .val (.int (191 : Int32)), .unset, .unset] [])) _
                refine XS.iloadN X0.here hx rfl (hb hby own_d2_159) rfl ?_
                show Steps p.tables e below (s₁.setTop (mkF m 160 #[.val (.ref a_o), .val (.int i_1), .val (.int t_1), .val (.int (y_0 &&& (255 : Int32))), .val (.int (2 : Int32)), .val (.int (128 : Int32)), .val (.int (191 : Int32)), .unset, .unset] [(.int t_1)])) _
                refine XS.iloadN X0.here hx rfl (hb hby own_d2_160) rfl ?_
                show Steps p.tables e below (s₁.setTop (mkF m 161 #[.val (.ref a_o), .val (.int i_1), .val (.int t_1), .val (.int (y_0 &&& (255 : Int32))), .val (.int (2 : Int32)), .val (.int (128 : Int32)), .val (.int (191 : Int32)), .unset, .unset] [(.int i_1), (.int t_1)])) _
                refine XS.isub X0.here hx rfl (hb hby own_d2_161) rfl ?_
                rw [ht]
                show Steps p.tables e below (s₁.setTop (mkF m 162 #[.val (.ref a_o), .val (.int i_1), .val (.int t_1), .val (.int (y_0 &&& (255 : Int32))), .val (.int (2 : Int32)), .val (.int (128 : Int32)), .val (.int (191 : Int32)), .unset, .unset] [(.int av)])) _
                refine XS.iload X0.here hx rfl (hb hby own_d2_162) rfl ?_
                exact kt
              by_cases hc164_275 : (2 : Int32) < av
              · obtain ⟨cl283, Ar283, q283, S283, M283, H283, G283⟩ := id V_a
                have hin283 : ¬ ((i_1 + (1 : Int32)) < 0 ∨ cl283.slots.size ≤ ((i_1 + (1 : Int32))).toNatClampNeg) := inb_of S283 hi_1
                have hat283 : cl283.slots[((i_1 + (1 : Int32))).toNatClampNeg]? = some (.int y_1) := H283.at hin283 hg_1
                have pre290 : ∀ t, Steps p.tables e below (s₁.setTop (mkF m 189 #[.val (.ref a_o), .val (.int i_1), .val (.int t_1), .val (.int (y_0 &&& (255 : Int32))), .val (.int (2 : Int32)), .val (.int (128 : Int32)), .val (.int (191 : Int32)), .val (.int (y_1 &&& (255 : Int32))), .unset] [(.int (128 : Int32)), (.int (y_1 &&& (255 : Int32)))])) t → Steps p.tables e below (s₁.setTop (entryFrame m #[(.ref a_o), (.int i_1), (.int t_1)] 9)) t := by
                  intro t kt
                  refine pre274 _ ?_
                  show Steps p.tables e below (s₁.setTop (mkF m 164 #[.val (.ref a_o), .val (.int i_1), .val (.int t_1), .val (.int (y_0 &&& (255 : Int32))), .val (.int (2 : Int32)), .val (.int (128 : Int32)), .val (.int (191 : Int32)), .unset, .unset] [(.int (2 : Int32)), (.int av)])) _
                  refine XS.icmpYes X0.here hx rfl (pc0 := 164) (pc' := 169) rfl (hb hby own_d2_164) rfl (tlt hc164_275).2.2.1 (by decide) (by decide) ?_
                  show Steps p.tables e below (s₁.setTop (mkF m 169 #[.val (.ref a_o), .val (.int i_1), .val (.int t_1), .val (.int (y_0 &&& (255 : Int32))), .val (.int (2 : Int32)), .val (.int (128 : Int32)), .val (.int (191 : Int32)), .unset, .unset] [])) _
                  refine XS.iload X0.here hx rfl (hb hby own_d2_169) rfl ?_
                  show Steps p.tables e below (s₁.setTop (mkF m 171 #[.val (.ref a_o), .val (.int i_1), .val (.int t_1), .val (.int (y_0 &&& (255 : Int32))), .val (.int (2 : Int32)), .val (.int (128 : Int32)), .val (.int (191 : Int32)), .unset, .unset] [(.int (2 : Int32))])) _
                  refine XS.ifNo X0.here hx rfl (hb hby own_d2_171) rfl ((if0 _ _).trans (tlt ((by decide) : (0 : Int32) < (2 : Int32))).2.2.2) ?_
                  show Steps p.tables e below (s₁.setTop (mkF m 174 #[.val (.ref a_o), .val (.int i_1), .val (.int t_1), .val (.int (y_0 &&& (255 : Int32))), .val (.int (2 : Int32)), .val (.int (128 : Int32)), .val (.int (191 : Int32)), .unset, .unset] [])) _
                  refine XS.aloadN X0.here hx rfl (hb hby own_d2_174) rfl rfl ?_
                  show Steps p.tables e below (s₁.setTop (mkF m 175 #[.val (.ref a_o), .val (.int i_1), .val (.int t_1), .val (.int (y_0 &&& (255 : Int32))), .val (.int (2 : Int32)), .val (.int (128 : Int32)), .val (.int (191 : Int32)), .unset, .unset] [(.ref a_o)])) _
                  refine XS.iloadN X0.here hx rfl (hb hby own_d2_175) rfl ?_
                  show Steps p.tables e below (s₁.setTop (mkF m 176 #[.val (.ref a_o), .val (.int i_1), .val (.int t_1), .val (.int (y_0 &&& (255 : Int32))), .val (.int (2 : Int32)), .val (.int (128 : Int32)), .val (.int (191 : Int32)), .unset, .unset] [(.int i_1), (.ref a_o)])) _
                  refine XS.iconst X0.here hx rfl (hb hby own_d2_176) ?_
                  show Steps p.tables e below (s₁.setTop (mkF m 177 #[.val (.ref a_o), .val (.int i_1), .val (.int t_1), .val (.int (y_0 &&& (255 : Int32))), .val (.int (2 : Int32)), .val (.int (128 : Int32)), .val (.int (191 : Int32)), .unset, .unset] [(.int (1 : Int32)), (.int i_1), (.ref a_o)])) _
                  refine XS.iadd X0.here hx rfl (hb hby own_d2_177) rfl ?_
                  show Steps p.tables e below (s₁.setTop (mkF m 178 #[.val (.ref a_o), .val (.int i_1), .val (.int t_1), .val (.int (y_0 &&& (255 : Int32))), .val (.int (2 : Int32)), .val (.int (128 : Int32)), .val (.int (191 : Int32)), .unset, .unset] [(.int (i_1 + (1 : Int32))), (.ref a_o)])) _
                  refine X0.baloadBytes hx (j := (i_1 + (1 : Int32))) (v := (.int y_1)) (by rw [e0]; exact Ar283.1) (State.isArrayOf_alike hZ.alike Ar283.2.1) Ar283.2.2 hin283 hat283 (g := (mkF m 178 #[.val (.ref a_o), .val (.int i_1), .val (.int t_1), .val (.int (y_0 &&& (255 : Int32))), .val (.int (2 : Int32)), .val (.int (128 : Int32)), .val (.int (191 : Int32)), .unset, .unset] [(.int (i_1 + (1 : Int32))), (.ref a_o)])) rfl rfl (hb hby own_d2_178) _ ?_
                  show Steps p.tables e below (s₁.setTop (mkF m 179 #[.val (.ref a_o), .val (.int i_1), .val (.int t_1), .val (.int (y_0 &&& (255 : Int32))), .val (.int (2 : Int32)), .val (.int (128 : Int32)), .val (.int (191 : Int32)), .unset, .unset] [(.int y_1)])) _
                  refine XS.sipush X0.here hx rfl (hb hby own_d2_179) ?_
                  show Steps p.tables e below (s₁.setTop (mkF m 182 #[.val (.ref a_o), .val (.int i_1), .val (.int t_1), .val (.int (y_0 &&& (255 : Int32))), .val (.int (2 : Int32)), .val (.int (128 : Int32)), .val (.int (191 : Int32)), .unset, .unset] [(.int (255 : Int32)), (.int y_1)])) _
                  refine XS.iand X0.here hx rfl (hb hby own_d2_182) rfl ?_
                  show Steps p.tables e below (s₁.setTop (mkF m 183 #[.val (.ref a_o), .val (.int i_1), .val (.int t_1), .val (.int (y_0 &&& (255 : Int32))), .val (.int (2 : Int32)), .val (.int (128 : Int32)), .val (.int (191 : Int32)), .unset, .unset] [(.int (y_1 &&& (255 : Int32)))])) _
                  refine XS.istore X0.here hx rfl (hb hby own_d2_183) rfl (l' := #[.val (.ref a_o), .val (.int i_1), .val (.int t_1), .val (.int (y_0 &&& (255 : Int32))), .val (.int (2 : Int32)), .val (.int (128 : Int32)), .val (.int (191 : Int32)), .val (.int (y_1 &&& (255 : Int32))), .unset]) rfl ?_
                  show Steps p.tables e below (s₁.setTop (mkF m 185 #[.val (.ref a_o), .val (.int i_1), .val (.int t_1), .val (.int (y_0 &&& (255 : Int32))), .val (.int (2 : Int32)), .val (.int (128 : Int32)), .val (.int (191 : Int32)), .val (.int (y_1 &&& (255 : Int32))), .unset] [])) _
                  refine XS.iload X0.here hx rfl (hb hby own_d2_185) rfl ?_
                  show Steps p.tables e below (s₁.setTop (mkF m 187 #[.val (.ref a_o), .val (.int i_1), .val (.int t_1), .val (.int (y_0 &&& (255 : Int32))), .val (.int (2 : Int32)), .val (.int (128 : Int32)), .val (.int (191 : Int32)), .val (.int (y_1 &&& (255 : Int32))), .unset] [(.int (y_1 &&& (255 : Int32)))])) _
                  refine XS.iload X0.here hx rfl (hb hby own_d2_187) rfl ?_
                  exact kt
                by_cases hc189_291 : (y_1 &&& (255 : Int32)) < (128 : Int32)
                · obtain ⟨fs, hr, hrun, hended, hW, hsame⟩ := X0.leave (v := some (.int (0 : Int32))) (fun h => by rw [Bd.returns] at h; cases h) (hlocks := BodyLoose.notSynchronized Bd)
                  refine ⟨_, _, pre290 _ ?_, hrun, hended, _, _, rfl, ?_, ⟨_, rfl⟩, hW, hsame.mono (by decide) (by decide)⟩
                  · show Steps p.tables e below (s₁.setTop (mkF m 189 #[.val (.ref a_o), .val (.int i_1), .val (.int t_1), .val (.int (y_0 &&& (255 : Int32))), .val (.int (2 : Int32)), .val (.int (128 : Int32)), .val (.int (191 : Int32)), .val (.int (y_1 &&& (255 : Int32))), .unset] [(.int (128 : Int32)), (.int (y_1 &&& (255 : Int32)))])) _
                    refine XS.icmpYes X0.here hx rfl (pc0 := 189) (pc' := 199) rfl (hb hby own_d2_189) rfl (tlt hc189_291).1 (by decide) (by decide) ?_
                    show Steps p.tables e below (s₁.setTop (mkF m 199 #[.val (.ref a_o), .val (.int i_1), .val (.int t_1), .val (.int (y_0 &&& (255 : Int32))), .val (.int (2 : Int32)), .val (.int (128 : Int32)), .val (.int (191 : Int32)), .val (.int (y_1 &&& (255 : Int32))), .unset] [])) _
                    refine XS.iconst X0.here hx rfl (hb hby own_d2_199) ?_
                    show Steps p.tables e below (s₁.setTop (mkF m 200 #[.val (.ref a_o), .val (.int i_1), .val (.int t_1), .val (.int (y_0 &&& (255 : Int32))), .val (.int (2 : Int32)), .val (.int (128 : Int32)), .val (.int (191 : Int32)), .val (.int (y_1 &&& (255 : Int32))), .unset] [(.int (0 : Int32))])) _
                    exact retI X0 hx Bd.returns (hb hby own_d2_200) hr
                  · show Qown_u Z a_o i_1 t_1 av k_a vs y_0 y_1 y_2 y_3 h0 n0 _ s₁.heap _
                    rw [e0]
                    have hv : (own_u_f y_0 y_1 y_2 y_3 av) = (0 : Int32) := by unfold own_u_f; rw [if_neg hc22_16, if_neg hc35_41, if_neg hc48_53, if_pos hc61_106, if_neg hc71_113, if_neg hc88_195, if_pos hc164_275, if_pos hc189_291]
                    exact ⟨(by rw [hv]), N0, rfl⟩
                · have pre297 : ∀ t, Steps p.tables e below (s₁.setTop (mkF m 196 #[.val (.ref a_o), .val (.int i_1), .val (.int t_1), .val (.int (y_0 &&& (255 : Int32))), .val (.int (2 : Int32)), .val (.int (128 : Int32)), .val (.int (191 : Int32)), .val (.int (y_1 &&& (255 : Int32))), .unset] [(.int (191 : Int32)), (.int (y_1 &&& (255 : Int32)))])) t → Steps p.tables e below (s₁.setTop (entryFrame m #[(.ref a_o), (.int i_1), (.int t_1)] 9)) t := by
                    intro t kt
                    refine pre290 _ ?_
                    show Steps p.tables e below (s₁.setTop (mkF m 189 #[.val (.ref a_o), .val (.int i_1), .val (.int t_1), .val (.int (y_0 &&& (255 : Int32))), .val (.int (2 : Int32)), .val (.int (128 : Int32)), .val (.int (191 : Int32)), .val (.int (y_1 &&& (255 : Int32))), .unset] [(.int (128 : Int32)), (.int (y_1 &&& (255 : Int32)))])) _
                    refine XS.icmpNo X0.here hx rfl (hb hby own_d2_189) rfl (flt hc189_291).1 ?_
                    show Steps p.tables e below (s₁.setTop (mkF m 192 #[.val (.ref a_o), .val (.int i_1), .val (.int t_1), .val (.int (y_0 &&& (255 : Int32))), .val (.int (2 : Int32)), .val (.int (128 : Int32)), .val (.int (191 : Int32)), .val (.int (y_1 &&& (255 : Int32))), .unset] [])) _
                    refine XS.iload X0.here hx rfl (hb hby own_d2_192) rfl ?_
                    show Steps p.tables e below (s₁.setTop (mkF m 194 #[.val (.ref a_o), .val (.int i_1), .val (.int t_1), .val (.int (y_0 &&& (255 : Int32))), .val (.int (2 : Int32)), .val (.int (128 : Int32)), .val (.int (191 : Int32)), .val (.int (y_1 &&& (255 : Int32))), .unset] [(.int (y_1 &&& (255 : Int32)))])) _
                    refine XS.iload X0.here hx rfl (hb hby own_d2_194) rfl ?_
                    exact kt
                  by_cases hc196_298 : (191 : Int32) < (y_1 &&& (255 : Int32))
                  · obtain ⟨fs, hr, hrun, hended, hW, hsame⟩ := X0.leave (v := some (.int (0 : Int32))) (fun h => by rw [Bd.returns] at h; cases h) (hlocks := BodyLoose.notSynchronized Bd)
                    refine ⟨_, _, pre297 _ ?_, hrun, hended, _, _, rfl, ?_, ⟨_, rfl⟩, hW, hsame.mono (by decide) (by decide)⟩
                    · show Steps p.tables e below (s₁.setTop (mkF m 196 #[.val (.ref a_o), .val (.int i_1), .val (.int t_1), .val (.int (y_0 &&& (255 : Int32))), .val (.int (2 : Int32)), .val (.int (128 : Int32)), .val (.int (191 : Int32)), .val (.int (y_1 &&& (255 : Int32))), .unset] [(.int (191 : Int32)), (.int (y_1 &&& (255 : Int32)))])) _
                      refine XS.icmpNo X0.here hx rfl (hb hby own_d2_196) rfl (tlt hc196_298).2.2.2 ?_
                      show Steps p.tables e below (s₁.setTop (mkF m 199 #[.val (.ref a_o), .val (.int i_1), .val (.int t_1), .val (.int (y_0 &&& (255 : Int32))), .val (.int (2 : Int32)), .val (.int (128 : Int32)), .val (.int (191 : Int32)), .val (.int (y_1 &&& (255 : Int32))), .unset] [])) _
                      refine XS.iconst X0.here hx rfl (hb hby own_d2_199) ?_
                      show Steps p.tables e below (s₁.setTop (mkF m 200 #[.val (.ref a_o), .val (.int i_1), .val (.int t_1), .val (.int (y_0 &&& (255 : Int32))), .val (.int (2 : Int32)), .val (.int (128 : Int32)), .val (.int (191 : Int32)), .val (.int (y_1 &&& (255 : Int32))), .unset] [(.int (0 : Int32))])) _
                      exact retI X0 hx Bd.returns (hb hby own_d2_200) hr
                    · show Qown_u Z a_o i_1 t_1 av k_a vs y_0 y_1 y_2 y_3 h0 n0 _ s₁.heap _
                      rw [e0]
                      have hv : (own_u_f y_0 y_1 y_2 y_3 av) = (0 : Int32) := by unfold own_u_f; rw [if_neg hc22_16, if_neg hc35_41, if_neg hc48_53, if_pos hc61_106, if_neg hc71_113, if_neg hc88_195, if_pos hc164_275, if_neg hc189_291, if_pos hc196_298]
                      exact ⟨(by rw [hv]), N0, rfl⟩
                  · obtain ⟨cl311, Ar311, q311, S311, M311, H311, G311⟩ := id V_a
                    have hin311 : ¬ ((i_1 + (2 : Int32)) < 0 ∨ cl311.slots.size ≤ ((i_1 + (2 : Int32))).toNatClampNeg) := inb_of S311 hi_2
                    have hat311 : cl311.slots[((i_1 + (2 : Int32))).toNatClampNeg]? = some (.int y_2) := H311.at hin311 hg_2
                    have pre316 : ∀ t, Steps p.tables e below (s₁.setTop (mkF m 224 #[.val (.ref a_o), .val (.int i_1), .val (.int t_1), .val (.int (y_0 &&& (255 : Int32))), .val (.int (2 : Int32)), .val (.int (128 : Int32)), .val (.int (191 : Int32)), .val (.int (y_1 &&& (255 : Int32))), .val (.int (2 : Int32))] [(.int (128 : Int32)), (.int (y_2 &&& (192 : Int32)))])) t → Steps p.tables e below (s₁.setTop (entryFrame m #[(.ref a_o), (.int i_1), (.int t_1)] 9)) t := by
                      intro t kt
                      refine pre297 _ ?_
                      show Steps p.tables e below (s₁.setTop (mkF m 196 #[.val (.ref a_o), .val (.int i_1), .val (.int t_1), .val (.int (y_0 &&& (255 : Int32))), .val (.int (2 : Int32)), .val (.int (128 : Int32)), .val (.int (191 : Int32)), .val (.int (y_1 &&& (255 : Int32))), .unset] [(.int (191 : Int32)), (.int (y_1 &&& (255 : Int32)))])) _
                      refine XS.icmpYes X0.here hx rfl (pc0 := 196) (pc' := 201) rfl (hb hby own_d2_196) rfl (flt hc196_298).2.2.2 (by decide) (by decide) ?_
                      show Steps p.tables e below (s₁.setTop (mkF m 201 #[.val (.ref a_o), .val (.int i_1), .val (.int t_1), .val (.int (y_0 &&& (255 : Int32))), .val (.int (2 : Int32)), .val (.int (128 : Int32)), .val (.int (191 : Int32)), .val (.int (y_1 &&& (255 : Int32))), .unset] [])) _
                      refine XS.iconst X0.here hx rfl (hb hby own_d2_201) ?_
                      show Steps p.tables e below (s₁.setTop (mkF m 202 #[.val (.ref a_o), .val (.int i_1), .val (.int t_1), .val (.int (y_0 &&& (255 : Int32))), .val (.int (2 : Int32)), .val (.int (128 : Int32)), .val (.int (191 : Int32)), .val (.int (y_1 &&& (255 : Int32))), .unset] [(.int (2 : Int32))])) _
                      refine XS.istore X0.here hx rfl (hb hby own_d2_202) rfl (l' := #[.val (.ref a_o), .val (.int i_1), .val (.int t_1), .val (.int (y_0 &&& (255 : Int32))), .val (.int (2 : Int32)), .val (.int (128 : Int32)), .val (.int (191 : Int32)), .val (.int (y_1 &&& (255 : Int32))), .val (.int (2 : Int32))]) rfl ?_
                      show Steps p.tables e below (s₁.setTop (mkF m 204 #[.val (.ref a_o), .val (.int i_1), .val (.int t_1), .val (.int (y_0 &&& (255 : Int32))), .val (.int (2 : Int32)), .val (.int (128 : Int32)), .val (.int (191 : Int32)), .val (.int (y_1 &&& (255 : Int32))), .val (.int (2 : Int32))] [])) _
                      refine XS.iload X0.here hx rfl (hb hby own_d2_204) rfl ?_
                      show Steps p.tables e below (s₁.setTop (mkF m 206 #[.val (.ref a_o), .val (.int i_1), .val (.int t_1), .val (.int (y_0 &&& (255 : Int32))), .val (.int (2 : Int32)), .val (.int (128 : Int32)), .val (.int (191 : Int32)), .val (.int (y_1 &&& (255 : Int32))), .val (.int (2 : Int32))] [(.int (2 : Int32))])) _
                      refine XS.iload X0.here hx rfl (hb hby own_d2_206) rfl ?_
                      show Steps p.tables e below (s₁.setTop (mkF m 208 #[.val (.ref a_o), .val (.int i_1), .val (.int t_1), .val (.int (y_0 &&& (255 : Int32))), .val (.int (2 : Int32)), .val (.int (128 : Int32)), .val (.int (191 : Int32)), .val (.int (y_1 &&& (255 : Int32))), .val (.int (2 : Int32))] [(.int (2 : Int32)), (.int (2 : Int32))])) _
                      refine XS.icmpNo X0.here hx rfl (hb hby own_d2_208) rfl (flt ((by decide) : ¬ ((2 : Int32) < (2 : Int32)))).2.2.1 ?_
                      show Steps p.tables e below (s₁.setTop (mkF m 211 #[.val (.ref a_o), .val (.int i_1), .val (.int t_1), .val (.int (y_0 &&& (255 : Int32))), .val (.int (2 : Int32)), .val (.int (128 : Int32)), .val (.int (191 : Int32)), .val (.int (y_1 &&& (255 : Int32))), .val (.int (2 : Int32))] [])) _
                      refine XS.aloadN X0.here hx rfl (hb hby own_d2_211) rfl rfl ?_
                      show Steps p.tables e below (s₁.setTop (mkF m 212 #[.val (.ref a_o), .val (.int i_1), .val (.int t_1), .val (.int (y_0 &&& (255 : Int32))), .val (.int (2 : Int32)), .val (.int (128 : Int32)), .val (.int (191 : Int32)), .val (.int (y_1 &&& (255 : Int32))), .val (.int (2 : Int32))] [(.ref a_o)])) _
                      refine XS.iloadN X0.here hx rfl (hb hby own_d2_212) rfl ?_
                      show Steps p.tables e below (s₁.setTop (mkF m 213 #[.val (.ref a_o), .val (.int i_1), .val (.int t_1), .val (.int (y_0 &&& (255 : Int32))), .val (.int (2 : Int32)), .val (.int (128 : Int32)), .val (.int (191 : Int32)), .val (.int (y_1 &&& (255 : Int32))), .val (.int (2 : Int32))] [(.int i_1), (.ref a_o)])) _
                      refine XS.iload X0.here hx rfl (hb hby own_d2_213) rfl ?_
                      show Steps p.tables e below (s₁.setTop (mkF m 215 #[.val (.ref a_o), .val (.int i_1), .val (.int t_1), .val (.int (y_0 &&& (255 : Int32))), .val (.int (2 : Int32)), .val (.int (128 : Int32)), .val (.int (191 : Int32)), .val (.int (y_1 &&& (255 : Int32))), .val (.int (2 : Int32))] [(.int (2 : Int32)), (.int i_1), (.ref a_o)])) _
                      refine XS.iadd X0.here hx rfl (hb hby own_d2_215) rfl ?_
                      show Steps p.tables e below (s₁.setTop (mkF m 216 #[.val (.ref a_o), .val (.int i_1), .val (.int t_1), .val (.int (y_0 &&& (255 : Int32))), .val (.int (2 : Int32)), .val (.int (128 : Int32)), .val (.int (191 : Int32)), .val (.int (y_1 &&& (255 : Int32))), .val (.int (2 : Int32))] [(.int (i_1 + (2 : Int32))), (.ref a_o)])) _
                      refine X0.baloadBytes hx (j := (i_1 + (2 : Int32))) (v := (.int y_2)) (by rw [e0]; exact Ar311.1) (State.isArrayOf_alike hZ.alike Ar311.2.1) Ar311.2.2 hin311 hat311 (g := (mkF m 216 #[.val (.ref a_o), .val (.int i_1), .val (.int t_1), .val (.int (y_0 &&& (255 : Int32))), .val (.int (2 : Int32)), .val (.int (128 : Int32)), .val (.int (191 : Int32)), .val (.int (y_1 &&& (255 : Int32))), .val (.int (2 : Int32))] [(.int (i_1 + (2 : Int32))), (.ref a_o)])) rfl rfl (hb hby own_d2_216) _ ?_
                      show Steps p.tables e below (s₁.setTop (mkF m 217 #[.val (.ref a_o), .val (.int i_1), .val (.int t_1), .val (.int (y_0 &&& (255 : Int32))), .val (.int (2 : Int32)), .val (.int (128 : Int32)), .val (.int (191 : Int32)), .val (.int (y_1 &&& (255 : Int32))), .val (.int (2 : Int32))] [(.int y_2)])) _
                      refine XS.sipush X0.here hx rfl (hb hby own_d2_217) ?_
                      show Steps p.tables e below (s₁.setTop (mkF m 220 #[.val (.ref a_o), .val (.int i_1), .val (.int t_1), .val (.int (y_0 &&& (255 : Int32))), .val (.int (2 : Int32)), .val (.int (128 : Int32)), .val (.int (191 : Int32)), .val (.int (y_1 &&& (255 : Int32))), .val (.int (2 : Int32))] [(.int (192 : Int32)), (.int y_2)])) _
                      refine XS.iand X0.here hx rfl (hb hby own_d2_220) rfl ?_
                      show Steps p.tables e below (s₁.setTop (mkF m 221 #[.val (.ref a_o), .val (.int i_1), .val (.int t_1), .val (.int (y_0 &&& (255 : Int32))), .val (.int (2 : Int32)), .val (.int (128 : Int32)), .val (.int (191 : Int32)), .val (.int (y_1 &&& (255 : Int32))), .val (.int (2 : Int32))] [(.int (y_2 &&& (192 : Int32)))])) _
                      refine XS.sipush X0.here hx rfl (hb hby own_d2_221) ?_
                      exact kt
                    by_cases hc224_317 : (y_2 &&& (192 : Int32)) = (128 : Int32)
                    · obtain ⟨fs, hr, hrun, hended, hW, hsame⟩ := X0.leave (v := some (.int (3 : Int32))) (fun h => by rw [Bd.returns] at h; cases h) (hlocks := BodyLoose.notSynchronized Bd)
                      refine ⟨_, _, pre316 _ ?_, hrun, hended, _, _, rfl, ?_, ⟨_, rfl⟩, hW, hsame.mono (by decide) (by decide)⟩
                      · show Steps p.tables e below (s₁.setTop (mkF m 224 #[.val (.ref a_o), .val (.int i_1), .val (.int t_1), .val (.int (y_0 &&& (255 : Int32))), .val (.int (2 : Int32)), .val (.int (128 : Int32)), .val (.int (191 : Int32)), .val (.int (y_1 &&& (255 : Int32))), .val (.int (2 : Int32))] [(.int (128 : Int32)), (.int (y_2 &&& (192 : Int32)))])) _
                        refine XS.icmpYes X0.here hx rfl (pc0 := 224) (pc' := 229) rfl (hb hby own_d2_224) rfl (teq hc224_317).1 (by decide) (by decide) ?_
                        show Steps p.tables e below (s₁.setTop (mkF m 229 #[.val (.ref a_o), .val (.int i_1), .val (.int t_1), .val (.int (y_0 &&& (255 : Int32))), .val (.int (2 : Int32)), .val (.int (128 : Int32)), .val (.int (191 : Int32)), .val (.int (y_1 &&& (255 : Int32))), .val (.int (2 : Int32))] [])) _
                        refine XS.iinc X0.here hx rfl (hb hby own_d2_229) rfl (l' := #[.val (.ref a_o), .val (.int i_1), .val (.int t_1), .val (.int (y_0 &&& (255 : Int32))), .val (.int (2 : Int32)), .val (.int (128 : Int32)), .val (.int (191 : Int32)), .val (.int (y_1 &&& (255 : Int32))), .val (.int (3 : Int32))]) rfl ?_
                        show Steps p.tables e below (s₁.setTop (mkF m 232 #[.val (.ref a_o), .val (.int i_1), .val (.int t_1), .val (.int (y_0 &&& (255 : Int32))), .val (.int (2 : Int32)), .val (.int (128 : Int32)), .val (.int (191 : Int32)), .val (.int (y_1 &&& (255 : Int32))), .val (.int (3 : Int32))] [])) _
                        refine XS.goto X0.here hx rfl (pc0 := 232) (pc' := 204) rfl (hb hby own_d2_232) (by decide) (by decide) ?_
                        show Steps p.tables e below (s₁.setTop (mkF m 204 #[.val (.ref a_o), .val (.int i_1), .val (.int t_1), .val (.int (y_0 &&& (255 : Int32))), .val (.int (2 : Int32)), .val (.int (128 : Int32)), .val (.int (191 : Int32)), .val (.int (y_1 &&& (255 : Int32))), .val (.int (3 : Int32))] [])) _
                        refine XS.iload X0.here hx rfl (hb hby own_d2_204) rfl ?_
                        show Steps p.tables e below (s₁.setTop (mkF m 206 #[.val (.ref a_o), .val (.int i_1), .val (.int t_1), .val (.int (y_0 &&& (255 : Int32))), .val (.int (2 : Int32)), .val (.int (128 : Int32)), .val (.int (191 : Int32)), .val (.int (y_1 &&& (255 : Int32))), .val (.int (3 : Int32))] [(.int (3 : Int32))])) _
                        refine XS.iload X0.here hx rfl (hb hby own_d2_206) rfl ?_
                        show Steps p.tables e below (s₁.setTop (mkF m 208 #[.val (.ref a_o), .val (.int i_1), .val (.int t_1), .val (.int (y_0 &&& (255 : Int32))), .val (.int (2 : Int32)), .val (.int (128 : Int32)), .val (.int (191 : Int32)), .val (.int (y_1 &&& (255 : Int32))), .val (.int (3 : Int32))] [(.int (2 : Int32)), (.int (3 : Int32))])) _
                        refine XS.icmpYes X0.here hx rfl (pc0 := 208) (pc' := 235) rfl (hb hby own_d2_208) rfl (tlt ((by decide) : (2 : Int32) < (3 : Int32))).2.2.1 (by decide) (by decide) ?_
                        show Steps p.tables e below (s₁.setTop (mkF m 235 #[.val (.ref a_o), .val (.int i_1), .val (.int t_1), .val (.int (y_0 &&& (255 : Int32))), .val (.int (2 : Int32)), .val (.int (128 : Int32)), .val (.int (191 : Int32)), .val (.int (y_1 &&& (255 : Int32))), .val (.int (3 : Int32))] [])) _
                        refine XS.iload X0.here hx rfl (hb hby own_d2_235) rfl ?_
                        show Steps p.tables e below (s₁.setTop (mkF m 237 #[.val (.ref a_o), .val (.int i_1), .val (.int t_1), .val (.int (y_0 &&& (255 : Int32))), .val (.int (2 : Int32)), .val (.int (128 : Int32)), .val (.int (191 : Int32)), .val (.int (y_1 &&& (255 : Int32))), .val (.int (3 : Int32))] [(.int (2 : Int32))])) _
                        refine XS.iconst X0.here hx rfl (hb hby own_d2_237) ?_
                        show Steps p.tables e below (s₁.setTop (mkF m 238 #[.val (.ref a_o), .val (.int i_1), .val (.int t_1), .val (.int (y_0 &&& (255 : Int32))), .val (.int (2 : Int32)), .val (.int (128 : Int32)), .val (.int (191 : Int32)), .val (.int (y_1 &&& (255 : Int32))), .val (.int (3 : Int32))] [(.int (1 : Int32)), (.int (2 : Int32))])) _
                        refine XS.iadd X0.here hx rfl (hb hby own_d2_238) rfl ?_
                        show Steps p.tables e below (s₁.setTop (mkF m 239 #[.val (.ref a_o), .val (.int i_1), .val (.int t_1), .val (.int (y_0 &&& (255 : Int32))), .val (.int (2 : Int32)), .val (.int (128 : Int32)), .val (.int (191 : Int32)), .val (.int (y_1 &&& (255 : Int32))), .val (.int (3 : Int32))] [(.int (3 : Int32))])) _
                        exact retI X0 hx Bd.returns (hb hby own_d2_239) hr
                      · show Qown_u Z a_o i_1 t_1 av k_a vs y_0 y_1 y_2 y_3 h0 n0 _ s₁.heap _
                        rw [e0]
                        have hv : (own_u_f y_0 y_1 y_2 y_3 av) = (3 : Int32) := by unfold own_u_f; rw [if_neg hc22_16, if_neg hc35_41, if_neg hc48_53, if_pos hc61_106, if_neg hc71_113, if_neg hc88_195, if_pos hc164_275, if_neg hc189_291, if_neg hc196_298, if_pos hc224_317]
                        exact ⟨(by rw [hv]), N0, rfl⟩
                    · obtain ⟨fs, hr, hrun, hended, hW, hsame⟩ := X0.leave (v := some (.int (0 : Int32))) (fun h => by rw [Bd.returns] at h; cases h) (hlocks := BodyLoose.notSynchronized Bd)
                      refine ⟨_, _, pre316 _ ?_, hrun, hended, _, _, rfl, ?_, ⟨_, rfl⟩, hW, hsame.mono (by decide) (by decide)⟩
                      · show Steps p.tables e below (s₁.setTop (mkF m 224 #[.val (.ref a_o), .val (.int i_1), .val (.int t_1), .val (.int (y_0 &&& (255 : Int32))), .val (.int (2 : Int32)), .val (.int (128 : Int32)), .val (.int (191 : Int32)), .val (.int (y_1 &&& (255 : Int32))), .val (.int (2 : Int32))] [(.int (128 : Int32)), (.int (y_2 &&& (192 : Int32)))])) _
                        refine XS.icmpNo X0.here hx rfl (hb hby own_d2_224) rfl (feq hc224_317).1 ?_
                        show Steps p.tables e below (s₁.setTop (mkF m 227 #[.val (.ref a_o), .val (.int i_1), .val (.int t_1), .val (.int (y_0 &&& (255 : Int32))), .val (.int (2 : Int32)), .val (.int (128 : Int32)), .val (.int (191 : Int32)), .val (.int (y_1 &&& (255 : Int32))), .val (.int (2 : Int32))] [])) _
                        refine XS.iconst X0.here hx rfl (hb hby own_d2_227) ?_
                        show Steps p.tables e below (s₁.setTop (mkF m 228 #[.val (.ref a_o), .val (.int i_1), .val (.int t_1), .val (.int (y_0 &&& (255 : Int32))), .val (.int (2 : Int32)), .val (.int (128 : Int32)), .val (.int (191 : Int32)), .val (.int (y_1 &&& (255 : Int32))), .val (.int (2 : Int32))] [(.int (0 : Int32))])) _
                        exact retI X0 hx Bd.returns (hb hby own_d2_228) hr
                      · show Qown_u Z a_o i_1 t_1 av k_a vs y_0 y_1 y_2 y_3 h0 n0 _ s₁.heap _
                        rw [e0]
                        have hv : (own_u_f y_0 y_1 y_2 y_3 av) = (0 : Int32) := by unfold own_u_f; rw [if_neg hc22_16, if_neg hc35_41, if_neg hc48_53, if_pos hc61_106, if_neg hc71_113, if_neg hc88_195, if_pos hc164_275, if_neg hc189_291, if_neg hc196_298, if_neg hc224_317]
                        exact ⟨(by rw [hv]), N0, rfl⟩
              · obtain ⟨fs, hr, hrun, hended, hW, hsame⟩ := X0.leave (v := some (.int (0 : Int32))) (fun h => by rw [Bd.returns] at h; cases h) (hlocks := BodyLoose.notSynchronized Bd)
                refine ⟨_, _, pre274 _ ?_, hrun, hended, _, _, rfl, ?_, ⟨_, rfl⟩, hW, hsame.mono (by decide) (by decide)⟩
                · show Steps p.tables e below (s₁.setTop (mkF m 164 #[.val (.ref a_o), .val (.int i_1), .val (.int t_1), .val (.int (y_0 &&& (255 : Int32))), .val (.int (2 : Int32)), .val (.int (128 : Int32)), .val (.int (191 : Int32)), .unset, .unset] [(.int (2 : Int32)), (.int av)])) _
                  refine XS.icmpNo X0.here hx rfl (hb hby own_d2_164) rfl (flt hc164_275).2.2.1 ?_
                  show Steps p.tables e below (s₁.setTop (mkF m 167 #[.val (.ref a_o), .val (.int i_1), .val (.int t_1), .val (.int (y_0 &&& (255 : Int32))), .val (.int (2 : Int32)), .val (.int (128 : Int32)), .val (.int (191 : Int32)), .unset, .unset] [])) _
                  refine XS.iconst X0.here hx rfl (hb hby own_d2_167) ?_
                  show Steps p.tables e below (s₁.setTop (mkF m 168 #[.val (.ref a_o), .val (.int i_1), .val (.int t_1), .val (.int (y_0 &&& (255 : Int32))), .val (.int (2 : Int32)), .val (.int (128 : Int32)), .val (.int (191 : Int32)), .unset, .unset] [(.int (0 : Int32))])) _
                  exact retI X0 hx Bd.returns (hb hby own_d2_168) hr
                · show Qown_u Z a_o i_1 t_1 av k_a vs y_0 y_1 y_2 y_3 h0 n0 _ s₁.heap _
                  rw [e0]
                  have hv : (own_u_f y_0 y_1 y_2 y_3 av) = (0 : Int32) := by unfold own_u_f; rw [if_neg hc22_16, if_neg hc35_41, if_neg hc48_53, if_pos hc61_106, if_neg hc71_113, if_neg hc88_195, if_neg hc164_275]
                  exact ⟨(by rw [hv]), N0, rfl⟩
        · have pre334 : ∀ t, Steps p.tables e below (s₁.setTop (mkF m 108 #[.val (.ref a_o), .val (.int i_1), .val (.int t_1), .val (.int (y_0 &&& (255 : Int32))), .unset, .val (.int (128 : Int32)), .val (.int (191 : Int32)), .unset, .unset] [(.int (245 : Int32)), (.int (y_0 &&& (255 : Int32)))])) t → Steps p.tables e below (s₁.setTop (entryFrame m #[(.ref a_o), (.int i_1), (.int t_1)] 9)) t := by
            intro t kt
            refine pre105 _ ?_
            show Steps p.tables e below (s₁.setTop (mkF m 61 #[.val (.ref a_o), .val (.int i_1), .val (.int t_1), .val (.int (y_0 &&& (255 : Int32))), .unset, .val (.int (128 : Int32)), .val (.int (191 : Int32)), .unset, .unset] [(.int (240 : Int32)), (.int (y_0 &&& (255 : Int32)))])) _
            refine XS.icmpYes X0.here hx rfl (pc0 := 61) (pc' := 104) rfl (hb hby own_d2_61) rfl (flt hc61_106).2.1 (by decide) (by decide) ?_
            show Steps p.tables e below (s₁.setTop (mkF m 104 #[.val (.ref a_o), .val (.int i_1), .val (.int t_1), .val (.int (y_0 &&& (255 : Int32))), .unset, .val (.int (128 : Int32)), .val (.int (191 : Int32)), .unset, .unset] [])) _
            refine XS.iloadN X0.here hx rfl (hb hby own_d2_104) rfl ?_
            show Steps p.tables e below (s₁.setTop (mkF m 105 #[.val (.ref a_o), .val (.int i_1), .val (.int t_1), .val (.int (y_0 &&& (255 : Int32))), .unset, .val (.int (128 : Int32)), .val (.int (191 : Int32)), .unset, .unset] [(.int (y_0 &&& (255 : Int32)))])) _
            refine XS.sipush X0.here hx rfl (hb hby own_d2_105) ?_
            exact kt
          by_cases hc108_335 : (y_0 &&& (255 : Int32)) < (245 : Int32)
          · have pre341 : ∀ t, Steps p.tables e below (s₁.setTop (mkF m 118 #[.val (.ref a_o), .val (.int i_1), .val (.int t_1), .val (.int (y_0 &&& (255 : Int32))), .val (.int (3 : Int32)), .val (.int (128 : Int32)), .val (.int (191 : Int32)), .unset, .unset] [(.int (240 : Int32)), (.int (y_0 &&& (255 : Int32)))])) t → Steps p.tables e below (s₁.setTop (entryFrame m #[(.ref a_o), (.int i_1), (.int t_1)] 9)) t := by
              intro t kt
              refine pre334 _ ?_
              show Steps p.tables e below (s₁.setTop (mkF m 108 #[.val (.ref a_o), .val (.int i_1), .val (.int t_1), .val (.int (y_0 &&& (255 : Int32))), .unset, .val (.int (128 : Int32)), .val (.int (191 : Int32)), .unset, .unset] [(.int (245 : Int32)), (.int (y_0 &&& (255 : Int32)))])) _
              refine XS.icmpNo X0.here hx rfl (hb hby own_d2_108) rfl (tlt hc108_335).2.1 ?_
              show Steps p.tables e below (s₁.setTop (mkF m 111 #[.val (.ref a_o), .val (.int i_1), .val (.int t_1), .val (.int (y_0 &&& (255 : Int32))), .unset, .val (.int (128 : Int32)), .val (.int (191 : Int32)), .unset, .unset] [])) _
              refine XS.iconst X0.here hx rfl (hb hby own_d2_111) ?_
              show Steps p.tables e below (s₁.setTop (mkF m 112 #[.val (.ref a_o), .val (.int i_1), .val (.int t_1), .val (.int (y_0 &&& (255 : Int32))), .unset, .val (.int (128 : Int32)), .val (.int (191 : Int32)), .unset, .unset] [(.int (3 : Int32))])) _
              refine XS.istore X0.here hx rfl (hb hby own_d2_112) rfl (l' := #[.val (.ref a_o), .val (.int i_1), .val (.int t_1), .val (.int (y_0 &&& (255 : Int32))), .val (.int (3 : Int32)), .val (.int (128 : Int32)), .val (.int (191 : Int32)), .unset, .unset]) rfl ?_
              show Steps p.tables e below (s₁.setTop (mkF m 114 #[.val (.ref a_o), .val (.int i_1), .val (.int t_1), .val (.int (y_0 &&& (255 : Int32))), .val (.int (3 : Int32)), .val (.int (128 : Int32)), .val (.int (191 : Int32)), .unset, .unset] [])) _
              refine XS.iloadN X0.here hx rfl (hb hby own_d2_114) rfl ?_
              show Steps p.tables e below (s₁.setTop (mkF m 115 #[.val (.ref a_o), .val (.int i_1), .val (.int t_1), .val (.int (y_0 &&& (255 : Int32))), .val (.int (3 : Int32)), .val (.int (128 : Int32)), .val (.int (191 : Int32)), .unset, .unset] [(.int (y_0 &&& (255 : Int32)))])) _
              refine XS.sipush X0.here hx rfl (hb hby own_d2_115) ?_
              exact kt
            by_cases hc118_342 : (y_0 &&& (255 : Int32)) = (240 : Int32)
            · have pre349 : ∀ t, Steps p.tables e below (s₁.setTop (mkF m 135 #[.val (.ref a_o), .val (.int i_1), .val (.int t_1), .val (.int (y_0 &&& (255 : Int32))), .val (.int (3 : Int32)), .val (.int (144 : Int32)), .val (.int (191 : Int32)), .unset, .unset] [(.int (244 : Int32)), (.int (y_0 &&& (255 : Int32)))])) t → Steps p.tables e below (s₁.setTop (entryFrame m #[(.ref a_o), (.int i_1), (.int t_1)] 9)) t := by
                intro t kt
                refine pre341 _ ?_
                show Steps p.tables e below (s₁.setTop (mkF m 118 #[.val (.ref a_o), .val (.int i_1), .val (.int t_1), .val (.int (y_0 &&& (255 : Int32))), .val (.int (3 : Int32)), .val (.int (128 : Int32)), .val (.int (191 : Int32)), .unset, .unset] [(.int (240 : Int32)), (.int (y_0 &&& (255 : Int32)))])) _
                refine XS.icmpNo X0.here hx rfl (hb hby own_d2_118) rfl (teq hc118_342).2 ?_
                show Steps p.tables e below (s₁.setTop (mkF m 121 #[.val (.ref a_o), .val (.int i_1), .val (.int t_1), .val (.int (y_0 &&& (255 : Int32))), .val (.int (3 : Int32)), .val (.int (128 : Int32)), .val (.int (191 : Int32)), .unset, .unset] [])) _
                refine XS.sipush X0.here hx rfl (hb hby own_d2_121) ?_
                show Steps p.tables e below (s₁.setTop (mkF m 124 #[.val (.ref a_o), .val (.int i_1), .val (.int t_1), .val (.int (y_0 &&& (255 : Int32))), .val (.int (3 : Int32)), .val (.int (128 : Int32)), .val (.int (191 : Int32)), .unset, .unset] [(.int (144 : Int32))])) _
                refine XS.goto X0.here hx rfl (pc0 := 124) (pc' := 129) rfl (hb hby own_d2_124) (by decide) (by decide) ?_
                show Steps p.tables e below (s₁.setTop (mkF m 129 #[.val (.ref a_o), .val (.int i_1), .val (.int t_1), .val (.int (y_0 &&& (255 : Int32))), .val (.int (3 : Int32)), .val (.int (128 : Int32)), .val (.int (191 : Int32)), .unset, .unset] [(.int (144 : Int32))])) _
                refine XS.istore X0.here hx rfl (hb hby own_d2_129) rfl (l' := #[.val (.ref a_o), .val (.int i_1), .val (.int t_1), .val (.int (y_0 &&& (255 : Int32))), .val (.int (3 : Int32)), .val (.int (144 : Int32)), .val (.int (191 : Int32)), .unset, .unset]) rfl ?_
                show Steps p.tables e below (s₁.setTop (mkF m 131 #[.val (.ref a_o), .val (.int i_1), .val (.int t_1), .val (.int (y_0 &&& (255 : Int32))), .val (.int (3 : Int32)), .val (.int (144 : Int32)), .val (.int (191 : Int32)), .unset, .unset] [])) _
                refine XS.iloadN X0.here hx rfl (hb hby own_d2_131) rfl ?_
                show Steps p.tables e below (s₁.setTop (mkF m 132 #[.val (.ref a_o), .val (.int i_1), .val (.int t_1), .val (.int (y_0 &&& (255 : Int32))), .val (.int (3 : Int32)), .val (.int (144 : Int32)), .val (.int (191 : Int32)), .unset, .unset] [(.int (y_0 &&& (255 : Int32)))])) _
                refine XS.sipush X0.here hx rfl (hb hby own_d2_132) ?_
                exact kt
              by_cases hc135_350 : (y_0 &&& (255 : Int32)) = (244 : Int32)
              · exact absurd (hc118_342.symm.trans hc135_350) (by decide)
              · have pre361 : ∀ t, Steps p.tables e below (s₁.setTop (mkF m 164 #[.val (.ref a_o), .val (.int i_1), .val (.int t_1), .val (.int (y_0 &&& (255 : Int32))), .val (.int (3 : Int32)), .val (.int (144 : Int32)), .val (.int (191 : Int32)), .unset, .unset] [(.int (3 : Int32)), (.int av)])) t → Steps p.tables e below (s₁.setTop (entryFrame m #[(.ref a_o), (.int i_1), (.int t_1)] 9)) t := by
                  intro t kt
                  refine pre349 _ ?_
                  show Steps p.tables e below (s₁.setTop (mkF m 135 #[.val (.ref a_o), .val (.int i_1), .val (.int t_1), .val (.int (y_0 &&& (255 : Int32))), .val (.int (3 : Int32)), .val (.int (144 : Int32)), .val (.int (191 : Int32)), .unset, .unset] [(.int (244 : Int32)), (.int (y_0 &&& (255 : Int32)))])) _
                  refine XS.icmpYes X0.here hx rfl (pc0 := 135) (pc' := 144) rfl (hb hby own_d2_135) rfl (feq hc135_350).2 (by decide) (by decide) ?_
                  show Steps p.tables e below (s₁.setTop (mkF m 144 #[.val (.ref a_o), .val (.int i_1), .val (.int t_1), .val (.int (y_0 &&& (255 : Int32))), .val (.int (3 : Int32)), .val (.int (144 : Int32)), .val (.int (191 : Int32)), .unset, .unset] [])) _
                  refine XS.iload X0.here hx rfl (hb hby own_d2_144) rfl ?_
                  show Steps p.tables e below (s₁.setTop (mkF m 146 #[.val (.ref a_o), .val (.int i_1), .val (.int t_1), .val (.int (y_0 &&& (255 : Int32))), .val (.int (3 : Int32)), .val (.int (144 : Int32)), .val (.int (191 : Int32)), .unset, .unset] [(.int (191 : Int32))])) _
                  refine XS.istore X0.here hx rfl (hb hby own_d2_146) rfl (l' := #[.val (.ref a_o), .val (.int i_1), .val (.int t_1), .val (.int (y_0 &&& (255 : Int32))), .val (.int (3 : Int32)), .val (.int (144 : Int32)), .val (.int (191 : Int32)), .unset, .unset]) rfl ?_
                  show Steps p.tables e below (s₁.setTop (mkF m 148 #[.val (.ref a_o), .val (.int i_1), .val (.int t_1), .val (.int (y_0 &&& (255 : Int32))), .val (.int (3 : Int32)), .val (.int (144 : Int32)), .val (.int (191 : Int32)), .unset, .unset] [])) _
                  refine XS.goto X0.here hx rfl (pc0 := 148) (pc' := 154) rfl (hb hby own_d2_148) (by decide) (by decide) ?_
                  show Steps p.tables e below (s₁.setTop (mkF m 154 #[.val (.ref a_o), .val (.int i_1), .val (.int t_1), .val (.int (y_0 &&& (255 : Int32))), .val (.int (3 : Int32)), .val (.int (144 : Int32)), .val (.int (191 : Int32)), .unset, .unset] [])) _
                  refine XS.iload X0.here hx rfl (hb hby own_d2_154) rfl ?_
                  show Steps p.tables e below (s₁.setTop (mkF m 156 #[.val (.ref a_o), .val (.int i_1), .val (.int t_1), .val (.int (y_0 &&& (255 : Int32))), .val (.int (3 : Int32)), .val (.int (144 : Int32)), .val (.int (191 : Int32)), .unset, .unset] [(.int (3 : Int32))])) _
                  refine XS.ifNo X0.here hx rfl (hb hby own_d2_156) rfl ((if0 _ _).trans (flt ((by decide) : ¬ ((3 : Int32) < (0 : Int32)))).1) ?_
                  show Steps p.tables e below (s₁.setTop (mkF m 159 #[.val (.ref a_o), .val (.int i_1), .val (.int t_1), .val (.int (y_0 &&& (255 : Int32))), .val (.int (3 : Int32)), .val (.int (144 : Int32)), .val (.int (191 : Int32)), .unset, .unset] [])) _
                  refine XS.iloadN X0.here hx rfl (hb hby own_d2_159) rfl ?_
                  show Steps p.tables e below (s₁.setTop (mkF m 160 #[.val (.ref a_o), .val (.int i_1), .val (.int t_1), .val (.int (y_0 &&& (255 : Int32))), .val (.int (3 : Int32)), .val (.int (144 : Int32)), .val (.int (191 : Int32)), .unset, .unset] [(.int t_1)])) _
                  refine XS.iloadN X0.here hx rfl (hb hby own_d2_160) rfl ?_
                  show Steps p.tables e below (s₁.setTop (mkF m 161 #[.val (.ref a_o), .val (.int i_1), .val (.int t_1), .val (.int (y_0 &&& (255 : Int32))), .val (.int (3 : Int32)), .val (.int (144 : Int32)), .val (.int (191 : Int32)), .unset, .unset] [(.int i_1), (.int t_1)])) _
                  refine XS.isub X0.here hx rfl (hb hby own_d2_161) rfl ?_
                  rw [ht]
                  show Steps p.tables e below (s₁.setTop (mkF m 162 #[.val (.ref a_o), .val (.int i_1), .val (.int t_1), .val (.int (y_0 &&& (255 : Int32))), .val (.int (3 : Int32)), .val (.int (144 : Int32)), .val (.int (191 : Int32)), .unset, .unset] [(.int av)])) _
                  refine XS.iload X0.here hx rfl (hb hby own_d2_162) rfl ?_
                  exact kt
                by_cases hc164_362 : (3 : Int32) < av
                · obtain ⟨cl370, Ar370, q370, S370, M370, H370, G370⟩ := id V_a
                  have hin370 : ¬ ((i_1 + (1 : Int32)) < 0 ∨ cl370.slots.size ≤ ((i_1 + (1 : Int32))).toNatClampNeg) := inb_of S370 hi_1
                  have hat370 : cl370.slots[((i_1 + (1 : Int32))).toNatClampNeg]? = some (.int y_1) := H370.at hin370 hg_1
                  have pre377 : ∀ t, Steps p.tables e below (s₁.setTop (mkF m 189 #[.val (.ref a_o), .val (.int i_1), .val (.int t_1), .val (.int (y_0 &&& (255 : Int32))), .val (.int (3 : Int32)), .val (.int (144 : Int32)), .val (.int (191 : Int32)), .val (.int (y_1 &&& (255 : Int32))), .unset] [(.int (144 : Int32)), (.int (y_1 &&& (255 : Int32)))])) t → Steps p.tables e below (s₁.setTop (entryFrame m #[(.ref a_o), (.int i_1), (.int t_1)] 9)) t := by
                    intro t kt
                    refine pre361 _ ?_
                    show Steps p.tables e below (s₁.setTop (mkF m 164 #[.val (.ref a_o), .val (.int i_1), .val (.int t_1), .val (.int (y_0 &&& (255 : Int32))), .val (.int (3 : Int32)), .val (.int (144 : Int32)), .val (.int (191 : Int32)), .unset, .unset] [(.int (3 : Int32)), (.int av)])) _
                    refine XS.icmpYes X0.here hx rfl (pc0 := 164) (pc' := 169) rfl (hb hby own_d2_164) rfl (tlt hc164_362).2.2.1 (by decide) (by decide) ?_
                    show Steps p.tables e below (s₁.setTop (mkF m 169 #[.val (.ref a_o), .val (.int i_1), .val (.int t_1), .val (.int (y_0 &&& (255 : Int32))), .val (.int (3 : Int32)), .val (.int (144 : Int32)), .val (.int (191 : Int32)), .unset, .unset] [])) _
                    refine XS.iload X0.here hx rfl (hb hby own_d2_169) rfl ?_
                    show Steps p.tables e below (s₁.setTop (mkF m 171 #[.val (.ref a_o), .val (.int i_1), .val (.int t_1), .val (.int (y_0 &&& (255 : Int32))), .val (.int (3 : Int32)), .val (.int (144 : Int32)), .val (.int (191 : Int32)), .unset, .unset] [(.int (3 : Int32))])) _
                    refine XS.ifNo X0.here hx rfl (hb hby own_d2_171) rfl ((if0 _ _).trans (tlt ((by decide) : (0 : Int32) < (3 : Int32))).2.2.2) ?_
                    show Steps p.tables e below (s₁.setTop (mkF m 174 #[.val (.ref a_o), .val (.int i_1), .val (.int t_1), .val (.int (y_0 &&& (255 : Int32))), .val (.int (3 : Int32)), .val (.int (144 : Int32)), .val (.int (191 : Int32)), .unset, .unset] [])) _
                    refine XS.aloadN X0.here hx rfl (hb hby own_d2_174) rfl rfl ?_
                    show Steps p.tables e below (s₁.setTop (mkF m 175 #[.val (.ref a_o), .val (.int i_1), .val (.int t_1), .val (.int (y_0 &&& (255 : Int32))), .val (.int (3 : Int32)), .val (.int (144 : Int32)), .val (.int (191 : Int32)), .unset, .unset] [(.ref a_o)])) _
                    refine XS.iloadN X0.here hx rfl (hb hby own_d2_175) rfl ?_
                    show Steps p.tables e below (s₁.setTop (mkF m 176 #[.val (.ref a_o), .val (.int i_1), .val (.int t_1), .val (.int (y_0 &&& (255 : Int32))), .val (.int (3 : Int32)), .val (.int (144 : Int32)), .val (.int (191 : Int32)), .unset, .unset] [(.int i_1), (.ref a_o)])) _
                    refine XS.iconst X0.here hx rfl (hb hby own_d2_176) ?_
                    show Steps p.tables e below (s₁.setTop (mkF m 177 #[.val (.ref a_o), .val (.int i_1), .val (.int t_1), .val (.int (y_0 &&& (255 : Int32))), .val (.int (3 : Int32)), .val (.int (144 : Int32)), .val (.int (191 : Int32)), .unset, .unset] [(.int (1 : Int32)), (.int i_1), (.ref a_o)])) _
                    refine XS.iadd X0.here hx rfl (hb hby own_d2_177) rfl ?_
                    show Steps p.tables e below (s₁.setTop (mkF m 178 #[.val (.ref a_o), .val (.int i_1), .val (.int t_1), .val (.int (y_0 &&& (255 : Int32))), .val (.int (3 : Int32)), .val (.int (144 : Int32)), .val (.int (191 : Int32)), .unset, .unset] [(.int (i_1 + (1 : Int32))), (.ref a_o)])) _
                    refine X0.baloadBytes hx (j := (i_1 + (1 : Int32))) (v := (.int y_1)) (by rw [e0]; exact Ar370.1) (State.isArrayOf_alike hZ.alike Ar370.2.1) Ar370.2.2 hin370 hat370 (g := (mkF m 178 #[.val (.ref a_o), .val (.int i_1), .val (.int t_1), .val (.int (y_0 &&& (255 : Int32))), .val (.int (3 : Int32)), .val (.int (144 : Int32)), .val (.int (191 : Int32)), .unset, .unset] [(.int (i_1 + (1 : Int32))), (.ref a_o)])) rfl rfl (hb hby own_d2_178) _ ?_
                    show Steps p.tables e below (s₁.setTop (mkF m 179 #[.val (.ref a_o), .val (.int i_1), .val (.int t_1), .val (.int (y_0 &&& (255 : Int32))), .val (.int (3 : Int32)), .val (.int (144 : Int32)), .val (.int (191 : Int32)), .unset, .unset] [(.int y_1)])) _
                    refine XS.sipush X0.here hx rfl (hb hby own_d2_179) ?_
                    show Steps p.tables e below (s₁.setTop (mkF m 182 #[.val (.ref a_o), .val (.int i_1), .val (.int t_1), .val (.int (y_0 &&& (255 : Int32))), .val (.int (3 : Int32)), .val (.int (144 : Int32)), .val (.int (191 : Int32)), .unset, .unset] [(.int (255 : Int32)), (.int y_1)])) _
                    refine XS.iand X0.here hx rfl (hb hby own_d2_182) rfl ?_
                    show Steps p.tables e below (s₁.setTop (mkF m 183 #[.val (.ref a_o), .val (.int i_1), .val (.int t_1), .val (.int (y_0 &&& (255 : Int32))), .val (.int (3 : Int32)), .val (.int (144 : Int32)), .val (.int (191 : Int32)), .unset, .unset] [(.int (y_1 &&& (255 : Int32)))])) _
                    refine XS.istore X0.here hx rfl (hb hby own_d2_183) rfl (l' := #[.val (.ref a_o), .val (.int i_1), .val (.int t_1), .val (.int (y_0 &&& (255 : Int32))), .val (.int (3 : Int32)), .val (.int (144 : Int32)), .val (.int (191 : Int32)), .val (.int (y_1 &&& (255 : Int32))), .unset]) rfl ?_
                    show Steps p.tables e below (s₁.setTop (mkF m 185 #[.val (.ref a_o), .val (.int i_1), .val (.int t_1), .val (.int (y_0 &&& (255 : Int32))), .val (.int (3 : Int32)), .val (.int (144 : Int32)), .val (.int (191 : Int32)), .val (.int (y_1 &&& (255 : Int32))), .unset] [])) _
                    refine XS.iload X0.here hx rfl (hb hby own_d2_185) rfl ?_
                    show Steps p.tables e below (s₁.setTop (mkF m 187 #[.val (.ref a_o), .val (.int i_1), .val (.int t_1), .val (.int (y_0 &&& (255 : Int32))), .val (.int (3 : Int32)), .val (.int (144 : Int32)), .val (.int (191 : Int32)), .val (.int (y_1 &&& (255 : Int32))), .unset] [(.int (y_1 &&& (255 : Int32)))])) _
                    refine XS.iload X0.here hx rfl (hb hby own_d2_187) rfl ?_
                    exact kt
                  by_cases hc189_378 : (y_1 &&& (255 : Int32)) < (144 : Int32)
                  · obtain ⟨fs, hr, hrun, hended, hW, hsame⟩ := X0.leave (v := some (.int (0 : Int32))) (fun h => by rw [Bd.returns] at h; cases h) (hlocks := BodyLoose.notSynchronized Bd)
                    refine ⟨_, _, pre377 _ ?_, hrun, hended, _, _, rfl, ?_, ⟨_, rfl⟩, hW, hsame.mono (by decide) (by decide)⟩
                    · show Steps p.tables e below (s₁.setTop (mkF m 189 #[.val (.ref a_o), .val (.int i_1), .val (.int t_1), .val (.int (y_0 &&& (255 : Int32))), .val (.int (3 : Int32)), .val (.int (144 : Int32)), .val (.int (191 : Int32)), .val (.int (y_1 &&& (255 : Int32))), .unset] [(.int (144 : Int32)), (.int (y_1 &&& (255 : Int32)))])) _
                      refine XS.icmpYes X0.here hx rfl (pc0 := 189) (pc' := 199) rfl (hb hby own_d2_189) rfl (tlt hc189_378).1 (by decide) (by decide) ?_
                      show Steps p.tables e below (s₁.setTop (mkF m 199 #[.val (.ref a_o), .val (.int i_1), .val (.int t_1), .val (.int (y_0 &&& (255 : Int32))), .val (.int (3 : Int32)), .val (.int (144 : Int32)), .val (.int (191 : Int32)), .val (.int (y_1 &&& (255 : Int32))), .unset] [])) _
                      refine XS.iconst X0.here hx rfl (hb hby own_d2_199) ?_
                      show Steps p.tables e below (s₁.setTop (mkF m 200 #[.val (.ref a_o), .val (.int i_1), .val (.int t_1), .val (.int (y_0 &&& (255 : Int32))), .val (.int (3 : Int32)), .val (.int (144 : Int32)), .val (.int (191 : Int32)), .val (.int (y_1 &&& (255 : Int32))), .unset] [(.int (0 : Int32))])) _
                      exact retI X0 hx Bd.returns (hb hby own_d2_200) hr
                    · show Qown_u Z a_o i_1 t_1 av k_a vs y_0 y_1 y_2 y_3 h0 n0 _ s₁.heap _
                      rw [e0]
                      have hv : (own_u_f y_0 y_1 y_2 y_3 av) = (0 : Int32) := by unfold own_u_f; rw [if_neg hc22_16, if_neg hc35_41, if_neg hc48_53, if_neg hc61_106, if_pos hc108_335, if_pos hc118_342, if_pos hc164_362, if_pos hc189_378]
                      exact ⟨(by rw [hv]), N0, rfl⟩
                  · have pre384 : ∀ t, Steps p.tables e below (s₁.setTop (mkF m 196 #[.val (.ref a_o), .val (.int i_1), .val (.int t_1), .val (.int (y_0 &&& (255 : Int32))), .val (.int (3 : Int32)), .val (.int (144 : Int32)), .val (.int (191 : Int32)), .val (.int (y_1 &&& (255 : Int32))), .unset] [(.int (191 : Int32)), (.int (y_1 &&& (255 : Int32)))])) t → Steps p.tables e below (s₁.setTop (entryFrame m #[(.ref a_o), (.int i_1), (.int t_1)] 9)) t := by
                      intro t kt
                      refine pre377 _ ?_
                      show Steps p.tables e below (s₁.setTop (mkF m 189 #[.val (.ref a_o), .val (.int i_1), .val (.int t_1), .val (.int (y_0 &&& (255 : Int32))), .val (.int (3 : Int32)), .val (.int (144 : Int32)), .val (.int (191 : Int32)), .val (.int (y_1 &&& (255 : Int32))), .unset] [(.int (144 : Int32)), (.int (y_1 &&& (255 : Int32)))])) _
                      refine XS.icmpNo X0.here hx rfl (hb hby own_d2_189) rfl (flt hc189_378).1 ?_
                      show Steps p.tables e below (s₁.setTop (mkF m 192 #[.val (.ref a_o), .val (.int i_1), .val (.int t_1), .val (.int (y_0 &&& (255 : Int32))), .val (.int (3 : Int32)), .val (.int (144 : Int32)), .val (.int (191 : Int32)), .val (.int (y_1 &&& (255 : Int32))), .unset] [])) _
                      refine XS.iload X0.here hx rfl (hb hby own_d2_192) rfl ?_
                      show Steps p.tables e below (s₁.setTop (mkF m 194 #[.val (.ref a_o), .val (.int i_1), .val (.int t_1), .val (.int (y_0 &&& (255 : Int32))), .val (.int (3 : Int32)), .val (.int (144 : Int32)), .val (.int (191 : Int32)), .val (.int (y_1 &&& (255 : Int32))), .unset] [(.int (y_1 &&& (255 : Int32)))])) _
                      refine XS.iload X0.here hx rfl (hb hby own_d2_194) rfl ?_
                      exact kt
                    by_cases hc196_385 : (191 : Int32) < (y_1 &&& (255 : Int32))
                    · obtain ⟨fs, hr, hrun, hended, hW, hsame⟩ := X0.leave (v := some (.int (0 : Int32))) (fun h => by rw [Bd.returns] at h; cases h) (hlocks := BodyLoose.notSynchronized Bd)
                      refine ⟨_, _, pre384 _ ?_, hrun, hended, _, _, rfl, ?_, ⟨_, rfl⟩, hW, hsame.mono (by decide) (by decide)⟩
                      · show Steps p.tables e below (s₁.setTop (mkF m 196 #[.val (.ref a_o), .val (.int i_1), .val (.int t_1), .val (.int (y_0 &&& (255 : Int32))), .val (.int (3 : Int32)), .val (.int (144 : Int32)), .val (.int (191 : Int32)), .val (.int (y_1 &&& (255 : Int32))), .unset] [(.int (191 : Int32)), (.int (y_1 &&& (255 : Int32)))])) _
                        refine XS.icmpNo X0.here hx rfl (hb hby own_d2_196) rfl (tlt hc196_385).2.2.2 ?_
                        show Steps p.tables e below (s₁.setTop (mkF m 199 #[.val (.ref a_o), .val (.int i_1), .val (.int t_1), .val (.int (y_0 &&& (255 : Int32))), .val (.int (3 : Int32)), .val (.int (144 : Int32)), .val (.int (191 : Int32)), .val (.int (y_1 &&& (255 : Int32))), .unset] [])) _
                        refine XS.iconst X0.here hx rfl (hb hby own_d2_199) ?_
                        show Steps p.tables e below (s₁.setTop (mkF m 200 #[.val (.ref a_o), .val (.int i_1), .val (.int t_1), .val (.int (y_0 &&& (255 : Int32))), .val (.int (3 : Int32)), .val (.int (144 : Int32)), .val (.int (191 : Int32)), .val (.int (y_1 &&& (255 : Int32))), .unset] [(.int (0 : Int32))])) _
                        exact retI X0 hx Bd.returns (hb hby own_d2_200) hr
                      · show Qown_u Z a_o i_1 t_1 av k_a vs y_0 y_1 y_2 y_3 h0 n0 _ s₁.heap _
                        rw [e0]
                        have hv : (own_u_f y_0 y_1 y_2 y_3 av) = (0 : Int32) := by unfold own_u_f; rw [if_neg hc22_16, if_neg hc35_41, if_neg hc48_53, if_neg hc61_106, if_pos hc108_335, if_pos hc118_342, if_pos hc164_362, if_neg hc189_378, if_pos hc196_385]
                        exact ⟨(by rw [hv]), N0, rfl⟩
                    · obtain ⟨cl398, Ar398, q398, S398, M398, H398, G398⟩ := id V_a
                      have hin398 : ¬ ((i_1 + (2 : Int32)) < 0 ∨ cl398.slots.size ≤ ((i_1 + (2 : Int32))).toNatClampNeg) := inb_of S398 hi_2
                      have hat398 : cl398.slots[((i_1 + (2 : Int32))).toNatClampNeg]? = some (.int y_2) := H398.at hin398 hg_2
                      have pre403 : ∀ t, Steps p.tables e below (s₁.setTop (mkF m 224 #[.val (.ref a_o), .val (.int i_1), .val (.int t_1), .val (.int (y_0 &&& (255 : Int32))), .val (.int (3 : Int32)), .val (.int (144 : Int32)), .val (.int (191 : Int32)), .val (.int (y_1 &&& (255 : Int32))), .val (.int (2 : Int32))] [(.int (128 : Int32)), (.int (y_2 &&& (192 : Int32)))])) t → Steps p.tables e below (s₁.setTop (entryFrame m #[(.ref a_o), (.int i_1), (.int t_1)] 9)) t := by
                        intro t kt
                        refine pre384 _ ?_
                        show Steps p.tables e below (s₁.setTop (mkF m 196 #[.val (.ref a_o), .val (.int i_1), .val (.int t_1), .val (.int (y_0 &&& (255 : Int32))), .val (.int (3 : Int32)), .val (.int (144 : Int32)), .val (.int (191 : Int32)), .val (.int (y_1 &&& (255 : Int32))), .unset] [(.int (191 : Int32)), (.int (y_1 &&& (255 : Int32)))])) _
                        refine XS.icmpYes X0.here hx rfl (pc0 := 196) (pc' := 201) rfl (hb hby own_d2_196) rfl (flt hc196_385).2.2.2 (by decide) (by decide) ?_
                        show Steps p.tables e below (s₁.setTop (mkF m 201 #[.val (.ref a_o), .val (.int i_1), .val (.int t_1), .val (.int (y_0 &&& (255 : Int32))), .val (.int (3 : Int32)), .val (.int (144 : Int32)), .val (.int (191 : Int32)), .val (.int (y_1 &&& (255 : Int32))), .unset] [])) _
                        refine XS.iconst X0.here hx rfl (hb hby own_d2_201) ?_
                        show Steps p.tables e below (s₁.setTop (mkF m 202 #[.val (.ref a_o), .val (.int i_1), .val (.int t_1), .val (.int (y_0 &&& (255 : Int32))), .val (.int (3 : Int32)), .val (.int (144 : Int32)), .val (.int (191 : Int32)), .val (.int (y_1 &&& (255 : Int32))), .unset] [(.int (2 : Int32))])) _
                        refine XS.istore X0.here hx rfl (hb hby own_d2_202) rfl (l' := #[.val (.ref a_o), .val (.int i_1), .val (.int t_1), .val (.int (y_0 &&& (255 : Int32))), .val (.int (3 : Int32)), .val (.int (144 : Int32)), .val (.int (191 : Int32)), .val (.int (y_1 &&& (255 : Int32))), .val (.int (2 : Int32))]) rfl ?_
                        show Steps p.tables e below (s₁.setTop (mkF m 204 #[.val (.ref a_o), .val (.int i_1), .val (.int t_1), .val (.int (y_0 &&& (255 : Int32))), .val (.int (3 : Int32)), .val (.int (144 : Int32)), .val (.int (191 : Int32)), .val (.int (y_1 &&& (255 : Int32))), .val (.int (2 : Int32))] [])) _
                        refine XS.iload X0.here hx rfl (hb hby own_d2_204) rfl ?_
                        show Steps p.tables e below (s₁.setTop (mkF m 206 #[.val (.ref a_o), .val (.int i_1), .val (.int t_1), .val (.int (y_0 &&& (255 : Int32))), .val (.int (3 : Int32)), .val (.int (144 : Int32)), .val (.int (191 : Int32)), .val (.int (y_1 &&& (255 : Int32))), .val (.int (2 : Int32))] [(.int (2 : Int32))])) _
                        refine XS.iload X0.here hx rfl (hb hby own_d2_206) rfl ?_
                        show Steps p.tables e below (s₁.setTop (mkF m 208 #[.val (.ref a_o), .val (.int i_1), .val (.int t_1), .val (.int (y_0 &&& (255 : Int32))), .val (.int (3 : Int32)), .val (.int (144 : Int32)), .val (.int (191 : Int32)), .val (.int (y_1 &&& (255 : Int32))), .val (.int (2 : Int32))] [(.int (3 : Int32)), (.int (2 : Int32))])) _
                        refine XS.icmpNo X0.here hx rfl (hb hby own_d2_208) rfl (flt ((by decide) : ¬ ((3 : Int32) < (2 : Int32)))).2.2.1 ?_
                        show Steps p.tables e below (s₁.setTop (mkF m 211 #[.val (.ref a_o), .val (.int i_1), .val (.int t_1), .val (.int (y_0 &&& (255 : Int32))), .val (.int (3 : Int32)), .val (.int (144 : Int32)), .val (.int (191 : Int32)), .val (.int (y_1 &&& (255 : Int32))), .val (.int (2 : Int32))] [])) _
                        refine XS.aloadN X0.here hx rfl (hb hby own_d2_211) rfl rfl ?_
                        show Steps p.tables e below (s₁.setTop (mkF m 212 #[.val (.ref a_o), .val (.int i_1), .val (.int t_1), .val (.int (y_0 &&& (255 : Int32))), .val (.int (3 : Int32)), .val (.int (144 : Int32)), .val (.int (191 : Int32)), .val (.int (y_1 &&& (255 : Int32))), .val (.int (2 : Int32))] [(.ref a_o)])) _
                        refine XS.iloadN X0.here hx rfl (hb hby own_d2_212) rfl ?_
                        show Steps p.tables e below (s₁.setTop (mkF m 213 #[.val (.ref a_o), .val (.int i_1), .val (.int t_1), .val (.int (y_0 &&& (255 : Int32))), .val (.int (3 : Int32)), .val (.int (144 : Int32)), .val (.int (191 : Int32)), .val (.int (y_1 &&& (255 : Int32))), .val (.int (2 : Int32))] [(.int i_1), (.ref a_o)])) _
                        refine XS.iload X0.here hx rfl (hb hby own_d2_213) rfl ?_
                        show Steps p.tables e below (s₁.setTop (mkF m 215 #[.val (.ref a_o), .val (.int i_1), .val (.int t_1), .val (.int (y_0 &&& (255 : Int32))), .val (.int (3 : Int32)), .val (.int (144 : Int32)), .val (.int (191 : Int32)), .val (.int (y_1 &&& (255 : Int32))), .val (.int (2 : Int32))] [(.int (2 : Int32)), (.int i_1), (.ref a_o)])) _
                        refine XS.iadd X0.here hx rfl (hb hby own_d2_215) rfl ?_
                        show Steps p.tables e below (s₁.setTop (mkF m 216 #[.val (.ref a_o), .val (.int i_1), .val (.int t_1), .val (.int (y_0 &&& (255 : Int32))), .val (.int (3 : Int32)), .val (.int (144 : Int32)), .val (.int (191 : Int32)), .val (.int (y_1 &&& (255 : Int32))), .val (.int (2 : Int32))] [(.int (i_1 + (2 : Int32))), (.ref a_o)])) _
                        refine X0.baloadBytes hx (j := (i_1 + (2 : Int32))) (v := (.int y_2)) (by rw [e0]; exact Ar398.1) (State.isArrayOf_alike hZ.alike Ar398.2.1) Ar398.2.2 hin398 hat398 (g := (mkF m 216 #[.val (.ref a_o), .val (.int i_1), .val (.int t_1), .val (.int (y_0 &&& (255 : Int32))), .val (.int (3 : Int32)), .val (.int (144 : Int32)), .val (.int (191 : Int32)), .val (.int (y_1 &&& (255 : Int32))), .val (.int (2 : Int32))] [(.int (i_1 + (2 : Int32))), (.ref a_o)])) rfl rfl (hb hby own_d2_216) _ ?_
                        show Steps p.tables e below (s₁.setTop (mkF m 217 #[.val (.ref a_o), .val (.int i_1), .val (.int t_1), .val (.int (y_0 &&& (255 : Int32))), .val (.int (3 : Int32)), .val (.int (144 : Int32)), .val (.int (191 : Int32)), .val (.int (y_1 &&& (255 : Int32))), .val (.int (2 : Int32))] [(.int y_2)])) _
                        refine XS.sipush X0.here hx rfl (hb hby own_d2_217) ?_
                        show Steps p.tables e below (s₁.setTop (mkF m 220 #[.val (.ref a_o), .val (.int i_1), .val (.int t_1), .val (.int (y_0 &&& (255 : Int32))), .val (.int (3 : Int32)), .val (.int (144 : Int32)), .val (.int (191 : Int32)), .val (.int (y_1 &&& (255 : Int32))), .val (.int (2 : Int32))] [(.int (192 : Int32)), (.int y_2)])) _
                        refine XS.iand X0.here hx rfl (hb hby own_d2_220) rfl ?_
                        show Steps p.tables e below (s₁.setTop (mkF m 221 #[.val (.ref a_o), .val (.int i_1), .val (.int t_1), .val (.int (y_0 &&& (255 : Int32))), .val (.int (3 : Int32)), .val (.int (144 : Int32)), .val (.int (191 : Int32)), .val (.int (y_1 &&& (255 : Int32))), .val (.int (2 : Int32))] [(.int (y_2 &&& (192 : Int32)))])) _
                        refine XS.sipush X0.here hx rfl (hb hby own_d2_221) ?_
                        exact kt
                      by_cases hc224_404 : (y_2 &&& (192 : Int32)) = (128 : Int32)
                      · obtain ⟨cl415, Ar415, q415, S415, M415, H415, G415⟩ := id V_a
                        have hin415 : ¬ ((i_1 + (3 : Int32)) < 0 ∨ cl415.slots.size ≤ ((i_1 + (3 : Int32))).toNatClampNeg) := inb_of S415 hi_3
                        have hat415 : cl415.slots[((i_1 + (3 : Int32))).toNatClampNeg]? = some (.int y_3) := H415.at hin415 hg_3
                        have pre420 : ∀ t, Steps p.tables e below (s₁.setTop (mkF m 224 #[.val (.ref a_o), .val (.int i_1), .val (.int t_1), .val (.int (y_0 &&& (255 : Int32))), .val (.int (3 : Int32)), .val (.int (144 : Int32)), .val (.int (191 : Int32)), .val (.int (y_1 &&& (255 : Int32))), .val (.int (3 : Int32))] [(.int (128 : Int32)), (.int (y_3 &&& (192 : Int32)))])) t → Steps p.tables e below (s₁.setTop (entryFrame m #[(.ref a_o), (.int i_1), (.int t_1)] 9)) t := by
                          intro t kt
                          refine pre403 _ ?_
                          show Steps p.tables e below (s₁.setTop (mkF m 224 #[.val (.ref a_o), .val (.int i_1), .val (.int t_1), .val (.int (y_0 &&& (255 : Int32))), .val (.int (3 : Int32)), .val (.int (144 : Int32)), .val (.int (191 : Int32)), .val (.int (y_1 &&& (255 : Int32))), .val (.int (2 : Int32))] [(.int (128 : Int32)), (.int (y_2 &&& (192 : Int32)))])) _
                          refine XS.icmpYes X0.here hx rfl (pc0 := 224) (pc' := 229) rfl (hb hby own_d2_224) rfl (teq hc224_404).1 (by decide) (by decide) ?_
                          show Steps p.tables e below (s₁.setTop (mkF m 229 #[.val (.ref a_o), .val (.int i_1), .val (.int t_1), .val (.int (y_0 &&& (255 : Int32))), .val (.int (3 : Int32)), .val (.int (144 : Int32)), .val (.int (191 : Int32)), .val (.int (y_1 &&& (255 : Int32))), .val (.int (2 : Int32))] [])) _
                          refine XS.iinc X0.here hx rfl (hb hby own_d2_229) rfl (l' := #[.val (.ref a_o), .val (.int i_1), .val (.int t_1), .val (.int (y_0 &&& (255 : Int32))), .val (.int (3 : Int32)), .val (.int (144 : Int32)), .val (.int (191 : Int32)), .val (.int (y_1 &&& (255 : Int32))), .val (.int (3 : Int32))]) rfl ?_
                          show Steps p.tables e below (s₁.setTop (mkF m 232 #[.val (.ref a_o), .val (.int i_1), .val (.int t_1), .val (.int (y_0 &&& (255 : Int32))), .val (.int (3 : Int32)), .val (.int (144 : Int32)), .val (.int (191 : Int32)), .val (.int (y_1 &&& (255 : Int32))), .val (.int (3 : Int32))] [])) _
                          refine XS.goto X0.here hx rfl (pc0 := 232) (pc' := 204) rfl (hb hby own_d2_232) (by decide) (by decide) ?_
                          show Steps p.tables e below (s₁.setTop (mkF m 204 #[.val (.ref a_o), .val (.int i_1), .val (.int t_1), .val (.int (y_0 &&& (255 : Int32))), .val (.int (3 : Int32)), .val (.int (144 : Int32)), .val (.int (191 : Int32)), .val (.int (y_1 &&& (255 : Int32))), .val (.int (3 : Int32))] [])) _
                          refine XS.iload X0.here hx rfl (hb hby own_d2_204) rfl ?_
                          show Steps p.tables e below (s₁.setTop (mkF m 206 #[.val (.ref a_o), .val (.int i_1), .val (.int t_1), .val (.int (y_0 &&& (255 : Int32))), .val (.int (3 : Int32)), .val (.int (144 : Int32)), .val (.int (191 : Int32)), .val (.int (y_1 &&& (255 : Int32))), .val (.int (3 : Int32))] [(.int (3 : Int32))])) _
                          refine XS.iload X0.here hx rfl (hb hby own_d2_206) rfl ?_
                          show Steps p.tables e below (s₁.setTop (mkF m 208 #[.val (.ref a_o), .val (.int i_1), .val (.int t_1), .val (.int (y_0 &&& (255 : Int32))), .val (.int (3 : Int32)), .val (.int (144 : Int32)), .val (.int (191 : Int32)), .val (.int (y_1 &&& (255 : Int32))), .val (.int (3 : Int32))] [(.int (3 : Int32)), (.int (3 : Int32))])) _
                          refine XS.icmpNo X0.here hx rfl (hb hby own_d2_208) rfl (flt ((by decide) : ¬ ((3 : Int32) < (3 : Int32)))).2.2.1 ?_
                          show Steps p.tables e below (s₁.setTop (mkF m 211 #[.val (.ref a_o), .val (.int i_1), .val (.int t_1), .val (.int (y_0 &&& (255 : Int32))), .val (.int (3 : Int32)), .val (.int (144 : Int32)), .val (.int (191 : Int32)), .val (.int (y_1 &&& (255 : Int32))), .val (.int (3 : Int32))] [])) _
                          refine XS.aloadN X0.here hx rfl (hb hby own_d2_211) rfl rfl ?_
                          show Steps p.tables e below (s₁.setTop (mkF m 212 #[.val (.ref a_o), .val (.int i_1), .val (.int t_1), .val (.int (y_0 &&& (255 : Int32))), .val (.int (3 : Int32)), .val (.int (144 : Int32)), .val (.int (191 : Int32)), .val (.int (y_1 &&& (255 : Int32))), .val (.int (3 : Int32))] [(.ref a_o)])) _
                          refine XS.iloadN X0.here hx rfl (hb hby own_d2_212) rfl ?_
                          show Steps p.tables e below (s₁.setTop (mkF m 213 #[.val (.ref a_o), .val (.int i_1), .val (.int t_1), .val (.int (y_0 &&& (255 : Int32))), .val (.int (3 : Int32)), .val (.int (144 : Int32)), .val (.int (191 : Int32)), .val (.int (y_1 &&& (255 : Int32))), .val (.int (3 : Int32))] [(.int i_1), (.ref a_o)])) _
                          refine XS.iload X0.here hx rfl (hb hby own_d2_213) rfl ?_
                          show Steps p.tables e below (s₁.setTop (mkF m 215 #[.val (.ref a_o), .val (.int i_1), .val (.int t_1), .val (.int (y_0 &&& (255 : Int32))), .val (.int (3 : Int32)), .val (.int (144 : Int32)), .val (.int (191 : Int32)), .val (.int (y_1 &&& (255 : Int32))), .val (.int (3 : Int32))] [(.int (3 : Int32)), (.int i_1), (.ref a_o)])) _
                          refine XS.iadd X0.here hx rfl (hb hby own_d2_215) rfl ?_
                          show Steps p.tables e below (s₁.setTop (mkF m 216 #[.val (.ref a_o), .val (.int i_1), .val (.int t_1), .val (.int (y_0 &&& (255 : Int32))), .val (.int (3 : Int32)), .val (.int (144 : Int32)), .val (.int (191 : Int32)), .val (.int (y_1 &&& (255 : Int32))), .val (.int (3 : Int32))] [(.int (i_1 + (3 : Int32))), (.ref a_o)])) _
                          refine X0.baloadBytes hx (j := (i_1 + (3 : Int32))) (v := (.int y_3)) (by rw [e0]; exact Ar415.1) (State.isArrayOf_alike hZ.alike Ar415.2.1) Ar415.2.2 hin415 hat415 (g := (mkF m 216 #[.val (.ref a_o), .val (.int i_1), .val (.int t_1), .val (.int (y_0 &&& (255 : Int32))), .val (.int (3 : Int32)), .val (.int (144 : Int32)), .val (.int (191 : Int32)), .val (.int (y_1 &&& (255 : Int32))), .val (.int (3 : Int32))] [(.int (i_1 + (3 : Int32))), (.ref a_o)])) rfl rfl (hb hby own_d2_216) _ ?_
                          show Steps p.tables e below (s₁.setTop (mkF m 217 #[.val (.ref a_o), .val (.int i_1), .val (.int t_1), .val (.int (y_0 &&& (255 : Int32))), .val (.int (3 : Int32)), .val (.int (144 : Int32)), .val (.int (191 : Int32)), .val (.int (y_1 &&& (255 : Int32))), .val (.int (3 : Int32))] [(.int y_3)])) _
                          refine XS.sipush X0.here hx rfl (hb hby own_d2_217) ?_
                          show Steps p.tables e below (s₁.setTop (mkF m 220 #[.val (.ref a_o), .val (.int i_1), .val (.int t_1), .val (.int (y_0 &&& (255 : Int32))), .val (.int (3 : Int32)), .val (.int (144 : Int32)), .val (.int (191 : Int32)), .val (.int (y_1 &&& (255 : Int32))), .val (.int (3 : Int32))] [(.int (192 : Int32)), (.int y_3)])) _
                          refine XS.iand X0.here hx rfl (hb hby own_d2_220) rfl ?_
                          show Steps p.tables e below (s₁.setTop (mkF m 221 #[.val (.ref a_o), .val (.int i_1), .val (.int t_1), .val (.int (y_0 &&& (255 : Int32))), .val (.int (3 : Int32)), .val (.int (144 : Int32)), .val (.int (191 : Int32)), .val (.int (y_1 &&& (255 : Int32))), .val (.int (3 : Int32))] [(.int (y_3 &&& (192 : Int32)))])) _
                          refine XS.sipush X0.here hx rfl (hb hby own_d2_221) ?_
                          exact kt
                        by_cases hc224_421 : (y_3 &&& (192 : Int32)) = (128 : Int32)
                        · obtain ⟨fs, hr, hrun, hended, hW, hsame⟩ := X0.leave (v := some (.int (4 : Int32))) (fun h => by rw [Bd.returns] at h; cases h) (hlocks := BodyLoose.notSynchronized Bd)
                          refine ⟨_, _, pre420 _ ?_, hrun, hended, _, _, rfl, ?_, ⟨_, rfl⟩, hW, hsame.mono (by decide) (by decide)⟩
                          · show Steps p.tables e below (s₁.setTop (mkF m 224 #[.val (.ref a_o), .val (.int i_1), .val (.int t_1), .val (.int (y_0 &&& (255 : Int32))), .val (.int (3 : Int32)), .val (.int (144 : Int32)), .val (.int (191 : Int32)), .val (.int (y_1 &&& (255 : Int32))), .val (.int (3 : Int32))] [(.int (128 : Int32)), (.int (y_3 &&& (192 : Int32)))])) _
                            refine XS.icmpYes X0.here hx rfl (pc0 := 224) (pc' := 229) rfl (hb hby own_d2_224) rfl (teq hc224_421).1 (by decide) (by decide) ?_
                            show Steps p.tables e below (s₁.setTop (mkF m 229 #[.val (.ref a_o), .val (.int i_1), .val (.int t_1), .val (.int (y_0 &&& (255 : Int32))), .val (.int (3 : Int32)), .val (.int (144 : Int32)), .val (.int (191 : Int32)), .val (.int (y_1 &&& (255 : Int32))), .val (.int (3 : Int32))] [])) _
                            refine XS.iinc X0.here hx rfl (hb hby own_d2_229) rfl (l' := #[.val (.ref a_o), .val (.int i_1), .val (.int t_1), .val (.int (y_0 &&& (255 : Int32))), .val (.int (3 : Int32)), .val (.int (144 : Int32)), .val (.int (191 : Int32)), .val (.int (y_1 &&& (255 : Int32))), .val (.int (4 : Int32))]) rfl ?_
                            show Steps p.tables e below (s₁.setTop (mkF m 232 #[.val (.ref a_o), .val (.int i_1), .val (.int t_1), .val (.int (y_0 &&& (255 : Int32))), .val (.int (3 : Int32)), .val (.int (144 : Int32)), .val (.int (191 : Int32)), .val (.int (y_1 &&& (255 : Int32))), .val (.int (4 : Int32))] [])) _
                            refine XS.goto X0.here hx rfl (pc0 := 232) (pc' := 204) rfl (hb hby own_d2_232) (by decide) (by decide) ?_
                            show Steps p.tables e below (s₁.setTop (mkF m 204 #[.val (.ref a_o), .val (.int i_1), .val (.int t_1), .val (.int (y_0 &&& (255 : Int32))), .val (.int (3 : Int32)), .val (.int (144 : Int32)), .val (.int (191 : Int32)), .val (.int (y_1 &&& (255 : Int32))), .val (.int (4 : Int32))] [])) _
                            refine XS.iload X0.here hx rfl (hb hby own_d2_204) rfl ?_
                            show Steps p.tables e below (s₁.setTop (mkF m 206 #[.val (.ref a_o), .val (.int i_1), .val (.int t_1), .val (.int (y_0 &&& (255 : Int32))), .val (.int (3 : Int32)), .val (.int (144 : Int32)), .val (.int (191 : Int32)), .val (.int (y_1 &&& (255 : Int32))), .val (.int (4 : Int32))] [(.int (4 : Int32))])) _
                            refine XS.iload X0.here hx rfl (hb hby own_d2_206) rfl ?_
                            show Steps p.tables e below (s₁.setTop (mkF m 208 #[.val (.ref a_o), .val (.int i_1), .val (.int t_1), .val (.int (y_0 &&& (255 : Int32))), .val (.int (3 : Int32)), .val (.int (144 : Int32)), .val (.int (191 : Int32)), .val (.int (y_1 &&& (255 : Int32))), .val (.int (4 : Int32))] [(.int (3 : Int32)), (.int (4 : Int32))])) _
                            refine XS.icmpYes X0.here hx rfl (pc0 := 208) (pc' := 235) rfl (hb hby own_d2_208) rfl (tlt ((by decide) : (3 : Int32) < (4 : Int32))).2.2.1 (by decide) (by decide) ?_
                            show Steps p.tables e below (s₁.setTop (mkF m 235 #[.val (.ref a_o), .val (.int i_1), .val (.int t_1), .val (.int (y_0 &&& (255 : Int32))), .val (.int (3 : Int32)), .val (.int (144 : Int32)), .val (.int (191 : Int32)), .val (.int (y_1 &&& (255 : Int32))), .val (.int (4 : Int32))] [])) _
                            refine XS.iload X0.here hx rfl (hb hby own_d2_235) rfl ?_
                            show Steps p.tables e below (s₁.setTop (mkF m 237 #[.val (.ref a_o), .val (.int i_1), .val (.int t_1), .val (.int (y_0 &&& (255 : Int32))), .val (.int (3 : Int32)), .val (.int (144 : Int32)), .val (.int (191 : Int32)), .val (.int (y_1 &&& (255 : Int32))), .val (.int (4 : Int32))] [(.int (3 : Int32))])) _
                            refine XS.iconst X0.here hx rfl (hb hby own_d2_237) ?_
                            show Steps p.tables e below (s₁.setTop (mkF m 238 #[.val (.ref a_o), .val (.int i_1), .val (.int t_1), .val (.int (y_0 &&& (255 : Int32))), .val (.int (3 : Int32)), .val (.int (144 : Int32)), .val (.int (191 : Int32)), .val (.int (y_1 &&& (255 : Int32))), .val (.int (4 : Int32))] [(.int (1 : Int32)), (.int (3 : Int32))])) _
                            refine XS.iadd X0.here hx rfl (hb hby own_d2_238) rfl ?_
                            show Steps p.tables e below (s₁.setTop (mkF m 239 #[.val (.ref a_o), .val (.int i_1), .val (.int t_1), .val (.int (y_0 &&& (255 : Int32))), .val (.int (3 : Int32)), .val (.int (144 : Int32)), .val (.int (191 : Int32)), .val (.int (y_1 &&& (255 : Int32))), .val (.int (4 : Int32))] [(.int (4 : Int32))])) _
                            exact retI X0 hx Bd.returns (hb hby own_d2_239) hr
                          · show Qown_u Z a_o i_1 t_1 av k_a vs y_0 y_1 y_2 y_3 h0 n0 _ s₁.heap _
                            rw [e0]
                            have hv : (own_u_f y_0 y_1 y_2 y_3 av) = (4 : Int32) := by unfold own_u_f; rw [if_neg hc22_16, if_neg hc35_41, if_neg hc48_53, if_neg hc61_106, if_pos hc108_335, if_pos hc118_342, if_pos hc164_362, if_neg hc189_378, if_neg hc196_385, if_pos hc224_404, if_pos hc224_421]
                            exact ⟨(by rw [hv]), N0, rfl⟩
                        · obtain ⟨fs, hr, hrun, hended, hW, hsame⟩ := X0.leave (v := some (.int (0 : Int32))) (fun h => by rw [Bd.returns] at h; cases h) (hlocks := BodyLoose.notSynchronized Bd)
                          refine ⟨_, _, pre420 _ ?_, hrun, hended, _, _, rfl, ?_, ⟨_, rfl⟩, hW, hsame.mono (by decide) (by decide)⟩
                          · show Steps p.tables e below (s₁.setTop (mkF m 224 #[.val (.ref a_o), .val (.int i_1), .val (.int t_1), .val (.int (y_0 &&& (255 : Int32))), .val (.int (3 : Int32)), .val (.int (144 : Int32)), .val (.int (191 : Int32)), .val (.int (y_1 &&& (255 : Int32))), .val (.int (3 : Int32))] [(.int (128 : Int32)), (.int (y_3 &&& (192 : Int32)))])) _
                            refine XS.icmpNo X0.here hx rfl (hb hby own_d2_224) rfl (feq hc224_421).1 ?_
                            show Steps p.tables e below (s₁.setTop (mkF m 227 #[.val (.ref a_o), .val (.int i_1), .val (.int t_1), .val (.int (y_0 &&& (255 : Int32))), .val (.int (3 : Int32)), .val (.int (144 : Int32)), .val (.int (191 : Int32)), .val (.int (y_1 &&& (255 : Int32))), .val (.int (3 : Int32))] [])) _
                            refine XS.iconst X0.here hx rfl (hb hby own_d2_227) ?_
                            show Steps p.tables e below (s₁.setTop (mkF m 228 #[.val (.ref a_o), .val (.int i_1), .val (.int t_1), .val (.int (y_0 &&& (255 : Int32))), .val (.int (3 : Int32)), .val (.int (144 : Int32)), .val (.int (191 : Int32)), .val (.int (y_1 &&& (255 : Int32))), .val (.int (3 : Int32))] [(.int (0 : Int32))])) _
                            exact retI X0 hx Bd.returns (hb hby own_d2_228) hr
                          · show Qown_u Z a_o i_1 t_1 av k_a vs y_0 y_1 y_2 y_3 h0 n0 _ s₁.heap _
                            rw [e0]
                            have hv : (own_u_f y_0 y_1 y_2 y_3 av) = (0 : Int32) := by unfold own_u_f; rw [if_neg hc22_16, if_neg hc35_41, if_neg hc48_53, if_neg hc61_106, if_pos hc108_335, if_pos hc118_342, if_pos hc164_362, if_neg hc189_378, if_neg hc196_385, if_pos hc224_404, if_neg hc224_421]
                            exact ⟨(by rw [hv]), N0, rfl⟩
                      · obtain ⟨fs, hr, hrun, hended, hW, hsame⟩ := X0.leave (v := some (.int (0 : Int32))) (fun h => by rw [Bd.returns] at h; cases h) (hlocks := BodyLoose.notSynchronized Bd)
                        refine ⟨_, _, pre403 _ ?_, hrun, hended, _, _, rfl, ?_, ⟨_, rfl⟩, hW, hsame.mono (by decide) (by decide)⟩
                        · show Steps p.tables e below (s₁.setTop (mkF m 224 #[.val (.ref a_o), .val (.int i_1), .val (.int t_1), .val (.int (y_0 &&& (255 : Int32))), .val (.int (3 : Int32)), .val (.int (144 : Int32)), .val (.int (191 : Int32)), .val (.int (y_1 &&& (255 : Int32))), .val (.int (2 : Int32))] [(.int (128 : Int32)), (.int (y_2 &&& (192 : Int32)))])) _
                          refine XS.icmpNo X0.here hx rfl (hb hby own_d2_224) rfl (feq hc224_404).1 ?_
                          show Steps p.tables e below (s₁.setTop (mkF m 227 #[.val (.ref a_o), .val (.int i_1), .val (.int t_1), .val (.int (y_0 &&& (255 : Int32))), .val (.int (3 : Int32)), .val (.int (144 : Int32)), .val (.int (191 : Int32)), .val (.int (y_1 &&& (255 : Int32))), .val (.int (2 : Int32))] [])) _
                          refine XS.iconst X0.here hx rfl (hb hby own_d2_227) ?_
                          show Steps p.tables e below (s₁.setTop (mkF m 228 #[.val (.ref a_o), .val (.int i_1), .val (.int t_1), .val (.int (y_0 &&& (255 : Int32))), .val (.int (3 : Int32)), .val (.int (144 : Int32)), .val (.int (191 : Int32)), .val (.int (y_1 &&& (255 : Int32))), .val (.int (2 : Int32))] [(.int (0 : Int32))])) _
                          exact retI X0 hx Bd.returns (hb hby own_d2_228) hr
                        · show Qown_u Z a_o i_1 t_1 av k_a vs y_0 y_1 y_2 y_3 h0 n0 _ s₁.heap _
                          rw [e0]
                          have hv : (own_u_f y_0 y_1 y_2 y_3 av) = (0 : Int32) := by unfold own_u_f; rw [if_neg hc22_16, if_neg hc35_41, if_neg hc48_53, if_neg hc61_106, if_pos hc108_335, if_pos hc118_342, if_pos hc164_362, if_neg hc189_378, if_neg hc196_385, if_neg hc224_404]
                          exact ⟨(by rw [hv]), N0, rfl⟩
                · obtain ⟨fs, hr, hrun, hended, hW, hsame⟩ := X0.leave (v := some (.int (0 : Int32))) (fun h => by rw [Bd.returns] at h; cases h) (hlocks := BodyLoose.notSynchronized Bd)
                  refine ⟨_, _, pre361 _ ?_, hrun, hended, _, _, rfl, ?_, ⟨_, rfl⟩, hW, hsame.mono (by decide) (by decide)⟩
                  · show Steps p.tables e below (s₁.setTop (mkF m 164 #[.val (.ref a_o), .val (.int i_1), .val (.int t_1), .val (.int (y_0 &&& (255 : Int32))), .val (.int (3 : Int32)), .val (.int (144 : Int32)), .val (.int (191 : Int32)), .unset, .unset] [(.int (3 : Int32)), (.int av)])) _
                    refine XS.icmpNo X0.here hx rfl (hb hby own_d2_164) rfl (flt hc164_362).2.2.1 ?_
                    show Steps p.tables e below (s₁.setTop (mkF m 167 #[.val (.ref a_o), .val (.int i_1), .val (.int t_1), .val (.int (y_0 &&& (255 : Int32))), .val (.int (3 : Int32)), .val (.int (144 : Int32)), .val (.int (191 : Int32)), .unset, .unset] [])) _
                    refine XS.iconst X0.here hx rfl (hb hby own_d2_167) ?_
                    show Steps p.tables e below (s₁.setTop (mkF m 168 #[.val (.ref a_o), .val (.int i_1), .val (.int t_1), .val (.int (y_0 &&& (255 : Int32))), .val (.int (3 : Int32)), .val (.int (144 : Int32)), .val (.int (191 : Int32)), .unset, .unset] [(.int (0 : Int32))])) _
                    exact retI X0 hx Bd.returns (hb hby own_d2_168) hr
                  · show Qown_u Z a_o i_1 t_1 av k_a vs y_0 y_1 y_2 y_3 h0 n0 _ s₁.heap _
                    rw [e0]
                    have hv : (own_u_f y_0 y_1 y_2 y_3 av) = (0 : Int32) := by unfold own_u_f; rw [if_neg hc22_16, if_neg hc35_41, if_neg hc48_53, if_neg hc61_106, if_pos hc108_335, if_pos hc118_342, if_neg hc164_362]
                    exact ⟨(by rw [hv]), N0, rfl⟩
            · have pre442 : ∀ t, Steps p.tables e below (s₁.setTop (mkF m 135 #[.val (.ref a_o), .val (.int i_1), .val (.int t_1), .val (.int (y_0 &&& (255 : Int32))), .val (.int (3 : Int32)), .val (.int (128 : Int32)), .val (.int (191 : Int32)), .unset, .unset] [(.int (244 : Int32)), (.int (y_0 &&& (255 : Int32)))])) t → Steps p.tables e below (s₁.setTop (entryFrame m #[(.ref a_o), (.int i_1), (.int t_1)] 9)) t := by
                intro t kt
                refine pre341 _ ?_
                show Steps p.tables e below (s₁.setTop (mkF m 118 #[.val (.ref a_o), .val (.int i_1), .val (.int t_1), .val (.int (y_0 &&& (255 : Int32))), .val (.int (3 : Int32)), .val (.int (128 : Int32)), .val (.int (191 : Int32)), .unset, .unset] [(.int (240 : Int32)), (.int (y_0 &&& (255 : Int32)))])) _
                refine XS.icmpYes X0.here hx rfl (pc0 := 118) (pc' := 127) rfl (hb hby own_d2_118) rfl (feq hc118_342).2 (by decide) (by decide) ?_
                show Steps p.tables e below (s₁.setTop (mkF m 127 #[.val (.ref a_o), .val (.int i_1), .val (.int t_1), .val (.int (y_0 &&& (255 : Int32))), .val (.int (3 : Int32)), .val (.int (128 : Int32)), .val (.int (191 : Int32)), .unset, .unset] [])) _
                refine XS.iload X0.here hx rfl (hb hby own_d2_127) rfl ?_
                show Steps p.tables e below (s₁.setTop (mkF m 129 #[.val (.ref a_o), .val (.int i_1), .val (.int t_1), .val (.int (y_0 &&& (255 : Int32))), .val (.int (3 : Int32)), .val (.int (128 : Int32)), .val (.int (191 : Int32)), .unset, .unset] [(.int (128 : Int32))])) _
                refine XS.istore X0.here hx rfl (hb hby own_d2_129) rfl (l' := #[.val (.ref a_o), .val (.int i_1), .val (.int t_1), .val (.int (y_0 &&& (255 : Int32))), .val (.int (3 : Int32)), .val (.int (128 : Int32)), .val (.int (191 : Int32)), .unset, .unset]) rfl ?_
                show Steps p.tables e below (s₁.setTop (mkF m 131 #[.val (.ref a_o), .val (.int i_1), .val (.int t_1), .val (.int (y_0 &&& (255 : Int32))), .val (.int (3 : Int32)), .val (.int (128 : Int32)), .val (.int (191 : Int32)), .unset, .unset] [])) _
                refine XS.iloadN X0.here hx rfl (hb hby own_d2_131) rfl ?_
                show Steps p.tables e below (s₁.setTop (mkF m 132 #[.val (.ref a_o), .val (.int i_1), .val (.int t_1), .val (.int (y_0 &&& (255 : Int32))), .val (.int (3 : Int32)), .val (.int (128 : Int32)), .val (.int (191 : Int32)), .unset, .unset] [(.int (y_0 &&& (255 : Int32)))])) _
                refine XS.sipush X0.here hx rfl (hb hby own_d2_132) ?_
                exact kt
              by_cases hc135_443 : (y_0 &&& (255 : Int32)) = (244 : Int32)
              · have pre455 : ∀ t, Steps p.tables e below (s₁.setTop (mkF m 164 #[.val (.ref a_o), .val (.int i_1), .val (.int t_1), .val (.int (y_0 &&& (255 : Int32))), .val (.int (3 : Int32)), .val (.int (128 : Int32)), .val (.int (143 : Int32)), .unset, .unset] [(.int (3 : Int32)), (.int av)])) t → Steps p.tables e below (s₁.setTop (entryFrame m #[(.ref a_o), (.int i_1), (.int t_1)] 9)) t := by
                  intro t kt
                  refine pre442 _ ?_
                  show Steps p.tables e below (s₁.setTop (mkF m 135 #[.val (.ref a_o), .val (.int i_1), .val (.int t_1), .val (.int (y_0 &&& (255 : Int32))), .val (.int (3 : Int32)), .val (.int (128 : Int32)), .val (.int (191 : Int32)), .unset, .unset] [(.int (244 : Int32)), (.int (y_0 &&& (255 : Int32)))])) _
                  refine XS.icmpNo X0.here hx rfl (hb hby own_d2_135) rfl (teq hc135_443).2 ?_
                  show Steps p.tables e below (s₁.setTop (mkF m 138 #[.val (.ref a_o), .val (.int i_1), .val (.int t_1), .val (.int (y_0 &&& (255 : Int32))), .val (.int (3 : Int32)), .val (.int (128 : Int32)), .val (.int (191 : Int32)), .unset, .unset] [])) _
                  refine XS.sipush X0.here hx rfl (hb hby own_d2_138) ?_
                  show Steps p.tables e below (s₁.setTop (mkF m 141 #[.val (.ref a_o), .val (.int i_1), .val (.int t_1), .val (.int (y_0 &&& (255 : Int32))), .val (.int (3 : Int32)), .val (.int (128 : Int32)), .val (.int (191 : Int32)), .unset, .unset] [(.int (143 : Int32))])) _
                  refine XS.goto X0.here hx rfl (pc0 := 141) (pc' := 146) rfl (hb hby own_d2_141) (by decide) (by decide) ?_
                  show Steps p.tables e below (s₁.setTop (mkF m 146 #[.val (.ref a_o), .val (.int i_1), .val (.int t_1), .val (.int (y_0 &&& (255 : Int32))), .val (.int (3 : Int32)), .val (.int (128 : Int32)), .val (.int (191 : Int32)), .unset, .unset] [(.int (143 : Int32))])) _
                  refine XS.istore X0.here hx rfl (hb hby own_d2_146) rfl (l' := #[.val (.ref a_o), .val (.int i_1), .val (.int t_1), .val (.int (y_0 &&& (255 : Int32))), .val (.int (3 : Int32)), .val (.int (128 : Int32)), .val (.int (143 : Int32)), .unset, .unset]) rfl ?_
                  show Steps p.tables e below (s₁.setTop (mkF m 148 #[.val (.ref a_o), .val (.int i_1), .val (.int t_1), .val (.int (y_0 &&& (255 : Int32))), .val (.int (3 : Int32)), .val (.int (128 : Int32)), .val (.int (143 : Int32)), .unset, .unset] [])) _
                  refine XS.goto X0.here hx rfl (pc0 := 148) (pc' := 154) rfl (hb hby own_d2_148) (by decide) (by decide) ?_
                  show Steps p.tables e below (s₁.setTop (mkF m 154 #[.val (.ref a_o), .val (.int i_1), .val (.int t_1), .val (.int (y_0 &&& (255 : Int32))), .val (.int (3 : Int32)), .val (.int (128 : Int32)), .val (.int (143 : Int32)), .unset, .unset] [])) _
                  refine XS.iload X0.here hx rfl (hb hby own_d2_154) rfl ?_
                  show Steps p.tables e below (s₁.setTop (mkF m 156 #[.val (.ref a_o), .val (.int i_1), .val (.int t_1), .val (.int (y_0 &&& (255 : Int32))), .val (.int (3 : Int32)), .val (.int (128 : Int32)), .val (.int (143 : Int32)), .unset, .unset] [(.int (3 : Int32))])) _
                  refine XS.ifNo X0.here hx rfl (hb hby own_d2_156) rfl ((if0 _ _).trans (flt ((by decide) : ¬ ((3 : Int32) < (0 : Int32)))).1) ?_
                  show Steps p.tables e below (s₁.setTop (mkF m 159 #[.val (.ref a_o), .val (.int i_1), .val (.int t_1), .val (.int (y_0 &&& (255 : Int32))), .val (.int (3 : Int32)), .val (.int (128 : Int32)), .val (.int (143 : Int32)), .unset, .unset] [])) _
                  refine XS.iloadN X0.here hx rfl (hb hby own_d2_159) rfl ?_
                  show Steps p.tables e below (s₁.setTop (mkF m 160 #[.val (.ref a_o), .val (.int i_1), .val (.int t_1), .val (.int (y_0 &&& (255 : Int32))), .val (.int (3 : Int32)), .val (.int (128 : Int32)), .val (.int (143 : Int32)), .unset, .unset] [(.int t_1)])) _
                  refine XS.iloadN X0.here hx rfl (hb hby own_d2_160) rfl ?_
                  show Steps p.tables e below (s₁.setTop (mkF m 161 #[.val (.ref a_o), .val (.int i_1), .val (.int t_1), .val (.int (y_0 &&& (255 : Int32))), .val (.int (3 : Int32)), .val (.int (128 : Int32)), .val (.int (143 : Int32)), .unset, .unset] [(.int i_1), (.int t_1)])) _
                  refine XS.isub X0.here hx rfl (hb hby own_d2_161) rfl ?_
                  rw [ht]
                  show Steps p.tables e below (s₁.setTop (mkF m 162 #[.val (.ref a_o), .val (.int i_1), .val (.int t_1), .val (.int (y_0 &&& (255 : Int32))), .val (.int (3 : Int32)), .val (.int (128 : Int32)), .val (.int (143 : Int32)), .unset, .unset] [(.int av)])) _
                  refine XS.iload X0.here hx rfl (hb hby own_d2_162) rfl ?_
                  exact kt
                by_cases hc164_456 : (3 : Int32) < av
                · obtain ⟨cl464, Ar464, q464, S464, M464, H464, G464⟩ := id V_a
                  have hin464 : ¬ ((i_1 + (1 : Int32)) < 0 ∨ cl464.slots.size ≤ ((i_1 + (1 : Int32))).toNatClampNeg) := inb_of S464 hi_1
                  have hat464 : cl464.slots[((i_1 + (1 : Int32))).toNatClampNeg]? = some (.int y_1) := H464.at hin464 hg_1
                  have pre471 : ∀ t, Steps p.tables e below (s₁.setTop (mkF m 189 #[.val (.ref a_o), .val (.int i_1), .val (.int t_1), .val (.int (y_0 &&& (255 : Int32))), .val (.int (3 : Int32)), .val (.int (128 : Int32)), .val (.int (143 : Int32)), .val (.int (y_1 &&& (255 : Int32))), .unset] [(.int (128 : Int32)), (.int (y_1 &&& (255 : Int32)))])) t → Steps p.tables e below (s₁.setTop (entryFrame m #[(.ref a_o), (.int i_1), (.int t_1)] 9)) t := by
                    intro t kt
                    refine pre455 _ ?_
                    show Steps p.tables e below (s₁.setTop (mkF m 164 #[.val (.ref a_o), .val (.int i_1), .val (.int t_1), .val (.int (y_0 &&& (255 : Int32))), .val (.int (3 : Int32)), .val (.int (128 : Int32)), .val (.int (143 : Int32)), .unset, .unset] [(.int (3 : Int32)), (.int av)])) _
                    refine XS.icmpYes X0.here hx rfl (pc0 := 164) (pc' := 169) rfl (hb hby own_d2_164) rfl (tlt hc164_456).2.2.1 (by decide) (by decide) ?_
                    show Steps p.tables e below (s₁.setTop (mkF m 169 #[.val (.ref a_o), .val (.int i_1), .val (.int t_1), .val (.int (y_0 &&& (255 : Int32))), .val (.int (3 : Int32)), .val (.int (128 : Int32)), .val (.int (143 : Int32)), .unset, .unset] [])) _
                    refine XS.iload X0.here hx rfl (hb hby own_d2_169) rfl ?_
                    show Steps p.tables e below (s₁.setTop (mkF m 171 #[.val (.ref a_o), .val (.int i_1), .val (.int t_1), .val (.int (y_0 &&& (255 : Int32))), .val (.int (3 : Int32)), .val (.int (128 : Int32)), .val (.int (143 : Int32)), .unset, .unset] [(.int (3 : Int32))])) _
                    refine XS.ifNo X0.here hx rfl (hb hby own_d2_171) rfl ((if0 _ _).trans (tlt ((by decide) : (0 : Int32) < (3 : Int32))).2.2.2) ?_
                    show Steps p.tables e below (s₁.setTop (mkF m 174 #[.val (.ref a_o), .val (.int i_1), .val (.int t_1), .val (.int (y_0 &&& (255 : Int32))), .val (.int (3 : Int32)), .val (.int (128 : Int32)), .val (.int (143 : Int32)), .unset, .unset] [])) _
                    refine XS.aloadN X0.here hx rfl (hb hby own_d2_174) rfl rfl ?_
                    show Steps p.tables e below (s₁.setTop (mkF m 175 #[.val (.ref a_o), .val (.int i_1), .val (.int t_1), .val (.int (y_0 &&& (255 : Int32))), .val (.int (3 : Int32)), .val (.int (128 : Int32)), .val (.int (143 : Int32)), .unset, .unset] [(.ref a_o)])) _
                    refine XS.iloadN X0.here hx rfl (hb hby own_d2_175) rfl ?_
                    show Steps p.tables e below (s₁.setTop (mkF m 176 #[.val (.ref a_o), .val (.int i_1), .val (.int t_1), .val (.int (y_0 &&& (255 : Int32))), .val (.int (3 : Int32)), .val (.int (128 : Int32)), .val (.int (143 : Int32)), .unset, .unset] [(.int i_1), (.ref a_o)])) _
                    refine XS.iconst X0.here hx rfl (hb hby own_d2_176) ?_
                    show Steps p.tables e below (s₁.setTop (mkF m 177 #[.val (.ref a_o), .val (.int i_1), .val (.int t_1), .val (.int (y_0 &&& (255 : Int32))), .val (.int (3 : Int32)), .val (.int (128 : Int32)), .val (.int (143 : Int32)), .unset, .unset] [(.int (1 : Int32)), (.int i_1), (.ref a_o)])) _
                    refine XS.iadd X0.here hx rfl (hb hby own_d2_177) rfl ?_
                    show Steps p.tables e below (s₁.setTop (mkF m 178 #[.val (.ref a_o), .val (.int i_1), .val (.int t_1), .val (.int (y_0 &&& (255 : Int32))), .val (.int (3 : Int32)), .val (.int (128 : Int32)), .val (.int (143 : Int32)), .unset, .unset] [(.int (i_1 + (1 : Int32))), (.ref a_o)])) _
                    refine X0.baloadBytes hx (j := (i_1 + (1 : Int32))) (v := (.int y_1)) (by rw [e0]; exact Ar464.1) (State.isArrayOf_alike hZ.alike Ar464.2.1) Ar464.2.2 hin464 hat464 (g := (mkF m 178 #[.val (.ref a_o), .val (.int i_1), .val (.int t_1), .val (.int (y_0 &&& (255 : Int32))), .val (.int (3 : Int32)), .val (.int (128 : Int32)), .val (.int (143 : Int32)), .unset, .unset] [(.int (i_1 + (1 : Int32))), (.ref a_o)])) rfl rfl (hb hby own_d2_178) _ ?_
                    show Steps p.tables e below (s₁.setTop (mkF m 179 #[.val (.ref a_o), .val (.int i_1), .val (.int t_1), .val (.int (y_0 &&& (255 : Int32))), .val (.int (3 : Int32)), .val (.int (128 : Int32)), .val (.int (143 : Int32)), .unset, .unset] [(.int y_1)])) _
                    refine XS.sipush X0.here hx rfl (hb hby own_d2_179) ?_
                    show Steps p.tables e below (s₁.setTop (mkF m 182 #[.val (.ref a_o), .val (.int i_1), .val (.int t_1), .val (.int (y_0 &&& (255 : Int32))), .val (.int (3 : Int32)), .val (.int (128 : Int32)), .val (.int (143 : Int32)), .unset, .unset] [(.int (255 : Int32)), (.int y_1)])) _
                    refine XS.iand X0.here hx rfl (hb hby own_d2_182) rfl ?_
                    show Steps p.tables e below (s₁.setTop (mkF m 183 #[.val (.ref a_o), .val (.int i_1), .val (.int t_1), .val (.int (y_0 &&& (255 : Int32))), .val (.int (3 : Int32)), .val (.int (128 : Int32)), .val (.int (143 : Int32)), .unset, .unset] [(.int (y_1 &&& (255 : Int32)))])) _
                    refine XS.istore X0.here hx rfl (hb hby own_d2_183) rfl (l' := #[.val (.ref a_o), .val (.int i_1), .val (.int t_1), .val (.int (y_0 &&& (255 : Int32))), .val (.int (3 : Int32)), .val (.int (128 : Int32)), .val (.int (143 : Int32)), .val (.int (y_1 &&& (255 : Int32))), .unset]) rfl ?_
                    show Steps p.tables e below (s₁.setTop (mkF m 185 #[.val (.ref a_o), .val (.int i_1), .val (.int t_1), .val (.int (y_0 &&& (255 : Int32))), .val (.int (3 : Int32)), .val (.int (128 : Int32)), .val (.int (143 : Int32)), .val (.int (y_1 &&& (255 : Int32))), .unset] [])) _
                    refine XS.iload X0.here hx rfl (hb hby own_d2_185) rfl ?_
                    show Steps p.tables e below (s₁.setTop (mkF m 187 #[.val (.ref a_o), .val (.int i_1), .val (.int t_1), .val (.int (y_0 &&& (255 : Int32))), .val (.int (3 : Int32)), .val (.int (128 : Int32)), .val (.int (143 : Int32)), .val (.int (y_1 &&& (255 : Int32))), .unset] [(.int (y_1 &&& (255 : Int32)))])) _
                    refine XS.iload X0.here hx rfl (hb hby own_d2_187) rfl ?_
                    exact kt
                  by_cases hc189_472 : (y_1 &&& (255 : Int32)) < (128 : Int32)
                  · obtain ⟨fs, hr, hrun, hended, hW, hsame⟩ := X0.leave (v := some (.int (0 : Int32))) (fun h => by rw [Bd.returns] at h; cases h) (hlocks := BodyLoose.notSynchronized Bd)
                    refine ⟨_, _, pre471 _ ?_, hrun, hended, _, _, rfl, ?_, ⟨_, rfl⟩, hW, hsame.mono (by decide) (by decide)⟩
                    · show Steps p.tables e below (s₁.setTop (mkF m 189 #[.val (.ref a_o), .val (.int i_1), .val (.int t_1), .val (.int (y_0 &&& (255 : Int32))), .val (.int (3 : Int32)), .val (.int (128 : Int32)), .val (.int (143 : Int32)), .val (.int (y_1 &&& (255 : Int32))), .unset] [(.int (128 : Int32)), (.int (y_1 &&& (255 : Int32)))])) _
                      refine XS.icmpYes X0.here hx rfl (pc0 := 189) (pc' := 199) rfl (hb hby own_d2_189) rfl (tlt hc189_472).1 (by decide) (by decide) ?_
                      show Steps p.tables e below (s₁.setTop (mkF m 199 #[.val (.ref a_o), .val (.int i_1), .val (.int t_1), .val (.int (y_0 &&& (255 : Int32))), .val (.int (3 : Int32)), .val (.int (128 : Int32)), .val (.int (143 : Int32)), .val (.int (y_1 &&& (255 : Int32))), .unset] [])) _
                      refine XS.iconst X0.here hx rfl (hb hby own_d2_199) ?_
                      show Steps p.tables e below (s₁.setTop (mkF m 200 #[.val (.ref a_o), .val (.int i_1), .val (.int t_1), .val (.int (y_0 &&& (255 : Int32))), .val (.int (3 : Int32)), .val (.int (128 : Int32)), .val (.int (143 : Int32)), .val (.int (y_1 &&& (255 : Int32))), .unset] [(.int (0 : Int32))])) _
                      exact retI X0 hx Bd.returns (hb hby own_d2_200) hr
                    · show Qown_u Z a_o i_1 t_1 av k_a vs y_0 y_1 y_2 y_3 h0 n0 _ s₁.heap _
                      rw [e0]
                      have hv : (own_u_f y_0 y_1 y_2 y_3 av) = (0 : Int32) := by unfold own_u_f; rw [if_neg hc22_16, if_neg hc35_41, if_neg hc48_53, if_neg hc61_106, if_pos hc108_335, if_neg hc118_342, if_pos hc135_443, if_pos hc164_456, if_pos hc189_472]
                      exact ⟨(by rw [hv]), N0, rfl⟩
                  · have pre478 : ∀ t, Steps p.tables e below (s₁.setTop (mkF m 196 #[.val (.ref a_o), .val (.int i_1), .val (.int t_1), .val (.int (y_0 &&& (255 : Int32))), .val (.int (3 : Int32)), .val (.int (128 : Int32)), .val (.int (143 : Int32)), .val (.int (y_1 &&& (255 : Int32))), .unset] [(.int (143 : Int32)), (.int (y_1 &&& (255 : Int32)))])) t → Steps p.tables e below (s₁.setTop (entryFrame m #[(.ref a_o), (.int i_1), (.int t_1)] 9)) t := by
                      intro t kt
                      refine pre471 _ ?_
                      show Steps p.tables e below (s₁.setTop (mkF m 189 #[.val (.ref a_o), .val (.int i_1), .val (.int t_1), .val (.int (y_0 &&& (255 : Int32))), .val (.int (3 : Int32)), .val (.int (128 : Int32)), .val (.int (143 : Int32)), .val (.int (y_1 &&& (255 : Int32))), .unset] [(.int (128 : Int32)), (.int (y_1 &&& (255 : Int32)))])) _
                      refine XS.icmpNo X0.here hx rfl (hb hby own_d2_189) rfl (flt hc189_472).1 ?_
                      show Steps p.tables e below (s₁.setTop (mkF m 192 #[.val (.ref a_o), .val (.int i_1), .val (.int t_1), .val (.int (y_0 &&& (255 : Int32))), .val (.int (3 : Int32)), .val (.int (128 : Int32)), .val (.int (143 : Int32)), .val (.int (y_1 &&& (255 : Int32))), .unset] [])) _
                      refine XS.iload X0.here hx rfl (hb hby own_d2_192) rfl ?_
                      show Steps p.tables e below (s₁.setTop (mkF m 194 #[.val (.ref a_o), .val (.int i_1), .val (.int t_1), .val (.int (y_0 &&& (255 : Int32))), .val (.int (3 : Int32)), .val (.int (128 : Int32)), .val (.int (143 : Int32)), .val (.int (y_1 &&& (255 : Int32))), .unset] [(.int (y_1 &&& (255 : Int32)))])) _
                      refine XS.iload X0.here hx rfl (hb hby own_d2_194) rfl ?_
                      exact kt
                    by_cases hc196_479 : (143 : Int32) < (y_1 &&& (255 : Int32))
                    · obtain ⟨fs, hr, hrun, hended, hW, hsame⟩ := X0.leave (v := some (.int (0 : Int32))) (fun h => by rw [Bd.returns] at h; cases h) (hlocks := BodyLoose.notSynchronized Bd)
                      refine ⟨_, _, pre478 _ ?_, hrun, hended, _, _, rfl, ?_, ⟨_, rfl⟩, hW, hsame.mono (by decide) (by decide)⟩
                      · show Steps p.tables e below (s₁.setTop (mkF m 196 #[.val (.ref a_o), .val (.int i_1), .val (.int t_1), .val (.int (y_0 &&& (255 : Int32))), .val (.int (3 : Int32)), .val (.int (128 : Int32)), .val (.int (143 : Int32)), .val (.int (y_1 &&& (255 : Int32))), .unset] [(.int (143 : Int32)), (.int (y_1 &&& (255 : Int32)))])) _
                        refine XS.icmpNo X0.here hx rfl (hb hby own_d2_196) rfl (tlt hc196_479).2.2.2 ?_
                        show Steps p.tables e below (s₁.setTop (mkF m 199 #[.val (.ref a_o), .val (.int i_1), .val (.int t_1), .val (.int (y_0 &&& (255 : Int32))), .val (.int (3 : Int32)), .val (.int (128 : Int32)), .val (.int (143 : Int32)), .val (.int (y_1 &&& (255 : Int32))), .unset] [])) _
                        refine XS.iconst X0.here hx rfl (hb hby own_d2_199) ?_
                        show Steps p.tables e below (s₁.setTop (mkF m 200 #[.val (.ref a_o), .val (.int i_1), .val (.int t_1), .val (.int (y_0 &&& (255 : Int32))), .val (.int (3 : Int32)), .val (.int (128 : Int32)), .val (.int (143 : Int32)), .val (.int (y_1 &&& (255 : Int32))), .unset] [(.int (0 : Int32))])) _
                        exact retI X0 hx Bd.returns (hb hby own_d2_200) hr
                      · show Qown_u Z a_o i_1 t_1 av k_a vs y_0 y_1 y_2 y_3 h0 n0 _ s₁.heap _
                        rw [e0]
                        have hv : (own_u_f y_0 y_1 y_2 y_3 av) = (0 : Int32) := by unfold own_u_f; rw [if_neg hc22_16, if_neg hc35_41, if_neg hc48_53, if_neg hc61_106, if_pos hc108_335, if_neg hc118_342, if_pos hc135_443, if_pos hc164_456, if_neg hc189_472, if_pos hc196_479]
                        exact ⟨(by rw [hv]), N0, rfl⟩
                    · obtain ⟨cl492, Ar492, q492, S492, M492, H492, G492⟩ := id V_a
                      have hin492 : ¬ ((i_1 + (2 : Int32)) < 0 ∨ cl492.slots.size ≤ ((i_1 + (2 : Int32))).toNatClampNeg) := inb_of S492 hi_2
                      have hat492 : cl492.slots[((i_1 + (2 : Int32))).toNatClampNeg]? = some (.int y_2) := H492.at hin492 hg_2
                      have pre497 : ∀ t, Steps p.tables e below (s₁.setTop (mkF m 224 #[.val (.ref a_o), .val (.int i_1), .val (.int t_1), .val (.int (y_0 &&& (255 : Int32))), .val (.int (3 : Int32)), .val (.int (128 : Int32)), .val (.int (143 : Int32)), .val (.int (y_1 &&& (255 : Int32))), .val (.int (2 : Int32))] [(.int (128 : Int32)), (.int (y_2 &&& (192 : Int32)))])) t → Steps p.tables e below (s₁.setTop (entryFrame m #[(.ref a_o), (.int i_1), (.int t_1)] 9)) t := by
                        intro t kt
                        refine pre478 _ ?_
                        show Steps p.tables e below (s₁.setTop (mkF m 196 #[.val (.ref a_o), .val (.int i_1), .val (.int t_1), .val (.int (y_0 &&& (255 : Int32))), .val (.int (3 : Int32)), .val (.int (128 : Int32)), .val (.int (143 : Int32)), .val (.int (y_1 &&& (255 : Int32))), .unset] [(.int (143 : Int32)), (.int (y_1 &&& (255 : Int32)))])) _
                        refine XS.icmpYes X0.here hx rfl (pc0 := 196) (pc' := 201) rfl (hb hby own_d2_196) rfl (flt hc196_479).2.2.2 (by decide) (by decide) ?_
                        show Steps p.tables e below (s₁.setTop (mkF m 201 #[.val (.ref a_o), .val (.int i_1), .val (.int t_1), .val (.int (y_0 &&& (255 : Int32))), .val (.int (3 : Int32)), .val (.int (128 : Int32)), .val (.int (143 : Int32)), .val (.int (y_1 &&& (255 : Int32))), .unset] [])) _
                        refine XS.iconst X0.here hx rfl (hb hby own_d2_201) ?_
                        show Steps p.tables e below (s₁.setTop (mkF m 202 #[.val (.ref a_o), .val (.int i_1), .val (.int t_1), .val (.int (y_0 &&& (255 : Int32))), .val (.int (3 : Int32)), .val (.int (128 : Int32)), .val (.int (143 : Int32)), .val (.int (y_1 &&& (255 : Int32))), .unset] [(.int (2 : Int32))])) _
                        refine XS.istore X0.here hx rfl (hb hby own_d2_202) rfl (l' := #[.val (.ref a_o), .val (.int i_1), .val (.int t_1), .val (.int (y_0 &&& (255 : Int32))), .val (.int (3 : Int32)), .val (.int (128 : Int32)), .val (.int (143 : Int32)), .val (.int (y_1 &&& (255 : Int32))), .val (.int (2 : Int32))]) rfl ?_
                        show Steps p.tables e below (s₁.setTop (mkF m 204 #[.val (.ref a_o), .val (.int i_1), .val (.int t_1), .val (.int (y_0 &&& (255 : Int32))), .val (.int (3 : Int32)), .val (.int (128 : Int32)), .val (.int (143 : Int32)), .val (.int (y_1 &&& (255 : Int32))), .val (.int (2 : Int32))] [])) _
                        refine XS.iload X0.here hx rfl (hb hby own_d2_204) rfl ?_
                        show Steps p.tables e below (s₁.setTop (mkF m 206 #[.val (.ref a_o), .val (.int i_1), .val (.int t_1), .val (.int (y_0 &&& (255 : Int32))), .val (.int (3 : Int32)), .val (.int (128 : Int32)), .val (.int (143 : Int32)), .val (.int (y_1 &&& (255 : Int32))), .val (.int (2 : Int32))] [(.int (2 : Int32))])) _
                        refine XS.iload X0.here hx rfl (hb hby own_d2_206) rfl ?_
                        show Steps p.tables e below (s₁.setTop (mkF m 208 #[.val (.ref a_o), .val (.int i_1), .val (.int t_1), .val (.int (y_0 &&& (255 : Int32))), .val (.int (3 : Int32)), .val (.int (128 : Int32)), .val (.int (143 : Int32)), .val (.int (y_1 &&& (255 : Int32))), .val (.int (2 : Int32))] [(.int (3 : Int32)), (.int (2 : Int32))])) _
                        refine XS.icmpNo X0.here hx rfl (hb hby own_d2_208) rfl (flt ((by decide) : ¬ ((3 : Int32) < (2 : Int32)))).2.2.1 ?_
                        show Steps p.tables e below (s₁.setTop (mkF m 211 #[.val (.ref a_o), .val (.int i_1), .val (.int t_1), .val (.int (y_0 &&& (255 : Int32))), .val (.int (3 : Int32)), .val (.int (128 : Int32)), .val (.int (143 : Int32)), .val (.int (y_1 &&& (255 : Int32))), .val (.int (2 : Int32))] [])) _
                        refine XS.aloadN X0.here hx rfl (hb hby own_d2_211) rfl rfl ?_
                        show Steps p.tables e below (s₁.setTop (mkF m 212 #[.val (.ref a_o), .val (.int i_1), .val (.int t_1), .val (.int (y_0 &&& (255 : Int32))), .val (.int (3 : Int32)), .val (.int (128 : Int32)), .val (.int (143 : Int32)), .val (.int (y_1 &&& (255 : Int32))), .val (.int (2 : Int32))] [(.ref a_o)])) _
                        refine XS.iloadN X0.here hx rfl (hb hby own_d2_212) rfl ?_
                        show Steps p.tables e below (s₁.setTop (mkF m 213 #[.val (.ref a_o), .val (.int i_1), .val (.int t_1), .val (.int (y_0 &&& (255 : Int32))), .val (.int (3 : Int32)), .val (.int (128 : Int32)), .val (.int (143 : Int32)), .val (.int (y_1 &&& (255 : Int32))), .val (.int (2 : Int32))] [(.int i_1), (.ref a_o)])) _
                        refine XS.iload X0.here hx rfl (hb hby own_d2_213) rfl ?_
                        show Steps p.tables e below (s₁.setTop (mkF m 215 #[.val (.ref a_o), .val (.int i_1), .val (.int t_1), .val (.int (y_0 &&& (255 : Int32))), .val (.int (3 : Int32)), .val (.int (128 : Int32)), .val (.int (143 : Int32)), .val (.int (y_1 &&& (255 : Int32))), .val (.int (2 : Int32))] [(.int (2 : Int32)), (.int i_1), (.ref a_o)])) _
                        refine XS.iadd X0.here hx rfl (hb hby own_d2_215) rfl ?_
                        show Steps p.tables e below (s₁.setTop (mkF m 216 #[.val (.ref a_o), .val (.int i_1), .val (.int t_1), .val (.int (y_0 &&& (255 : Int32))), .val (.int (3 : Int32)), .val (.int (128 : Int32)), .val (.int (143 : Int32)), .val (.int (y_1 &&& (255 : Int32))), .val (.int (2 : Int32))] [(.int (i_1 + (2 : Int32))), (.ref a_o)])) _
                        refine X0.baloadBytes hx (j := (i_1 + (2 : Int32))) (v := (.int y_2)) (by rw [e0]; exact Ar492.1) (State.isArrayOf_alike hZ.alike Ar492.2.1) Ar492.2.2 hin492 hat492 (g := (mkF m 216 #[.val (.ref a_o), .val (.int i_1), .val (.int t_1), .val (.int (y_0 &&& (255 : Int32))), .val (.int (3 : Int32)), .val (.int (128 : Int32)), .val (.int (143 : Int32)), .val (.int (y_1 &&& (255 : Int32))), .val (.int (2 : Int32))] [(.int (i_1 + (2 : Int32))), (.ref a_o)])) rfl rfl (hb hby own_d2_216) _ ?_
                        show Steps p.tables e below (s₁.setTop (mkF m 217 #[.val (.ref a_o), .val (.int i_1), .val (.int t_1), .val (.int (y_0 &&& (255 : Int32))), .val (.int (3 : Int32)), .val (.int (128 : Int32)), .val (.int (143 : Int32)), .val (.int (y_1 &&& (255 : Int32))), .val (.int (2 : Int32))] [(.int y_2)])) _
                        refine XS.sipush X0.here hx rfl (hb hby own_d2_217) ?_
                        show Steps p.tables e below (s₁.setTop (mkF m 220 #[.val (.ref a_o), .val (.int i_1), .val (.int t_1), .val (.int (y_0 &&& (255 : Int32))), .val (.int (3 : Int32)), .val (.int (128 : Int32)), .val (.int (143 : Int32)), .val (.int (y_1 &&& (255 : Int32))), .val (.int (2 : Int32))] [(.int (192 : Int32)), (.int y_2)])) _
                        refine XS.iand X0.here hx rfl (hb hby own_d2_220) rfl ?_
                        show Steps p.tables e below (s₁.setTop (mkF m 221 #[.val (.ref a_o), .val (.int i_1), .val (.int t_1), .val (.int (y_0 &&& (255 : Int32))), .val (.int (3 : Int32)), .val (.int (128 : Int32)), .val (.int (143 : Int32)), .val (.int (y_1 &&& (255 : Int32))), .val (.int (2 : Int32))] [(.int (y_2 &&& (192 : Int32)))])) _
                        refine XS.sipush X0.here hx rfl (hb hby own_d2_221) ?_
                        exact kt
                      by_cases hc224_498 : (y_2 &&& (192 : Int32)) = (128 : Int32)
                      · obtain ⟨cl509, Ar509, q509, S509, M509, H509, G509⟩ := id V_a
                        have hin509 : ¬ ((i_1 + (3 : Int32)) < 0 ∨ cl509.slots.size ≤ ((i_1 + (3 : Int32))).toNatClampNeg) := inb_of S509 hi_3
                        have hat509 : cl509.slots[((i_1 + (3 : Int32))).toNatClampNeg]? = some (.int y_3) := H509.at hin509 hg_3
                        have pre514 : ∀ t, Steps p.tables e below (s₁.setTop (mkF m 224 #[.val (.ref a_o), .val (.int i_1), .val (.int t_1), .val (.int (y_0 &&& (255 : Int32))), .val (.int (3 : Int32)), .val (.int (128 : Int32)), .val (.int (143 : Int32)), .val (.int (y_1 &&& (255 : Int32))), .val (.int (3 : Int32))] [(.int (128 : Int32)), (.int (y_3 &&& (192 : Int32)))])) t → Steps p.tables e below (s₁.setTop (entryFrame m #[(.ref a_o), (.int i_1), (.int t_1)] 9)) t := by
                          intro t kt
                          refine pre497 _ ?_
                          show Steps p.tables e below (s₁.setTop (mkF m 224 #[.val (.ref a_o), .val (.int i_1), .val (.int t_1), .val (.int (y_0 &&& (255 : Int32))), .val (.int (3 : Int32)), .val (.int (128 : Int32)), .val (.int (143 : Int32)), .val (.int (y_1 &&& (255 : Int32))), .val (.int (2 : Int32))] [(.int (128 : Int32)), (.int (y_2 &&& (192 : Int32)))])) _
                          refine XS.icmpYes X0.here hx rfl (pc0 := 224) (pc' := 229) rfl (hb hby own_d2_224) rfl (teq hc224_498).1 (by decide) (by decide) ?_
                          show Steps p.tables e below (s₁.setTop (mkF m 229 #[.val (.ref a_o), .val (.int i_1), .val (.int t_1), .val (.int (y_0 &&& (255 : Int32))), .val (.int (3 : Int32)), .val (.int (128 : Int32)), .val (.int (143 : Int32)), .val (.int (y_1 &&& (255 : Int32))), .val (.int (2 : Int32))] [])) _
                          refine XS.iinc X0.here hx rfl (hb hby own_d2_229) rfl (l' := #[.val (.ref a_o), .val (.int i_1), .val (.int t_1), .val (.int (y_0 &&& (255 : Int32))), .val (.int (3 : Int32)), .val (.int (128 : Int32)), .val (.int (143 : Int32)), .val (.int (y_1 &&& (255 : Int32))), .val (.int (3 : Int32))]) rfl ?_
                          show Steps p.tables e below (s₁.setTop (mkF m 232 #[.val (.ref a_o), .val (.int i_1), .val (.int t_1), .val (.int (y_0 &&& (255 : Int32))), .val (.int (3 : Int32)), .val (.int (128 : Int32)), .val (.int (143 : Int32)), .val (.int (y_1 &&& (255 : Int32))), .val (.int (3 : Int32))] [])) _
                          refine XS.goto X0.here hx rfl (pc0 := 232) (pc' := 204) rfl (hb hby own_d2_232) (by decide) (by decide) ?_
                          show Steps p.tables e below (s₁.setTop (mkF m 204 #[.val (.ref a_o), .val (.int i_1), .val (.int t_1), .val (.int (y_0 &&& (255 : Int32))), .val (.int (3 : Int32)), .val (.int (128 : Int32)), .val (.int (143 : Int32)), .val (.int (y_1 &&& (255 : Int32))), .val (.int (3 : Int32))] [])) _
                          refine XS.iload X0.here hx rfl (hb hby own_d2_204) rfl ?_
                          show Steps p.tables e below (s₁.setTop (mkF m 206 #[.val (.ref a_o), .val (.int i_1), .val (.int t_1), .val (.int (y_0 &&& (255 : Int32))), .val (.int (3 : Int32)), .val (.int (128 : Int32)), .val (.int (143 : Int32)), .val (.int (y_1 &&& (255 : Int32))), .val (.int (3 : Int32))] [(.int (3 : Int32))])) _
                          refine XS.iload X0.here hx rfl (hb hby own_d2_206) rfl ?_
                          show Steps p.tables e below (s₁.setTop (mkF m 208 #[.val (.ref a_o), .val (.int i_1), .val (.int t_1), .val (.int (y_0 &&& (255 : Int32))), .val (.int (3 : Int32)), .val (.int (128 : Int32)), .val (.int (143 : Int32)), .val (.int (y_1 &&& (255 : Int32))), .val (.int (3 : Int32))] [(.int (3 : Int32)), (.int (3 : Int32))])) _
                          refine XS.icmpNo X0.here hx rfl (hb hby own_d2_208) rfl (flt ((by decide) : ¬ ((3 : Int32) < (3 : Int32)))).2.2.1 ?_
                          show Steps p.tables e below (s₁.setTop (mkF m 211 #[.val (.ref a_o), .val (.int i_1), .val (.int t_1), .val (.int (y_0 &&& (255 : Int32))), .val (.int (3 : Int32)), .val (.int (128 : Int32)), .val (.int (143 : Int32)), .val (.int (y_1 &&& (255 : Int32))), .val (.int (3 : Int32))] [])) _
                          refine XS.aloadN X0.here hx rfl (hb hby own_d2_211) rfl rfl ?_
                          show Steps p.tables e below (s₁.setTop (mkF m 212 #[.val (.ref a_o), .val (.int i_1), .val (.int t_1), .val (.int (y_0 &&& (255 : Int32))), .val (.int (3 : Int32)), .val (.int (128 : Int32)), .val (.int (143 : Int32)), .val (.int (y_1 &&& (255 : Int32))), .val (.int (3 : Int32))] [(.ref a_o)])) _
                          refine XS.iloadN X0.here hx rfl (hb hby own_d2_212) rfl ?_
                          show Steps p.tables e below (s₁.setTop (mkF m 213 #[.val (.ref a_o), .val (.int i_1), .val (.int t_1), .val (.int (y_0 &&& (255 : Int32))), .val (.int (3 : Int32)), .val (.int (128 : Int32)), .val (.int (143 : Int32)), .val (.int (y_1 &&& (255 : Int32))), .val (.int (3 : Int32))] [(.int i_1), (.ref a_o)])) _
                          refine XS.iload X0.here hx rfl (hb hby own_d2_213) rfl ?_
                          show Steps p.tables e below (s₁.setTop (mkF m 215 #[.val (.ref a_o), .val (.int i_1), .val (.int t_1), .val (.int (y_0 &&& (255 : Int32))), .val (.int (3 : Int32)), .val (.int (128 : Int32)), .val (.int (143 : Int32)), .val (.int (y_1 &&& (255 : Int32))), .val (.int (3 : Int32))] [(.int (3 : Int32)), (.int i_1), (.ref a_o)])) _
                          refine XS.iadd X0.here hx rfl (hb hby own_d2_215) rfl ?_
                          show Steps p.tables e below (s₁.setTop (mkF m 216 #[.val (.ref a_o), .val (.int i_1), .val (.int t_1), .val (.int (y_0 &&& (255 : Int32))), .val (.int (3 : Int32)), .val (.int (128 : Int32)), .val (.int (143 : Int32)), .val (.int (y_1 &&& (255 : Int32))), .val (.int (3 : Int32))] [(.int (i_1 + (3 : Int32))), (.ref a_o)])) _
                          refine X0.baloadBytes hx (j := (i_1 + (3 : Int32))) (v := (.int y_3)) (by rw [e0]; exact Ar509.1) (State.isArrayOf_alike hZ.alike Ar509.2.1) Ar509.2.2 hin509 hat509 (g := (mkF m 216 #[.val (.ref a_o), .val (.int i_1), .val (.int t_1), .val (.int (y_0 &&& (255 : Int32))), .val (.int (3 : Int32)), .val (.int (128 : Int32)), .val (.int (143 : Int32)), .val (.int (y_1 &&& (255 : Int32))), .val (.int (3 : Int32))] [(.int (i_1 + (3 : Int32))), (.ref a_o)])) rfl rfl (hb hby own_d2_216) _ ?_
                          show Steps p.tables e below (s₁.setTop (mkF m 217 #[.val (.ref a_o), .val (.int i_1), .val (.int t_1), .val (.int (y_0 &&& (255 : Int32))), .val (.int (3 : Int32)), .val (.int (128 : Int32)), .val (.int (143 : Int32)), .val (.int (y_1 &&& (255 : Int32))), .val (.int (3 : Int32))] [(.int y_3)])) _
                          refine XS.sipush X0.here hx rfl (hb hby own_d2_217) ?_
                          show Steps p.tables e below (s₁.setTop (mkF m 220 #[.val (.ref a_o), .val (.int i_1), .val (.int t_1), .val (.int (y_0 &&& (255 : Int32))), .val (.int (3 : Int32)), .val (.int (128 : Int32)), .val (.int (143 : Int32)), .val (.int (y_1 &&& (255 : Int32))), .val (.int (3 : Int32))] [(.int (192 : Int32)), (.int y_3)])) _
                          refine XS.iand X0.here hx rfl (hb hby own_d2_220) rfl ?_
                          show Steps p.tables e below (s₁.setTop (mkF m 221 #[.val (.ref a_o), .val (.int i_1), .val (.int t_1), .val (.int (y_0 &&& (255 : Int32))), .val (.int (3 : Int32)), .val (.int (128 : Int32)), .val (.int (143 : Int32)), .val (.int (y_1 &&& (255 : Int32))), .val (.int (3 : Int32))] [(.int (y_3 &&& (192 : Int32)))])) _
                          refine XS.sipush X0.here hx rfl (hb hby own_d2_221) ?_
                          exact kt
                        by_cases hc224_515 : (y_3 &&& (192 : Int32)) = (128 : Int32)
                        · obtain ⟨fs, hr, hrun, hended, hW, hsame⟩ := X0.leave (v := some (.int (4 : Int32))) (fun h => by rw [Bd.returns] at h; cases h) (hlocks := BodyLoose.notSynchronized Bd)
                          refine ⟨_, _, pre514 _ ?_, hrun, hended, _, _, rfl, ?_, ⟨_, rfl⟩, hW, hsame.mono (by decide) (by decide)⟩
                          · show Steps p.tables e below (s₁.setTop (mkF m 224 #[.val (.ref a_o), .val (.int i_1), .val (.int t_1), .val (.int (y_0 &&& (255 : Int32))), .val (.int (3 : Int32)), .val (.int (128 : Int32)), .val (.int (143 : Int32)), .val (.int (y_1 &&& (255 : Int32))), .val (.int (3 : Int32))] [(.int (128 : Int32)), (.int (y_3 &&& (192 : Int32)))])) _
                            refine XS.icmpYes X0.here hx rfl (pc0 := 224) (pc' := 229) rfl (hb hby own_d2_224) rfl (teq hc224_515).1 (by decide) (by decide) ?_
                            show Steps p.tables e below (s₁.setTop (mkF m 229 #[.val (.ref a_o), .val (.int i_1), .val (.int t_1), .val (.int (y_0 &&& (255 : Int32))), .val (.int (3 : Int32)), .val (.int (128 : Int32)), .val (.int (143 : Int32)), .val (.int (y_1 &&& (255 : Int32))), .val (.int (3 : Int32))] [])) _
                            refine XS.iinc X0.here hx rfl (hb hby own_d2_229) rfl (l' := #[.val (.ref a_o), .val (.int i_1), .val (.int t_1), .val (.int (y_0 &&& (255 : Int32))), .val (.int (3 : Int32)), .val (.int (128 : Int32)), .val (.int (143 : Int32)), .val (.int (y_1 &&& (255 : Int32))), .val (.int (4 : Int32))]) rfl ?_
                            show Steps p.tables e below (s₁.setTop (mkF m 232 #[.val (.ref a_o), .val (.int i_1), .val (.int t_1), .val (.int (y_0 &&& (255 : Int32))), .val (.int (3 : Int32)), .val (.int (128 : Int32)), .val (.int (143 : Int32)), .val (.int (y_1 &&& (255 : Int32))), .val (.int (4 : Int32))] [])) _
                            refine XS.goto X0.here hx rfl (pc0 := 232) (pc' := 204) rfl (hb hby own_d2_232) (by decide) (by decide) ?_
                            show Steps p.tables e below (s₁.setTop (mkF m 204 #[.val (.ref a_o), .val (.int i_1), .val (.int t_1), .val (.int (y_0 &&& (255 : Int32))), .val (.int (3 : Int32)), .val (.int (128 : Int32)), .val (.int (143 : Int32)), .val (.int (y_1 &&& (255 : Int32))), .val (.int (4 : Int32))] [])) _
                            refine XS.iload X0.here hx rfl (hb hby own_d2_204) rfl ?_
                            show Steps p.tables e below (s₁.setTop (mkF m 206 #[.val (.ref a_o), .val (.int i_1), .val (.int t_1), .val (.int (y_0 &&& (255 : Int32))), .val (.int (3 : Int32)), .val (.int (128 : Int32)), .val (.int (143 : Int32)), .val (.int (y_1 &&& (255 : Int32))), .val (.int (4 : Int32))] [(.int (4 : Int32))])) _
                            refine XS.iload X0.here hx rfl (hb hby own_d2_206) rfl ?_
                            show Steps p.tables e below (s₁.setTop (mkF m 208 #[.val (.ref a_o), .val (.int i_1), .val (.int t_1), .val (.int (y_0 &&& (255 : Int32))), .val (.int (3 : Int32)), .val (.int (128 : Int32)), .val (.int (143 : Int32)), .val (.int (y_1 &&& (255 : Int32))), .val (.int (4 : Int32))] [(.int (3 : Int32)), (.int (4 : Int32))])) _
                            refine XS.icmpYes X0.here hx rfl (pc0 := 208) (pc' := 235) rfl (hb hby own_d2_208) rfl (tlt ((by decide) : (3 : Int32) < (4 : Int32))).2.2.1 (by decide) (by decide) ?_
                            show Steps p.tables e below (s₁.setTop (mkF m 235 #[.val (.ref a_o), .val (.int i_1), .val (.int t_1), .val (.int (y_0 &&& (255 : Int32))), .val (.int (3 : Int32)), .val (.int (128 : Int32)), .val (.int (143 : Int32)), .val (.int (y_1 &&& (255 : Int32))), .val (.int (4 : Int32))] [])) _
                            refine XS.iload X0.here hx rfl (hb hby own_d2_235) rfl ?_
                            show Steps p.tables e below (s₁.setTop (mkF m 237 #[.val (.ref a_o), .val (.int i_1), .val (.int t_1), .val (.int (y_0 &&& (255 : Int32))), .val (.int (3 : Int32)), .val (.int (128 : Int32)), .val (.int (143 : Int32)), .val (.int (y_1 &&& (255 : Int32))), .val (.int (4 : Int32))] [(.int (3 : Int32))])) _
                            refine XS.iconst X0.here hx rfl (hb hby own_d2_237) ?_
                            show Steps p.tables e below (s₁.setTop (mkF m 238 #[.val (.ref a_o), .val (.int i_1), .val (.int t_1), .val (.int (y_0 &&& (255 : Int32))), .val (.int (3 : Int32)), .val (.int (128 : Int32)), .val (.int (143 : Int32)), .val (.int (y_1 &&& (255 : Int32))), .val (.int (4 : Int32))] [(.int (1 : Int32)), (.int (3 : Int32))])) _
                            refine XS.iadd X0.here hx rfl (hb hby own_d2_238) rfl ?_
                            show Steps p.tables e below (s₁.setTop (mkF m 239 #[.val (.ref a_o), .val (.int i_1), .val (.int t_1), .val (.int (y_0 &&& (255 : Int32))), .val (.int (3 : Int32)), .val (.int (128 : Int32)), .val (.int (143 : Int32)), .val (.int (y_1 &&& (255 : Int32))), .val (.int (4 : Int32))] [(.int (4 : Int32))])) _
                            exact retI X0 hx Bd.returns (hb hby own_d2_239) hr
                          · show Qown_u Z a_o i_1 t_1 av k_a vs y_0 y_1 y_2 y_3 h0 n0 _ s₁.heap _
                            rw [e0]
                            have hv : (own_u_f y_0 y_1 y_2 y_3 av) = (4 : Int32) := by unfold own_u_f; rw [if_neg hc22_16, if_neg hc35_41, if_neg hc48_53, if_neg hc61_106, if_pos hc108_335, if_neg hc118_342, if_pos hc135_443, if_pos hc164_456, if_neg hc189_472, if_neg hc196_479, if_pos hc224_498, if_pos hc224_515]
                            exact ⟨(by rw [hv]), N0, rfl⟩
                        · obtain ⟨fs, hr, hrun, hended, hW, hsame⟩ := X0.leave (v := some (.int (0 : Int32))) (fun h => by rw [Bd.returns] at h; cases h) (hlocks := BodyLoose.notSynchronized Bd)
                          refine ⟨_, _, pre514 _ ?_, hrun, hended, _, _, rfl, ?_, ⟨_, rfl⟩, hW, hsame.mono (by decide) (by decide)⟩
                          · show Steps p.tables e below (s₁.setTop (mkF m 224 #[.val (.ref a_o), .val (.int i_1), .val (.int t_1), .val (.int (y_0 &&& (255 : Int32))), .val (.int (3 : Int32)), .val (.int (128 : Int32)), .val (.int (143 : Int32)), .val (.int (y_1 &&& (255 : Int32))), .val (.int (3 : Int32))] [(.int (128 : Int32)), (.int (y_3 &&& (192 : Int32)))])) _
                            refine XS.icmpNo X0.here hx rfl (hb hby own_d2_224) rfl (feq hc224_515).1 ?_
                            show Steps p.tables e below (s₁.setTop (mkF m 227 #[.val (.ref a_o), .val (.int i_1), .val (.int t_1), .val (.int (y_0 &&& (255 : Int32))), .val (.int (3 : Int32)), .val (.int (128 : Int32)), .val (.int (143 : Int32)), .val (.int (y_1 &&& (255 : Int32))), .val (.int (3 : Int32))] [])) _
                            refine XS.iconst X0.here hx rfl (hb hby own_d2_227) ?_
                            show Steps p.tables e below (s₁.setTop (mkF m 228 #[.val (.ref a_o), .val (.int i_1), .val (.int t_1), .val (.int (y_0 &&& (255 : Int32))), .val (.int (3 : Int32)), .val (.int (128 : Int32)), .val (.int (143 : Int32)), .val (.int (y_1 &&& (255 : Int32))), .val (.int (3 : Int32))] [(.int (0 : Int32))])) _
                            exact retI X0 hx Bd.returns (hb hby own_d2_228) hr
                          · show Qown_u Z a_o i_1 t_1 av k_a vs y_0 y_1 y_2 y_3 h0 n0 _ s₁.heap _
                            rw [e0]
                            have hv : (own_u_f y_0 y_1 y_2 y_3 av) = (0 : Int32) := by unfold own_u_f; rw [if_neg hc22_16, if_neg hc35_41, if_neg hc48_53, if_neg hc61_106, if_pos hc108_335, if_neg hc118_342, if_pos hc135_443, if_pos hc164_456, if_neg hc189_472, if_neg hc196_479, if_pos hc224_498, if_neg hc224_515]
                            exact ⟨(by rw [hv]), N0, rfl⟩
                      · obtain ⟨fs, hr, hrun, hended, hW, hsame⟩ := X0.leave (v := some (.int (0 : Int32))) (fun h => by rw [Bd.returns] at h; cases h) (hlocks := BodyLoose.notSynchronized Bd)
                        refine ⟨_, _, pre497 _ ?_, hrun, hended, _, _, rfl, ?_, ⟨_, rfl⟩, hW, hsame.mono (by decide) (by decide)⟩
                        · show Steps p.tables e below (s₁.setTop (mkF m 224 #[.val (.ref a_o), .val (.int i_1), .val (.int t_1), .val (.int (y_0 &&& (255 : Int32))), .val (.int (3 : Int32)), .val (.int (128 : Int32)), .val (.int (143 : Int32)), .val (.int (y_1 &&& (255 : Int32))), .val (.int (2 : Int32))] [(.int (128 : Int32)), (.int (y_2 &&& (192 : Int32)))])) _
                          refine XS.icmpNo X0.here hx rfl (hb hby own_d2_224) rfl (feq hc224_498).1 ?_
                          show Steps p.tables e below (s₁.setTop (mkF m 227 #[.val (.ref a_o), .val (.int i_1), .val (.int t_1), .val (.int (y_0 &&& (255 : Int32))), .val (.int (3 : Int32)), .val (.int (128 : Int32)), .val (.int (143 : Int32)), .val (.int (y_1 &&& (255 : Int32))), .val (.int (2 : Int32))] [])) _
                          refine XS.iconst X0.here hx rfl (hb hby own_d2_227) ?_
                          show Steps p.tables e below (s₁.setTop (mkF m 228 #[.val (.ref a_o), .val (.int i_1), .val (.int t_1), .val (.int (y_0 &&& (255 : Int32))), .val (.int (3 : Int32)), .val (.int (128 : Int32)), .val (.int (143 : Int32)), .val (.int (y_1 &&& (255 : Int32))), .val (.int (2 : Int32))] [(.int (0 : Int32))])) _
                          exact retI X0 hx Bd.returns (hb hby own_d2_228) hr
                        · show Qown_u Z a_o i_1 t_1 av k_a vs y_0 y_1 y_2 y_3 h0 n0 _ s₁.heap _
                          rw [e0]
                          have hv : (own_u_f y_0 y_1 y_2 y_3 av) = (0 : Int32) := by unfold own_u_f; rw [if_neg hc22_16, if_neg hc35_41, if_neg hc48_53, if_neg hc61_106, if_pos hc108_335, if_neg hc118_342, if_pos hc135_443, if_pos hc164_456, if_neg hc189_472, if_neg hc196_479, if_neg hc224_498]
                          exact ⟨(by rw [hv]), N0, rfl⟩
                · obtain ⟨fs, hr, hrun, hended, hW, hsame⟩ := X0.leave (v := some (.int (0 : Int32))) (fun h => by rw [Bd.returns] at h; cases h) (hlocks := BodyLoose.notSynchronized Bd)
                  refine ⟨_, _, pre455 _ ?_, hrun, hended, _, _, rfl, ?_, ⟨_, rfl⟩, hW, hsame.mono (by decide) (by decide)⟩
                  · show Steps p.tables e below (s₁.setTop (mkF m 164 #[.val (.ref a_o), .val (.int i_1), .val (.int t_1), .val (.int (y_0 &&& (255 : Int32))), .val (.int (3 : Int32)), .val (.int (128 : Int32)), .val (.int (143 : Int32)), .unset, .unset] [(.int (3 : Int32)), (.int av)])) _
                    refine XS.icmpNo X0.here hx rfl (hb hby own_d2_164) rfl (flt hc164_456).2.2.1 ?_
                    show Steps p.tables e below (s₁.setTop (mkF m 167 #[.val (.ref a_o), .val (.int i_1), .val (.int t_1), .val (.int (y_0 &&& (255 : Int32))), .val (.int (3 : Int32)), .val (.int (128 : Int32)), .val (.int (143 : Int32)), .unset, .unset] [])) _
                    refine XS.iconst X0.here hx rfl (hb hby own_d2_167) ?_
                    show Steps p.tables e below (s₁.setTop (mkF m 168 #[.val (.ref a_o), .val (.int i_1), .val (.int t_1), .val (.int (y_0 &&& (255 : Int32))), .val (.int (3 : Int32)), .val (.int (128 : Int32)), .val (.int (143 : Int32)), .unset, .unset] [(.int (0 : Int32))])) _
                    exact retI X0 hx Bd.returns (hb hby own_d2_168) hr
                  · show Qown_u Z a_o i_1 t_1 av k_a vs y_0 y_1 y_2 y_3 h0 n0 _ s₁.heap _
                    rw [e0]
                    have hv : (own_u_f y_0 y_1 y_2 y_3 av) = (0 : Int32) := by unfold own_u_f; rw [if_neg hc22_16, if_neg hc35_41, if_neg hc48_53, if_neg hc61_106, if_pos hc108_335, if_neg hc118_342, if_pos hc135_443, if_neg hc164_456]
                    exact ⟨(by rw [hv]), N0, rfl⟩
              · have pre541 : ∀ t, Steps p.tables e below (s₁.setTop (mkF m 164 #[.val (.ref a_o), .val (.int i_1), .val (.int t_1), .val (.int (y_0 &&& (255 : Int32))), .val (.int (3 : Int32)), .val (.int (128 : Int32)), .val (.int (191 : Int32)), .unset, .unset] [(.int (3 : Int32)), (.int av)])) t → Steps p.tables e below (s₁.setTop (entryFrame m #[(.ref a_o), (.int i_1), (.int t_1)] 9)) t := by
                  intro t kt
                  refine pre442 _ ?_
                  show Steps p.tables e below (s₁.setTop (mkF m 135 #[.val (.ref a_o), .val (.int i_1), .val (.int t_1), .val (.int (y_0 &&& (255 : Int32))), .val (.int (3 : Int32)), .val (.int (128 : Int32)), .val (.int (191 : Int32)), .unset, .unset] [(.int (244 : Int32)), (.int (y_0 &&& (255 : Int32)))])) _
                  refine XS.icmpYes X0.here hx rfl (pc0 := 135) (pc' := 144) rfl (hb hby own_d2_135) rfl (feq hc135_443).2 (by decide) (by decide) ?_
                  show Steps p.tables e below (s₁.setTop (mkF m 144 #[.val (.ref a_o), .val (.int i_1), .val (.int t_1), .val (.int (y_0 &&& (255 : Int32))), .val (.int (3 : Int32)), .val (.int (128 : Int32)), .val (.int (191 : Int32)), .unset, .unset] [])) _
                  refine XS.iload X0.here hx rfl (hb hby own_d2_144) rfl ?_
                  show Steps p.tables e below (s₁.setTop (mkF m 146 #[.val (.ref a_o), .val (.int i_1), .val (.int t_1), .val (.int (y_0 &&& (255 : Int32))), .val (.int (3 : Int32)), .val (.int (128 : Int32)), .val (.int (191 : Int32)), .unset, .unset] [(.int (191 : Int32))])) _
                  refine XS.istore X0.here hx rfl (hb hby own_d2_146) rfl (l' := #[.val (.ref a_o), .val (.int i_1), .val (.int t_1), .val (.int (y_0 &&& (255 : Int32))), .val (.int (3 : Int32)), .val (.int (128 : Int32)), .val (.int (191 : Int32)), .unset, .unset]) rfl ?_
                  show Steps p.tables e below (s₁.setTop (mkF m 148 #[.val (.ref a_o), .val (.int i_1), .val (.int t_1), .val (.int (y_0 &&& (255 : Int32))), .val (.int (3 : Int32)), .val (.int (128 : Int32)), .val (.int (191 : Int32)), .unset, .unset] [])) _
                  refine XS.goto X0.here hx rfl (pc0 := 148) (pc' := 154) rfl (hb hby own_d2_148) (by decide) (by decide) ?_
                  show Steps p.tables e below (s₁.setTop (mkF m 154 #[.val (.ref a_o), .val (.int i_1), .val (.int t_1), .val (.int (y_0 &&& (255 : Int32))), .val (.int (3 : Int32)), .val (.int (128 : Int32)), .val (.int (191 : Int32)), .unset, .unset] [])) _
                  refine XS.iload X0.here hx rfl (hb hby own_d2_154) rfl ?_
                  show Steps p.tables e below (s₁.setTop (mkF m 156 #[.val (.ref a_o), .val (.int i_1), .val (.int t_1), .val (.int (y_0 &&& (255 : Int32))), .val (.int (3 : Int32)), .val (.int (128 : Int32)), .val (.int (191 : Int32)), .unset, .unset] [(.int (3 : Int32))])) _
                  refine XS.ifNo X0.here hx rfl (hb hby own_d2_156) rfl ((if0 _ _).trans (flt ((by decide) : ¬ ((3 : Int32) < (0 : Int32)))).1) ?_
                  show Steps p.tables e below (s₁.setTop (mkF m 159 #[.val (.ref a_o), .val (.int i_1), .val (.int t_1), .val (.int (y_0 &&& (255 : Int32))), .val (.int (3 : Int32)), .val (.int (128 : Int32)), .val (.int (191 : Int32)), .unset, .unset] [])) _
                  refine XS.iloadN X0.here hx rfl (hb hby own_d2_159) rfl ?_
                  show Steps p.tables e below (s₁.setTop (mkF m 160 #[.val (.ref a_o), .val (.int i_1), .val (.int t_1), .val (.int (y_0 &&& (255 : Int32))), .val (.int (3 : Int32)), .val (.int (128 : Int32)), .val (.int (191 : Int32)), .unset, .unset] [(.int t_1)])) _
                  refine XS.iloadN X0.here hx rfl (hb hby own_d2_160) rfl ?_
                  show Steps p.tables e below (s₁.setTop (mkF m 161 #[.val (.ref a_o), .val (.int i_1), .val (.int t_1), .val (.int (y_0 &&& (255 : Int32))), .val (.int (3 : Int32)), .val (.int (128 : Int32)), .val (.int (191 : Int32)), .unset, .unset] [(.int i_1), (.int t_1)])) _
                  refine XS.isub X0.here hx rfl (hb hby own_d2_161) rfl ?_
                  rw [ht]
                  show Steps p.tables e below (s₁.setTop (mkF m 162 #[.val (.ref a_o), .val (.int i_1), .val (.int t_1), .val (.int (y_0 &&& (255 : Int32))), .val (.int (3 : Int32)), .val (.int (128 : Int32)), .val (.int (191 : Int32)), .unset, .unset] [(.int av)])) _
                  refine XS.iload X0.here hx rfl (hb hby own_d2_162) rfl ?_
                  exact kt
                by_cases hc164_542 : (3 : Int32) < av
                · obtain ⟨cl550, Ar550, q550, S550, M550, H550, G550⟩ := id V_a
                  have hin550 : ¬ ((i_1 + (1 : Int32)) < 0 ∨ cl550.slots.size ≤ ((i_1 + (1 : Int32))).toNatClampNeg) := inb_of S550 hi_1
                  have hat550 : cl550.slots[((i_1 + (1 : Int32))).toNatClampNeg]? = some (.int y_1) := H550.at hin550 hg_1
                  have pre557 : ∀ t, Steps p.tables e below (s₁.setTop (mkF m 189 #[.val (.ref a_o), .val (.int i_1), .val (.int t_1), .val (.int (y_0 &&& (255 : Int32))), .val (.int (3 : Int32)), .val (.int (128 : Int32)), .val (.int (191 : Int32)), .val (.int (y_1 &&& (255 : Int32))), .unset] [(.int (128 : Int32)), (.int (y_1 &&& (255 : Int32)))])) t → Steps p.tables e below (s₁.setTop (entryFrame m #[(.ref a_o), (.int i_1), (.int t_1)] 9)) t := by
                    intro t kt
                    refine pre541 _ ?_
                    show Steps p.tables e below (s₁.setTop (mkF m 164 #[.val (.ref a_o), .val (.int i_1), .val (.int t_1), .val (.int (y_0 &&& (255 : Int32))), .val (.int (3 : Int32)), .val (.int (128 : Int32)), .val (.int (191 : Int32)), .unset, .unset] [(.int (3 : Int32)), (.int av)])) _
                    refine XS.icmpYes X0.here hx rfl (pc0 := 164) (pc' := 169) rfl (hb hby own_d2_164) rfl (tlt hc164_542).2.2.1 (by decide) (by decide) ?_
                    show Steps p.tables e below (s₁.setTop (mkF m 169 #[.val (.ref a_o), .val (.int i_1), .val (.int t_1), .val (.int (y_0 &&& (255 : Int32))), .val (.int (3 : Int32)), .val (.int (128 : Int32)), .val (.int (191 : Int32)), .unset, .unset] [])) _
                    refine XS.iload X0.here hx rfl (hb hby own_d2_169) rfl ?_
                    show Steps p.tables e below (s₁.setTop (mkF m 171 #[.val (.ref a_o), .val (.int i_1), .val (.int t_1), .val (.int (y_0 &&& (255 : Int32))), .val (.int (3 : Int32)), .val (.int (128 : Int32)), .val (.int (191 : Int32)), .unset, .unset] [(.int (3 : Int32))])) _
                    refine XS.ifNo X0.here hx rfl (hb hby own_d2_171) rfl ((if0 _ _).trans (tlt ((by decide) : (0 : Int32) < (3 : Int32))).2.2.2) ?_
                    show Steps p.tables e below (s₁.setTop (mkF m 174 #[.val (.ref a_o), .val (.int i_1), .val (.int t_1), .val (.int (y_0 &&& (255 : Int32))), .val (.int (3 : Int32)), .val (.int (128 : Int32)), .val (.int (191 : Int32)), .unset, .unset] [])) _
                    refine XS.aloadN X0.here hx rfl (hb hby own_d2_174) rfl rfl ?_
                    show Steps p.tables e below (s₁.setTop (mkF m 175 #[.val (.ref a_o), .val (.int i_1), .val (.int t_1), .val (.int (y_0 &&& (255 : Int32))), .val (.int (3 : Int32)), .val (.int (128 : Int32)), .val (.int (191 : Int32)), .unset, .unset] [(.ref a_o)])) _
                    refine XS.iloadN X0.here hx rfl (hb hby own_d2_175) rfl ?_
                    show Steps p.tables e below (s₁.setTop (mkF m 176 #[.val (.ref a_o), .val (.int i_1), .val (.int t_1), .val (.int (y_0 &&& (255 : Int32))), .val (.int (3 : Int32)), .val (.int (128 : Int32)), .val (.int (191 : Int32)), .unset, .unset] [(.int i_1), (.ref a_o)])) _
                    refine XS.iconst X0.here hx rfl (hb hby own_d2_176) ?_
                    show Steps p.tables e below (s₁.setTop (mkF m 177 #[.val (.ref a_o), .val (.int i_1), .val (.int t_1), .val (.int (y_0 &&& (255 : Int32))), .val (.int (3 : Int32)), .val (.int (128 : Int32)), .val (.int (191 : Int32)), .unset, .unset] [(.int (1 : Int32)), (.int i_1), (.ref a_o)])) _
                    refine XS.iadd X0.here hx rfl (hb hby own_d2_177) rfl ?_
                    show Steps p.tables e below (s₁.setTop (mkF m 178 #[.val (.ref a_o), .val (.int i_1), .val (.int t_1), .val (.int (y_0 &&& (255 : Int32))), .val (.int (3 : Int32)), .val (.int (128 : Int32)), .val (.int (191 : Int32)), .unset, .unset] [(.int (i_1 + (1 : Int32))), (.ref a_o)])) _
                    refine X0.baloadBytes hx (j := (i_1 + (1 : Int32))) (v := (.int y_1)) (by rw [e0]; exact Ar550.1) (State.isArrayOf_alike hZ.alike Ar550.2.1) Ar550.2.2 hin550 hat550 (g := (mkF m 178 #[.val (.ref a_o), .val (.int i_1), .val (.int t_1), .val (.int (y_0 &&& (255 : Int32))), .val (.int (3 : Int32)), .val (.int (128 : Int32)), .val (.int (191 : Int32)), .unset, .unset] [(.int (i_1 + (1 : Int32))), (.ref a_o)])) rfl rfl (hb hby own_d2_178) _ ?_
                    show Steps p.tables e below (s₁.setTop (mkF m 179 #[.val (.ref a_o), .val (.int i_1), .val (.int t_1), .val (.int (y_0 &&& (255 : Int32))), .val (.int (3 : Int32)), .val (.int (128 : Int32)), .val (.int (191 : Int32)), .unset, .unset] [(.int y_1)])) _
                    refine XS.sipush X0.here hx rfl (hb hby own_d2_179) ?_
                    show Steps p.tables e below (s₁.setTop (mkF m 182 #[.val (.ref a_o), .val (.int i_1), .val (.int t_1), .val (.int (y_0 &&& (255 : Int32))), .val (.int (3 : Int32)), .val (.int (128 : Int32)), .val (.int (191 : Int32)), .unset, .unset] [(.int (255 : Int32)), (.int y_1)])) _
                    refine XS.iand X0.here hx rfl (hb hby own_d2_182) rfl ?_
                    show Steps p.tables e below (s₁.setTop (mkF m 183 #[.val (.ref a_o), .val (.int i_1), .val (.int t_1), .val (.int (y_0 &&& (255 : Int32))), .val (.int (3 : Int32)), .val (.int (128 : Int32)), .val (.int (191 : Int32)), .unset, .unset] [(.int (y_1 &&& (255 : Int32)))])) _
                    refine XS.istore X0.here hx rfl (hb hby own_d2_183) rfl (l' := #[.val (.ref a_o), .val (.int i_1), .val (.int t_1), .val (.int (y_0 &&& (255 : Int32))), .val (.int (3 : Int32)), .val (.int (128 : Int32)), .val (.int (191 : Int32)), .val (.int (y_1 &&& (255 : Int32))), .unset]) rfl ?_
                    show Steps p.tables e below (s₁.setTop (mkF m 185 #[.val (.ref a_o), .val (.int i_1), .val (.int t_1), .val (.int (y_0 &&& (255 : Int32))), .val (.int (3 : Int32)), .val (.int (128 : Int32)), .val (.int (191 : Int32)), .val (.int (y_1 &&& (255 : Int32))), .unset] [])) _
                    refine XS.iload X0.here hx rfl (hb hby own_d2_185) rfl ?_
                    show Steps p.tables e below (s₁.setTop (mkF m 187 #[.val (.ref a_o), .val (.int i_1), .val (.int t_1), .val (.int (y_0 &&& (255 : Int32))), .val (.int (3 : Int32)), .val (.int (128 : Int32)), .val (.int (191 : Int32)), .val (.int (y_1 &&& (255 : Int32))), .unset] [(.int (y_1 &&& (255 : Int32)))])) _
                    refine XS.iload X0.here hx rfl (hb hby own_d2_187) rfl ?_
                    exact kt
                  by_cases hc189_558 : (y_1 &&& (255 : Int32)) < (128 : Int32)
                  · obtain ⟨fs, hr, hrun, hended, hW, hsame⟩ := X0.leave (v := some (.int (0 : Int32))) (fun h => by rw [Bd.returns] at h; cases h) (hlocks := BodyLoose.notSynchronized Bd)
                    refine ⟨_, _, pre557 _ ?_, hrun, hended, _, _, rfl, ?_, ⟨_, rfl⟩, hW, hsame.mono (by decide) (by decide)⟩
                    · show Steps p.tables e below (s₁.setTop (mkF m 189 #[.val (.ref a_o), .val (.int i_1), .val (.int t_1), .val (.int (y_0 &&& (255 : Int32))), .val (.int (3 : Int32)), .val (.int (128 : Int32)), .val (.int (191 : Int32)), .val (.int (y_1 &&& (255 : Int32))), .unset] [(.int (128 : Int32)), (.int (y_1 &&& (255 : Int32)))])) _
                      refine XS.icmpYes X0.here hx rfl (pc0 := 189) (pc' := 199) rfl (hb hby own_d2_189) rfl (tlt hc189_558).1 (by decide) (by decide) ?_
                      show Steps p.tables e below (s₁.setTop (mkF m 199 #[.val (.ref a_o), .val (.int i_1), .val (.int t_1), .val (.int (y_0 &&& (255 : Int32))), .val (.int (3 : Int32)), .val (.int (128 : Int32)), .val (.int (191 : Int32)), .val (.int (y_1 &&& (255 : Int32))), .unset] [])) _
                      refine XS.iconst X0.here hx rfl (hb hby own_d2_199) ?_
                      show Steps p.tables e below (s₁.setTop (mkF m 200 #[.val (.ref a_o), .val (.int i_1), .val (.int t_1), .val (.int (y_0 &&& (255 : Int32))), .val (.int (3 : Int32)), .val (.int (128 : Int32)), .val (.int (191 : Int32)), .val (.int (y_1 &&& (255 : Int32))), .unset] [(.int (0 : Int32))])) _
                      exact retI X0 hx Bd.returns (hb hby own_d2_200) hr
                    · show Qown_u Z a_o i_1 t_1 av k_a vs y_0 y_1 y_2 y_3 h0 n0 _ s₁.heap _
                      rw [e0]
                      have hv : (own_u_f y_0 y_1 y_2 y_3 av) = (0 : Int32) := by unfold own_u_f; rw [if_neg hc22_16, if_neg hc35_41, if_neg hc48_53, if_neg hc61_106, if_pos hc108_335, if_neg hc118_342, if_neg hc135_443, if_pos hc164_542, if_pos hc189_558]
                      exact ⟨(by rw [hv]), N0, rfl⟩
                  · have pre564 : ∀ t, Steps p.tables e below (s₁.setTop (mkF m 196 #[.val (.ref a_o), .val (.int i_1), .val (.int t_1), .val (.int (y_0 &&& (255 : Int32))), .val (.int (3 : Int32)), .val (.int (128 : Int32)), .val (.int (191 : Int32)), .val (.int (y_1 &&& (255 : Int32))), .unset] [(.int (191 : Int32)), (.int (y_1 &&& (255 : Int32)))])) t → Steps p.tables e below (s₁.setTop (entryFrame m #[(.ref a_o), (.int i_1), (.int t_1)] 9)) t := by
                      intro t kt
                      refine pre557 _ ?_
                      show Steps p.tables e below (s₁.setTop (mkF m 189 #[.val (.ref a_o), .val (.int i_1), .val (.int t_1), .val (.int (y_0 &&& (255 : Int32))), .val (.int (3 : Int32)), .val (.int (128 : Int32)), .val (.int (191 : Int32)), .val (.int (y_1 &&& (255 : Int32))), .unset] [(.int (128 : Int32)), (.int (y_1 &&& (255 : Int32)))])) _
                      refine XS.icmpNo X0.here hx rfl (hb hby own_d2_189) rfl (flt hc189_558).1 ?_
                      show Steps p.tables e below (s₁.setTop (mkF m 192 #[.val (.ref a_o), .val (.int i_1), .val (.int t_1), .val (.int (y_0 &&& (255 : Int32))), .val (.int (3 : Int32)), .val (.int (128 : Int32)), .val (.int (191 : Int32)), .val (.int (y_1 &&& (255 : Int32))), .unset] [])) _
                      refine XS.iload X0.here hx rfl (hb hby own_d2_192) rfl ?_
                      show Steps p.tables e below (s₁.setTop (mkF m 194 #[.val (.ref a_o), .val (.int i_1), .val (.int t_1), .val (.int (y_0 &&& (255 : Int32))), .val (.int (3 : Int32)), .val (.int (128 : Int32)), .val (.int (191 : Int32)), .val (.int (y_1 &&& (255 : Int32))), .unset] [(.int (y_1 &&& (255 : Int32)))])) _
                      refine XS.iload X0.here hx rfl (hb hby own_d2_194) rfl ?_
                      exact kt
                    by_cases hc196_565 : (191 : Int32) < (y_1 &&& (255 : Int32))
                    · obtain ⟨fs, hr, hrun, hended, hW, hsame⟩ := X0.leave (v := some (.int (0 : Int32))) (fun h => by rw [Bd.returns] at h; cases h) (hlocks := BodyLoose.notSynchronized Bd)
                      refine ⟨_, _, pre564 _ ?_, hrun, hended, _, _, rfl, ?_, ⟨_, rfl⟩, hW, hsame.mono (by decide) (by decide)⟩
                      · show Steps p.tables e below (s₁.setTop (mkF m 196 #[.val (.ref a_o), .val (.int i_1), .val (.int t_1), .val (.int (y_0 &&& (255 : Int32))), .val (.int (3 : Int32)), .val (.int (128 : Int32)), .val (.int (191 : Int32)), .val (.int (y_1 &&& (255 : Int32))), .unset] [(.int (191 : Int32)), (.int (y_1 &&& (255 : Int32)))])) _
                        refine XS.icmpNo X0.here hx rfl (hb hby own_d2_196) rfl (tlt hc196_565).2.2.2 ?_
                        show Steps p.tables e below (s₁.setTop (mkF m 199 #[.val (.ref a_o), .val (.int i_1), .val (.int t_1), .val (.int (y_0 &&& (255 : Int32))), .val (.int (3 : Int32)), .val (.int (128 : Int32)), .val (.int (191 : Int32)), .val (.int (y_1 &&& (255 : Int32))), .unset] [])) _
                        refine XS.iconst X0.here hx rfl (hb hby own_d2_199) ?_
                        show Steps p.tables e below (s₁.setTop (mkF m 200 #[.val (.ref a_o), .val (.int i_1), .val (.int t_1), .val (.int (y_0 &&& (255 : Int32))), .val (.int (3 : Int32)), .val (.int (128 : Int32)), .val (.int (191 : Int32)), .val (.int (y_1 &&& (255 : Int32))), .unset] [(.int (0 : Int32))])) _
                        exact retI X0 hx Bd.returns (hb hby own_d2_200) hr
                      · show Qown_u Z a_o i_1 t_1 av k_a vs y_0 y_1 y_2 y_3 h0 n0 _ s₁.heap _
                        rw [e0]
                        have hv : (own_u_f y_0 y_1 y_2 y_3 av) = (0 : Int32) := by unfold own_u_f; rw [if_neg hc22_16, if_neg hc35_41, if_neg hc48_53, if_neg hc61_106, if_pos hc108_335, if_neg hc118_342, if_neg hc135_443, if_pos hc164_542, if_neg hc189_558, if_pos hc196_565]
                        exact ⟨(by rw [hv]), N0, rfl⟩
                    · obtain ⟨cl578, Ar578, q578, S578, M578, H578, G578⟩ := id V_a
                      have hin578 : ¬ ((i_1 + (2 : Int32)) < 0 ∨ cl578.slots.size ≤ ((i_1 + (2 : Int32))).toNatClampNeg) := inb_of S578 hi_2
                      have hat578 : cl578.slots[((i_1 + (2 : Int32))).toNatClampNeg]? = some (.int y_2) := H578.at hin578 hg_2
                      have pre583 : ∀ t, Steps p.tables e below (s₁.setTop (mkF m 224 #[.val (.ref a_o), .val (.int i_1), .val (.int t_1), .val (.int (y_0 &&& (255 : Int32))), .val (.int (3 : Int32)), .val (.int (128 : Int32)), .val (.int (191 : Int32)), .val (.int (y_1 &&& (255 : Int32))), .val (.int (2 : Int32))] [(.int (128 : Int32)), (.int (y_2 &&& (192 : Int32)))])) t → Steps p.tables e below (s₁.setTop (entryFrame m #[(.ref a_o), (.int i_1), (.int t_1)] 9)) t := by
                        intro t kt
                        refine pre564 _ ?_
                        show Steps p.tables e below (s₁.setTop (mkF m 196 #[.val (.ref a_o), .val (.int i_1), .val (.int t_1), .val (.int (y_0 &&& (255 : Int32))), .val (.int (3 : Int32)), .val (.int (128 : Int32)), .val (.int (191 : Int32)), .val (.int (y_1 &&& (255 : Int32))), .unset] [(.int (191 : Int32)), (.int (y_1 &&& (255 : Int32)))])) _
                        refine XS.icmpYes X0.here hx rfl (pc0 := 196) (pc' := 201) rfl (hb hby own_d2_196) rfl (flt hc196_565).2.2.2 (by decide) (by decide) ?_
                        show Steps p.tables e below (s₁.setTop (mkF m 201 #[.val (.ref a_o), .val (.int i_1), .val (.int t_1), .val (.int (y_0 &&& (255 : Int32))), .val (.int (3 : Int32)), .val (.int (128 : Int32)), .val (.int (191 : Int32)), .val (.int (y_1 &&& (255 : Int32))), .unset] [])) _
                        refine XS.iconst X0.here hx rfl (hb hby own_d2_201) ?_
                        show Steps p.tables e below (s₁.setTop (mkF m 202 #[.val (.ref a_o), .val (.int i_1), .val (.int t_1), .val (.int (y_0 &&& (255 : Int32))), .val (.int (3 : Int32)), .val (.int (128 : Int32)), .val (.int (191 : Int32)), .val (.int (y_1 &&& (255 : Int32))), .unset] [(.int (2 : Int32))])) _
                        refine XS.istore X0.here hx rfl (hb hby own_d2_202) rfl (l' := #[.val (.ref a_o), .val (.int i_1), .val (.int t_1), .val (.int (y_0 &&& (255 : Int32))), .val (.int (3 : Int32)), .val (.int (128 : Int32)), .val (.int (191 : Int32)), .val (.int (y_1 &&& (255 : Int32))), .val (.int (2 : Int32))]) rfl ?_
                        show Steps p.tables e below (s₁.setTop (mkF m 204 #[.val (.ref a_o), .val (.int i_1), .val (.int t_1), .val (.int (y_0 &&& (255 : Int32))), .val (.int (3 : Int32)), .val (.int (128 : Int32)), .val (.int (191 : Int32)), .val (.int (y_1 &&& (255 : Int32))), .val (.int (2 : Int32))] [])) _
                        refine XS.iload X0.here hx rfl (hb hby own_d2_204) rfl ?_
                        show Steps p.tables e below (s₁.setTop (mkF m 206 #[.val (.ref a_o), .val (.int i_1), .val (.int t_1), .val (.int (y_0 &&& (255 : Int32))), .val (.int (3 : Int32)), .val (.int (128 : Int32)), .val (.int (191 : Int32)), .val (.int (y_1 &&& (255 : Int32))), .val (.int (2 : Int32))] [(.int (2 : Int32))])) _
                        refine XS.iload X0.here hx rfl (hb hby own_d2_206) rfl ?_
                        show Steps p.tables e below (s₁.setTop (mkF m 208 #[.val (.ref a_o), .val (.int i_1), .val (.int t_1), .val (.int (y_0 &&& (255 : Int32))), .val (.int (3 : Int32)), .val (.int (128 : Int32)), .val (.int (191 : Int32)), .val (.int (y_1 &&& (255 : Int32))), .val (.int (2 : Int32))] [(.int (3 : Int32)), (.int (2 : Int32))])) _
                        refine XS.icmpNo X0.here hx rfl (hb hby own_d2_208) rfl (flt ((by decide) : ¬ ((3 : Int32) < (2 : Int32)))).2.2.1 ?_
                        show Steps p.tables e below (s₁.setTop (mkF m 211 #[.val (.ref a_o), .val (.int i_1), .val (.int t_1), .val (.int (y_0 &&& (255 : Int32))), .val (.int (3 : Int32)), .val (.int (128 : Int32)), .val (.int (191 : Int32)), .val (.int (y_1 &&& (255 : Int32))), .val (.int (2 : Int32))] [])) _
                        refine XS.aloadN X0.here hx rfl (hb hby own_d2_211) rfl rfl ?_
                        show Steps p.tables e below (s₁.setTop (mkF m 212 #[.val (.ref a_o), .val (.int i_1), .val (.int t_1), .val (.int (y_0 &&& (255 : Int32))), .val (.int (3 : Int32)), .val (.int (128 : Int32)), .val (.int (191 : Int32)), .val (.int (y_1 &&& (255 : Int32))), .val (.int (2 : Int32))] [(.ref a_o)])) _
                        refine XS.iloadN X0.here hx rfl (hb hby own_d2_212) rfl ?_
                        show Steps p.tables e below (s₁.setTop (mkF m 213 #[.val (.ref a_o), .val (.int i_1), .val (.int t_1), .val (.int (y_0 &&& (255 : Int32))), .val (.int (3 : Int32)), .val (.int (128 : Int32)), .val (.int (191 : Int32)), .val (.int (y_1 &&& (255 : Int32))), .val (.int (2 : Int32))] [(.int i_1), (.ref a_o)])) _
                        refine XS.iload X0.here hx rfl (hb hby own_d2_213) rfl ?_
                        show Steps p.tables e below (s₁.setTop (mkF m 215 #[.val (.ref a_o), .val (.int i_1), .val (.int t_1), .val (.int (y_0 &&& (255 : Int32))), .val (.int (3 : Int32)), .val (.int (128 : Int32)), .val (.int (191 : Int32)), .val (.int (y_1 &&& (255 : Int32))), .val (.int (2 : Int32))] [(.int (2 : Int32)), (.int i_1), (.ref a_o)])) _
                        refine XS.iadd X0.here hx rfl (hb hby own_d2_215) rfl ?_
                        show Steps p.tables e below (s₁.setTop (mkF m 216 #[.val (.ref a_o), .val (.int i_1), .val (.int t_1), .val (.int (y_0 &&& (255 : Int32))), .val (.int (3 : Int32)), .val (.int (128 : Int32)), .val (.int (191 : Int32)), .val (.int (y_1 &&& (255 : Int32))), .val (.int (2 : Int32))] [(.int (i_1 + (2 : Int32))), (.ref a_o)])) _
                        refine X0.baloadBytes hx (j := (i_1 + (2 : Int32))) (v := (.int y_2)) (by rw [e0]; exact Ar578.1) (State.isArrayOf_alike hZ.alike Ar578.2.1) Ar578.2.2 hin578 hat578 (g := (mkF m 216 #[.val (.ref a_o), .val (.int i_1), .val (.int t_1), .val (.int (y_0 &&& (255 : Int32))), .val (.int (3 : Int32)), .val (.int (128 : Int32)), .val (.int (191 : Int32)), .val (.int (y_1 &&& (255 : Int32))), .val (.int (2 : Int32))] [(.int (i_1 + (2 : Int32))), (.ref a_o)])) rfl rfl (hb hby own_d2_216) _ ?_
                        show Steps p.tables e below (s₁.setTop (mkF m 217 #[.val (.ref a_o), .val (.int i_1), .val (.int t_1), .val (.int (y_0 &&& (255 : Int32))), .val (.int (3 : Int32)), .val (.int (128 : Int32)), .val (.int (191 : Int32)), .val (.int (y_1 &&& (255 : Int32))), .val (.int (2 : Int32))] [(.int y_2)])) _
                        refine XS.sipush X0.here hx rfl (hb hby own_d2_217) ?_
                        show Steps p.tables e below (s₁.setTop (mkF m 220 #[.val (.ref a_o), .val (.int i_1), .val (.int t_1), .val (.int (y_0 &&& (255 : Int32))), .val (.int (3 : Int32)), .val (.int (128 : Int32)), .val (.int (191 : Int32)), .val (.int (y_1 &&& (255 : Int32))), .val (.int (2 : Int32))] [(.int (192 : Int32)), (.int y_2)])) _
                        refine XS.iand X0.here hx rfl (hb hby own_d2_220) rfl ?_
                        show Steps p.tables e below (s₁.setTop (mkF m 221 #[.val (.ref a_o), .val (.int i_1), .val (.int t_1), .val (.int (y_0 &&& (255 : Int32))), .val (.int (3 : Int32)), .val (.int (128 : Int32)), .val (.int (191 : Int32)), .val (.int (y_1 &&& (255 : Int32))), .val (.int (2 : Int32))] [(.int (y_2 &&& (192 : Int32)))])) _
                        refine XS.sipush X0.here hx rfl (hb hby own_d2_221) ?_
                        exact kt
                      by_cases hc224_584 : (y_2 &&& (192 : Int32)) = (128 : Int32)
                      · obtain ⟨cl595, Ar595, q595, S595, M595, H595, G595⟩ := id V_a
                        have hin595 : ¬ ((i_1 + (3 : Int32)) < 0 ∨ cl595.slots.size ≤ ((i_1 + (3 : Int32))).toNatClampNeg) := inb_of S595 hi_3
                        have hat595 : cl595.slots[((i_1 + (3 : Int32))).toNatClampNeg]? = some (.int y_3) := H595.at hin595 hg_3
                        have pre600 : ∀ t, Steps p.tables e below (s₁.setTop (mkF m 224 #[.val (.ref a_o), .val (.int i_1), .val (.int t_1), .val (.int (y_0 &&& (255 : Int32))), .val (.int (3 : Int32)), .val (.int (128 : Int32)), .val (.int (191 : Int32)), .val (.int (y_1 &&& (255 : Int32))), .val (.int (3 : Int32))] [(.int (128 : Int32)), (.int (y_3 &&& (192 : Int32)))])) t → Steps p.tables e below (s₁.setTop (entryFrame m #[(.ref a_o), (.int i_1), (.int t_1)] 9)) t := by
                          intro t kt
                          refine pre583 _ ?_
                          show Steps p.tables e below (s₁.setTop (mkF m 224 #[.val (.ref a_o), .val (.int i_1), .val (.int t_1), .val (.int (y_0 &&& (255 : Int32))), .val (.int (3 : Int32)), .val (.int (128 : Int32)), .val (.int (191 : Int32)), .val (.int (y_1 &&& (255 : Int32))), .val (.int (2 : Int32))] [(.int (128 : Int32)), (.int (y_2 &&& (192 : Int32)))])) _
                          refine XS.icmpYes X0.here hx rfl (pc0 := 224) (pc' := 229) rfl (hb hby own_d2_224) rfl (teq hc224_584).1 (by decide) (by decide) ?_
                          show Steps p.tables e below (s₁.setTop (mkF m 229 #[.val (.ref a_o), .val (.int i_1), .val (.int t_1), .val (.int (y_0 &&& (255 : Int32))), .val (.int (3 : Int32)), .val (.int (128 : Int32)), .val (.int (191 : Int32)), .val (.int (y_1 &&& (255 : Int32))), .val (.int (2 : Int32))] [])) _
                          refine XS.iinc X0.here hx rfl (hb hby own_d2_229) rfl (l' := #[.val (.ref a_o), .val (.int i_1), .val (.int t_1), .val (.int (y_0 &&& (255 : Int32))), .val (.int (3 : Int32)), .val (.int (128 : Int32)), .val (.int (191 : Int32)), .val (.int (y_1 &&& (255 : Int32))), .val (.int (3 : Int32))]) rfl ?_
                          show Steps p.tables e below (s₁.setTop (mkF m 232 #[.val (.ref a_o), .val (.int i_1), .val (.int t_1), .val (.int (y_0 &&& (255 : Int32))), .val (.int (3 : Int32)), .val (.int (128 : Int32)), .val (.int (191 : Int32)), .val (.int (y_1 &&& (255 : Int32))), .val (.int (3 : Int32))] [])) _
                          refine XS.goto X0.here hx rfl (pc0 := 232) (pc' := 204) rfl (hb hby own_d2_232) (by decide) (by decide) ?_
                          show Steps p.tables e below (s₁.setTop (mkF m 204 #[.val (.ref a_o), .val (.int i_1), .val (.int t_1), .val (.int (y_0 &&& (255 : Int32))), .val (.int (3 : Int32)), .val (.int (128 : Int32)), .val (.int (191 : Int32)), .val (.int (y_1 &&& (255 : Int32))), .val (.int (3 : Int32))] [])) _
                          refine XS.iload X0.here hx rfl (hb hby own_d2_204) rfl ?_
                          show Steps p.tables e below (s₁.setTop (mkF m 206 #[.val (.ref a_o), .val (.int i_1), .val (.int t_1), .val (.int (y_0 &&& (255 : Int32))), .val (.int (3 : Int32)), .val (.int (128 : Int32)), .val (.int (191 : Int32)), .val (.int (y_1 &&& (255 : Int32))), .val (.int (3 : Int32))] [(.int (3 : Int32))])) _
                          refine XS.iload X0.here hx rfl (hb hby own_d2_206) rfl ?_
                          show Steps p.tables e below (s₁.setTop (mkF m 208 #[.val (.ref a_o), .val (.int i_1), .val (.int t_1), .val (.int (y_0 &&& (255 : Int32))), .val (.int (3 : Int32)), .val (.int (128 : Int32)), .val (.int (191 : Int32)), .val (.int (y_1 &&& (255 : Int32))), .val (.int (3 : Int32))] [(.int (3 : Int32)), (.int (3 : Int32))])) _
                          refine XS.icmpNo X0.here hx rfl (hb hby own_d2_208) rfl (flt ((by decide) : ¬ ((3 : Int32) < (3 : Int32)))).2.2.1 ?_
                          show Steps p.tables e below (s₁.setTop (mkF m 211 #[.val (.ref a_o), .val (.int i_1), .val (.int t_1), .val (.int (y_0 &&& (255 : Int32))), .val (.int (3 : Int32)), .val (.int (128 : Int32)), .val (.int (191 : Int32)), .val (.int (y_1 &&& (255 : Int32))), .val (.int (3 : Int32))] [])) _
                          refine XS.aloadN X0.here hx rfl (hb hby own_d2_211) rfl rfl ?_
                          show Steps p.tables e below (s₁.setTop (mkF m 212 #[.val (.ref a_o), .val (.int i_1), .val (.int t_1), .val (.int (y_0 &&& (255 : Int32))), .val (.int (3 : Int32)), .val (.int (128 : Int32)), .val (.int (191 : Int32)), .val (.int (y_1 &&& (255 : Int32))), .val (.int (3 : Int32))] [(.ref a_o)])) _
                          refine XS.iloadN X0.here hx rfl (hb hby own_d2_212) rfl ?_
                          show Steps p.tables e below (s₁.setTop (mkF m 213 #[.val (.ref a_o), .val (.int i_1), .val (.int t_1), .val (.int (y_0 &&& (255 : Int32))), .val (.int (3 : Int32)), .val (.int (128 : Int32)), .val (.int (191 : Int32)), .val (.int (y_1 &&& (255 : Int32))), .val (.int (3 : Int32))] [(.int i_1), (.ref a_o)])) _
                          refine XS.iload X0.here hx rfl (hb hby own_d2_213) rfl ?_
                          show Steps p.tables e below (s₁.setTop (mkF m 215 #[.val (.ref a_o), .val (.int i_1), .val (.int t_1), .val (.int (y_0 &&& (255 : Int32))), .val (.int (3 : Int32)), .val (.int (128 : Int32)), .val (.int (191 : Int32)), .val (.int (y_1 &&& (255 : Int32))), .val (.int (3 : Int32))] [(.int (3 : Int32)), (.int i_1), (.ref a_o)])) _
                          refine XS.iadd X0.here hx rfl (hb hby own_d2_215) rfl ?_
                          show Steps p.tables e below (s₁.setTop (mkF m 216 #[.val (.ref a_o), .val (.int i_1), .val (.int t_1), .val (.int (y_0 &&& (255 : Int32))), .val (.int (3 : Int32)), .val (.int (128 : Int32)), .val (.int (191 : Int32)), .val (.int (y_1 &&& (255 : Int32))), .val (.int (3 : Int32))] [(.int (i_1 + (3 : Int32))), (.ref a_o)])) _
                          refine X0.baloadBytes hx (j := (i_1 + (3 : Int32))) (v := (.int y_3)) (by rw [e0]; exact Ar595.1) (State.isArrayOf_alike hZ.alike Ar595.2.1) Ar595.2.2 hin595 hat595 (g := (mkF m 216 #[.val (.ref a_o), .val (.int i_1), .val (.int t_1), .val (.int (y_0 &&& (255 : Int32))), .val (.int (3 : Int32)), .val (.int (128 : Int32)), .val (.int (191 : Int32)), .val (.int (y_1 &&& (255 : Int32))), .val (.int (3 : Int32))] [(.int (i_1 + (3 : Int32))), (.ref a_o)])) rfl rfl (hb hby own_d2_216) _ ?_
                          show Steps p.tables e below (s₁.setTop (mkF m 217 #[.val (.ref a_o), .val (.int i_1), .val (.int t_1), .val (.int (y_0 &&& (255 : Int32))), .val (.int (3 : Int32)), .val (.int (128 : Int32)), .val (.int (191 : Int32)), .val (.int (y_1 &&& (255 : Int32))), .val (.int (3 : Int32))] [(.int y_3)])) _
                          refine XS.sipush X0.here hx rfl (hb hby own_d2_217) ?_
                          show Steps p.tables e below (s₁.setTop (mkF m 220 #[.val (.ref a_o), .val (.int i_1), .val (.int t_1), .val (.int (y_0 &&& (255 : Int32))), .val (.int (3 : Int32)), .val (.int (128 : Int32)), .val (.int (191 : Int32)), .val (.int (y_1 &&& (255 : Int32))), .val (.int (3 : Int32))] [(.int (192 : Int32)), (.int y_3)])) _
                          refine XS.iand X0.here hx rfl (hb hby own_d2_220) rfl ?_
                          show Steps p.tables e below (s₁.setTop (mkF m 221 #[.val (.ref a_o), .val (.int i_1), .val (.int t_1), .val (.int (y_0 &&& (255 : Int32))), .val (.int (3 : Int32)), .val (.int (128 : Int32)), .val (.int (191 : Int32)), .val (.int (y_1 &&& (255 : Int32))), .val (.int (3 : Int32))] [(.int (y_3 &&& (192 : Int32)))])) _
                          refine XS.sipush X0.here hx rfl (hb hby own_d2_221) ?_
                          exact kt
                        by_cases hc224_601 : (y_3 &&& (192 : Int32)) = (128 : Int32)
                        · obtain ⟨fs, hr, hrun, hended, hW, hsame⟩ := X0.leave (v := some (.int (4 : Int32))) (fun h => by rw [Bd.returns] at h; cases h) (hlocks := BodyLoose.notSynchronized Bd)
                          refine ⟨_, _, pre600 _ ?_, hrun, hended, _, _, rfl, ?_, ⟨_, rfl⟩, hW, hsame.mono (by decide) (by decide)⟩
                          · show Steps p.tables e below (s₁.setTop (mkF m 224 #[.val (.ref a_o), .val (.int i_1), .val (.int t_1), .val (.int (y_0 &&& (255 : Int32))), .val (.int (3 : Int32)), .val (.int (128 : Int32)), .val (.int (191 : Int32)), .val (.int (y_1 &&& (255 : Int32))), .val (.int (3 : Int32))] [(.int (128 : Int32)), (.int (y_3 &&& (192 : Int32)))])) _
                            refine XS.icmpYes X0.here hx rfl (pc0 := 224) (pc' := 229) rfl (hb hby own_d2_224) rfl (teq hc224_601).1 (by decide) (by decide) ?_
                            show Steps p.tables e below (s₁.setTop (mkF m 229 #[.val (.ref a_o), .val (.int i_1), .val (.int t_1), .val (.int (y_0 &&& (255 : Int32))), .val (.int (3 : Int32)), .val (.int (128 : Int32)), .val (.int (191 : Int32)), .val (.int (y_1 &&& (255 : Int32))), .val (.int (3 : Int32))] [])) _
                            refine XS.iinc X0.here hx rfl (hb hby own_d2_229) rfl (l' := #[.val (.ref a_o), .val (.int i_1), .val (.int t_1), .val (.int (y_0 &&& (255 : Int32))), .val (.int (3 : Int32)), .val (.int (128 : Int32)), .val (.int (191 : Int32)), .val (.int (y_1 &&& (255 : Int32))), .val (.int (4 : Int32))]) rfl ?_
                            show Steps p.tables e below (s₁.setTop (mkF m 232 #[.val (.ref a_o), .val (.int i_1), .val (.int t_1), .val (.int (y_0 &&& (255 : Int32))), .val (.int (3 : Int32)), .val (.int (128 : Int32)), .val (.int (191 : Int32)), .val (.int (y_1 &&& (255 : Int32))), .val (.int (4 : Int32))] [])) _
                            refine XS.goto X0.here hx rfl (pc0 := 232) (pc' := 204) rfl (hb hby own_d2_232) (by decide) (by decide) ?_
                            show Steps p.tables e below (s₁.setTop (mkF m 204 #[.val (.ref a_o), .val (.int i_1), .val (.int t_1), .val (.int (y_0 &&& (255 : Int32))), .val (.int (3 : Int32)), .val (.int (128 : Int32)), .val (.int (191 : Int32)), .val (.int (y_1 &&& (255 : Int32))), .val (.int (4 : Int32))] [])) _
                            refine XS.iload X0.here hx rfl (hb hby own_d2_204) rfl ?_
                            show Steps p.tables e below (s₁.setTop (mkF m 206 #[.val (.ref a_o), .val (.int i_1), .val (.int t_1), .val (.int (y_0 &&& (255 : Int32))), .val (.int (3 : Int32)), .val (.int (128 : Int32)), .val (.int (191 : Int32)), .val (.int (y_1 &&& (255 : Int32))), .val (.int (4 : Int32))] [(.int (4 : Int32))])) _
                            refine XS.iload X0.here hx rfl (hb hby own_d2_206) rfl ?_
                            show Steps p.tables e below (s₁.setTop (mkF m 208 #[.val (.ref a_o), .val (.int i_1), .val (.int t_1), .val (.int (y_0 &&& (255 : Int32))), .val (.int (3 : Int32)), .val (.int (128 : Int32)), .val (.int (191 : Int32)), .val (.int (y_1 &&& (255 : Int32))), .val (.int (4 : Int32))] [(.int (3 : Int32)), (.int (4 : Int32))])) _
                            refine XS.icmpYes X0.here hx rfl (pc0 := 208) (pc' := 235) rfl (hb hby own_d2_208) rfl (tlt ((by decide) : (3 : Int32) < (4 : Int32))).2.2.1 (by decide) (by decide) ?_
                            show Steps p.tables e below (s₁.setTop (mkF m 235 #[.val (.ref a_o), .val (.int i_1), .val (.int t_1), .val (.int (y_0 &&& (255 : Int32))), .val (.int (3 : Int32)), .val (.int (128 : Int32)), .val (.int (191 : Int32)), .val (.int (y_1 &&& (255 : Int32))), .val (.int (4 : Int32))] [])) _
                            refine XS.iload X0.here hx rfl (hb hby own_d2_235) rfl ?_
                            show Steps p.tables e below (s₁.setTop (mkF m 237 #[.val (.ref a_o), .val (.int i_1), .val (.int t_1), .val (.int (y_0 &&& (255 : Int32))), .val (.int (3 : Int32)), .val (.int (128 : Int32)), .val (.int (191 : Int32)), .val (.int (y_1 &&& (255 : Int32))), .val (.int (4 : Int32))] [(.int (3 : Int32))])) _
                            refine XS.iconst X0.here hx rfl (hb hby own_d2_237) ?_
                            show Steps p.tables e below (s₁.setTop (mkF m 238 #[.val (.ref a_o), .val (.int i_1), .val (.int t_1), .val (.int (y_0 &&& (255 : Int32))), .val (.int (3 : Int32)), .val (.int (128 : Int32)), .val (.int (191 : Int32)), .val (.int (y_1 &&& (255 : Int32))), .val (.int (4 : Int32))] [(.int (1 : Int32)), (.int (3 : Int32))])) _
                            refine XS.iadd X0.here hx rfl (hb hby own_d2_238) rfl ?_
                            show Steps p.tables e below (s₁.setTop (mkF m 239 #[.val (.ref a_o), .val (.int i_1), .val (.int t_1), .val (.int (y_0 &&& (255 : Int32))), .val (.int (3 : Int32)), .val (.int (128 : Int32)), .val (.int (191 : Int32)), .val (.int (y_1 &&& (255 : Int32))), .val (.int (4 : Int32))] [(.int (4 : Int32))])) _
                            exact retI X0 hx Bd.returns (hb hby own_d2_239) hr
                          · show Qown_u Z a_o i_1 t_1 av k_a vs y_0 y_1 y_2 y_3 h0 n0 _ s₁.heap _
                            rw [e0]
                            have hv : (own_u_f y_0 y_1 y_2 y_3 av) = (4 : Int32) := by unfold own_u_f; rw [if_neg hc22_16, if_neg hc35_41, if_neg hc48_53, if_neg hc61_106, if_pos hc108_335, if_neg hc118_342, if_neg hc135_443, if_pos hc164_542, if_neg hc189_558, if_neg hc196_565, if_pos hc224_584, if_pos hc224_601]
                            exact ⟨(by rw [hv]), N0, rfl⟩
                        · obtain ⟨fs, hr, hrun, hended, hW, hsame⟩ := X0.leave (v := some (.int (0 : Int32))) (fun h => by rw [Bd.returns] at h; cases h) (hlocks := BodyLoose.notSynchronized Bd)
                          refine ⟨_, _, pre600 _ ?_, hrun, hended, _, _, rfl, ?_, ⟨_, rfl⟩, hW, hsame.mono (by decide) (by decide)⟩
                          · show Steps p.tables e below (s₁.setTop (mkF m 224 #[.val (.ref a_o), .val (.int i_1), .val (.int t_1), .val (.int (y_0 &&& (255 : Int32))), .val (.int (3 : Int32)), .val (.int (128 : Int32)), .val (.int (191 : Int32)), .val (.int (y_1 &&& (255 : Int32))), .val (.int (3 : Int32))] [(.int (128 : Int32)), (.int (y_3 &&& (192 : Int32)))])) _
                            refine XS.icmpNo X0.here hx rfl (hb hby own_d2_224) rfl (feq hc224_601).1 ?_
                            show Steps p.tables e below (s₁.setTop (mkF m 227 #[.val (.ref a_o), .val (.int i_1), .val (.int t_1), .val (.int (y_0 &&& (255 : Int32))), .val (.int (3 : Int32)), .val (.int (128 : Int32)), .val (.int (191 : Int32)), .val (.int (y_1 &&& (255 : Int32))), .val (.int (3 : Int32))] [])) _
                            refine XS.iconst X0.here hx rfl (hb hby own_d2_227) ?_
                            show Steps p.tables e below (s₁.setTop (mkF m 228 #[.val (.ref a_o), .val (.int i_1), .val (.int t_1), .val (.int (y_0 &&& (255 : Int32))), .val (.int (3 : Int32)), .val (.int (128 : Int32)), .val (.int (191 : Int32)), .val (.int (y_1 &&& (255 : Int32))), .val (.int (3 : Int32))] [(.int (0 : Int32))])) _
                            exact retI X0 hx Bd.returns (hb hby own_d2_228) hr
                          · show Qown_u Z a_o i_1 t_1 av k_a vs y_0 y_1 y_2 y_3 h0 n0 _ s₁.heap _
                            rw [e0]
                            have hv : (own_u_f y_0 y_1 y_2 y_3 av) = (0 : Int32) := by unfold own_u_f; rw [if_neg hc22_16, if_neg hc35_41, if_neg hc48_53, if_neg hc61_106, if_pos hc108_335, if_neg hc118_342, if_neg hc135_443, if_pos hc164_542, if_neg hc189_558, if_neg hc196_565, if_pos hc224_584, if_neg hc224_601]
                            exact ⟨(by rw [hv]), N0, rfl⟩
                      · obtain ⟨fs, hr, hrun, hended, hW, hsame⟩ := X0.leave (v := some (.int (0 : Int32))) (fun h => by rw [Bd.returns] at h; cases h) (hlocks := BodyLoose.notSynchronized Bd)
                        refine ⟨_, _, pre583 _ ?_, hrun, hended, _, _, rfl, ?_, ⟨_, rfl⟩, hW, hsame.mono (by decide) (by decide)⟩
                        · show Steps p.tables e below (s₁.setTop (mkF m 224 #[.val (.ref a_o), .val (.int i_1), .val (.int t_1), .val (.int (y_0 &&& (255 : Int32))), .val (.int (3 : Int32)), .val (.int (128 : Int32)), .val (.int (191 : Int32)), .val (.int (y_1 &&& (255 : Int32))), .val (.int (2 : Int32))] [(.int (128 : Int32)), (.int (y_2 &&& (192 : Int32)))])) _
                          refine XS.icmpNo X0.here hx rfl (hb hby own_d2_224) rfl (feq hc224_584).1 ?_
                          show Steps p.tables e below (s₁.setTop (mkF m 227 #[.val (.ref a_o), .val (.int i_1), .val (.int t_1), .val (.int (y_0 &&& (255 : Int32))), .val (.int (3 : Int32)), .val (.int (128 : Int32)), .val (.int (191 : Int32)), .val (.int (y_1 &&& (255 : Int32))), .val (.int (2 : Int32))] [])) _
                          refine XS.iconst X0.here hx rfl (hb hby own_d2_227) ?_
                          show Steps p.tables e below (s₁.setTop (mkF m 228 #[.val (.ref a_o), .val (.int i_1), .val (.int t_1), .val (.int (y_0 &&& (255 : Int32))), .val (.int (3 : Int32)), .val (.int (128 : Int32)), .val (.int (191 : Int32)), .val (.int (y_1 &&& (255 : Int32))), .val (.int (2 : Int32))] [(.int (0 : Int32))])) _
                          exact retI X0 hx Bd.returns (hb hby own_d2_228) hr
                        · show Qown_u Z a_o i_1 t_1 av k_a vs y_0 y_1 y_2 y_3 h0 n0 _ s₁.heap _
                          rw [e0]
                          have hv : (own_u_f y_0 y_1 y_2 y_3 av) = (0 : Int32) := by unfold own_u_f; rw [if_neg hc22_16, if_neg hc35_41, if_neg hc48_53, if_neg hc61_106, if_pos hc108_335, if_neg hc118_342, if_neg hc135_443, if_pos hc164_542, if_neg hc189_558, if_neg hc196_565, if_neg hc224_584]
                          exact ⟨(by rw [hv]), N0, rfl⟩
                · obtain ⟨fs, hr, hrun, hended, hW, hsame⟩ := X0.leave (v := some (.int (0 : Int32))) (fun h => by rw [Bd.returns] at h; cases h) (hlocks := BodyLoose.notSynchronized Bd)
                  refine ⟨_, _, pre541 _ ?_, hrun, hended, _, _, rfl, ?_, ⟨_, rfl⟩, hW, hsame.mono (by decide) (by decide)⟩
                  · show Steps p.tables e below (s₁.setTop (mkF m 164 #[.val (.ref a_o), .val (.int i_1), .val (.int t_1), .val (.int (y_0 &&& (255 : Int32))), .val (.int (3 : Int32)), .val (.int (128 : Int32)), .val (.int (191 : Int32)), .unset, .unset] [(.int (3 : Int32)), (.int av)])) _
                    refine XS.icmpNo X0.here hx rfl (hb hby own_d2_164) rfl (flt hc164_542).2.2.1 ?_
                    show Steps p.tables e below (s₁.setTop (mkF m 167 #[.val (.ref a_o), .val (.int i_1), .val (.int t_1), .val (.int (y_0 &&& (255 : Int32))), .val (.int (3 : Int32)), .val (.int (128 : Int32)), .val (.int (191 : Int32)), .unset, .unset] [])) _
                    refine XS.iconst X0.here hx rfl (hb hby own_d2_167) ?_
                    show Steps p.tables e below (s₁.setTop (mkF m 168 #[.val (.ref a_o), .val (.int i_1), .val (.int t_1), .val (.int (y_0 &&& (255 : Int32))), .val (.int (3 : Int32)), .val (.int (128 : Int32)), .val (.int (191 : Int32)), .unset, .unset] [(.int (0 : Int32))])) _
                    exact retI X0 hx Bd.returns (hb hby own_d2_168) hr
                  · show Qown_u Z a_o i_1 t_1 av k_a vs y_0 y_1 y_2 y_3 h0 n0 _ s₁.heap _
                    rw [e0]
                    have hv : (own_u_f y_0 y_1 y_2 y_3 av) = (0 : Int32) := by unfold own_u_f; rw [if_neg hc22_16, if_neg hc35_41, if_neg hc48_53, if_neg hc61_106, if_pos hc108_335, if_neg hc118_342, if_neg hc135_443, if_neg hc164_542]
                    exact ⟨(by rw [hv]), N0, rfl⟩
          · obtain ⟨fs, hr, hrun, hended, hW, hsame⟩ := X0.leave (v := some (.int (0 : Int32))) (fun h => by rw [Bd.returns] at h; cases h) (hlocks := BodyLoose.notSynchronized Bd)
            refine ⟨_, _, pre334 _ ?_, hrun, hended, _, _, rfl, ?_, ⟨_, rfl⟩, hW, hsame.mono (by decide) (by decide)⟩
            · show Steps p.tables e below (s₁.setTop (mkF m 108 #[.val (.ref a_o), .val (.int i_1), .val (.int t_1), .val (.int (y_0 &&& (255 : Int32))), .unset, .val (.int (128 : Int32)), .val (.int (191 : Int32)), .unset, .unset] [(.int (245 : Int32)), (.int (y_0 &&& (255 : Int32)))])) _
              refine XS.icmpYes X0.here hx rfl (pc0 := 108) (pc' := 151) rfl (hb hby own_d2_108) rfl (flt hc108_335).2.1 (by decide) (by decide) ?_
              show Steps p.tables e below (s₁.setTop (mkF m 151 #[.val (.ref a_o), .val (.int i_1), .val (.int t_1), .val (.int (y_0 &&& (255 : Int32))), .unset, .val (.int (128 : Int32)), .val (.int (191 : Int32)), .unset, .unset] [])) _
              refine XS.iconst X0.here hx rfl (hb hby own_d2_151) ?_
              show Steps p.tables e below (s₁.setTop (mkF m 152 #[.val (.ref a_o), .val (.int i_1), .val (.int t_1), .val (.int (y_0 &&& (255 : Int32))), .unset, .val (.int (128 : Int32)), .val (.int (191 : Int32)), .unset, .unset] [(.int (-1 : Int32))])) _
              refine XS.istore X0.here hx rfl (hb hby own_d2_152) rfl (l' := #[.val (.ref a_o), .val (.int i_1), .val (.int t_1), .val (.int (y_0 &&& (255 : Int32))), .val (.int (-1 : Int32)), .val (.int (128 : Int32)), .val (.int (191 : Int32)), .unset, .unset]) rfl ?_
              show Steps p.tables e below (s₁.setTop (mkF m 154 #[.val (.ref a_o), .val (.int i_1), .val (.int t_1), .val (.int (y_0 &&& (255 : Int32))), .val (.int (-1 : Int32)), .val (.int (128 : Int32)), .val (.int (191 : Int32)), .unset, .unset] [])) _
              refine XS.iload X0.here hx rfl (hb hby own_d2_154) rfl ?_
              show Steps p.tables e below (s₁.setTop (mkF m 156 #[.val (.ref a_o), .val (.int i_1), .val (.int t_1), .val (.int (y_0 &&& (255 : Int32))), .val (.int (-1 : Int32)), .val (.int (128 : Int32)), .val (.int (191 : Int32)), .unset, .unset] [(.int (-1 : Int32))])) _
              refine XS.ifYes X0.here hx rfl (pc0 := 156) (pc' := 167) rfl (hb hby own_d2_156) rfl ((if0 _ _).trans (tlt ((by decide) : (-1 : Int32) < (0 : Int32))).1) (by decide) (by decide) ?_
              show Steps p.tables e below (s₁.setTop (mkF m 167 #[.val (.ref a_o), .val (.int i_1), .val (.int t_1), .val (.int (y_0 &&& (255 : Int32))), .val (.int (-1 : Int32)), .val (.int (128 : Int32)), .val (.int (191 : Int32)), .unset, .unset] [])) _
              refine XS.iconst X0.here hx rfl (hb hby own_d2_167) ?_
              show Steps p.tables e below (s₁.setTop (mkF m 168 #[.val (.ref a_o), .val (.int i_1), .val (.int t_1), .val (.int (y_0 &&& (255 : Int32))), .val (.int (-1 : Int32)), .val (.int (128 : Int32)), .val (.int (191 : Int32)), .unset, .unset] [(.int (0 : Int32))])) _
              exact retI X0 hx Bd.returns (hb hby own_d2_168) hr
            · show Qown_u Z a_o i_1 t_1 av k_a vs y_0 y_1 y_2 y_3 h0 n0 _ s₁.heap _
              rw [e0]
              have hv : (own_u_f y_0 y_1 y_2 y_3 av) = (0 : Int32) := by unfold own_u_f; rw [if_neg hc22_16, if_neg hc35_41, if_neg hc48_53, if_neg hc61_106, if_neg hc108_335]
              exact ⟨(by rw [hv]), N0, rfl⟩
theorem own_i (x : Int32) : (((x.toUInt32 >>> ((8 : Int32) &&& 31).toUInt32).toInt32) &&& (1 : Int32)) = 0 ∨ (((x.toUInt32 >>> ((8 : Int32) &&& 31).toUInt32).toInt32) &&& (1 : Int32)) = 1 := and_one _
theorem own_t0 (a : Int32) : ((0 : Int32) + a) - (0 : Int32) = a := by
  rw [Int32.zero_add, Int32.sub_zero]
theorem own_t1 (a : Int32) : ((1 : Int32) + a) - (1 : Int32) = a := by
  apply Int32.toBitVec_inj.mp
  rw [Int32.toBitVec_sub, Int32.toBitVec_add, BitVec.add_comm, BitVec.add_sub_cancel]
theorem own_av (t k : Int32) (hk : 0 < k.toInt ∧ k.toInt < 10) : 1 ≤ ((1 : Int32) + ((t &&& (2147483647 : Int32)) % k)).toInt := by
  have e := Jvm.Kit.i32_mask t 2147483647 (k := 31) (by decide) (by decide)
  have r := Jvm.Kit.i32_rem_nonneg (x := t &&& 2147483647) (y := k) (by omega)
  have b1 := Int.emod_nonneg (t &&& (2147483647 : Int32)).toInt (b := k.toInt) (by omega)
  have b2 := Int.emod_lt_of_pos (t &&& (2147483647 : Int32)).toInt (b := k.toInt) (by omega)
  have e1 : (1 : Int32).toInt = 1 := rfl
  rw [Jvm.Kit.i32_add (by omega) (by omega)]; omega
theorem own_av5 (t : Int32) : 1 ≤ ((1 : Int32) + ((t &&& (2147483647 : Int32)) % (5 : Int32))).toInt := own_av t 5 (by decide)
theorem own_av4 (t : Int32) : 1 ≤ ((1 : Int32) + ((t &&& (2147483647 : Int32)) % (4 : Int32))).toInt := own_av t 4 (by decide)
theorem own_192 (y : Int32) : y &&& (192 : Int32) = (y &&& (255 : Int32)) &&& (192 : Int32) := by
  rw [Int32.and_assoc]; rfl
def own_ok (x : Int32) : Prop := 0 ≤ x.toInt ∧ x.toInt < 256
theorem own_byte (y : Int32) : own_ok (y &&& (255 : Int32)) := by
  have e := Jvm.Kit.i32_mask y 255 (k := 8) (by decide) (by decide)
  unfold own_ok; omega
def own_P (n : Nat) : Prop :=
  ((Int32.ofNat n &&& (128 : Int32) = (0 : Int32)) ↔ n < 128) ∧ ((Int32.ofNat n &&& (224 : Int32) = (192 : Int32)) ↔ 192 ≤ n ∧ n < 224) ∧ ((Int32.ofNat n &&& (240 : Int32) = (224 : Int32)) ↔ 224 ≤ n ∧ n < 240) ∧
  ((Int32.ofNat n &&& (248 : Int32) = (240 : Int32)) ↔ 240 ≤ n ∧ n < 248) ∧ ((Int32.ofNat n &&& (192 : Int32) = (128 : Int32)) ↔ 128 ≤ n ∧ n < 192)
instance (n : Nat) : Decidable (own_P n) := by unfold own_P; infer_instance
set_option maxRecDepth 65536 in
theorem own_all : ∀ n : Fin 256, own_P n.val := by decide +kernel
theorem own_nat {x : Int32} (h : own_ok x) : ∃ n : Nat, n < 256 ∧ x = Int32.ofNat n ∧ x.toInt = n := by
  obtain ⟨h1, h2⟩ := h
  refine ⟨x.toInt.toNat, by omega, ?_, by omega⟩
  apply Int32.toInt_inj.mp
  rw [Int32.toInt_ofNat_of_lt (by omega)]; omega
theorem own_cls {x : Int32} (h : own_ok x) : ((x &&& (128 : Int32) = (0 : Int32)) ↔ x.toInt < 128) ∧ ((x &&& (224 : Int32) = (192 : Int32)) ↔ 192 ≤ x.toInt ∧ x.toInt < 224) ∧ ((x &&& (240 : Int32) = (224 : Int32)) ↔ 224 ≤ x.toInt ∧ x.toInt < 240) ∧
  ((x &&& (248 : Int32) = (240 : Int32)) ↔ 240 ≤ x.toInt ∧ x.toInt < 248) ∧ ((x &&& (192 : Int32) = (128 : Int32)) ↔ 128 ≤ x.toInt ∧ x.toInt < 192) := by
  obtain ⟨n, hn, e, q⟩ := own_nat h
  have k : own_P n := own_all ⟨n, hn⟩
  rw [q, e]
  obtain ⟨k1, k2, k3, k4, k5⟩ := k
  exact ⟨k1.trans (by omega), k2.trans (by omega), k3.trans (by omega), k4.trans (by omega), k5.trans (by omega)⟩
theorem own_cont_iff {x : Int32} (h : own_ok x) : (own_cont_f x = (0 : Int32)) ↔ ¬ (128 ≤ x.toInt ∧ x.toInt < 192) := by
  unfold own_cont_f
  rw [← (own_cls h).2.2.2.2]
  by_cases c : x &&& (192 : Int32) = (128 : Int32)
  · rw [if_pos c]; exact ⟨fun q => absurd q (by decide), fun q => absurd c q⟩
  · rw [if_neg c]; exact ⟨fun _ => c, fun _ => rfl⟩
theorem own_small {x : Int32} (h : 0 ≤ x.toInt) : (x.toBitVec.toNat : Int) = x.toInt := by
  have e : x.toInt = x.toBitVec.toInt := rfl
  have hb := x.toBitVec.isLt
  rw [e, BitVec.toInt_eq_toNat_cond] at h ⊢
  by_cases hc : 2 * x.toBitVec.toNat < 2 ^ 32
  · rw [if_pos hc]
  · rw [if_neg hc] at h; omega
theorem own_or (u v : Int32) (n U : Nat) (hn : n < 31) (hu : u.toInt = (U * 2 ^ n : Nat)) (hlt : U * 2 ^ n + 2 ^ n ≤ 2 ^ 31) (hv : 0 ≤ v.toInt ∧ v.toInt < (2 ^ n : Nat)) : (u ||| v).toInt = u.toInt + v.toInt := by
  have p : 0 < 2 ^ n := Nat.pow_pos (by decide)
  have eu := own_small (x := u) (by omega)
  have ev := own_small (x := v) hv.1
  have e1 : u.toBitVec.toNat = U <<< n := by rw [Nat.shiftLeft_eq]; omega
  have e2 : v.toBitVec.toNat < 2 ^ n := by omega
  have e3 : (u ||| v).toBitVec.toNat = u.toBitVec.toNat + v.toBitVec.toNat := by
    rw [Int32.toBitVec_or, BitVec.toNat_or, e1, Nat.shiftLeft_add_eq_or_of_lt e2]
  have e4 : (u ||| v).toInt = (u ||| v).toBitVec.toInt := rfl
  rw [e4, BitVec.toInt_eq_toNat_cond, e3, if_pos (by omega)]
  omega
theorem own_cp2 {x y : Int32} (hx : own_ok x) (hy : own_ok y) : (((x &&& (31 : Int32)) <<< ((6 : Int32) &&& 31)) ||| (y &&& (63 : Int32))).toInt = x.toInt % 32 * 64 + y.toInt % 64 := by
  have e1 := Jvm.Kit.i32_mask x 31 (k := 5) (by decide) (by decide)
  have e2 := Jvm.Kit.i32_mask y 63 (k := 6) (by decide) (by decide)
  have e3 := Jvm.Kit.i32_shl (x &&& 31) ((6 : Int32) &&& 31) (k := 6) (by decide) (by omega) (by omega)
  rw [own_or _ _ 6 (x.toInt % 32).toNat (by decide) (by omega) (by omega) (by omega)]
  omega
theorem own_cp3 {x y z : Int32} (hx : own_ok x) (hy : own_ok y) (hz : own_ok z) : ((((x &&& (15 : Int32)) <<< ((12 : Int32) &&& 31)) ||| ((y &&& (63 : Int32)) <<< ((6 : Int32) &&& 31))) ||| (z &&& (63 : Int32))).toInt = x.toInt % 16 * 4096 + y.toInt % 64 * 64 + z.toInt % 64 := by
  have e1 := Jvm.Kit.i32_mask x 15 (k := 4) (by decide) (by decide)
  have e2 := Jvm.Kit.i32_mask y 63 (k := 6) (by decide) (by decide)
  have e3 := Jvm.Kit.i32_mask z 63 (k := 6) (by decide) (by decide)
  have s1 := Jvm.Kit.i32_shl (x &&& 15) ((12 : Int32) &&& 31) (k := 12) (by decide) (by omega) (by omega)
  have s2 := Jvm.Kit.i32_shl (y &&& 63) ((6 : Int32) &&& 31) (k := 6) (by decide) (by omega) (by omega)
  have o1 := own_or ((x &&& (15 : Int32)) <<< ((12 : Int32) &&& 31)) ((y &&& (63 : Int32)) <<< ((6 : Int32) &&& 31)) 12 (x.toInt % 16).toNat (by decide) (by omega) (by omega) (by omega)
  rw [own_or _ _ 6 ((x.toInt % 16).toNat * 64 + (y.toInt % 64).toNat) (by decide) (by omega) (by omega) (by omega)]
  omega
theorem own_cp4 {x y z w : Int32} (hx : own_ok x) (hy : own_ok y) (hz : own_ok z) (hw : own_ok w) : (((((x &&& (7 : Int32)) <<< ((18 : Int32) &&& 31)) ||| ((y &&& (63 : Int32)) <<< ((12 : Int32) &&& 31))) ||| ((z &&& (63 : Int32)) <<< ((6 : Int32) &&& 31))) ||| (w &&& (63 : Int32))).toInt = x.toInt % 8 * 262144 + y.toInt % 64 * 4096 + z.toInt % 64 * 64 + w.toInt % 64 := by
  have e1 := Jvm.Kit.i32_mask x 7 (k := 3) (by decide) (by decide)
  have e2 := Jvm.Kit.i32_mask y 63 (k := 6) (by decide) (by decide)
  have e3 := Jvm.Kit.i32_mask z 63 (k := 6) (by decide) (by decide)
  have e4 := Jvm.Kit.i32_mask w 63 (k := 6) (by decide) (by decide)
  have s1 := Jvm.Kit.i32_shl (x &&& 7) ((18 : Int32) &&& 31) (k := 18) (by decide) (by omega) (by omega)
  have s2 := Jvm.Kit.i32_shl (y &&& 63) ((12 : Int32) &&& 31) (k := 12) (by decide) (by omega) (by omega)
  have s3 := Jvm.Kit.i32_shl (z &&& 63) ((6 : Int32) &&& 31) (k := 6) (by decide) (by omega) (by omega)
  have o1 := own_or ((x &&& (7 : Int32)) <<< ((18 : Int32) &&& 31)) ((y &&& (63 : Int32)) <<< ((12 : Int32) &&& 31)) 18 (x.toInt % 8).toNat (by decide) (by omega) (by omega) (by omega)
  have o2 := own_or (((x &&& (7 : Int32)) <<< ((18 : Int32) &&& 31)) ||| ((y &&& (63 : Int32)) <<< ((12 : Int32) &&& 31))) ((z &&& (63 : Int32)) <<< ((6 : Int32) &&& 31)) 12 ((x.toInt % 8).toNat * 64 + (y.toInt % 64).toNat) (by decide) (by omega) (by omega) (by omega)
  rw [own_or _ _ 6 (((x.toInt % 8).toNat * 64 + (y.toInt % 64).toNat) * 64 + (z.toInt % 64).toNat) (by decide) (by omega) (by omega) (by omega)]
  omega
theorem own_ltL (x : Int32) (n : Int32) {k : Int} (h : n.toInt = k) : (x < n) ↔ x.toInt < k := by rw [Int32.lt_iff_toInt_lt, h]
theorem own_ltR (x : Int32) (n : Int32) {k : Int} (h : n.toInt = k) : (n < x) ↔ k < x.toInt := by rw [Int32.lt_iff_toInt_lt, h]
theorem own_eqL (x : Int32) (n : Int32) {k : Int} (h : n.toInt = k) : (x = n) ↔ x.toInt = k := by rw [← Int32.toInt_inj, h]
set_option maxHeartbeats 4000000 in
theorem own_main (a b c d av : Int32) (hav : 1 ≤ av.toInt) : own_u_f a b c d av = own_ref_f (a &&& (255 : Int32)) (b &&& (255 : Int32)) (c &&& (255 : Int32)) (d &&& (255 : Int32)) av := by
  unfold own_u_f own_ref_f
  rw [own_192 c, own_192 d]
  have k0 := own_byte a
  have k1 := own_byte b
  have k2 := own_byte c
  have k3 := own_byte d
  generalize a &&& (255 : Int32) = x0 at k0 ⊢
  generalize b &&& (255 : Int32) = x1 at k1 ⊢
  generalize c &&& (255 : Int32) = x2 at k2 ⊢
  generalize d &&& (255 : Int32) = x3 at k3 ⊢
  simp only [(own_cls k0).1, (own_cls k0).2.1, (own_cls k0).2.2.1, (own_cls k0).2.2.2.1, (own_cls k2).2.2.2.2, (own_cls k3).2.2.2.2, own_cont_iff k1, own_cont_iff k2, own_cont_iff k3,
    own_ltL _ (128 : Int32) (k := 128) rfl, own_ltL _ (194 : Int32) (k := 194) rfl, own_ltL _ (224 : Int32) (k := 224) rfl, own_ltL _ (240 : Int32) (k := 240) rfl, own_ltL _ (245 : Int32) (k := 245) rfl, own_ltL _ (160 : Int32) (k := 160) rfl, own_ltL _ (144 : Int32) (k := 144) rfl, own_ltR _ (191 : Int32) (k := 191) rfl, own_ltR _ (159 : Int32) (k := 159) rfl, own_ltR _ (143 : Int32) (k := 143) rfl,
    own_ltR av (0 : Int32) (k := 0) rfl, own_ltR av (1 : Int32) (k := 1) rfl, own_ltR av (2 : Int32) (k := 2) rfl, own_ltR av (3 : Int32) (k := 3) rfl, own_ltL av (1 : Int32) (k := 1) rfl, own_ltL av (2 : Int32) (k := 2) rfl, own_ltL av (3 : Int32) (k := 3) rfl, own_ltL av (4 : Int32) (k := 4) rfl,
    own_eqL x0 (224 : Int32) (k := 224) rfl, own_eqL x0 (237 : Int32) (k := 237) rfl, own_eqL x0 (240 : Int32) (k := 240) rfl, own_eqL x0 (244 : Int32) (k := 244) rfl,
    own_ltL _ (2048 : Int32) (k := 2048) rfl, own_ltL _ (55296 : Int32) (k := 55296) rfl, own_ltR _ (57343 : Int32) (k := 57343) rfl, own_ltL _ (65536 : Int32) (k := 65536) rfl, own_ltR _ (1114111 : Int32) (k := 1114111) rfl, own_cp2 k0 k1, own_cp3 k0 k1 k2, own_cp4 k0 k1 k2 k3]
  unfold own_ok at k0 k1 k2 k3
  generalize x0.toInt = X0 at k0 ⊢
  generalize x1.toInt = X1 at k1 ⊢
  generalize x2.toInt = X2 at k2 ⊢
  generalize x3.toInt = X3 at k3 ⊢
  generalize av.toInt = A at hav ⊢
  rcases (show X0 < 128 ∨ (128 ≤ X0 ∧ X0 < 192) ∨ (192 ≤ X0 ∧ X0 < 194) ∨ (194 ≤ X0 ∧ X0 < 224) ∨ X0 = 224 ∨ (224 < X0 ∧ X0 < 237) ∨ X0 = 237 ∨ (237 < X0 ∧ X0 < 240) ∨ X0 = 240 ∨ (240 < X0 ∧ X0 < 244) ∨ X0 = 244 ∨ (245 ≤ X0 ∧ X0 < 248) ∨ 248 ≤ X0 by omega) with hh | hh | hh | hh | hh | hh | hh | hh | hh | hh | hh | hh | hh
  · simp only [show (X0 < 128) = True from eq_true (by omega), show (X0 < 194) = True from eq_true (by omega), show (X0 < 224) = True from eq_true (by omega), show (X0 < 240) = True from eq_true (by omega), show (X0 = 224) = False from eq_false (by omega), show (X0 = 237) = False from eq_false (by omega), show (X0 < 245) = True from eq_true (by omega), show (X0 = 240) = False from eq_false (by omega), show (X0 = 244) = False from eq_false (by omega), show (192 ≤ X0) = False from eq_false (by omega), show (224 ≤ X0) = False from eq_false (by omega), show (240 ≤ X0) = False from eq_false (by omega), show (X0 < 248) = True from eq_true (by omega), if_true, if_false, and_true, true_and, and_false, false_and]
    first | omega | (repeat' split)
    all_goals first | rfl | omega
  · simp only [show (X0 < 128) = False from eq_false (by omega), show (X0 < 194) = True from eq_true (by omega), show (X0 < 224) = True from eq_true (by omega), show (X0 < 240) = True from eq_true (by omega), show (X0 = 224) = False from eq_false (by omega), show (X0 = 237) = False from eq_false (by omega), show (X0 < 245) = True from eq_true (by omega), show (X0 = 240) = False from eq_false (by omega), show (X0 = 244) = False from eq_false (by omega), show (192 ≤ X0) = False from eq_false (by omega), show (224 ≤ X0) = False from eq_false (by omega), show (240 ≤ X0) = False from eq_false (by omega), show (X0 < 248) = True from eq_true (by omega), if_true, if_false, and_true, true_and, and_false, false_and]
    first | omega | (repeat' split)
    all_goals first | rfl | omega
  · simp only [show (X0 < 128) = False from eq_false (by omega), show (X0 < 194) = True from eq_true (by omega), show (X0 < 224) = True from eq_true (by omega), show (X0 < 240) = True from eq_true (by omega), show (X0 = 224) = False from eq_false (by omega), show (X0 = 237) = False from eq_false (by omega), show (X0 < 245) = True from eq_true (by omega), show (X0 = 240) = False from eq_false (by omega), show (X0 = 244) = False from eq_false (by omega), show (192 ≤ X0) = True from eq_true (by omega), show (224 ≤ X0) = False from eq_false (by omega), show (240 ≤ X0) = False from eq_false (by omega), show (X0 < 248) = True from eq_true (by omega), if_true, if_false, and_true, true_and, and_false, false_and]
    first | omega | (repeat' split)
    all_goals first | rfl | omega
  · simp only [show (X0 < 128) = False from eq_false (by omega), show (X0 < 194) = False from eq_false (by omega), show (X0 < 224) = True from eq_true (by omega), show (X0 < 240) = True from eq_true (by omega), show (X0 = 224) = False from eq_false (by omega), show (X0 = 237) = False from eq_false (by omega), show (X0 < 245) = True from eq_true (by omega), show (X0 = 240) = False from eq_false (by omega), show (X0 = 244) = False from eq_false (by omega), show (192 ≤ X0) = True from eq_true (by omega), show (224 ≤ X0) = False from eq_false (by omega), show (240 ≤ X0) = False from eq_false (by omega), show (X0 < 248) = True from eq_true (by omega), if_true, if_false, and_true, true_and, and_false, false_and]
    first | omega | (repeat' split)
    all_goals first | rfl | omega
  · simp only [show (X0 < 128) = False from eq_false (by omega), show (X0 < 194) = False from eq_false (by omega), show (X0 < 224) = False from eq_false (by omega), show (X0 < 240) = True from eq_true (by omega), show (X0 = 224) = True from eq_true (by omega), show (X0 = 237) = False from eq_false (by omega), show (X0 < 245) = True from eq_true (by omega), show (X0 = 240) = False from eq_false (by omega), show (X0 = 244) = False from eq_false (by omega), show (192 ≤ X0) = True from eq_true (by omega), show (224 ≤ X0) = True from eq_true (by omega), show (240 ≤ X0) = False from eq_false (by omega), show (X0 < 248) = True from eq_true (by omega), if_true, if_false, and_true, true_and, and_false, false_and]
    first | omega | (repeat' split)
    all_goals first | rfl | omega
  · simp only [show (X0 < 128) = False from eq_false (by omega), show (X0 < 194) = False from eq_false (by omega), show (X0 < 224) = False from eq_false (by omega), show (X0 < 240) = True from eq_true (by omega), show (X0 = 224) = False from eq_false (by omega), show (X0 = 237) = False from eq_false (by omega), show (X0 < 245) = True from eq_true (by omega), show (X0 = 240) = False from eq_false (by omega), show (X0 = 244) = False from eq_false (by omega), show (192 ≤ X0) = True from eq_true (by omega), show (224 ≤ X0) = True from eq_true (by omega), show (240 ≤ X0) = False from eq_false (by omega), show (X0 < 248) = True from eq_true (by omega), if_true, if_false, and_true, true_and, and_false, false_and]
    first | omega | (repeat' split)
    all_goals first | rfl | omega
  · simp only [show (X0 < 128) = False from eq_false (by omega), show (X0 < 194) = False from eq_false (by omega), show (X0 < 224) = False from eq_false (by omega), show (X0 < 240) = True from eq_true (by omega), show (X0 = 224) = False from eq_false (by omega), show (X0 = 237) = True from eq_true (by omega), show (X0 < 245) = True from eq_true (by omega), show (X0 = 240) = False from eq_false (by omega), show (X0 = 244) = False from eq_false (by omega), show (192 ≤ X0) = True from eq_true (by omega), show (224 ≤ X0) = True from eq_true (by omega), show (240 ≤ X0) = False from eq_false (by omega), show (X0 < 248) = True from eq_true (by omega), if_true, if_false, and_true, true_and, and_false, false_and]
    first | omega | (repeat' split)
    all_goals first | rfl | omega
  · simp only [show (X0 < 128) = False from eq_false (by omega), show (X0 < 194) = False from eq_false (by omega), show (X0 < 224) = False from eq_false (by omega), show (X0 < 240) = True from eq_true (by omega), show (X0 = 224) = False from eq_false (by omega), show (X0 = 237) = False from eq_false (by omega), show (X0 < 245) = True from eq_true (by omega), show (X0 = 240) = False from eq_false (by omega), show (X0 = 244) = False from eq_false (by omega), show (192 ≤ X0) = True from eq_true (by omega), show (224 ≤ X0) = True from eq_true (by omega), show (240 ≤ X0) = False from eq_false (by omega), show (X0 < 248) = True from eq_true (by omega), if_true, if_false, and_true, true_and, and_false, false_and]
    first | omega | (repeat' split)
    all_goals first | rfl | omega
  · simp only [show (X0 < 128) = False from eq_false (by omega), show (X0 < 194) = False from eq_false (by omega), show (X0 < 224) = False from eq_false (by omega), show (X0 < 240) = False from eq_false (by omega), show (X0 = 224) = False from eq_false (by omega), show (X0 = 237) = False from eq_false (by omega), show (X0 < 245) = True from eq_true (by omega), show (X0 = 240) = True from eq_true (by omega), show (X0 = 244) = False from eq_false (by omega), show (192 ≤ X0) = True from eq_true (by omega), show (224 ≤ X0) = True from eq_true (by omega), show (240 ≤ X0) = True from eq_true (by omega), show (X0 < 248) = True from eq_true (by omega), if_true, if_false, and_true, true_and, and_false, false_and]
    first | omega | (repeat' split)
    all_goals first | rfl | omega
  · simp only [show (X0 < 128) = False from eq_false (by omega), show (X0 < 194) = False from eq_false (by omega), show (X0 < 224) = False from eq_false (by omega), show (X0 < 240) = False from eq_false (by omega), show (X0 = 224) = False from eq_false (by omega), show (X0 = 237) = False from eq_false (by omega), show (X0 < 245) = True from eq_true (by omega), show (X0 = 240) = False from eq_false (by omega), show (X0 = 244) = False from eq_false (by omega), show (192 ≤ X0) = True from eq_true (by omega), show (224 ≤ X0) = True from eq_true (by omega), show (240 ≤ X0) = True from eq_true (by omega), show (X0 < 248) = True from eq_true (by omega), if_true, if_false, and_true, true_and, and_false, false_and]
    first | omega | (repeat' split)
    all_goals first | rfl | omega
  · simp only [show (X0 < 128) = False from eq_false (by omega), show (X0 < 194) = False from eq_false (by omega), show (X0 < 224) = False from eq_false (by omega), show (X0 < 240) = False from eq_false (by omega), show (X0 = 224) = False from eq_false (by omega), show (X0 = 237) = False from eq_false (by omega), show (X0 < 245) = True from eq_true (by omega), show (X0 = 240) = False from eq_false (by omega), show (X0 = 244) = True from eq_true (by omega), show (192 ≤ X0) = True from eq_true (by omega), show (224 ≤ X0) = True from eq_true (by omega), show (240 ≤ X0) = True from eq_true (by omega), show (X0 < 248) = True from eq_true (by omega), if_true, if_false, and_true, true_and, and_false, false_and]
    first | omega | (repeat' split)
    all_goals first | rfl | omega
  · simp only [show (X0 < 128) = False from eq_false (by omega), show (X0 < 194) = False from eq_false (by omega), show (X0 < 224) = False from eq_false (by omega), show (X0 < 240) = False from eq_false (by omega), show (X0 = 224) = False from eq_false (by omega), show (X0 = 237) = False from eq_false (by omega), show (X0 < 245) = False from eq_false (by omega), show (X0 = 240) = False from eq_false (by omega), show (X0 = 244) = False from eq_false (by omega), show (192 ≤ X0) = True from eq_true (by omega), show (224 ≤ X0) = True from eq_true (by omega), show (240 ≤ X0) = True from eq_true (by omega), show (X0 < 248) = True from eq_true (by omega), if_true, if_false, and_true, true_and, and_false, false_and]
    first | omega | (repeat' split)
    all_goals first | rfl | omega
  · simp only [show (X0 < 128) = False from eq_false (by omega), show (X0 < 194) = False from eq_false (by omega), show (X0 < 224) = False from eq_false (by omega), show (X0 < 240) = False from eq_false (by omega), show (X0 = 224) = False from eq_false (by omega), show (X0 = 237) = False from eq_false (by omega), show (X0 < 245) = False from eq_false (by omega), show (X0 = 240) = False from eq_false (by omega), show (X0 = 244) = False from eq_false (by omega), show (192 ≤ X0) = True from eq_true (by omega), show (224 ≤ X0) = True from eq_true (by omega), show (240 ≤ X0) = True from eq_true (by omega), show (X0 < 248) = False from eq_false (by omega), if_true, if_false, and_true, true_and, and_false, false_and]
    first | omega | (repeat' split)
    all_goals first | rfl | omega
theorem own_ef_own_law (m : MethodId) (p0 : Int32) (p1 : Int32) (p2 : Int32) : entryFrame m #[(.int p0), (.int p1), (.int p2)] maxLocals = mkF m 0 #[.val (.int p0), .val (.int p1), .val (.int p2), .unset, .unset, .unset, .unset, .unset] [] := by first | (simp [entryFrame, mkF, argsToLocals, Value.category, maxLocals]; done) | rfl
theorem own_pd1 : parseMethodDescriptor "(IIIII)I" = some ⟨[.int, .int, .int, .int, .int], some .int⟩ := by decide +kernel
theorem own_pd2 : parseMethodDescriptor "([BII)I" = some ⟨[(.array .byte), .int, .int], some .int⟩ := by decide +kernel
def Qown_law (Z : State) (p0 : Int32) (p1 : Int32) (p2 : Int32) (h0 : Heap) (n0 : Nat) (v : Option Value) (h : Heap) (L : List Loc) : Prop := v = some (.int (1 : Int32)) ∧ Fr n0 L
set_option maxRecDepth 65536 in
set_option maxHeartbeats 40000000 in
theorem own_law (l : Launch) (Z : State) (a0 : Array Value) (hw : ∀ d ∈ tables_1, d.before a0 Z = true) (ws : List Jvm.Cond) (p0 : Int32) (p1 : Int32) (p2 : Int32) (h0 : Heap) (n0 : Nat) (Z0 : n0 ≤ h0.size) :
    MetFree l x (head1 (Jvm.Cond.code x code maxLocals ret :: ws) room_1) (fun a U => a = #[(.int p0), (.int p1), (.int p2)] ∧ Z.Warmed39 U.vm ∧ U.heap = h0) (fun _ _ _ _ _ => True) (fun _ U o U' => ∃ v L, o = .returned v ∧ Qown_law Z p0 p1 p2 h0 n0 v U'.heap L ∧ FrameEnd U o U' L room_1.cells room_1.slots) := by
  refine MetFree.of_bodySF (plainFor_of_name own_pn0) hisR ?_
  intro p e s m args below meth c s₁ Bd hml0 hP hK
  obtain ⟨rfl, hZ, hh⟩ := hP
  have hx := Bd.exec
  have hby := Bd.bytes
  have hml : c.maxLocals = 8 := hml0
  have hown : s.vm.findClass "fieldstone/ByteReaderUtf8LengthPinLaw" = some m.cls := findClass_of_methodNamed Bd.named
  have hnm := (name_of_methodNamed Bd.named Bd.method).1
  have X0 : Stand p l e room_1 s m #[(.int p0), (.int p1), (.int p2)] below meth c s₁ [] 0 0 := Stand.of_body Bd
  have e0 : s₁.heap = h0 := by rw [← hh, Bd.state]; rfl
  have N0 := Fr.nil n0
  have pre0 : ∀ t, Steps p.tables e below (s₁.setTop (mkF m 0 #[.val (.int p0), .val (.int p1), .val (.int p2), .unset, .unset, .unset, .unset, .unset] [])) t → Steps p.tables e below (s₁.setTop (entryFrame m #[(.int p0), (.int p1), (.int p2)] maxLocals)) t := fun t k => castTop (own_ef_own_law m p0 p1 p2) k
  obtain ⟨T3, h3, k3, X3, e3, E3, A3, Y3, st3⟩ := newPE X0 hx hZ (hw _ (List.mem_of_getElem? (i := 0) rfl)) e0 (g := (mkF m 1 #[.val (.int p0), .val (.int p1), .val (.int p2), .unset, .unset, .unset, .unset, .unset] [(.int (5 : Int32))])) rfl (hb hby at_1) rfl (by decide) (cap := 5) (by decide) (by decide) (by decide) (by decide) (ad := "[B") (by first | rfl | decide)
  obtain ⟨b3, g3⟩ : ∃ z, z = h0.size := ⟨_, rfl⟩
  rw [← g3] at A3 Y3 st3
  have Ge4 : n0 ≤ b3 := Nat.le_trans Z0 (Nat.le_of_eq g3.symm)
  have Sz5 : h0.size ≤ b3 := Nat.le_trans (Keep.refl h0 []).1 (Nat.le_of_eq g3.symm)
  have Kc6 : Keep h0 h3 [] := (Keep.refl h0 []).ext E3
  have Zs7 : n0 ≤ h3.size := (Nat.le_trans Z0 E3.1)
  have V3 : Arv Z h3 b3 k3 .byte (5 : Int32) [(.int (0 : Int32)), (.int (0 : Int32)), (.int (0 : Int32)), (.int (0 : Int32)), (.int (0 : Int32))] (.int (0 : Int32)) := (Arv.new A3 (by decide)).pad (pad_rep [] (.int (0 : Int32)) 5)
  obtain ⟨cl14, Ar14, q14, S14, M14, H14, G14⟩ := id V3
  have hin14 : ¬ ((0 : Int32) < 0 ∨ cl14.slots.size ≤ ((0 : Int32)).toNatClampNeg) := inb_of S14 ⟨by decide, by decide⟩
  obtain ⟨T15, h15, X15, e15, W15, st15⟩ := stB X3 hx hZ e3 Ar14 (j := (0 : Int32)) hin14 (g := (mkF m 8 #[.val (.int p0), .val (.int p1), .val (.int p2), .val (.ref b3), .unset, .unset, .unset, .unset] [(.int (p0.toInt8.toInt32)), (.int (0 : Int32)), (.ref b3)])) rfl rfl (hb hby at_8)
  have Kc17 : Keep h0 h15 [] := Kc6.wr W15 (Or.inr Sz5)
  have Zs18 : n0 ≤ h15.size := Nat.le_trans Zs7 (Keep.of_wr W15).1
  have N19 := Fr.snoc X15 N0 Ge4
  have Vm16 : Arv Z h15 b3 k3 .byte (5 : Int32) [(.int (nar .byte (p0.toInt8.toInt32))), (.int (0 : Int32)), (.int (0 : Int32)), (.int (0 : Int32)), (.int (0 : Int32))] (.int (0 : Int32)) := Arv.set Ar14 q14 S14 M14 H14 G14 (fits_nar_byte _) W15 0 rfl (Nat.le_of_ble_eq_true rfl)
  obtain ⟨cl27, Ar27, q27, S27, M27, H27, G27⟩ := id Vm16
  have hin27 : ¬ ((1 : Int32) < 0 ∨ cl27.slots.size ≤ ((1 : Int32)).toNatClampNeg) := inb_of S27 ⟨by decide, by decide⟩
  obtain ⟨T28, h28, X28, e28, W28, st28⟩ := stB X15 hx hZ e15 Ar27 (j := (1 : Int32)) hin27 (g := (mkF m 16 #[.val (.int p0), .val (.int p1), .val (.int p2), .val (.ref b3), .unset, .unset, .unset, .unset] [(.int (((p0.toUInt32 >>> ((8 : Int32) &&& 31).toUInt32).toInt32).toInt8.toInt32)), (.int (1 : Int32)), (.ref b3)])) rfl rfl (hb hby at_16)
  have Kc30 : Keep h0 h28 [] := Kc17.wr W28 (Or.inr Sz5)
  have Zs31 : n0 ≤ h28.size := Nat.le_trans Zs18 (Keep.of_wr W28).1
  have N32 := Fr.snoc X28 N19 Ge4
  have Vm29 : Arv Z h28 b3 k3 .byte (5 : Int32) [(.int (nar .byte (p0.toInt8.toInt32))), (.int (nar .byte (((p0.toUInt32 >>> ((8 : Int32) &&& 31).toUInt32).toInt32).toInt8.toInt32))), (.int (0 : Int32)), (.int (0 : Int32)), (.int (0 : Int32))] (.int (0 : Int32)) := Arv.set Ar27 q27 S27 M27 H27 G27 (fits_nar_byte _) W28 1 rfl (Nat.le_of_ble_eq_true rfl)
  obtain ⟨cl40, Ar40, q40, S40, M40, H40, G40⟩ := id Vm29
  have hin40 : ¬ ((2 : Int32) < 0 ∨ cl40.slots.size ≤ ((2 : Int32)).toNatClampNeg) := inb_of S40 ⟨by decide, by decide⟩
  obtain ⟨T41, h41, X41, e41, W41, st41⟩ := stB X28 hx hZ e28 Ar40 (j := (2 : Int32)) hin40 (g := (mkF m 24 #[.val (.int p0), .val (.int p1), .val (.int p2), .val (.ref b3), .unset, .unset, .unset, .unset] [(.int (((p0.toUInt32 >>> ((16 : Int32) &&& 31).toUInt32).toInt32).toInt8.toInt32)), (.int (2 : Int32)), (.ref b3)])) rfl rfl (hb hby at_24)
  have Kc43 : Keep h0 h41 [] := Kc30.wr W41 (Or.inr Sz5)
  have Zs44 : n0 ≤ h41.size := Nat.le_trans Zs31 (Keep.of_wr W41).1
  have N45 := Fr.snoc X41 N32 Ge4
  have Vm42 : Arv Z h41 b3 k3 .byte (5 : Int32) [(.int (nar .byte (p0.toInt8.toInt32))), (.int (nar .byte (((p0.toUInt32 >>> ((8 : Int32) &&& 31).toUInt32).toInt32).toInt8.toInt32))), (.int (nar .byte (((p0.toUInt32 >>> ((16 : Int32) &&& 31).toUInt32).toInt32).toInt8.toInt32))), (.int (0 : Int32)), (.int (0 : Int32))] (.int (0 : Int32)) := Arv.set Ar40 q40 S40 M40 H40 G40 (fits_nar_byte _) W41 2 rfl (Nat.le_of_ble_eq_true rfl)
  obtain ⟨cl53, Ar53, q53, S53, M53, H53, G53⟩ := id Vm42
  have hin53 : ¬ ((3 : Int32) < 0 ∨ cl53.slots.size ≤ ((3 : Int32)).toNatClampNeg) := inb_of S53 ⟨by decide, by decide⟩
  obtain ⟨T54, h54, X54, e54, W54, st54⟩ := stB X41 hx hZ e41 Ar53 (j := (3 : Int32)) hin53 (g := (mkF m 32 #[.val (.int p0), .val (.int p1), .val (.int p2), .val (.ref b3), .unset, .unset, .unset, .unset] [(.int (((p0.toUInt32 >>> ((24 : Int32) &&& 31).toUInt32).toInt32).toInt8.toInt32)), (.int (3 : Int32)), (.ref b3)])) rfl rfl (hb hby at_32)
  have Kc56 : Keep h0 h54 [] := Kc43.wr W54 (Or.inr Sz5)
  have Zs57 : n0 ≤ h54.size := Nat.le_trans Zs44 (Keep.of_wr W54).1
  have N58 := Fr.snoc X54 N45 Ge4
  have Vm55 : Arv Z h54 b3 k3 .byte (5 : Int32) [(.int (nar .byte (p0.toInt8.toInt32))), (.int (nar .byte (((p0.toUInt32 >>> ((8 : Int32) &&& 31).toUInt32).toInt32).toInt8.toInt32))), (.int (nar .byte (((p0.toUInt32 >>> ((16 : Int32) &&& 31).toUInt32).toInt32).toInt8.toInt32))), (.int (nar .byte (((p0.toUInt32 >>> ((24 : Int32) &&& 31).toUInt32).toInt32).toInt8.toInt32))), (.int (0 : Int32))] (.int (0 : Int32)) := Arv.set Ar53 q53 S53 M53 H53 G53 (fits_nar_byte _) W54 3 rfl (Nat.le_of_ble_eq_true rfl)
  obtain ⟨cl64, Ar64, q64, S64, M64, H64, G64⟩ := id Vm55
  have hin64 : ¬ ((4 : Int32) < 0 ∨ cl64.slots.size ≤ ((4 : Int32)).toNatClampNeg) := inb_of S64 ⟨by decide, by decide⟩
  obtain ⟨T65, h65, X65, e65, W65, st65⟩ := stB X54 hx hZ e54 Ar64 (j := (4 : Int32)) hin64 (g := (mkF m 37 #[.val (.int p0), .val (.int p1), .val (.int p2), .val (.ref b3), .unset, .unset, .unset, .unset] [(.int (p1.toInt8.toInt32)), (.int (4 : Int32)), (.ref b3)])) rfl rfl (hb hby at_37)
  have Kc67 : Keep h0 h65 [] := Kc56.wr W65 (Or.inr Sz5)
  have Zs68 : n0 ≤ h65.size := Nat.le_trans Zs57 (Keep.of_wr W65).1
  have N69 := Fr.snoc X65 N58 Ge4
  have Vm66 : Arv Z h65 b3 k3 .byte (5 : Int32) [(.int (nar .byte (p0.toInt8.toInt32))), (.int (nar .byte (((p0.toUInt32 >>> ((8 : Int32) &&& 31).toUInt32).toInt32).toInt8.toInt32))), (.int (nar .byte (((p0.toUInt32 >>> ((16 : Int32) &&& 31).toUInt32).toInt32).toInt8.toInt32))), (.int (nar .byte (((p0.toUInt32 >>> ((24 : Int32) &&& 31).toUInt32).toInt32).toInt8.toInt32))), (.int (nar .byte (p1.toInt8.toInt32)))] (.int (0 : Int32)) := Arv.set Ar64 q64 S64 M64 H64 G64 (fits_nar_byte _) W65 4 rfl (Nat.le_of_ble_eq_true rfl)
  have pre76 : ∀ t, Steps p.tables e below (T65.setTop (mkF m 44 #[.val (.int p0), .val (.int p1), .val (.int p2), .val (.ref b3), .unset, .unset, .unset, .unset] [(.int (((p1.toUInt32 >>> ((8 : Int32) &&& 31).toUInt32).toInt32) &&& (1 : Int32)))])) t → Steps p.tables e below (s₁.setTop (entryFrame m #[(.int p0), (.int p1), (.int p2)] maxLocals)) t := by
    intro t kt
    refine pre0 _ ?_
    show Steps p.tables e below (s₁.setTop (mkF m 0 #[.val (.int p0), .val (.int p1), .val (.int p2), .unset, .unset, .unset, .unset, .unset] [])) _
    refine XS.iconst X0.here hx rfl (hb hby at_0) ?_
    show Steps p.tables e below (s₁.setTop (mkF m 1 #[.val (.int p0), .val (.int p1), .val (.int p2), .unset, .unset, .unset, .unset, .unset] [(.int (5 : Int32))])) _
    refine st3 _ ?_
    show Steps p.tables e below (T3.setTop (mkF m 3 #[.val (.int p0), .val (.int p1), .val (.int p2), .unset, .unset, .unset, .unset, .unset] [(.ref b3)])) _
    refine XS.astoreN X3.here hx rfl (hb hby at_3) rfl rfl (l' := #[.val (.int p0), .val (.int p1), .val (.int p2), .val (.ref b3), .unset, .unset, .unset, .unset]) rfl ?_
    show Steps p.tables e below (T3.setTop (mkF m 4 #[.val (.int p0), .val (.int p1), .val (.int p2), .val (.ref b3), .unset, .unset, .unset, .unset] [])) _
    refine XS.aloadN X3.here hx rfl (hb hby at_4) rfl rfl ?_
    show Steps p.tables e below (T3.setTop (mkF m 5 #[.val (.int p0), .val (.int p1), .val (.int p2), .val (.ref b3), .unset, .unset, .unset, .unset] [(.ref b3)])) _
    refine XS.iconst X3.here hx rfl (hb hby at_5) ?_
    show Steps p.tables e below (T3.setTop (mkF m 6 #[.val (.int p0), .val (.int p1), .val (.int p2), .val (.ref b3), .unset, .unset, .unset, .unset] [(.int (0 : Int32)), (.ref b3)])) _
    refine XS.iloadN X3.here hx rfl (hb hby at_6) rfl ?_
    show Steps p.tables e below (T3.setTop (mkF m 7 #[.val (.int p0), .val (.int p1), .val (.int p2), .val (.ref b3), .unset, .unset, .unset, .unset] [(.int p0), (.int (0 : Int32)), (.ref b3)])) _
    refine XS.i2b X3.here hx rfl (hb hby at_7) rfl ?_
    show Steps p.tables e below (T3.setTop (mkF m 8 #[.val (.int p0), .val (.int p1), .val (.int p2), .val (.ref b3), .unset, .unset, .unset, .unset] [(.int (p0.toInt8.toInt32)), (.int (0 : Int32)), (.ref b3)])) _
    refine st15 _ ?_
    show Steps p.tables e below (T15.setTop (mkF m 9 #[.val (.int p0), .val (.int p1), .val (.int p2), .val (.ref b3), .unset, .unset, .unset, .unset] [])) _
    refine XS.aloadN X15.here hx rfl (hb hby at_9) rfl rfl ?_
    show Steps p.tables e below (T15.setTop (mkF m 10 #[.val (.int p0), .val (.int p1), .val (.int p2), .val (.ref b3), .unset, .unset, .unset, .unset] [(.ref b3)])) _
    refine XS.iconst X15.here hx rfl (hb hby at_10) ?_
    show Steps p.tables e below (T15.setTop (mkF m 11 #[.val (.int p0), .val (.int p1), .val (.int p2), .val (.ref b3), .unset, .unset, .unset, .unset] [(.int (1 : Int32)), (.ref b3)])) _
    refine XS.iloadN X15.here hx rfl (hb hby at_11) rfl ?_
    show Steps p.tables e below (T15.setTop (mkF m 12 #[.val (.int p0), .val (.int p1), .val (.int p2), .val (.ref b3), .unset, .unset, .unset, .unset] [(.int p0), (.int (1 : Int32)), (.ref b3)])) _
    refine XS.bipush X15.here hx rfl (hb hby at_12) ?_
    show Steps p.tables e below (T15.setTop (mkF m 14 #[.val (.int p0), .val (.int p1), .val (.int p2), .val (.ref b3), .unset, .unset, .unset, .unset] [(.int (8 : Int32)), (.int p0), (.int (1 : Int32)), (.ref b3)])) _
    refine XS.iushr X15.here hx rfl (hb hby at_14) rfl ?_
    show Steps p.tables e below (T15.setTop (mkF m 15 #[.val (.int p0), .val (.int p1), .val (.int p2), .val (.ref b3), .unset, .unset, .unset, .unset] [(.int ((p0.toUInt32 >>> ((8 : Int32) &&& 31).toUInt32).toInt32)), (.int (1 : Int32)), (.ref b3)])) _
    refine XS.i2b X15.here hx rfl (hb hby at_15) rfl ?_
    show Steps p.tables e below (T15.setTop (mkF m 16 #[.val (.int p0), .val (.int p1), .val (.int p2), .val (.ref b3), .unset, .unset, .unset, .unset] [(.int (((p0.toUInt32 >>> ((8 : Int32) &&& 31).toUInt32).toInt32).toInt8.toInt32)), (.int (1 : Int32)), (.ref b3)])) _
    refine st28 _ ?_
    show Steps p.tables e below (T28.setTop (mkF m 17 #[.val (.int p0), .val (.int p1), .val (.int p2), .val (.ref b3), .unset, .unset, .unset, .unset] [])) _
    refine XS.aloadN X28.here hx rfl (hb hby at_17) rfl rfl ?_
    show Steps p.tables e below (T28.setTop (mkF m 18 #[.val (.int p0), .val (.int p1), .val (.int p2), .val (.ref b3), .unset, .unset, .unset, .unset] [(.ref b3)])) _
    refine XS.iconst X28.here hx rfl (hb hby at_18) ?_
    show Steps p.tables e below (T28.setTop (mkF m 19 #[.val (.int p0), .val (.int p1), .val (.int p2), .val (.ref b3), .unset, .unset, .unset, .unset] [(.int (2 : Int32)), (.ref b3)])) _
    refine XS.iloadN X28.here hx rfl (hb hby at_19) rfl ?_
    show Steps p.tables e below (T28.setTop (mkF m 20 #[.val (.int p0), .val (.int p1), .val (.int p2), .val (.ref b3), .unset, .unset, .unset, .unset] [(.int p0), (.int (2 : Int32)), (.ref b3)])) _
    refine XS.bipush X28.here hx rfl (hb hby at_20) ?_
    show Steps p.tables e below (T28.setTop (mkF m 22 #[.val (.int p0), .val (.int p1), .val (.int p2), .val (.ref b3), .unset, .unset, .unset, .unset] [(.int (16 : Int32)), (.int p0), (.int (2 : Int32)), (.ref b3)])) _
    refine XS.iushr X28.here hx rfl (hb hby at_22) rfl ?_
    show Steps p.tables e below (T28.setTop (mkF m 23 #[.val (.int p0), .val (.int p1), .val (.int p2), .val (.ref b3), .unset, .unset, .unset, .unset] [(.int ((p0.toUInt32 >>> ((16 : Int32) &&& 31).toUInt32).toInt32)), (.int (2 : Int32)), (.ref b3)])) _
    refine XS.i2b X28.here hx rfl (hb hby at_23) rfl ?_
    show Steps p.tables e below (T28.setTop (mkF m 24 #[.val (.int p0), .val (.int p1), .val (.int p2), .val (.ref b3), .unset, .unset, .unset, .unset] [(.int (((p0.toUInt32 >>> ((16 : Int32) &&& 31).toUInt32).toInt32).toInt8.toInt32)), (.int (2 : Int32)), (.ref b3)])) _
    refine st41 _ ?_
    show Steps p.tables e below (T41.setTop (mkF m 25 #[.val (.int p0), .val (.int p1), .val (.int p2), .val (.ref b3), .unset, .unset, .unset, .unset] [])) _
    refine XS.aloadN X41.here hx rfl (hb hby at_25) rfl rfl ?_
    show Steps p.tables e below (T41.setTop (mkF m 26 #[.val (.int p0), .val (.int p1), .val (.int p2), .val (.ref b3), .unset, .unset, .unset, .unset] [(.ref b3)])) _
    refine XS.iconst X41.here hx rfl (hb hby at_26) ?_
    show Steps p.tables e below (T41.setTop (mkF m 27 #[.val (.int p0), .val (.int p1), .val (.int p2), .val (.ref b3), .unset, .unset, .unset, .unset] [(.int (3 : Int32)), (.ref b3)])) _
    refine XS.iloadN X41.here hx rfl (hb hby at_27) rfl ?_
    show Steps p.tables e below (T41.setTop (mkF m 28 #[.val (.int p0), .val (.int p1), .val (.int p2), .val (.ref b3), .unset, .unset, .unset, .unset] [(.int p0), (.int (3 : Int32)), (.ref b3)])) _
    refine XS.bipush X41.here hx rfl (hb hby at_28) ?_
    show Steps p.tables e below (T41.setTop (mkF m 30 #[.val (.int p0), .val (.int p1), .val (.int p2), .val (.ref b3), .unset, .unset, .unset, .unset] [(.int (24 : Int32)), (.int p0), (.int (3 : Int32)), (.ref b3)])) _
    refine XS.iushr X41.here hx rfl (hb hby at_30) rfl ?_
    show Steps p.tables e below (T41.setTop (mkF m 31 #[.val (.int p0), .val (.int p1), .val (.int p2), .val (.ref b3), .unset, .unset, .unset, .unset] [(.int ((p0.toUInt32 >>> ((24 : Int32) &&& 31).toUInt32).toInt32)), (.int (3 : Int32)), (.ref b3)])) _
    refine XS.i2b X41.here hx rfl (hb hby at_31) rfl ?_
    show Steps p.tables e below (T41.setTop (mkF m 32 #[.val (.int p0), .val (.int p1), .val (.int p2), .val (.ref b3), .unset, .unset, .unset, .unset] [(.int (((p0.toUInt32 >>> ((24 : Int32) &&& 31).toUInt32).toInt32).toInt8.toInt32)), (.int (3 : Int32)), (.ref b3)])) _
    refine st54 _ ?_
    show Steps p.tables e below (T54.setTop (mkF m 33 #[.val (.int p0), .val (.int p1), .val (.int p2), .val (.ref b3), .unset, .unset, .unset, .unset] [])) _
    refine XS.aloadN X54.here hx rfl (hb hby at_33) rfl rfl ?_
    show Steps p.tables e below (T54.setTop (mkF m 34 #[.val (.int p0), .val (.int p1), .val (.int p2), .val (.ref b3), .unset, .unset, .unset, .unset] [(.ref b3)])) _
    refine XS.iconst X54.here hx rfl (hb hby at_34) ?_
    show Steps p.tables e below (T54.setTop (mkF m 35 #[.val (.int p0), .val (.int p1), .val (.int p2), .val (.ref b3), .unset, .unset, .unset, .unset] [(.int (4 : Int32)), (.ref b3)])) _
    refine XS.iloadN X54.here hx rfl (hb hby at_35) rfl ?_
    show Steps p.tables e below (T54.setTop (mkF m 36 #[.val (.int p0), .val (.int p1), .val (.int p2), .val (.ref b3), .unset, .unset, .unset, .unset] [(.int p1), (.int (4 : Int32)), (.ref b3)])) _
    refine XS.i2b X54.here hx rfl (hb hby at_36) rfl ?_
    show Steps p.tables e below (T54.setTop (mkF m 37 #[.val (.int p0), .val (.int p1), .val (.int p2), .val (.ref b3), .unset, .unset, .unset, .unset] [(.int (p1.toInt8.toInt32)), (.int (4 : Int32)), (.ref b3)])) _
    refine st65 _ ?_
    show Steps p.tables e below (T65.setTop (mkF m 38 #[.val (.int p0), .val (.int p1), .val (.int p2), .val (.ref b3), .unset, .unset, .unset, .unset] [])) _
    refine XS.iloadN X65.here hx rfl (hb hby at_38) rfl ?_
    show Steps p.tables e below (T65.setTop (mkF m 39 #[.val (.int p0), .val (.int p1), .val (.int p2), .val (.ref b3), .unset, .unset, .unset, .unset] [(.int p1)])) _
    refine XS.bipush X65.here hx rfl (hb hby at_39) ?_
    show Steps p.tables e below (T65.setTop (mkF m 41 #[.val (.int p0), .val (.int p1), .val (.int p2), .val (.ref b3), .unset, .unset, .unset, .unset] [(.int (8 : Int32)), (.int p1)])) _
    refine XS.iushr X65.here hx rfl (hb hby at_41) rfl ?_
    show Steps p.tables e below (T65.setTop (mkF m 42 #[.val (.int p0), .val (.int p1), .val (.int p2), .val (.ref b3), .unset, .unset, .unset, .unset] [(.int ((p1.toUInt32 >>> ((8 : Int32) &&& 31).toUInt32).toInt32))])) _
    refine XS.iconst X65.here hx rfl (hb hby at_42) ?_
    show Steps p.tables e below (T65.setTop (mkF m 43 #[.val (.int p0), .val (.int p1), .val (.int p2), .val (.ref b3), .unset, .unset, .unset, .unset] [(.int (1 : Int32)), (.int ((p1.toUInt32 >>> ((8 : Int32) &&& 31).toUInt32).toInt32))])) _
    refine XS.iand X65.here hx rfl (hb hby at_43) rfl ?_
    exact kt
  rcases (own_i p1) with hs77 | hs77
  · obtain ⟨cl96, Ar96, q96, S96, M96, H96, G96⟩ := id Vm66
    have hin96 : ¬ ((0 : Int32) < 0 ∨ cl96.slots.size ≤ ((0 : Int32)).toNatClampNeg) := inb_of S96 ⟨by decide, by decide⟩
    have hat96 : cl96.slots[((0 : Int32)).toNatClampNeg]? = some (.int (nar .byte (p0.toInt8.toInt32))) := H96.at hin96 rfl
    obtain ⟨cl104, Ar104, q104, S104, M104, H104, G104⟩ := id Vm66
    have hin104 : ¬ ((1 : Int32) < 0 ∨ cl104.slots.size ≤ ((1 : Int32)).toNatClampNeg) := inb_of S104 ⟨by decide, by decide⟩
    have hat104 : cl104.slots[((1 : Int32)).toNatClampNeg]? = some (.int (nar .byte (((p0.toUInt32 >>> ((8 : Int32) &&& 31).toUInt32).toInt32).toInt8.toInt32))) := H104.at hin104 rfl
    obtain ⟨cl112, Ar112, q112, S112, M112, H112, G112⟩ := id Vm66
    have hin112 : ¬ ((2 : Int32) < 0 ∨ cl112.slots.size ≤ ((2 : Int32)).toNatClampNeg) := inb_of S112 ⟨by decide, by decide⟩
    have hat112 : cl112.slots[((2 : Int32)).toNatClampNeg]? = some (.int (nar .byte (((p0.toUInt32 >>> ((16 : Int32) &&& 31).toUInt32).toInt32).toInt8.toInt32))) := H112.at hin112 rfl
    obtain ⟨cl120, Ar120, q120, S120, M120, H120, G120⟩ := id Vm66
    have hin120 : ¬ ((3 : Int32) < 0 ∨ cl120.slots.size ≤ ((3 : Int32)).toNatClampNeg) := inb_of S120 ⟨by decide, by decide⟩
    have hat120 : cl120.slots[((3 : Int32)).toNatClampNeg]? = some (.int (nar .byte (((p0.toUInt32 >>> ((24 : Int32) &&& 31).toUInt32).toInt32).toInt8.toInt32))) := H120.at hin120 rfl
    obtain ⟨_, _, ⟨T125, L125, k125, n125⟩, -, X125, ⟨Lc125, hQ125, l125, y125, z125⟩, st125⟩ := Jvm.LawKit.callS X65 hx (y := (⟨"fieldstone/ByteReaderUtf8LengthPinLaw", "reference", "(IIIII)I"⟩ : MethodName)) hown (mvT hZ (hw _ (List.mem_of_getElem? (i := 2) rfl))) (mvT hZ (hw _ (List.mem_of_getElem? (i := 3) rfl))) (mvT hZ (hw _ (List.mem_of_getElem? (i := 4) rfl))) (mvT hZ (hw _ (List.mem_of_getElem? (i := 5) rfl))) (by decide) (backOf (W := 0) (own_ref l Z a0 hw [] ((nar .byte (p0.toInt8.toInt32)) &&& (255 : Int32)) ((nar .byte (((p0.toUInt32 >>> ((8 : Int32) &&& 31).toUInt32).toInt32).toInt8.toInt32)) &&& (255 : Int32)) ((nar .byte (((p0.toUInt32 >>> ((16 : Int32) &&& 31).toUInt32).toInt32).toInt8.toInt32)) &&& (255 : Int32)) ((nar .byte (((p0.toUInt32 >>> ((24 : Int32) &&& 31).toUInt32).toInt32).toInt8.toInt32)) &&& (255 : Int32)) ((1 : Int32) + ((p2 &&& (2147483647 : Int32)) % (5 : Int32))) h65 n0 Zs68 ) hZ (hw _ (List.mem_of_getElem? (i := 5) rfl)) (hw _ (List.mem_of_getElem? (i := 4) rfl)) (by decide) (by decide)) (g := (mkF m 106 #[.val (.int p0), .val (.int p1), .val (.int p2), .val (.ref b3), .val (.int (0 : Int32)), .val (.int ((1 : Int32) + ((p2 &&& (2147483647 : Int32)) % (5 : Int32)))), .val (.int ((0 : Int32) + ((1 : Int32) + ((p2 &&& (2147483647 : Int32)) % (5 : Int32))))), .unset] [(.int ((1 : Int32) + ((p2 &&& (2147483647 : Int32)) % (5 : Int32)))), (.int ((nar .byte (((p0.toUInt32 >>> ((24 : Int32) &&& 31).toUInt32).toInt32).toInt8.toInt32)) &&& (255 : Int32))), (.int ((nar .byte (((p0.toUInt32 >>> ((16 : Int32) &&& 31).toUInt32).toInt32).toInt8.toInt32)) &&& (255 : Int32))), (.int ((nar .byte (((p0.toUInt32 >>> ((8 : Int32) &&& 31).toUInt32).toInt32).toInt8.toInt32)) &&& (255 : Int32))), (.int ((nar .byte (p0.toInt8.toInt32)) &&& (255 : Int32)))])) rfl (by rw [hml]; rfl) (argsL := [(.int ((nar .byte (p0.toInt8.toInt32)) &&& (255 : Int32))), (.int ((nar .byte (((p0.toUInt32 >>> ((8 : Int32) &&& 31).toUInt32).toInt32).toInt8.toInt32)) &&& (255 : Int32))), (.int ((nar .byte (((p0.toUInt32 >>> ((16 : Int32) &&& 31).toUInt32).toInt32).toInt8.toInt32)) &&& (255 : Int32))), (.int ((nar .byte (((p0.toUInt32 >>> ((24 : Int32) &&& 31).toUInt32).toInt32).toInt8.toInt32)) &&& (255 : Int32))), (.int ((1 : Int32) + ((p2 &&& (2147483647 : Int32)) % (5 : Int32))))]) (rest := []) (lenOf own_pd1 rfl) rfl (by show 2 * 0 + _ ≤ _; exact Nat.le_of_eq rfl) (hb hby at_106) (fun _ _ => ⟨rfl, e65, (by decide : 1 + 0 ≤ _), (by decide : 5 + 0 ≤ _)⟩)
    dsimp only [Pt.U, Pt.locs, Pt.cells, Pt.slots] at X125 l125 y125 z125 st125 hQ125
    subst l125 y125 z125
    obtain ⟨rfl, Nq125, eh125⟩ := hQ125
    have N126 := Fr.app N69 Nq125
    obtain ⟨_, _, ⟨T132, L132, k132, n132⟩, -, X132, ⟨Lc132, hQ132, l132, y132, z132⟩, st132⟩ := Jvm.LawKit.callS X125 hx (y := (⟨"fieldstone/ByteReader", "utf8Length", "([BII)I"⟩ : MethodName)) hown (mvT hZ (hw _ (List.mem_of_getElem? (i := 6) rfl))) (mvT hZ (hw _ (List.mem_of_getElem? (i := 7) rfl))) (mvT hZ (hw _ (List.mem_of_getElem? (i := 8) rfl))) (mvT hZ (hw _ (List.mem_of_getElem? (i := 9) rfl))) (by decide) (backOf (W := 0) (own_u l Z a0 hw [] b3 (0 : Int32) ((0 : Int32) + ((1 : Int32) + ((p2 &&& (2147483647 : Int32)) % (5 : Int32)))) ((1 : Int32) + ((p2 &&& (2147483647 : Int32)) % (5 : Int32))) k3 [(.int (nar .byte (p0.toInt8.toInt32))), (.int (nar .byte (((p0.toUInt32 >>> ((8 : Int32) &&& 31).toUInt32).toInt32).toInt8.toInt32))), (.int (nar .byte (((p0.toUInt32 >>> ((16 : Int32) &&& 31).toUInt32).toInt32).toInt8.toInt32))), (.int (nar .byte (((p0.toUInt32 >>> ((24 : Int32) &&& 31).toUInt32).toInt32).toInt8.toInt32))), (.int (nar .byte (p1.toInt8.toInt32)))] (nar .byte (p0.toInt8.toInt32)) (nar .byte (((p0.toUInt32 >>> ((8 : Int32) &&& 31).toUInt32).toInt32).toInt8.toInt32)) (nar .byte (((p0.toUInt32 >>> ((16 : Int32) &&& 31).toUInt32).toInt32).toInt8.toInt32)) (nar .byte (((p0.toUInt32 >>> ((24 : Int32) &&& 31).toUInt32).toInt32).toInt8.toInt32)) h65 n0 Zs68 Vm66 (own_t0 _) (by decide) (by decide) (by decide) (by decide) rfl rfl rfl rfl) hZ (hw _ (List.mem_of_getElem? (i := 9) rfl)) (hw _ (List.mem_of_getElem? (i := 8) rfl)) (by decide) (by decide)) (g := (mkF m 116 #[.val (.int p0), .val (.int p1), .val (.int p2), .val (.ref b3), .val (.int (0 : Int32)), .val (.int ((1 : Int32) + ((p2 &&& (2147483647 : Int32)) % (5 : Int32)))), .val (.int ((0 : Int32) + ((1 : Int32) + ((p2 &&& (2147483647 : Int32)) % (5 : Int32))))), .val (.int (own_ref_f ((nar .byte (p0.toInt8.toInt32)) &&& (255 : Int32)) ((nar .byte (((p0.toUInt32 >>> ((8 : Int32) &&& 31).toUInt32).toInt32).toInt8.toInt32)) &&& (255 : Int32)) ((nar .byte (((p0.toUInt32 >>> ((16 : Int32) &&& 31).toUInt32).toInt32).toInt8.toInt32)) &&& (255 : Int32)) ((nar .byte (((p0.toUInt32 >>> ((24 : Int32) &&& 31).toUInt32).toInt32).toInt8.toInt32)) &&& (255 : Int32)) ((1 : Int32) + ((p2 &&& (2147483647 : Int32)) % (5 : Int32)))))] [(.int ((0 : Int32) + ((1 : Int32) + ((p2 &&& (2147483647 : Int32)) % (5 : Int32))))), (.int (0 : Int32)), (.ref b3)])) rfl (by rw [hml]; rfl) (argsL := [(.ref b3), (.int (0 : Int32)), (.int ((0 : Int32) + ((1 : Int32) + ((p2 &&& (2147483647 : Int32)) % (5 : Int32)))))]) (rest := []) (lenOf own_pd2 rfl) rfl (by show 2 * 0 + _ ≤ _; exact Nat.le_of_eq rfl) (hb hby at_116) (fun _ _ => ⟨rfl, eh125, (by decide : 1 + 0 ≤ _), (by decide : 5 + 0 ≤ _)⟩)
    dsimp only [Pt.U, Pt.locs, Pt.cells, Pt.slots] at X132 l132 y132 z132 st132 hQ132
    subst l132 y132 z132
    obtain ⟨rfl, Nq132, eh132⟩ := hQ132
    have N133 := Fr.app N126 Nq132
    obtain ⟨fs, hr, hrun, hended, hW, hsame⟩ := X132.leave (v := some (.int (1 : Int32))) (fun h => by rw [Bd.returns] at h; cases h) (hlocks := BodyLoose.notSynchronized Bd)
    refine ⟨_, _, pre76 _ ?_, hrun, hended, _, _, rfl, ?_, ⟨_, rfl⟩, hW, hsame.mono (by decide) (by decide)⟩
    · show Steps p.tables e below (T65.setTop (mkF m 44 #[.val (.int p0), .val (.int p1), .val (.int p2), .val (.ref b3), .unset, .unset, .unset, .unset] [(.int (((p1.toUInt32 >>> ((8 : Int32) &&& 31).toUInt32).toInt32) &&& (1 : Int32)))])) _
      rw [hs77]
      show Steps p.tables e below (T65.setTop (mkF m 44 #[.val (.int p0), .val (.int p1), .val (.int p2), .val (.ref b3), .unset, .unset, .unset, .unset] [(.int (0 : Int32))])) _
      refine XS.istore X65.here hx rfl (hb hby at_44) rfl (l' := #[.val (.int p0), .val (.int p1), .val (.int p2), .val (.ref b3), .val (.int (0 : Int32)), .unset, .unset, .unset]) rfl ?_
      show Steps p.tables e below (T65.setTop (mkF m 46 #[.val (.int p0), .val (.int p1), .val (.int p2), .val (.ref b3), .val (.int (0 : Int32)), .unset, .unset, .unset] [])) _
      refine XS.iconst X65.here hx rfl (hb hby at_46) ?_
      show Steps p.tables e below (T65.setTop (mkF m 47 #[.val (.int p0), .val (.int p1), .val (.int p2), .val (.ref b3), .val (.int (0 : Int32)), .unset, .unset, .unset] [(.int (1 : Int32))])) _
      refine XS.iloadN X65.here hx rfl (hb hby at_47) rfl ?_
      show Steps p.tables e below (T65.setTop (mkF m 48 #[.val (.int p0), .val (.int p1), .val (.int p2), .val (.ref b3), .val (.int (0 : Int32)), .unset, .unset, .unset] [(.int p2), (.int (1 : Int32))])) _
      refine X65.ldcInt hx hown (mvT hZ (hw _ (List.mem_of_getElem? (i := 1) rfl))) (g := (mkF m 48 #[.val (.int p0), .val (.int p1), .val (.int p2), .val (.ref b3), .val (.int (0 : Int32)), .unset, .unset, .unset] [(.int p2), (.int (1 : Int32))])) rfl (hb hby at_48) _ ?_
      show Steps p.tables e below (T65.setTop (mkF m 50 #[.val (.int p0), .val (.int p1), .val (.int p2), .val (.ref b3), .val (.int (0 : Int32)), .unset, .unset, .unset] [(.int (2147483647 : Int32)), (.int p2), (.int (1 : Int32))])) _
      refine XS.iand X65.here hx rfl (hb hby at_50) rfl ?_
      show Steps p.tables e below (T65.setTop (mkF m 51 #[.val (.int p0), .val (.int p1), .val (.int p2), .val (.ref b3), .val (.int (0 : Int32)), .unset, .unset, .unset] [(.int (p2 &&& (2147483647 : Int32))), (.int (1 : Int32))])) _
      refine XS.iconst X65.here hx rfl (hb hby at_51) ?_
      show Steps p.tables e below (T65.setTop (mkF m 52 #[.val (.int p0), .val (.int p1), .val (.int p2), .val (.ref b3), .val (.int (0 : Int32)), .unset, .unset, .unset] [(.int (5 : Int32)), (.int (p2 &&& (2147483647 : Int32))), (.int (1 : Int32))])) _
      refine XS.iload X65.here hx rfl (hb hby at_52) rfl ?_
      show Steps p.tables e below (T65.setTop (mkF m 54 #[.val (.int p0), .val (.int p1), .val (.int p2), .val (.ref b3), .val (.int (0 : Int32)), .unset, .unset, .unset] [(.int (0 : Int32)), (.int (5 : Int32)), (.int (p2 &&& (2147483647 : Int32))), (.int (1 : Int32))])) _
      refine XS.isub X65.here hx rfl (hb hby at_54) rfl ?_
      show Steps p.tables e below (T65.setTop (mkF m 55 #[.val (.int p0), .val (.int p1), .val (.int p2), .val (.ref b3), .val (.int (0 : Int32)), .unset, .unset, .unset] [(.int (5 : Int32)), (.int (p2 &&& (2147483647 : Int32))), (.int (1 : Int32))])) _
      refine iremM X65 hx rfl (hb hby at_55) rfl (by decide) ?_
      show Steps p.tables e below (T65.setTop (mkF m 56 #[.val (.int p0), .val (.int p1), .val (.int p2), .val (.ref b3), .val (.int (0 : Int32)), .unset, .unset, .unset] [(.int ((p2 &&& (2147483647 : Int32)) % (5 : Int32))), (.int (1 : Int32))])) _
      refine XS.iadd X65.here hx rfl (hb hby at_56) rfl ?_
      show Steps p.tables e below (T65.setTop (mkF m 57 #[.val (.int p0), .val (.int p1), .val (.int p2), .val (.ref b3), .val (.int (0 : Int32)), .unset, .unset, .unset] [(.int ((1 : Int32) + ((p2 &&& (2147483647 : Int32)) % (5 : Int32))))])) _
      refine XS.istore X65.here hx rfl (hb hby at_57) rfl (l' := #[.val (.int p0), .val (.int p1), .val (.int p2), .val (.ref b3), .val (.int (0 : Int32)), .val (.int ((1 : Int32) + ((p2 &&& (2147483647 : Int32)) % (5 : Int32)))), .unset, .unset]) rfl ?_
      show Steps p.tables e below (T65.setTop (mkF m 59 #[.val (.int p0), .val (.int p1), .val (.int p2), .val (.ref b3), .val (.int (0 : Int32)), .val (.int ((1 : Int32) + ((p2 &&& (2147483647 : Int32)) % (5 : Int32)))), .unset, .unset] [])) _
      refine XS.iload X65.here hx rfl (hb hby at_59) rfl ?_
      show Steps p.tables e below (T65.setTop (mkF m 61 #[.val (.int p0), .val (.int p1), .val (.int p2), .val (.ref b3), .val (.int (0 : Int32)), .val (.int ((1 : Int32) + ((p2 &&& (2147483647 : Int32)) % (5 : Int32)))), .unset, .unset] [(.int (0 : Int32))])) _
      refine XS.iload X65.here hx rfl (hb hby at_61) rfl ?_
      show Steps p.tables e below (T65.setTop (mkF m 63 #[.val (.int p0), .val (.int p1), .val (.int p2), .val (.ref b3), .val (.int (0 : Int32)), .val (.int ((1 : Int32) + ((p2 &&& (2147483647 : Int32)) % (5 : Int32)))), .unset, .unset] [(.int ((1 : Int32) + ((p2 &&& (2147483647 : Int32)) % (5 : Int32)))), (.int (0 : Int32))])) _
      refine XS.iadd X65.here hx rfl (hb hby at_63) rfl ?_
      show Steps p.tables e below (T65.setTop (mkF m 64 #[.val (.int p0), .val (.int p1), .val (.int p2), .val (.ref b3), .val (.int (0 : Int32)), .val (.int ((1 : Int32) + ((p2 &&& (2147483647 : Int32)) % (5 : Int32)))), .unset, .unset] [(.int ((0 : Int32) + ((1 : Int32) + ((p2 &&& (2147483647 : Int32)) % (5 : Int32)))))])) _
      refine XS.istore X65.here hx rfl (hb hby at_64) rfl (l' := #[.val (.int p0), .val (.int p1), .val (.int p2), .val (.ref b3), .val (.int (0 : Int32)), .val (.int ((1 : Int32) + ((p2 &&& (2147483647 : Int32)) % (5 : Int32)))), .val (.int ((0 : Int32) + ((1 : Int32) + ((p2 &&& (2147483647 : Int32)) % (5 : Int32))))), .unset]) rfl ?_
      show Steps p.tables e below (T65.setTop (mkF m 66 #[.val (.int p0), .val (.int p1), .val (.int p2), .val (.ref b3), .val (.int (0 : Int32)), .val (.int ((1 : Int32) + ((p2 &&& (2147483647 : Int32)) % (5 : Int32)))), .val (.int ((0 : Int32) + ((1 : Int32) + ((p2 &&& (2147483647 : Int32)) % (5 : Int32))))), .unset] [])) _
      refine XS.aloadN X65.here hx rfl (hb hby at_66) rfl rfl ?_
      show Steps p.tables e below (T65.setTop (mkF m 67 #[.val (.int p0), .val (.int p1), .val (.int p2), .val (.ref b3), .val (.int (0 : Int32)), .val (.int ((1 : Int32) + ((p2 &&& (2147483647 : Int32)) % (5 : Int32)))), .val (.int ((0 : Int32) + ((1 : Int32) + ((p2 &&& (2147483647 : Int32)) % (5 : Int32))))), .unset] [(.ref b3)])) _
      refine XS.iload X65.here hx rfl (hb hby at_67) rfl ?_
      show Steps p.tables e below (T65.setTop (mkF m 69 #[.val (.int p0), .val (.int p1), .val (.int p2), .val (.ref b3), .val (.int (0 : Int32)), .val (.int ((1 : Int32) + ((p2 &&& (2147483647 : Int32)) % (5 : Int32)))), .val (.int ((0 : Int32) + ((1 : Int32) + ((p2 &&& (2147483647 : Int32)) % (5 : Int32))))), .unset] [(.int (0 : Int32)), (.ref b3)])) _
      refine X65.baloadBytes hx (j := (0 : Int32)) (v := (.int (nar .byte (p0.toInt8.toInt32)))) (by rw [e65]; exact Ar96.1) (State.isArrayOf_alike hZ.alike Ar96.2.1) Ar96.2.2 hin96 hat96 (g := (mkF m 69 #[.val (.int p0), .val (.int p1), .val (.int p2), .val (.ref b3), .val (.int (0 : Int32)), .val (.int ((1 : Int32) + ((p2 &&& (2147483647 : Int32)) % (5 : Int32)))), .val (.int ((0 : Int32) + ((1 : Int32) + ((p2 &&& (2147483647 : Int32)) % (5 : Int32))))), .unset] [(.int (0 : Int32)), (.ref b3)])) rfl rfl (hb hby at_69) _ ?_
      show Steps p.tables e below (T65.setTop (mkF m 70 #[.val (.int p0), .val (.int p1), .val (.int p2), .val (.ref b3), .val (.int (0 : Int32)), .val (.int ((1 : Int32) + ((p2 &&& (2147483647 : Int32)) % (5 : Int32)))), .val (.int ((0 : Int32) + ((1 : Int32) + ((p2 &&& (2147483647 : Int32)) % (5 : Int32))))), .unset] [(.int (nar .byte (p0.toInt8.toInt32)))])) _
      refine XS.sipush X65.here hx rfl (hb hby at_70) ?_
      show Steps p.tables e below (T65.setTop (mkF m 73 #[.val (.int p0), .val (.int p1), .val (.int p2), .val (.ref b3), .val (.int (0 : Int32)), .val (.int ((1 : Int32) + ((p2 &&& (2147483647 : Int32)) % (5 : Int32)))), .val (.int ((0 : Int32) + ((1 : Int32) + ((p2 &&& (2147483647 : Int32)) % (5 : Int32))))), .unset] [(.int (255 : Int32)), (.int (nar .byte (p0.toInt8.toInt32)))])) _
      refine XS.iand X65.here hx rfl (hb hby at_73) rfl ?_
      show Steps p.tables e below (T65.setTop (mkF m 74 #[.val (.int p0), .val (.int p1), .val (.int p2), .val (.ref b3), .val (.int (0 : Int32)), .val (.int ((1 : Int32) + ((p2 &&& (2147483647 : Int32)) % (5 : Int32)))), .val (.int ((0 : Int32) + ((1 : Int32) + ((p2 &&& (2147483647 : Int32)) % (5 : Int32))))), .unset] [(.int ((nar .byte (p0.toInt8.toInt32)) &&& (255 : Int32)))])) _
      refine XS.aloadN X65.here hx rfl (hb hby at_74) rfl rfl ?_
      show Steps p.tables e below (T65.setTop (mkF m 75 #[.val (.int p0), .val (.int p1), .val (.int p2), .val (.ref b3), .val (.int (0 : Int32)), .val (.int ((1 : Int32) + ((p2 &&& (2147483647 : Int32)) % (5 : Int32)))), .val (.int ((0 : Int32) + ((1 : Int32) + ((p2 &&& (2147483647 : Int32)) % (5 : Int32))))), .unset] [(.ref b3), (.int ((nar .byte (p0.toInt8.toInt32)) &&& (255 : Int32)))])) _
      refine XS.iload X65.here hx rfl (hb hby at_75) rfl ?_
      show Steps p.tables e below (T65.setTop (mkF m 77 #[.val (.int p0), .val (.int p1), .val (.int p2), .val (.ref b3), .val (.int (0 : Int32)), .val (.int ((1 : Int32) + ((p2 &&& (2147483647 : Int32)) % (5 : Int32)))), .val (.int ((0 : Int32) + ((1 : Int32) + ((p2 &&& (2147483647 : Int32)) % (5 : Int32))))), .unset] [(.int (0 : Int32)), (.ref b3), (.int ((nar .byte (p0.toInt8.toInt32)) &&& (255 : Int32)))])) _
      refine XS.iconst X65.here hx rfl (hb hby at_77) ?_
      show Steps p.tables e below (T65.setTop (mkF m 78 #[.val (.int p0), .val (.int p1), .val (.int p2), .val (.ref b3), .val (.int (0 : Int32)), .val (.int ((1 : Int32) + ((p2 &&& (2147483647 : Int32)) % (5 : Int32)))), .val (.int ((0 : Int32) + ((1 : Int32) + ((p2 &&& (2147483647 : Int32)) % (5 : Int32))))), .unset] [(.int (1 : Int32)), (.int (0 : Int32)), (.ref b3), (.int ((nar .byte (p0.toInt8.toInt32)) &&& (255 : Int32)))])) _
      refine XS.iadd X65.here hx rfl (hb hby at_78) rfl ?_
      show Steps p.tables e below (T65.setTop (mkF m 79 #[.val (.int p0), .val (.int p1), .val (.int p2), .val (.ref b3), .val (.int (0 : Int32)), .val (.int ((1 : Int32) + ((p2 &&& (2147483647 : Int32)) % (5 : Int32)))), .val (.int ((0 : Int32) + ((1 : Int32) + ((p2 &&& (2147483647 : Int32)) % (5 : Int32))))), .unset] [(.int (1 : Int32)), (.ref b3), (.int ((nar .byte (p0.toInt8.toInt32)) &&& (255 : Int32)))])) _
      refine X65.baloadBytes hx (j := (1 : Int32)) (v := (.int (nar .byte (((p0.toUInt32 >>> ((8 : Int32) &&& 31).toUInt32).toInt32).toInt8.toInt32)))) (by rw [e65]; exact Ar104.1) (State.isArrayOf_alike hZ.alike Ar104.2.1) Ar104.2.2 hin104 hat104 (g := (mkF m 79 #[.val (.int p0), .val (.int p1), .val (.int p2), .val (.ref b3), .val (.int (0 : Int32)), .val (.int ((1 : Int32) + ((p2 &&& (2147483647 : Int32)) % (5 : Int32)))), .val (.int ((0 : Int32) + ((1 : Int32) + ((p2 &&& (2147483647 : Int32)) % (5 : Int32))))), .unset] [(.int (1 : Int32)), (.ref b3), (.int ((nar .byte (p0.toInt8.toInt32)) &&& (255 : Int32)))])) rfl rfl (hb hby at_79) _ ?_
      show Steps p.tables e below (T65.setTop (mkF m 80 #[.val (.int p0), .val (.int p1), .val (.int p2), .val (.ref b3), .val (.int (0 : Int32)), .val (.int ((1 : Int32) + ((p2 &&& (2147483647 : Int32)) % (5 : Int32)))), .val (.int ((0 : Int32) + ((1 : Int32) + ((p2 &&& (2147483647 : Int32)) % (5 : Int32))))), .unset] [(.int (nar .byte (((p0.toUInt32 >>> ((8 : Int32) &&& 31).toUInt32).toInt32).toInt8.toInt32))), (.int ((nar .byte (p0.toInt8.toInt32)) &&& (255 : Int32)))])) _
      refine XS.sipush X65.here hx rfl (hb hby at_80) ?_
      show Steps p.tables e below (T65.setTop (mkF m 83 #[.val (.int p0), .val (.int p1), .val (.int p2), .val (.ref b3), .val (.int (0 : Int32)), .val (.int ((1 : Int32) + ((p2 &&& (2147483647 : Int32)) % (5 : Int32)))), .val (.int ((0 : Int32) + ((1 : Int32) + ((p2 &&& (2147483647 : Int32)) % (5 : Int32))))), .unset] [(.int (255 : Int32)), (.int (nar .byte (((p0.toUInt32 >>> ((8 : Int32) &&& 31).toUInt32).toInt32).toInt8.toInt32))), (.int ((nar .byte (p0.toInt8.toInt32)) &&& (255 : Int32)))])) _
      refine XS.iand X65.here hx rfl (hb hby at_83) rfl ?_
      show Steps p.tables e below (T65.setTop (mkF m 84 #[.val (.int p0), .val (.int p1), .val (.int p2), .val (.ref b3), .val (.int (0 : Int32)), .val (.int ((1 : Int32) + ((p2 &&& (2147483647 : Int32)) % (5 : Int32)))), .val (.int ((0 : Int32) + ((1 : Int32) + ((p2 &&& (2147483647 : Int32)) % (5 : Int32))))), .unset] [(.int ((nar .byte (((p0.toUInt32 >>> ((8 : Int32) &&& 31).toUInt32).toInt32).toInt8.toInt32)) &&& (255 : Int32))), (.int ((nar .byte (p0.toInt8.toInt32)) &&& (255 : Int32)))])) _
      refine XS.aloadN X65.here hx rfl (hb hby at_84) rfl rfl ?_
      show Steps p.tables e below (T65.setTop (mkF m 85 #[.val (.int p0), .val (.int p1), .val (.int p2), .val (.ref b3), .val (.int (0 : Int32)), .val (.int ((1 : Int32) + ((p2 &&& (2147483647 : Int32)) % (5 : Int32)))), .val (.int ((0 : Int32) + ((1 : Int32) + ((p2 &&& (2147483647 : Int32)) % (5 : Int32))))), .unset] [(.ref b3), (.int ((nar .byte (((p0.toUInt32 >>> ((8 : Int32) &&& 31).toUInt32).toInt32).toInt8.toInt32)) &&& (255 : Int32))), (.int ((nar .byte (p0.toInt8.toInt32)) &&& (255 : Int32)))])) _
      refine XS.iload X65.here hx rfl (hb hby at_85) rfl ?_
      show Steps p.tables e below (T65.setTop (mkF m 87 #[.val (.int p0), .val (.int p1), .val (.int p2), .val (.ref b3), .val (.int (0 : Int32)), .val (.int ((1 : Int32) + ((p2 &&& (2147483647 : Int32)) % (5 : Int32)))), .val (.int ((0 : Int32) + ((1 : Int32) + ((p2 &&& (2147483647 : Int32)) % (5 : Int32))))), .unset] [(.int (0 : Int32)), (.ref b3), (.int ((nar .byte (((p0.toUInt32 >>> ((8 : Int32) &&& 31).toUInt32).toInt32).toInt8.toInt32)) &&& (255 : Int32))), (.int ((nar .byte (p0.toInt8.toInt32)) &&& (255 : Int32)))])) _
      refine XS.iconst X65.here hx rfl (hb hby at_87) ?_
      show Steps p.tables e below (T65.setTop (mkF m 88 #[.val (.int p0), .val (.int p1), .val (.int p2), .val (.ref b3), .val (.int (0 : Int32)), .val (.int ((1 : Int32) + ((p2 &&& (2147483647 : Int32)) % (5 : Int32)))), .val (.int ((0 : Int32) + ((1 : Int32) + ((p2 &&& (2147483647 : Int32)) % (5 : Int32))))), .unset] [(.int (2 : Int32)), (.int (0 : Int32)), (.ref b3), (.int ((nar .byte (((p0.toUInt32 >>> ((8 : Int32) &&& 31).toUInt32).toInt32).toInt8.toInt32)) &&& (255 : Int32))), (.int ((nar .byte (p0.toInt8.toInt32)) &&& (255 : Int32)))])) _
      refine XS.iadd X65.here hx rfl (hb hby at_88) rfl ?_
      show Steps p.tables e below (T65.setTop (mkF m 89 #[.val (.int p0), .val (.int p1), .val (.int p2), .val (.ref b3), .val (.int (0 : Int32)), .val (.int ((1 : Int32) + ((p2 &&& (2147483647 : Int32)) % (5 : Int32)))), .val (.int ((0 : Int32) + ((1 : Int32) + ((p2 &&& (2147483647 : Int32)) % (5 : Int32))))), .unset] [(.int (2 : Int32)), (.ref b3), (.int ((nar .byte (((p0.toUInt32 >>> ((8 : Int32) &&& 31).toUInt32).toInt32).toInt8.toInt32)) &&& (255 : Int32))), (.int ((nar .byte (p0.toInt8.toInt32)) &&& (255 : Int32)))])) _
      refine X65.baloadBytes hx (j := (2 : Int32)) (v := (.int (nar .byte (((p0.toUInt32 >>> ((16 : Int32) &&& 31).toUInt32).toInt32).toInt8.toInt32)))) (by rw [e65]; exact Ar112.1) (State.isArrayOf_alike hZ.alike Ar112.2.1) Ar112.2.2 hin112 hat112 (g := (mkF m 89 #[.val (.int p0), .val (.int p1), .val (.int p2), .val (.ref b3), .val (.int (0 : Int32)), .val (.int ((1 : Int32) + ((p2 &&& (2147483647 : Int32)) % (5 : Int32)))), .val (.int ((0 : Int32) + ((1 : Int32) + ((p2 &&& (2147483647 : Int32)) % (5 : Int32))))), .unset] [(.int (2 : Int32)), (.ref b3), (.int ((nar .byte (((p0.toUInt32 >>> ((8 : Int32) &&& 31).toUInt32).toInt32).toInt8.toInt32)) &&& (255 : Int32))), (.int ((nar .byte (p0.toInt8.toInt32)) &&& (255 : Int32)))])) rfl rfl (hb hby at_89) _ ?_
      show Steps p.tables e below (T65.setTop (mkF m 90 #[.val (.int p0), .val (.int p1), .val (.int p2), .val (.ref b3), .val (.int (0 : Int32)), .val (.int ((1 : Int32) + ((p2 &&& (2147483647 : Int32)) % (5 : Int32)))), .val (.int ((0 : Int32) + ((1 : Int32) + ((p2 &&& (2147483647 : Int32)) % (5 : Int32))))), .unset] [(.int (nar .byte (((p0.toUInt32 >>> ((16 : Int32) &&& 31).toUInt32).toInt32).toInt8.toInt32))), (.int ((nar .byte (((p0.toUInt32 >>> ((8 : Int32) &&& 31).toUInt32).toInt32).toInt8.toInt32)) &&& (255 : Int32))), (.int ((nar .byte (p0.toInt8.toInt32)) &&& (255 : Int32)))])) _
      refine XS.sipush X65.here hx rfl (hb hby at_90) ?_
      show Steps p.tables e below (T65.setTop (mkF m 93 #[.val (.int p0), .val (.int p1), .val (.int p2), .val (.ref b3), .val (.int (0 : Int32)), .val (.int ((1 : Int32) + ((p2 &&& (2147483647 : Int32)) % (5 : Int32)))), .val (.int ((0 : Int32) + ((1 : Int32) + ((p2 &&& (2147483647 : Int32)) % (5 : Int32))))), .unset] [(.int (255 : Int32)), (.int (nar .byte (((p0.toUInt32 >>> ((16 : Int32) &&& 31).toUInt32).toInt32).toInt8.toInt32))), (.int ((nar .byte (((p0.toUInt32 >>> ((8 : Int32) &&& 31).toUInt32).toInt32).toInt8.toInt32)) &&& (255 : Int32))), (.int ((nar .byte (p0.toInt8.toInt32)) &&& (255 : Int32)))])) _
      refine XS.iand X65.here hx rfl (hb hby at_93) rfl ?_
      show Steps p.tables e below (T65.setTop (mkF m 94 #[.val (.int p0), .val (.int p1), .val (.int p2), .val (.ref b3), .val (.int (0 : Int32)), .val (.int ((1 : Int32) + ((p2 &&& (2147483647 : Int32)) % (5 : Int32)))), .val (.int ((0 : Int32) + ((1 : Int32) + ((p2 &&& (2147483647 : Int32)) % (5 : Int32))))), .unset] [(.int ((nar .byte (((p0.toUInt32 >>> ((16 : Int32) &&& 31).toUInt32).toInt32).toInt8.toInt32)) &&& (255 : Int32))), (.int ((nar .byte (((p0.toUInt32 >>> ((8 : Int32) &&& 31).toUInt32).toInt32).toInt8.toInt32)) &&& (255 : Int32))), (.int ((nar .byte (p0.toInt8.toInt32)) &&& (255 : Int32)))])) _
      refine XS.aloadN X65.here hx rfl (hb hby at_94) rfl rfl ?_
      show Steps p.tables e below (T65.setTop (mkF m 95 #[.val (.int p0), .val (.int p1), .val (.int p2), .val (.ref b3), .val (.int (0 : Int32)), .val (.int ((1 : Int32) + ((p2 &&& (2147483647 : Int32)) % (5 : Int32)))), .val (.int ((0 : Int32) + ((1 : Int32) + ((p2 &&& (2147483647 : Int32)) % (5 : Int32))))), .unset] [(.ref b3), (.int ((nar .byte (((p0.toUInt32 >>> ((16 : Int32) &&& 31).toUInt32).toInt32).toInt8.toInt32)) &&& (255 : Int32))), (.int ((nar .byte (((p0.toUInt32 >>> ((8 : Int32) &&& 31).toUInt32).toInt32).toInt8.toInt32)) &&& (255 : Int32))), (.int ((nar .byte (p0.toInt8.toInt32)) &&& (255 : Int32)))])) _
      refine XS.iload X65.here hx rfl (hb hby at_95) rfl ?_
      show Steps p.tables e below (T65.setTop (mkF m 97 #[.val (.int p0), .val (.int p1), .val (.int p2), .val (.ref b3), .val (.int (0 : Int32)), .val (.int ((1 : Int32) + ((p2 &&& (2147483647 : Int32)) % (5 : Int32)))), .val (.int ((0 : Int32) + ((1 : Int32) + ((p2 &&& (2147483647 : Int32)) % (5 : Int32))))), .unset] [(.int (0 : Int32)), (.ref b3), (.int ((nar .byte (((p0.toUInt32 >>> ((16 : Int32) &&& 31).toUInt32).toInt32).toInt8.toInt32)) &&& (255 : Int32))), (.int ((nar .byte (((p0.toUInt32 >>> ((8 : Int32) &&& 31).toUInt32).toInt32).toInt8.toInt32)) &&& (255 : Int32))), (.int ((nar .byte (p0.toInt8.toInt32)) &&& (255 : Int32)))])) _
      refine XS.iconst X65.here hx rfl (hb hby at_97) ?_
      show Steps p.tables e below (T65.setTop (mkF m 98 #[.val (.int p0), .val (.int p1), .val (.int p2), .val (.ref b3), .val (.int (0 : Int32)), .val (.int ((1 : Int32) + ((p2 &&& (2147483647 : Int32)) % (5 : Int32)))), .val (.int ((0 : Int32) + ((1 : Int32) + ((p2 &&& (2147483647 : Int32)) % (5 : Int32))))), .unset] [(.int (3 : Int32)), (.int (0 : Int32)), (.ref b3), (.int ((nar .byte (((p0.toUInt32 >>> ((16 : Int32) &&& 31).toUInt32).toInt32).toInt8.toInt32)) &&& (255 : Int32))), (.int ((nar .byte (((p0.toUInt32 >>> ((8 : Int32) &&& 31).toUInt32).toInt32).toInt8.toInt32)) &&& (255 : Int32))), (.int ((nar .byte (p0.toInt8.toInt32)) &&& (255 : Int32)))])) _
      refine XS.iadd X65.here hx rfl (hb hby at_98) rfl ?_
      show Steps p.tables e below (T65.setTop (mkF m 99 #[.val (.int p0), .val (.int p1), .val (.int p2), .val (.ref b3), .val (.int (0 : Int32)), .val (.int ((1 : Int32) + ((p2 &&& (2147483647 : Int32)) % (5 : Int32)))), .val (.int ((0 : Int32) + ((1 : Int32) + ((p2 &&& (2147483647 : Int32)) % (5 : Int32))))), .unset] [(.int (3 : Int32)), (.ref b3), (.int ((nar .byte (((p0.toUInt32 >>> ((16 : Int32) &&& 31).toUInt32).toInt32).toInt8.toInt32)) &&& (255 : Int32))), (.int ((nar .byte (((p0.toUInt32 >>> ((8 : Int32) &&& 31).toUInt32).toInt32).toInt8.toInt32)) &&& (255 : Int32))), (.int ((nar .byte (p0.toInt8.toInt32)) &&& (255 : Int32)))])) _
      refine X65.baloadBytes hx (j := (3 : Int32)) (v := (.int (nar .byte (((p0.toUInt32 >>> ((24 : Int32) &&& 31).toUInt32).toInt32).toInt8.toInt32)))) (by rw [e65]; exact Ar120.1) (State.isArrayOf_alike hZ.alike Ar120.2.1) Ar120.2.2 hin120 hat120 (g := (mkF m 99 #[.val (.int p0), .val (.int p1), .val (.int p2), .val (.ref b3), .val (.int (0 : Int32)), .val (.int ((1 : Int32) + ((p2 &&& (2147483647 : Int32)) % (5 : Int32)))), .val (.int ((0 : Int32) + ((1 : Int32) + ((p2 &&& (2147483647 : Int32)) % (5 : Int32))))), .unset] [(.int (3 : Int32)), (.ref b3), (.int ((nar .byte (((p0.toUInt32 >>> ((16 : Int32) &&& 31).toUInt32).toInt32).toInt8.toInt32)) &&& (255 : Int32))), (.int ((nar .byte (((p0.toUInt32 >>> ((8 : Int32) &&& 31).toUInt32).toInt32).toInt8.toInt32)) &&& (255 : Int32))), (.int ((nar .byte (p0.toInt8.toInt32)) &&& (255 : Int32)))])) rfl rfl (hb hby at_99) _ ?_
      show Steps p.tables e below (T65.setTop (mkF m 100 #[.val (.int p0), .val (.int p1), .val (.int p2), .val (.ref b3), .val (.int (0 : Int32)), .val (.int ((1 : Int32) + ((p2 &&& (2147483647 : Int32)) % (5 : Int32)))), .val (.int ((0 : Int32) + ((1 : Int32) + ((p2 &&& (2147483647 : Int32)) % (5 : Int32))))), .unset] [(.int (nar .byte (((p0.toUInt32 >>> ((24 : Int32) &&& 31).toUInt32).toInt32).toInt8.toInt32))), (.int ((nar .byte (((p0.toUInt32 >>> ((16 : Int32) &&& 31).toUInt32).toInt32).toInt8.toInt32)) &&& (255 : Int32))), (.int ((nar .byte (((p0.toUInt32 >>> ((8 : Int32) &&& 31).toUInt32).toInt32).toInt8.toInt32)) &&& (255 : Int32))), (.int ((nar .byte (p0.toInt8.toInt32)) &&& (255 : Int32)))])) _
      refine XS.sipush X65.here hx rfl (hb hby at_100) ?_
      show Steps p.tables e below (T65.setTop (mkF m 103 #[.val (.int p0), .val (.int p1), .val (.int p2), .val (.ref b3), .val (.int (0 : Int32)), .val (.int ((1 : Int32) + ((p2 &&& (2147483647 : Int32)) % (5 : Int32)))), .val (.int ((0 : Int32) + ((1 : Int32) + ((p2 &&& (2147483647 : Int32)) % (5 : Int32))))), .unset] [(.int (255 : Int32)), (.int (nar .byte (((p0.toUInt32 >>> ((24 : Int32) &&& 31).toUInt32).toInt32).toInt8.toInt32))), (.int ((nar .byte (((p0.toUInt32 >>> ((16 : Int32) &&& 31).toUInt32).toInt32).toInt8.toInt32)) &&& (255 : Int32))), (.int ((nar .byte (((p0.toUInt32 >>> ((8 : Int32) &&& 31).toUInt32).toInt32).toInt8.toInt32)) &&& (255 : Int32))), (.int ((nar .byte (p0.toInt8.toInt32)) &&& (255 : Int32)))])) _
      refine XS.iand X65.here hx rfl (hb hby at_103) rfl ?_
      show Steps p.tables e below (T65.setTop (mkF m 104 #[.val (.int p0), .val (.int p1), .val (.int p2), .val (.ref b3), .val (.int (0 : Int32)), .val (.int ((1 : Int32) + ((p2 &&& (2147483647 : Int32)) % (5 : Int32)))), .val (.int ((0 : Int32) + ((1 : Int32) + ((p2 &&& (2147483647 : Int32)) % (5 : Int32))))), .unset] [(.int ((nar .byte (((p0.toUInt32 >>> ((24 : Int32) &&& 31).toUInt32).toInt32).toInt8.toInt32)) &&& (255 : Int32))), (.int ((nar .byte (((p0.toUInt32 >>> ((16 : Int32) &&& 31).toUInt32).toInt32).toInt8.toInt32)) &&& (255 : Int32))), (.int ((nar .byte (((p0.toUInt32 >>> ((8 : Int32) &&& 31).toUInt32).toInt32).toInt8.toInt32)) &&& (255 : Int32))), (.int ((nar .byte (p0.toInt8.toInt32)) &&& (255 : Int32)))])) _
      refine XS.iload X65.here hx rfl (hb hby at_104) rfl ?_
      show Steps p.tables e below (T65.setTop (mkF m 106 #[.val (.int p0), .val (.int p1), .val (.int p2), .val (.ref b3), .val (.int (0 : Int32)), .val (.int ((1 : Int32) + ((p2 &&& (2147483647 : Int32)) % (5 : Int32)))), .val (.int ((0 : Int32) + ((1 : Int32) + ((p2 &&& (2147483647 : Int32)) % (5 : Int32))))), .unset] [(.int ((1 : Int32) + ((p2 &&& (2147483647 : Int32)) % (5 : Int32)))), (.int ((nar .byte (((p0.toUInt32 >>> ((24 : Int32) &&& 31).toUInt32).toInt32).toInt8.toInt32)) &&& (255 : Int32))), (.int ((nar .byte (((p0.toUInt32 >>> ((16 : Int32) &&& 31).toUInt32).toInt32).toInt8.toInt32)) &&& (255 : Int32))), (.int ((nar .byte (((p0.toUInt32 >>> ((8 : Int32) &&& 31).toUInt32).toInt32).toInt8.toInt32)) &&& (255 : Int32))), (.int ((nar .byte (p0.toInt8.toInt32)) &&& (255 : Int32)))])) _
      refine st125 _ ?_
      show Steps p.tables e below (T125.setTop (mkF m 109 #[.val (.int p0), .val (.int p1), .val (.int p2), .val (.ref b3), .val (.int (0 : Int32)), .val (.int ((1 : Int32) + ((p2 &&& (2147483647 : Int32)) % (5 : Int32)))), .val (.int ((0 : Int32) + ((1 : Int32) + ((p2 &&& (2147483647 : Int32)) % (5 : Int32))))), .unset] [(.int (own_ref_f ((nar .byte (p0.toInt8.toInt32)) &&& (255 : Int32)) ((nar .byte (((p0.toUInt32 >>> ((8 : Int32) &&& 31).toUInt32).toInt32).toInt8.toInt32)) &&& (255 : Int32)) ((nar .byte (((p0.toUInt32 >>> ((16 : Int32) &&& 31).toUInt32).toInt32).toInt8.toInt32)) &&& (255 : Int32)) ((nar .byte (((p0.toUInt32 >>> ((24 : Int32) &&& 31).toUInt32).toInt32).toInt8.toInt32)) &&& (255 : Int32)) ((1 : Int32) + ((p2 &&& (2147483647 : Int32)) % (5 : Int32)))))])) _
      refine XS.istore X125.here hx rfl (hb hby at_109) rfl (l' := #[.val (.int p0), .val (.int p1), .val (.int p2), .val (.ref b3), .val (.int (0 : Int32)), .val (.int ((1 : Int32) + ((p2 &&& (2147483647 : Int32)) % (5 : Int32)))), .val (.int ((0 : Int32) + ((1 : Int32) + ((p2 &&& (2147483647 : Int32)) % (5 : Int32))))), .val (.int (own_ref_f ((nar .byte (p0.toInt8.toInt32)) &&& (255 : Int32)) ((nar .byte (((p0.toUInt32 >>> ((8 : Int32) &&& 31).toUInt32).toInt32).toInt8.toInt32)) &&& (255 : Int32)) ((nar .byte (((p0.toUInt32 >>> ((16 : Int32) &&& 31).toUInt32).toInt32).toInt8.toInt32)) &&& (255 : Int32)) ((nar .byte (((p0.toUInt32 >>> ((24 : Int32) &&& 31).toUInt32).toInt32).toInt8.toInt32)) &&& (255 : Int32)) ((1 : Int32) + ((p2 &&& (2147483647 : Int32)) % (5 : Int32)))))]) rfl ?_
      show Steps p.tables e below (T125.setTop (mkF m 111 #[.val (.int p0), .val (.int p1), .val (.int p2), .val (.ref b3), .val (.int (0 : Int32)), .val (.int ((1 : Int32) + ((p2 &&& (2147483647 : Int32)) % (5 : Int32)))), .val (.int ((0 : Int32) + ((1 : Int32) + ((p2 &&& (2147483647 : Int32)) % (5 : Int32))))), .val (.int (own_ref_f ((nar .byte (p0.toInt8.toInt32)) &&& (255 : Int32)) ((nar .byte (((p0.toUInt32 >>> ((8 : Int32) &&& 31).toUInt32).toInt32).toInt8.toInt32)) &&& (255 : Int32)) ((nar .byte (((p0.toUInt32 >>> ((16 : Int32) &&& 31).toUInt32).toInt32).toInt8.toInt32)) &&& (255 : Int32)) ((nar .byte (((p0.toUInt32 >>> ((24 : Int32) &&& 31).toUInt32).toInt32).toInt8.toInt32)) &&& (255 : Int32)) ((1 : Int32) + ((p2 &&& (2147483647 : Int32)) % (5 : Int32)))))] [])) _
      refine XS.aloadN X125.here hx rfl (hb hby at_111) rfl rfl ?_
      show Steps p.tables e below (T125.setTop (mkF m 112 #[.val (.int p0), .val (.int p1), .val (.int p2), .val (.ref b3), .val (.int (0 : Int32)), .val (.int ((1 : Int32) + ((p2 &&& (2147483647 : Int32)) % (5 : Int32)))), .val (.int ((0 : Int32) + ((1 : Int32) + ((p2 &&& (2147483647 : Int32)) % (5 : Int32))))), .val (.int (own_ref_f ((nar .byte (p0.toInt8.toInt32)) &&& (255 : Int32)) ((nar .byte (((p0.toUInt32 >>> ((8 : Int32) &&& 31).toUInt32).toInt32).toInt8.toInt32)) &&& (255 : Int32)) ((nar .byte (((p0.toUInt32 >>> ((16 : Int32) &&& 31).toUInt32).toInt32).toInt8.toInt32)) &&& (255 : Int32)) ((nar .byte (((p0.toUInt32 >>> ((24 : Int32) &&& 31).toUInt32).toInt32).toInt8.toInt32)) &&& (255 : Int32)) ((1 : Int32) + ((p2 &&& (2147483647 : Int32)) % (5 : Int32)))))] [(.ref b3)])) _
      refine XS.iload X125.here hx rfl (hb hby at_112) rfl ?_
      show Steps p.tables e below (T125.setTop (mkF m 114 #[.val (.int p0), .val (.int p1), .val (.int p2), .val (.ref b3), .val (.int (0 : Int32)), .val (.int ((1 : Int32) + ((p2 &&& (2147483647 : Int32)) % (5 : Int32)))), .val (.int ((0 : Int32) + ((1 : Int32) + ((p2 &&& (2147483647 : Int32)) % (5 : Int32))))), .val (.int (own_ref_f ((nar .byte (p0.toInt8.toInt32)) &&& (255 : Int32)) ((nar .byte (((p0.toUInt32 >>> ((8 : Int32) &&& 31).toUInt32).toInt32).toInt8.toInt32)) &&& (255 : Int32)) ((nar .byte (((p0.toUInt32 >>> ((16 : Int32) &&& 31).toUInt32).toInt32).toInt8.toInt32)) &&& (255 : Int32)) ((nar .byte (((p0.toUInt32 >>> ((24 : Int32) &&& 31).toUInt32).toInt32).toInt8.toInt32)) &&& (255 : Int32)) ((1 : Int32) + ((p2 &&& (2147483647 : Int32)) % (5 : Int32)))))] [(.int (0 : Int32)), (.ref b3)])) _
      refine XS.iload X125.here hx rfl (hb hby at_114) rfl ?_
      show Steps p.tables e below (T125.setTop (mkF m 116 #[.val (.int p0), .val (.int p1), .val (.int p2), .val (.ref b3), .val (.int (0 : Int32)), .val (.int ((1 : Int32) + ((p2 &&& (2147483647 : Int32)) % (5 : Int32)))), .val (.int ((0 : Int32) + ((1 : Int32) + ((p2 &&& (2147483647 : Int32)) % (5 : Int32))))), .val (.int (own_ref_f ((nar .byte (p0.toInt8.toInt32)) &&& (255 : Int32)) ((nar .byte (((p0.toUInt32 >>> ((8 : Int32) &&& 31).toUInt32).toInt32).toInt8.toInt32)) &&& (255 : Int32)) ((nar .byte (((p0.toUInt32 >>> ((16 : Int32) &&& 31).toUInt32).toInt32).toInt8.toInt32)) &&& (255 : Int32)) ((nar .byte (((p0.toUInt32 >>> ((24 : Int32) &&& 31).toUInt32).toInt32).toInt8.toInt32)) &&& (255 : Int32)) ((1 : Int32) + ((p2 &&& (2147483647 : Int32)) % (5 : Int32)))))] [(.int ((0 : Int32) + ((1 : Int32) + ((p2 &&& (2147483647 : Int32)) % (5 : Int32))))), (.int (0 : Int32)), (.ref b3)])) _
      refine st132 _ ?_
      show Steps p.tables e below (T132.setTop (mkF m 119 #[.val (.int p0), .val (.int p1), .val (.int p2), .val (.ref b3), .val (.int (0 : Int32)), .val (.int ((1 : Int32) + ((p2 &&& (2147483647 : Int32)) % (5 : Int32)))), .val (.int ((0 : Int32) + ((1 : Int32) + ((p2 &&& (2147483647 : Int32)) % (5 : Int32))))), .val (.int (own_ref_f ((nar .byte (p0.toInt8.toInt32)) &&& (255 : Int32)) ((nar .byte (((p0.toUInt32 >>> ((8 : Int32) &&& 31).toUInt32).toInt32).toInt8.toInt32)) &&& (255 : Int32)) ((nar .byte (((p0.toUInt32 >>> ((16 : Int32) &&& 31).toUInt32).toInt32).toInt8.toInt32)) &&& (255 : Int32)) ((nar .byte (((p0.toUInt32 >>> ((24 : Int32) &&& 31).toUInt32).toInt32).toInt8.toInt32)) &&& (255 : Int32)) ((1 : Int32) + ((p2 &&& (2147483647 : Int32)) % (5 : Int32)))))] [(.int (own_u_f (nar .byte (p0.toInt8.toInt32)) (nar .byte (((p0.toUInt32 >>> ((8 : Int32) &&& 31).toUInt32).toInt32).toInt8.toInt32)) (nar .byte (((p0.toUInt32 >>> ((16 : Int32) &&& 31).toUInt32).toInt32).toInt8.toInt32)) (nar .byte (((p0.toUInt32 >>> ((24 : Int32) &&& 31).toUInt32).toInt32).toInt8.toInt32)) ((1 : Int32) + ((p2 &&& (2147483647 : Int32)) % (5 : Int32)))))])) _
      refine XS.iload X132.here hx rfl (hb hby at_119) rfl ?_
      show Steps p.tables e below (T132.setTop (mkF m 121 #[.val (.int p0), .val (.int p1), .val (.int p2), .val (.ref b3), .val (.int (0 : Int32)), .val (.int ((1 : Int32) + ((p2 &&& (2147483647 : Int32)) % (5 : Int32)))), .val (.int ((0 : Int32) + ((1 : Int32) + ((p2 &&& (2147483647 : Int32)) % (5 : Int32))))), .val (.int (own_ref_f ((nar .byte (p0.toInt8.toInt32)) &&& (255 : Int32)) ((nar .byte (((p0.toUInt32 >>> ((8 : Int32) &&& 31).toUInt32).toInt32).toInt8.toInt32)) &&& (255 : Int32)) ((nar .byte (((p0.toUInt32 >>> ((16 : Int32) &&& 31).toUInt32).toInt32).toInt8.toInt32)) &&& (255 : Int32)) ((nar .byte (((p0.toUInt32 >>> ((24 : Int32) &&& 31).toUInt32).toInt32).toInt8.toInt32)) &&& (255 : Int32)) ((1 : Int32) + ((p2 &&& (2147483647 : Int32)) % (5 : Int32)))))] [(.int (own_ref_f ((nar .byte (p0.toInt8.toInt32)) &&& (255 : Int32)) ((nar .byte (((p0.toUInt32 >>> ((8 : Int32) &&& 31).toUInt32).toInt32).toInt8.toInt32)) &&& (255 : Int32)) ((nar .byte (((p0.toUInt32 >>> ((16 : Int32) &&& 31).toUInt32).toInt32).toInt8.toInt32)) &&& (255 : Int32)) ((nar .byte (((p0.toUInt32 >>> ((24 : Int32) &&& 31).toUInt32).toInt32).toInt8.toInt32)) &&& (255 : Int32)) ((1 : Int32) + ((p2 &&& (2147483647 : Int32)) % (5 : Int32))))), (.int (own_u_f (nar .byte (p0.toInt8.toInt32)) (nar .byte (((p0.toUInt32 >>> ((8 : Int32) &&& 31).toUInt32).toInt32).toInt8.toInt32)) (nar .byte (((p0.toUInt32 >>> ((16 : Int32) &&& 31).toUInt32).toInt32).toInt8.toInt32)) (nar .byte (((p0.toUInt32 >>> ((24 : Int32) &&& 31).toUInt32).toInt32).toInt8.toInt32)) ((1 : Int32) + ((p2 &&& (2147483647 : Int32)) % (5 : Int32)))))])) _
      refine XS.icmpNo X132.here hx rfl (hb hby at_121) rfl (teq (own_main _ _ _ _ _ (own_av5 _) : (own_u_f (nar .byte (p0.toInt8.toInt32)) (nar .byte (((p0.toUInt32 >>> ((8 : Int32) &&& 31).toUInt32).toInt32).toInt8.toInt32)) (nar .byte (((p0.toUInt32 >>> ((16 : Int32) &&& 31).toUInt32).toInt32).toInt8.toInt32)) (nar .byte (((p0.toUInt32 >>> ((24 : Int32) &&& 31).toUInt32).toInt32).toInt8.toInt32)) ((1 : Int32) + ((p2 &&& (2147483647 : Int32)) % (5 : Int32)))) = (own_ref_f ((nar .byte (p0.toInt8.toInt32)) &&& (255 : Int32)) ((nar .byte (((p0.toUInt32 >>> ((8 : Int32) &&& 31).toUInt32).toInt32).toInt8.toInt32)) &&& (255 : Int32)) ((nar .byte (((p0.toUInt32 >>> ((16 : Int32) &&& 31).toUInt32).toInt32).toInt8.toInt32)) &&& (255 : Int32)) ((nar .byte (((p0.toUInt32 >>> ((24 : Int32) &&& 31).toUInt32).toInt32).toInt8.toInt32)) &&& (255 : Int32)) ((1 : Int32) + ((p2 &&& (2147483647 : Int32)) % (5 : Int32)))))).2 ?_
      show Steps p.tables e below (T132.setTop (mkF m 124 #[.val (.int p0), .val (.int p1), .val (.int p2), .val (.ref b3), .val (.int (0 : Int32)), .val (.int ((1 : Int32) + ((p2 &&& (2147483647 : Int32)) % (5 : Int32)))), .val (.int ((0 : Int32) + ((1 : Int32) + ((p2 &&& (2147483647 : Int32)) % (5 : Int32))))), .val (.int (own_ref_f ((nar .byte (p0.toInt8.toInt32)) &&& (255 : Int32)) ((nar .byte (((p0.toUInt32 >>> ((8 : Int32) &&& 31).toUInt32).toInt32).toInt8.toInt32)) &&& (255 : Int32)) ((nar .byte (((p0.toUInt32 >>> ((16 : Int32) &&& 31).toUInt32).toInt32).toInt8.toInt32)) &&& (255 : Int32)) ((nar .byte (((p0.toUInt32 >>> ((24 : Int32) &&& 31).toUInt32).toInt32).toInt8.toInt32)) &&& (255 : Int32)) ((1 : Int32) + ((p2 &&& (2147483647 : Int32)) % (5 : Int32)))))] [])) _
      refine XS.iconst X132.here hx rfl (hb hby at_124) ?_
      show Steps p.tables e below (T132.setTop (mkF m 125 #[.val (.int p0), .val (.int p1), .val (.int p2), .val (.ref b3), .val (.int (0 : Int32)), .val (.int ((1 : Int32) + ((p2 &&& (2147483647 : Int32)) % (5 : Int32)))), .val (.int ((0 : Int32) + ((1 : Int32) + ((p2 &&& (2147483647 : Int32)) % (5 : Int32))))), .val (.int (own_ref_f ((nar .byte (p0.toInt8.toInt32)) &&& (255 : Int32)) ((nar .byte (((p0.toUInt32 >>> ((8 : Int32) &&& 31).toUInt32).toInt32).toInt8.toInt32)) &&& (255 : Int32)) ((nar .byte (((p0.toUInt32 >>> ((16 : Int32) &&& 31).toUInt32).toInt32).toInt8.toInt32)) &&& (255 : Int32)) ((nar .byte (((p0.toUInt32 >>> ((24 : Int32) &&& 31).toUInt32).toInt32).toInt8.toInt32)) &&& (255 : Int32)) ((1 : Int32) + ((p2 &&& (2147483647 : Int32)) % (5 : Int32)))))] [(.int (1 : Int32))])) _
      refine XS.goto X132.here hx rfl (pc0 := 125) (pc' := 129) rfl (hb hby at_125) (by decide) (by decide) ?_
      show Steps p.tables e below (T132.setTop (mkF m 129 #[.val (.int p0), .val (.int p1), .val (.int p2), .val (.ref b3), .val (.int (0 : Int32)), .val (.int ((1 : Int32) + ((p2 &&& (2147483647 : Int32)) % (5 : Int32)))), .val (.int ((0 : Int32) + ((1 : Int32) + ((p2 &&& (2147483647 : Int32)) % (5 : Int32))))), .val (.int (own_ref_f ((nar .byte (p0.toInt8.toInt32)) &&& (255 : Int32)) ((nar .byte (((p0.toUInt32 >>> ((8 : Int32) &&& 31).toUInt32).toInt32).toInt8.toInt32)) &&& (255 : Int32)) ((nar .byte (((p0.toUInt32 >>> ((16 : Int32) &&& 31).toUInt32).toInt32).toInt8.toInt32)) &&& (255 : Int32)) ((nar .byte (((p0.toUInt32 >>> ((24 : Int32) &&& 31).toUInt32).toInt32).toInt8.toInt32)) &&& (255 : Int32)) ((1 : Int32) + ((p2 &&& (2147483647 : Int32)) % (5 : Int32)))))] [(.int (1 : Int32))])) _
      exact retN X132 hx (t := .boolean) Bd.returns (by simp) (hb hby at_129) hr
    · show Qown_law Z p0 p1 p2 h0 n0 _ T132.heap _
      rw [eh132]
      exact ⟨rfl, N133⟩
  · obtain ⟨cl157, Ar157, q157, S157, M157, H157, G157⟩ := id Vm66
    have hin157 : ¬ ((1 : Int32) < 0 ∨ cl157.slots.size ≤ ((1 : Int32)).toNatClampNeg) := inb_of S157 ⟨by decide, by decide⟩
    have hat157 : cl157.slots[((1 : Int32)).toNatClampNeg]? = some (.int (nar .byte (((p0.toUInt32 >>> ((8 : Int32) &&& 31).toUInt32).toInt32).toInt8.toInt32))) := H157.at hin157 rfl
    obtain ⟨cl165, Ar165, q165, S165, M165, H165, G165⟩ := id Vm66
    have hin165 : ¬ ((2 : Int32) < 0 ∨ cl165.slots.size ≤ ((2 : Int32)).toNatClampNeg) := inb_of S165 ⟨by decide, by decide⟩
    have hat165 : cl165.slots[((2 : Int32)).toNatClampNeg]? = some (.int (nar .byte (((p0.toUInt32 >>> ((16 : Int32) &&& 31).toUInt32).toInt32).toInt8.toInt32))) := H165.at hin165 rfl
    obtain ⟨cl173, Ar173, q173, S173, M173, H173, G173⟩ := id Vm66
    have hin173 : ¬ ((3 : Int32) < 0 ∨ cl173.slots.size ≤ ((3 : Int32)).toNatClampNeg) := inb_of S173 ⟨by decide, by decide⟩
    have hat173 : cl173.slots[((3 : Int32)).toNatClampNeg]? = some (.int (nar .byte (((p0.toUInt32 >>> ((24 : Int32) &&& 31).toUInt32).toInt32).toInt8.toInt32))) := H173.at hin173 rfl
    obtain ⟨cl181, Ar181, q181, S181, M181, H181, G181⟩ := id Vm66
    have hin181 : ¬ ((4 : Int32) < 0 ∨ cl181.slots.size ≤ ((4 : Int32)).toNatClampNeg) := inb_of S181 ⟨by decide, by decide⟩
    have hat181 : cl181.slots[((4 : Int32)).toNatClampNeg]? = some (.int (nar .byte (p1.toInt8.toInt32))) := H181.at hin181 rfl
    obtain ⟨_, _, ⟨T186, L186, k186, n186⟩, -, X186, ⟨Lc186, hQ186, l186, y186, z186⟩, st186⟩ := Jvm.LawKit.callS X65 hx (y := (⟨"fieldstone/ByteReaderUtf8LengthPinLaw", "reference", "(IIIII)I"⟩ : MethodName)) hown (mvT hZ (hw _ (List.mem_of_getElem? (i := 2) rfl))) (mvT hZ (hw _ (List.mem_of_getElem? (i := 3) rfl))) (mvT hZ (hw _ (List.mem_of_getElem? (i := 4) rfl))) (mvT hZ (hw _ (List.mem_of_getElem? (i := 5) rfl))) (by decide) (backOf (W := 0) (own_ref l Z a0 hw [] ((nar .byte (((p0.toUInt32 >>> ((8 : Int32) &&& 31).toUInt32).toInt32).toInt8.toInt32)) &&& (255 : Int32)) ((nar .byte (((p0.toUInt32 >>> ((16 : Int32) &&& 31).toUInt32).toInt32).toInt8.toInt32)) &&& (255 : Int32)) ((nar .byte (((p0.toUInt32 >>> ((24 : Int32) &&& 31).toUInt32).toInt32).toInt8.toInt32)) &&& (255 : Int32)) ((nar .byte (p1.toInt8.toInt32)) &&& (255 : Int32)) ((1 : Int32) + ((p2 &&& (2147483647 : Int32)) % (4 : Int32))) h65 n0 Zs68 ) hZ (hw _ (List.mem_of_getElem? (i := 5) rfl)) (hw _ (List.mem_of_getElem? (i := 4) rfl)) (by decide) (by decide)) (g := (mkF m 106 #[.val (.int p0), .val (.int p1), .val (.int p2), .val (.ref b3), .val (.int (1 : Int32)), .val (.int ((1 : Int32) + ((p2 &&& (2147483647 : Int32)) % (4 : Int32)))), .val (.int ((1 : Int32) + ((1 : Int32) + ((p2 &&& (2147483647 : Int32)) % (4 : Int32))))), .unset] [(.int ((1 : Int32) + ((p2 &&& (2147483647 : Int32)) % (4 : Int32)))), (.int ((nar .byte (p1.toInt8.toInt32)) &&& (255 : Int32))), (.int ((nar .byte (((p0.toUInt32 >>> ((24 : Int32) &&& 31).toUInt32).toInt32).toInt8.toInt32)) &&& (255 : Int32))), (.int ((nar .byte (((p0.toUInt32 >>> ((16 : Int32) &&& 31).toUInt32).toInt32).toInt8.toInt32)) &&& (255 : Int32))), (.int ((nar .byte (((p0.toUInt32 >>> ((8 : Int32) &&& 31).toUInt32).toInt32).toInt8.toInt32)) &&& (255 : Int32)))])) rfl (by rw [hml]; rfl) (argsL := [(.int ((nar .byte (((p0.toUInt32 >>> ((8 : Int32) &&& 31).toUInt32).toInt32).toInt8.toInt32)) &&& (255 : Int32))), (.int ((nar .byte (((p0.toUInt32 >>> ((16 : Int32) &&& 31).toUInt32).toInt32).toInt8.toInt32)) &&& (255 : Int32))), (.int ((nar .byte (((p0.toUInt32 >>> ((24 : Int32) &&& 31).toUInt32).toInt32).toInt8.toInt32)) &&& (255 : Int32))), (.int ((nar .byte (p1.toInt8.toInt32)) &&& (255 : Int32))), (.int ((1 : Int32) + ((p2 &&& (2147483647 : Int32)) % (4 : Int32))))]) (rest := []) (lenOf own_pd1 rfl) rfl (by show 2 * 0 + _ ≤ _; exact Nat.le_of_eq rfl) (hb hby at_106) (fun _ _ => ⟨rfl, e65, (by decide : 1 + 0 ≤ _), (by decide : 5 + 0 ≤ _)⟩)
    dsimp only [Pt.U, Pt.locs, Pt.cells, Pt.slots] at X186 l186 y186 z186 st186 hQ186
    subst l186 y186 z186
    obtain ⟨rfl, Nq186, eh186⟩ := hQ186
    have N187 := Fr.app N69 Nq186
    obtain ⟨_, _, ⟨T193, L193, k193, n193⟩, -, X193, ⟨Lc193, hQ193, l193, y193, z193⟩, st193⟩ := Jvm.LawKit.callS X186 hx (y := (⟨"fieldstone/ByteReader", "utf8Length", "([BII)I"⟩ : MethodName)) hown (mvT hZ (hw _ (List.mem_of_getElem? (i := 6) rfl))) (mvT hZ (hw _ (List.mem_of_getElem? (i := 7) rfl))) (mvT hZ (hw _ (List.mem_of_getElem? (i := 8) rfl))) (mvT hZ (hw _ (List.mem_of_getElem? (i := 9) rfl))) (by decide) (backOf (W := 0) (own_u l Z a0 hw [] b3 (1 : Int32) ((1 : Int32) + ((1 : Int32) + ((p2 &&& (2147483647 : Int32)) % (4 : Int32)))) ((1 : Int32) + ((p2 &&& (2147483647 : Int32)) % (4 : Int32))) k3 [(.int (nar .byte (p0.toInt8.toInt32))), (.int (nar .byte (((p0.toUInt32 >>> ((8 : Int32) &&& 31).toUInt32).toInt32).toInt8.toInt32))), (.int (nar .byte (((p0.toUInt32 >>> ((16 : Int32) &&& 31).toUInt32).toInt32).toInt8.toInt32))), (.int (nar .byte (((p0.toUInt32 >>> ((24 : Int32) &&& 31).toUInt32).toInt32).toInt8.toInt32))), (.int (nar .byte (p1.toInt8.toInt32)))] (nar .byte (((p0.toUInt32 >>> ((8 : Int32) &&& 31).toUInt32).toInt32).toInt8.toInt32)) (nar .byte (((p0.toUInt32 >>> ((16 : Int32) &&& 31).toUInt32).toInt32).toInt8.toInt32)) (nar .byte (((p0.toUInt32 >>> ((24 : Int32) &&& 31).toUInt32).toInt32).toInt8.toInt32)) (nar .byte (p1.toInt8.toInt32)) h65 n0 Zs68 Vm66 (own_t1 _) (by decide) (by decide) (by decide) (by decide) rfl rfl rfl rfl) hZ (hw _ (List.mem_of_getElem? (i := 9) rfl)) (hw _ (List.mem_of_getElem? (i := 8) rfl)) (by decide) (by decide)) (g := (mkF m 116 #[.val (.int p0), .val (.int p1), .val (.int p2), .val (.ref b3), .val (.int (1 : Int32)), .val (.int ((1 : Int32) + ((p2 &&& (2147483647 : Int32)) % (4 : Int32)))), .val (.int ((1 : Int32) + ((1 : Int32) + ((p2 &&& (2147483647 : Int32)) % (4 : Int32))))), .val (.int (own_ref_f ((nar .byte (((p0.toUInt32 >>> ((8 : Int32) &&& 31).toUInt32).toInt32).toInt8.toInt32)) &&& (255 : Int32)) ((nar .byte (((p0.toUInt32 >>> ((16 : Int32) &&& 31).toUInt32).toInt32).toInt8.toInt32)) &&& (255 : Int32)) ((nar .byte (((p0.toUInt32 >>> ((24 : Int32) &&& 31).toUInt32).toInt32).toInt8.toInt32)) &&& (255 : Int32)) ((nar .byte (p1.toInt8.toInt32)) &&& (255 : Int32)) ((1 : Int32) + ((p2 &&& (2147483647 : Int32)) % (4 : Int32)))))] [(.int ((1 : Int32) + ((1 : Int32) + ((p2 &&& (2147483647 : Int32)) % (4 : Int32))))), (.int (1 : Int32)), (.ref b3)])) rfl (by rw [hml]; rfl) (argsL := [(.ref b3), (.int (1 : Int32)), (.int ((1 : Int32) + ((1 : Int32) + ((p2 &&& (2147483647 : Int32)) % (4 : Int32)))))]) (rest := []) (lenOf own_pd2 rfl) rfl (by show 2 * 0 + _ ≤ _; exact Nat.le_of_eq rfl) (hb hby at_116) (fun _ _ => ⟨rfl, eh186, (by decide : 1 + 0 ≤ _), (by decide : 5 + 0 ≤ _)⟩)
    dsimp only [Pt.U, Pt.locs, Pt.cells, Pt.slots] at X193 l193 y193 z193 st193 hQ193
    subst l193 y193 z193
    obtain ⟨rfl, Nq193, eh193⟩ := hQ193
    have N194 := Fr.app N187 Nq193
    obtain ⟨fs, hr, hrun, hended, hW, hsame⟩ := X193.leave (v := some (.int (1 : Int32))) (fun h => by rw [Bd.returns] at h; cases h) (hlocks := BodyLoose.notSynchronized Bd)
    refine ⟨_, _, pre76 _ ?_, hrun, hended, _, _, rfl, ?_, ⟨_, rfl⟩, hW, hsame.mono (by decide) (by decide)⟩
    · show Steps p.tables e below (T65.setTop (mkF m 44 #[.val (.int p0), .val (.int p1), .val (.int p2), .val (.ref b3), .unset, .unset, .unset, .unset] [(.int (((p1.toUInt32 >>> ((8 : Int32) &&& 31).toUInt32).toInt32) &&& (1 : Int32)))])) _
      rw [hs77]
      show Steps p.tables e below (T65.setTop (mkF m 44 #[.val (.int p0), .val (.int p1), .val (.int p2), .val (.ref b3), .unset, .unset, .unset, .unset] [(.int (1 : Int32))])) _
      refine XS.istore X65.here hx rfl (hb hby at_44) rfl (l' := #[.val (.int p0), .val (.int p1), .val (.int p2), .val (.ref b3), .val (.int (1 : Int32)), .unset, .unset, .unset]) rfl ?_
      show Steps p.tables e below (T65.setTop (mkF m 46 #[.val (.int p0), .val (.int p1), .val (.int p2), .val (.ref b3), .val (.int (1 : Int32)), .unset, .unset, .unset] [])) _
      refine XS.iconst X65.here hx rfl (hb hby at_46) ?_
      show Steps p.tables e below (T65.setTop (mkF m 47 #[.val (.int p0), .val (.int p1), .val (.int p2), .val (.ref b3), .val (.int (1 : Int32)), .unset, .unset, .unset] [(.int (1 : Int32))])) _
      refine XS.iloadN X65.here hx rfl (hb hby at_47) rfl ?_
      show Steps p.tables e below (T65.setTop (mkF m 48 #[.val (.int p0), .val (.int p1), .val (.int p2), .val (.ref b3), .val (.int (1 : Int32)), .unset, .unset, .unset] [(.int p2), (.int (1 : Int32))])) _
      refine X65.ldcInt hx hown (mvT hZ (hw _ (List.mem_of_getElem? (i := 1) rfl))) (g := (mkF m 48 #[.val (.int p0), .val (.int p1), .val (.int p2), .val (.ref b3), .val (.int (1 : Int32)), .unset, .unset, .unset] [(.int p2), (.int (1 : Int32))])) rfl (hb hby at_48) _ ?_
      show Steps p.tables e below (T65.setTop (mkF m 50 #[.val (.int p0), .val (.int p1), .val (.int p2), .val (.ref b3), .val (.int (1 : Int32)), .unset, .unset, .unset] [(.int (2147483647 : Int32)), (.int p2), (.int (1 : Int32))])) _
      refine XS.iand X65.here hx rfl (hb hby at_50) rfl ?_
      show Steps p.tables e below (T65.setTop (mkF m 51 #[.val (.int p0), .val (.int p1), .val (.int p2), .val (.ref b3), .val (.int (1 : Int32)), .unset, .unset, .unset] [(.int (p2 &&& (2147483647 : Int32))), (.int (1 : Int32))])) _
      refine XS.iconst X65.here hx rfl (hb hby at_51) ?_
      show Steps p.tables e below (T65.setTop (mkF m 52 #[.val (.int p0), .val (.int p1), .val (.int p2), .val (.ref b3), .val (.int (1 : Int32)), .unset, .unset, .unset] [(.int (5 : Int32)), (.int (p2 &&& (2147483647 : Int32))), (.int (1 : Int32))])) _
      refine XS.iload X65.here hx rfl (hb hby at_52) rfl ?_
      show Steps p.tables e below (T65.setTop (mkF m 54 #[.val (.int p0), .val (.int p1), .val (.int p2), .val (.ref b3), .val (.int (1 : Int32)), .unset, .unset, .unset] [(.int (1 : Int32)), (.int (5 : Int32)), (.int (p2 &&& (2147483647 : Int32))), (.int (1 : Int32))])) _
      refine XS.isub X65.here hx rfl (hb hby at_54) rfl ?_
      show Steps p.tables e below (T65.setTop (mkF m 55 #[.val (.int p0), .val (.int p1), .val (.int p2), .val (.ref b3), .val (.int (1 : Int32)), .unset, .unset, .unset] [(.int (4 : Int32)), (.int (p2 &&& (2147483647 : Int32))), (.int (1 : Int32))])) _
      refine iremM X65 hx rfl (hb hby at_55) rfl (by decide) ?_
      show Steps p.tables e below (T65.setTop (mkF m 56 #[.val (.int p0), .val (.int p1), .val (.int p2), .val (.ref b3), .val (.int (1 : Int32)), .unset, .unset, .unset] [(.int ((p2 &&& (2147483647 : Int32)) % (4 : Int32))), (.int (1 : Int32))])) _
      refine XS.iadd X65.here hx rfl (hb hby at_56) rfl ?_
      show Steps p.tables e below (T65.setTop (mkF m 57 #[.val (.int p0), .val (.int p1), .val (.int p2), .val (.ref b3), .val (.int (1 : Int32)), .unset, .unset, .unset] [(.int ((1 : Int32) + ((p2 &&& (2147483647 : Int32)) % (4 : Int32))))])) _
      refine XS.istore X65.here hx rfl (hb hby at_57) rfl (l' := #[.val (.int p0), .val (.int p1), .val (.int p2), .val (.ref b3), .val (.int (1 : Int32)), .val (.int ((1 : Int32) + ((p2 &&& (2147483647 : Int32)) % (4 : Int32)))), .unset, .unset]) rfl ?_
      show Steps p.tables e below (T65.setTop (mkF m 59 #[.val (.int p0), .val (.int p1), .val (.int p2), .val (.ref b3), .val (.int (1 : Int32)), .val (.int ((1 : Int32) + ((p2 &&& (2147483647 : Int32)) % (4 : Int32)))), .unset, .unset] [])) _
      refine XS.iload X65.here hx rfl (hb hby at_59) rfl ?_
      show Steps p.tables e below (T65.setTop (mkF m 61 #[.val (.int p0), .val (.int p1), .val (.int p2), .val (.ref b3), .val (.int (1 : Int32)), .val (.int ((1 : Int32) + ((p2 &&& (2147483647 : Int32)) % (4 : Int32)))), .unset, .unset] [(.int (1 : Int32))])) _
      refine XS.iload X65.here hx rfl (hb hby at_61) rfl ?_
      show Steps p.tables e below (T65.setTop (mkF m 63 #[.val (.int p0), .val (.int p1), .val (.int p2), .val (.ref b3), .val (.int (1 : Int32)), .val (.int ((1 : Int32) + ((p2 &&& (2147483647 : Int32)) % (4 : Int32)))), .unset, .unset] [(.int ((1 : Int32) + ((p2 &&& (2147483647 : Int32)) % (4 : Int32)))), (.int (1 : Int32))])) _
      refine XS.iadd X65.here hx rfl (hb hby at_63) rfl ?_
      show Steps p.tables e below (T65.setTop (mkF m 64 #[.val (.int p0), .val (.int p1), .val (.int p2), .val (.ref b3), .val (.int (1 : Int32)), .val (.int ((1 : Int32) + ((p2 &&& (2147483647 : Int32)) % (4 : Int32)))), .unset, .unset] [(.int ((1 : Int32) + ((1 : Int32) + ((p2 &&& (2147483647 : Int32)) % (4 : Int32)))))])) _
      refine XS.istore X65.here hx rfl (hb hby at_64) rfl (l' := #[.val (.int p0), .val (.int p1), .val (.int p2), .val (.ref b3), .val (.int (1 : Int32)), .val (.int ((1 : Int32) + ((p2 &&& (2147483647 : Int32)) % (4 : Int32)))), .val (.int ((1 : Int32) + ((1 : Int32) + ((p2 &&& (2147483647 : Int32)) % (4 : Int32))))), .unset]) rfl ?_
      show Steps p.tables e below (T65.setTop (mkF m 66 #[.val (.int p0), .val (.int p1), .val (.int p2), .val (.ref b3), .val (.int (1 : Int32)), .val (.int ((1 : Int32) + ((p2 &&& (2147483647 : Int32)) % (4 : Int32)))), .val (.int ((1 : Int32) + ((1 : Int32) + ((p2 &&& (2147483647 : Int32)) % (4 : Int32))))), .unset] [])) _
      refine XS.aloadN X65.here hx rfl (hb hby at_66) rfl rfl ?_
      show Steps p.tables e below (T65.setTop (mkF m 67 #[.val (.int p0), .val (.int p1), .val (.int p2), .val (.ref b3), .val (.int (1 : Int32)), .val (.int ((1 : Int32) + ((p2 &&& (2147483647 : Int32)) % (4 : Int32)))), .val (.int ((1 : Int32) + ((1 : Int32) + ((p2 &&& (2147483647 : Int32)) % (4 : Int32))))), .unset] [(.ref b3)])) _
      refine XS.iload X65.here hx rfl (hb hby at_67) rfl ?_
      show Steps p.tables e below (T65.setTop (mkF m 69 #[.val (.int p0), .val (.int p1), .val (.int p2), .val (.ref b3), .val (.int (1 : Int32)), .val (.int ((1 : Int32) + ((p2 &&& (2147483647 : Int32)) % (4 : Int32)))), .val (.int ((1 : Int32) + ((1 : Int32) + ((p2 &&& (2147483647 : Int32)) % (4 : Int32))))), .unset] [(.int (1 : Int32)), (.ref b3)])) _
      refine X65.baloadBytes hx (j := (1 : Int32)) (v := (.int (nar .byte (((p0.toUInt32 >>> ((8 : Int32) &&& 31).toUInt32).toInt32).toInt8.toInt32)))) (by rw [e65]; exact Ar157.1) (State.isArrayOf_alike hZ.alike Ar157.2.1) Ar157.2.2 hin157 hat157 (g := (mkF m 69 #[.val (.int p0), .val (.int p1), .val (.int p2), .val (.ref b3), .val (.int (1 : Int32)), .val (.int ((1 : Int32) + ((p2 &&& (2147483647 : Int32)) % (4 : Int32)))), .val (.int ((1 : Int32) + ((1 : Int32) + ((p2 &&& (2147483647 : Int32)) % (4 : Int32))))), .unset] [(.int (1 : Int32)), (.ref b3)])) rfl rfl (hb hby at_69) _ ?_
      show Steps p.tables e below (T65.setTop (mkF m 70 #[.val (.int p0), .val (.int p1), .val (.int p2), .val (.ref b3), .val (.int (1 : Int32)), .val (.int ((1 : Int32) + ((p2 &&& (2147483647 : Int32)) % (4 : Int32)))), .val (.int ((1 : Int32) + ((1 : Int32) + ((p2 &&& (2147483647 : Int32)) % (4 : Int32))))), .unset] [(.int (nar .byte (((p0.toUInt32 >>> ((8 : Int32) &&& 31).toUInt32).toInt32).toInt8.toInt32)))])) _
      refine XS.sipush X65.here hx rfl (hb hby at_70) ?_
      show Steps p.tables e below (T65.setTop (mkF m 73 #[.val (.int p0), .val (.int p1), .val (.int p2), .val (.ref b3), .val (.int (1 : Int32)), .val (.int ((1 : Int32) + ((p2 &&& (2147483647 : Int32)) % (4 : Int32)))), .val (.int ((1 : Int32) + ((1 : Int32) + ((p2 &&& (2147483647 : Int32)) % (4 : Int32))))), .unset] [(.int (255 : Int32)), (.int (nar .byte (((p0.toUInt32 >>> ((8 : Int32) &&& 31).toUInt32).toInt32).toInt8.toInt32)))])) _
      refine XS.iand X65.here hx rfl (hb hby at_73) rfl ?_
      show Steps p.tables e below (T65.setTop (mkF m 74 #[.val (.int p0), .val (.int p1), .val (.int p2), .val (.ref b3), .val (.int (1 : Int32)), .val (.int ((1 : Int32) + ((p2 &&& (2147483647 : Int32)) % (4 : Int32)))), .val (.int ((1 : Int32) + ((1 : Int32) + ((p2 &&& (2147483647 : Int32)) % (4 : Int32))))), .unset] [(.int ((nar .byte (((p0.toUInt32 >>> ((8 : Int32) &&& 31).toUInt32).toInt32).toInt8.toInt32)) &&& (255 : Int32)))])) _
      refine XS.aloadN X65.here hx rfl (hb hby at_74) rfl rfl ?_
      show Steps p.tables e below (T65.setTop (mkF m 75 #[.val (.int p0), .val (.int p1), .val (.int p2), .val (.ref b3), .val (.int (1 : Int32)), .val (.int ((1 : Int32) + ((p2 &&& (2147483647 : Int32)) % (4 : Int32)))), .val (.int ((1 : Int32) + ((1 : Int32) + ((p2 &&& (2147483647 : Int32)) % (4 : Int32))))), .unset] [(.ref b3), (.int ((nar .byte (((p0.toUInt32 >>> ((8 : Int32) &&& 31).toUInt32).toInt32).toInt8.toInt32)) &&& (255 : Int32)))])) _
      refine XS.iload X65.here hx rfl (hb hby at_75) rfl ?_
      show Steps p.tables e below (T65.setTop (mkF m 77 #[.val (.int p0), .val (.int p1), .val (.int p2), .val (.ref b3), .val (.int (1 : Int32)), .val (.int ((1 : Int32) + ((p2 &&& (2147483647 : Int32)) % (4 : Int32)))), .val (.int ((1 : Int32) + ((1 : Int32) + ((p2 &&& (2147483647 : Int32)) % (4 : Int32))))), .unset] [(.int (1 : Int32)), (.ref b3), (.int ((nar .byte (((p0.toUInt32 >>> ((8 : Int32) &&& 31).toUInt32).toInt32).toInt8.toInt32)) &&& (255 : Int32)))])) _
      refine XS.iconst X65.here hx rfl (hb hby at_77) ?_
      show Steps p.tables e below (T65.setTop (mkF m 78 #[.val (.int p0), .val (.int p1), .val (.int p2), .val (.ref b3), .val (.int (1 : Int32)), .val (.int ((1 : Int32) + ((p2 &&& (2147483647 : Int32)) % (4 : Int32)))), .val (.int ((1 : Int32) + ((1 : Int32) + ((p2 &&& (2147483647 : Int32)) % (4 : Int32))))), .unset] [(.int (1 : Int32)), (.int (1 : Int32)), (.ref b3), (.int ((nar .byte (((p0.toUInt32 >>> ((8 : Int32) &&& 31).toUInt32).toInt32).toInt8.toInt32)) &&& (255 : Int32)))])) _
      refine XS.iadd X65.here hx rfl (hb hby at_78) rfl ?_
      show Steps p.tables e below (T65.setTop (mkF m 79 #[.val (.int p0), .val (.int p1), .val (.int p2), .val (.ref b3), .val (.int (1 : Int32)), .val (.int ((1 : Int32) + ((p2 &&& (2147483647 : Int32)) % (4 : Int32)))), .val (.int ((1 : Int32) + ((1 : Int32) + ((p2 &&& (2147483647 : Int32)) % (4 : Int32))))), .unset] [(.int (2 : Int32)), (.ref b3), (.int ((nar .byte (((p0.toUInt32 >>> ((8 : Int32) &&& 31).toUInt32).toInt32).toInt8.toInt32)) &&& (255 : Int32)))])) _
      refine X65.baloadBytes hx (j := (2 : Int32)) (v := (.int (nar .byte (((p0.toUInt32 >>> ((16 : Int32) &&& 31).toUInt32).toInt32).toInt8.toInt32)))) (by rw [e65]; exact Ar165.1) (State.isArrayOf_alike hZ.alike Ar165.2.1) Ar165.2.2 hin165 hat165 (g := (mkF m 79 #[.val (.int p0), .val (.int p1), .val (.int p2), .val (.ref b3), .val (.int (1 : Int32)), .val (.int ((1 : Int32) + ((p2 &&& (2147483647 : Int32)) % (4 : Int32)))), .val (.int ((1 : Int32) + ((1 : Int32) + ((p2 &&& (2147483647 : Int32)) % (4 : Int32))))), .unset] [(.int (2 : Int32)), (.ref b3), (.int ((nar .byte (((p0.toUInt32 >>> ((8 : Int32) &&& 31).toUInt32).toInt32).toInt8.toInt32)) &&& (255 : Int32)))])) rfl rfl (hb hby at_79) _ ?_
      show Steps p.tables e below (T65.setTop (mkF m 80 #[.val (.int p0), .val (.int p1), .val (.int p2), .val (.ref b3), .val (.int (1 : Int32)), .val (.int ((1 : Int32) + ((p2 &&& (2147483647 : Int32)) % (4 : Int32)))), .val (.int ((1 : Int32) + ((1 : Int32) + ((p2 &&& (2147483647 : Int32)) % (4 : Int32))))), .unset] [(.int (nar .byte (((p0.toUInt32 >>> ((16 : Int32) &&& 31).toUInt32).toInt32).toInt8.toInt32))), (.int ((nar .byte (((p0.toUInt32 >>> ((8 : Int32) &&& 31).toUInt32).toInt32).toInt8.toInt32)) &&& (255 : Int32)))])) _
      refine XS.sipush X65.here hx rfl (hb hby at_80) ?_
      show Steps p.tables e below (T65.setTop (mkF m 83 #[.val (.int p0), .val (.int p1), .val (.int p2), .val (.ref b3), .val (.int (1 : Int32)), .val (.int ((1 : Int32) + ((p2 &&& (2147483647 : Int32)) % (4 : Int32)))), .val (.int ((1 : Int32) + ((1 : Int32) + ((p2 &&& (2147483647 : Int32)) % (4 : Int32))))), .unset] [(.int (255 : Int32)), (.int (nar .byte (((p0.toUInt32 >>> ((16 : Int32) &&& 31).toUInt32).toInt32).toInt8.toInt32))), (.int ((nar .byte (((p0.toUInt32 >>> ((8 : Int32) &&& 31).toUInt32).toInt32).toInt8.toInt32)) &&& (255 : Int32)))])) _
      refine XS.iand X65.here hx rfl (hb hby at_83) rfl ?_
      show Steps p.tables e below (T65.setTop (mkF m 84 #[.val (.int p0), .val (.int p1), .val (.int p2), .val (.ref b3), .val (.int (1 : Int32)), .val (.int ((1 : Int32) + ((p2 &&& (2147483647 : Int32)) % (4 : Int32)))), .val (.int ((1 : Int32) + ((1 : Int32) + ((p2 &&& (2147483647 : Int32)) % (4 : Int32))))), .unset] [(.int ((nar .byte (((p0.toUInt32 >>> ((16 : Int32) &&& 31).toUInt32).toInt32).toInt8.toInt32)) &&& (255 : Int32))), (.int ((nar .byte (((p0.toUInt32 >>> ((8 : Int32) &&& 31).toUInt32).toInt32).toInt8.toInt32)) &&& (255 : Int32)))])) _
      refine XS.aloadN X65.here hx rfl (hb hby at_84) rfl rfl ?_
      show Steps p.tables e below (T65.setTop (mkF m 85 #[.val (.int p0), .val (.int p1), .val (.int p2), .val (.ref b3), .val (.int (1 : Int32)), .val (.int ((1 : Int32) + ((p2 &&& (2147483647 : Int32)) % (4 : Int32)))), .val (.int ((1 : Int32) + ((1 : Int32) + ((p2 &&& (2147483647 : Int32)) % (4 : Int32))))), .unset] [(.ref b3), (.int ((nar .byte (((p0.toUInt32 >>> ((16 : Int32) &&& 31).toUInt32).toInt32).toInt8.toInt32)) &&& (255 : Int32))), (.int ((nar .byte (((p0.toUInt32 >>> ((8 : Int32) &&& 31).toUInt32).toInt32).toInt8.toInt32)) &&& (255 : Int32)))])) _
      refine XS.iload X65.here hx rfl (hb hby at_85) rfl ?_
      show Steps p.tables e below (T65.setTop (mkF m 87 #[.val (.int p0), .val (.int p1), .val (.int p2), .val (.ref b3), .val (.int (1 : Int32)), .val (.int ((1 : Int32) + ((p2 &&& (2147483647 : Int32)) % (4 : Int32)))), .val (.int ((1 : Int32) + ((1 : Int32) + ((p2 &&& (2147483647 : Int32)) % (4 : Int32))))), .unset] [(.int (1 : Int32)), (.ref b3), (.int ((nar .byte (((p0.toUInt32 >>> ((16 : Int32) &&& 31).toUInt32).toInt32).toInt8.toInt32)) &&& (255 : Int32))), (.int ((nar .byte (((p0.toUInt32 >>> ((8 : Int32) &&& 31).toUInt32).toInt32).toInt8.toInt32)) &&& (255 : Int32)))])) _
      refine XS.iconst X65.here hx rfl (hb hby at_87) ?_
      show Steps p.tables e below (T65.setTop (mkF m 88 #[.val (.int p0), .val (.int p1), .val (.int p2), .val (.ref b3), .val (.int (1 : Int32)), .val (.int ((1 : Int32) + ((p2 &&& (2147483647 : Int32)) % (4 : Int32)))), .val (.int ((1 : Int32) + ((1 : Int32) + ((p2 &&& (2147483647 : Int32)) % (4 : Int32))))), .unset] [(.int (2 : Int32)), (.int (1 : Int32)), (.ref b3), (.int ((nar .byte (((p0.toUInt32 >>> ((16 : Int32) &&& 31).toUInt32).toInt32).toInt8.toInt32)) &&& (255 : Int32))), (.int ((nar .byte (((p0.toUInt32 >>> ((8 : Int32) &&& 31).toUInt32).toInt32).toInt8.toInt32)) &&& (255 : Int32)))])) _
      refine XS.iadd X65.here hx rfl (hb hby at_88) rfl ?_
      show Steps p.tables e below (T65.setTop (mkF m 89 #[.val (.int p0), .val (.int p1), .val (.int p2), .val (.ref b3), .val (.int (1 : Int32)), .val (.int ((1 : Int32) + ((p2 &&& (2147483647 : Int32)) % (4 : Int32)))), .val (.int ((1 : Int32) + ((1 : Int32) + ((p2 &&& (2147483647 : Int32)) % (4 : Int32))))), .unset] [(.int (3 : Int32)), (.ref b3), (.int ((nar .byte (((p0.toUInt32 >>> ((16 : Int32) &&& 31).toUInt32).toInt32).toInt8.toInt32)) &&& (255 : Int32))), (.int ((nar .byte (((p0.toUInt32 >>> ((8 : Int32) &&& 31).toUInt32).toInt32).toInt8.toInt32)) &&& (255 : Int32)))])) _
      refine X65.baloadBytes hx (j := (3 : Int32)) (v := (.int (nar .byte (((p0.toUInt32 >>> ((24 : Int32) &&& 31).toUInt32).toInt32).toInt8.toInt32)))) (by rw [e65]; exact Ar173.1) (State.isArrayOf_alike hZ.alike Ar173.2.1) Ar173.2.2 hin173 hat173 (g := (mkF m 89 #[.val (.int p0), .val (.int p1), .val (.int p2), .val (.ref b3), .val (.int (1 : Int32)), .val (.int ((1 : Int32) + ((p2 &&& (2147483647 : Int32)) % (4 : Int32)))), .val (.int ((1 : Int32) + ((1 : Int32) + ((p2 &&& (2147483647 : Int32)) % (4 : Int32))))), .unset] [(.int (3 : Int32)), (.ref b3), (.int ((nar .byte (((p0.toUInt32 >>> ((16 : Int32) &&& 31).toUInt32).toInt32).toInt8.toInt32)) &&& (255 : Int32))), (.int ((nar .byte (((p0.toUInt32 >>> ((8 : Int32) &&& 31).toUInt32).toInt32).toInt8.toInt32)) &&& (255 : Int32)))])) rfl rfl (hb hby at_89) _ ?_
      show Steps p.tables e below (T65.setTop (mkF m 90 #[.val (.int p0), .val (.int p1), .val (.int p2), .val (.ref b3), .val (.int (1 : Int32)), .val (.int ((1 : Int32) + ((p2 &&& (2147483647 : Int32)) % (4 : Int32)))), .val (.int ((1 : Int32) + ((1 : Int32) + ((p2 &&& (2147483647 : Int32)) % (4 : Int32))))), .unset] [(.int (nar .byte (((p0.toUInt32 >>> ((24 : Int32) &&& 31).toUInt32).toInt32).toInt8.toInt32))), (.int ((nar .byte (((p0.toUInt32 >>> ((16 : Int32) &&& 31).toUInt32).toInt32).toInt8.toInt32)) &&& (255 : Int32))), (.int ((nar .byte (((p0.toUInt32 >>> ((8 : Int32) &&& 31).toUInt32).toInt32).toInt8.toInt32)) &&& (255 : Int32)))])) _
      refine XS.sipush X65.here hx rfl (hb hby at_90) ?_
      show Steps p.tables e below (T65.setTop (mkF m 93 #[.val (.int p0), .val (.int p1), .val (.int p2), .val (.ref b3), .val (.int (1 : Int32)), .val (.int ((1 : Int32) + ((p2 &&& (2147483647 : Int32)) % (4 : Int32)))), .val (.int ((1 : Int32) + ((1 : Int32) + ((p2 &&& (2147483647 : Int32)) % (4 : Int32))))), .unset] [(.int (255 : Int32)), (.int (nar .byte (((p0.toUInt32 >>> ((24 : Int32) &&& 31).toUInt32).toInt32).toInt8.toInt32))), (.int ((nar .byte (((p0.toUInt32 >>> ((16 : Int32) &&& 31).toUInt32).toInt32).toInt8.toInt32)) &&& (255 : Int32))), (.int ((nar .byte (((p0.toUInt32 >>> ((8 : Int32) &&& 31).toUInt32).toInt32).toInt8.toInt32)) &&& (255 : Int32)))])) _
      refine XS.iand X65.here hx rfl (hb hby at_93) rfl ?_
      show Steps p.tables e below (T65.setTop (mkF m 94 #[.val (.int p0), .val (.int p1), .val (.int p2), .val (.ref b3), .val (.int (1 : Int32)), .val (.int ((1 : Int32) + ((p2 &&& (2147483647 : Int32)) % (4 : Int32)))), .val (.int ((1 : Int32) + ((1 : Int32) + ((p2 &&& (2147483647 : Int32)) % (4 : Int32))))), .unset] [(.int ((nar .byte (((p0.toUInt32 >>> ((24 : Int32) &&& 31).toUInt32).toInt32).toInt8.toInt32)) &&& (255 : Int32))), (.int ((nar .byte (((p0.toUInt32 >>> ((16 : Int32) &&& 31).toUInt32).toInt32).toInt8.toInt32)) &&& (255 : Int32))), (.int ((nar .byte (((p0.toUInt32 >>> ((8 : Int32) &&& 31).toUInt32).toInt32).toInt8.toInt32)) &&& (255 : Int32)))])) _
      refine XS.aloadN X65.here hx rfl (hb hby at_94) rfl rfl ?_
      show Steps p.tables e below (T65.setTop (mkF m 95 #[.val (.int p0), .val (.int p1), .val (.int p2), .val (.ref b3), .val (.int (1 : Int32)), .val (.int ((1 : Int32) + ((p2 &&& (2147483647 : Int32)) % (4 : Int32)))), .val (.int ((1 : Int32) + ((1 : Int32) + ((p2 &&& (2147483647 : Int32)) % (4 : Int32))))), .unset] [(.ref b3), (.int ((nar .byte (((p0.toUInt32 >>> ((24 : Int32) &&& 31).toUInt32).toInt32).toInt8.toInt32)) &&& (255 : Int32))), (.int ((nar .byte (((p0.toUInt32 >>> ((16 : Int32) &&& 31).toUInt32).toInt32).toInt8.toInt32)) &&& (255 : Int32))), (.int ((nar .byte (((p0.toUInt32 >>> ((8 : Int32) &&& 31).toUInt32).toInt32).toInt8.toInt32)) &&& (255 : Int32)))])) _
      refine XS.iload X65.here hx rfl (hb hby at_95) rfl ?_
      show Steps p.tables e below (T65.setTop (mkF m 97 #[.val (.int p0), .val (.int p1), .val (.int p2), .val (.ref b3), .val (.int (1 : Int32)), .val (.int ((1 : Int32) + ((p2 &&& (2147483647 : Int32)) % (4 : Int32)))), .val (.int ((1 : Int32) + ((1 : Int32) + ((p2 &&& (2147483647 : Int32)) % (4 : Int32))))), .unset] [(.int (1 : Int32)), (.ref b3), (.int ((nar .byte (((p0.toUInt32 >>> ((24 : Int32) &&& 31).toUInt32).toInt32).toInt8.toInt32)) &&& (255 : Int32))), (.int ((nar .byte (((p0.toUInt32 >>> ((16 : Int32) &&& 31).toUInt32).toInt32).toInt8.toInt32)) &&& (255 : Int32))), (.int ((nar .byte (((p0.toUInt32 >>> ((8 : Int32) &&& 31).toUInt32).toInt32).toInt8.toInt32)) &&& (255 : Int32)))])) _
      refine XS.iconst X65.here hx rfl (hb hby at_97) ?_
      show Steps p.tables e below (T65.setTop (mkF m 98 #[.val (.int p0), .val (.int p1), .val (.int p2), .val (.ref b3), .val (.int (1 : Int32)), .val (.int ((1 : Int32) + ((p2 &&& (2147483647 : Int32)) % (4 : Int32)))), .val (.int ((1 : Int32) + ((1 : Int32) + ((p2 &&& (2147483647 : Int32)) % (4 : Int32))))), .unset] [(.int (3 : Int32)), (.int (1 : Int32)), (.ref b3), (.int ((nar .byte (((p0.toUInt32 >>> ((24 : Int32) &&& 31).toUInt32).toInt32).toInt8.toInt32)) &&& (255 : Int32))), (.int ((nar .byte (((p0.toUInt32 >>> ((16 : Int32) &&& 31).toUInt32).toInt32).toInt8.toInt32)) &&& (255 : Int32))), (.int ((nar .byte (((p0.toUInt32 >>> ((8 : Int32) &&& 31).toUInt32).toInt32).toInt8.toInt32)) &&& (255 : Int32)))])) _
      refine XS.iadd X65.here hx rfl (hb hby at_98) rfl ?_
      show Steps p.tables e below (T65.setTop (mkF m 99 #[.val (.int p0), .val (.int p1), .val (.int p2), .val (.ref b3), .val (.int (1 : Int32)), .val (.int ((1 : Int32) + ((p2 &&& (2147483647 : Int32)) % (4 : Int32)))), .val (.int ((1 : Int32) + ((1 : Int32) + ((p2 &&& (2147483647 : Int32)) % (4 : Int32))))), .unset] [(.int (4 : Int32)), (.ref b3), (.int ((nar .byte (((p0.toUInt32 >>> ((24 : Int32) &&& 31).toUInt32).toInt32).toInt8.toInt32)) &&& (255 : Int32))), (.int ((nar .byte (((p0.toUInt32 >>> ((16 : Int32) &&& 31).toUInt32).toInt32).toInt8.toInt32)) &&& (255 : Int32))), (.int ((nar .byte (((p0.toUInt32 >>> ((8 : Int32) &&& 31).toUInt32).toInt32).toInt8.toInt32)) &&& (255 : Int32)))])) _
      refine X65.baloadBytes hx (j := (4 : Int32)) (v := (.int (nar .byte (p1.toInt8.toInt32)))) (by rw [e65]; exact Ar181.1) (State.isArrayOf_alike hZ.alike Ar181.2.1) Ar181.2.2 hin181 hat181 (g := (mkF m 99 #[.val (.int p0), .val (.int p1), .val (.int p2), .val (.ref b3), .val (.int (1 : Int32)), .val (.int ((1 : Int32) + ((p2 &&& (2147483647 : Int32)) % (4 : Int32)))), .val (.int ((1 : Int32) + ((1 : Int32) + ((p2 &&& (2147483647 : Int32)) % (4 : Int32))))), .unset] [(.int (4 : Int32)), (.ref b3), (.int ((nar .byte (((p0.toUInt32 >>> ((24 : Int32) &&& 31).toUInt32).toInt32).toInt8.toInt32)) &&& (255 : Int32))), (.int ((nar .byte (((p0.toUInt32 >>> ((16 : Int32) &&& 31).toUInt32).toInt32).toInt8.toInt32)) &&& (255 : Int32))), (.int ((nar .byte (((p0.toUInt32 >>> ((8 : Int32) &&& 31).toUInt32).toInt32).toInt8.toInt32)) &&& (255 : Int32)))])) rfl rfl (hb hby at_99) _ ?_
      show Steps p.tables e below (T65.setTop (mkF m 100 #[.val (.int p0), .val (.int p1), .val (.int p2), .val (.ref b3), .val (.int (1 : Int32)), .val (.int ((1 : Int32) + ((p2 &&& (2147483647 : Int32)) % (4 : Int32)))), .val (.int ((1 : Int32) + ((1 : Int32) + ((p2 &&& (2147483647 : Int32)) % (4 : Int32))))), .unset] [(.int (nar .byte (p1.toInt8.toInt32))), (.int ((nar .byte (((p0.toUInt32 >>> ((24 : Int32) &&& 31).toUInt32).toInt32).toInt8.toInt32)) &&& (255 : Int32))), (.int ((nar .byte (((p0.toUInt32 >>> ((16 : Int32) &&& 31).toUInt32).toInt32).toInt8.toInt32)) &&& (255 : Int32))), (.int ((nar .byte (((p0.toUInt32 >>> ((8 : Int32) &&& 31).toUInt32).toInt32).toInt8.toInt32)) &&& (255 : Int32)))])) _
      refine XS.sipush X65.here hx rfl (hb hby at_100) ?_
      show Steps p.tables e below (T65.setTop (mkF m 103 #[.val (.int p0), .val (.int p1), .val (.int p2), .val (.ref b3), .val (.int (1 : Int32)), .val (.int ((1 : Int32) + ((p2 &&& (2147483647 : Int32)) % (4 : Int32)))), .val (.int ((1 : Int32) + ((1 : Int32) + ((p2 &&& (2147483647 : Int32)) % (4 : Int32))))), .unset] [(.int (255 : Int32)), (.int (nar .byte (p1.toInt8.toInt32))), (.int ((nar .byte (((p0.toUInt32 >>> ((24 : Int32) &&& 31).toUInt32).toInt32).toInt8.toInt32)) &&& (255 : Int32))), (.int ((nar .byte (((p0.toUInt32 >>> ((16 : Int32) &&& 31).toUInt32).toInt32).toInt8.toInt32)) &&& (255 : Int32))), (.int ((nar .byte (((p0.toUInt32 >>> ((8 : Int32) &&& 31).toUInt32).toInt32).toInt8.toInt32)) &&& (255 : Int32)))])) _
      refine XS.iand X65.here hx rfl (hb hby at_103) rfl ?_
      show Steps p.tables e below (T65.setTop (mkF m 104 #[.val (.int p0), .val (.int p1), .val (.int p2), .val (.ref b3), .val (.int (1 : Int32)), .val (.int ((1 : Int32) + ((p2 &&& (2147483647 : Int32)) % (4 : Int32)))), .val (.int ((1 : Int32) + ((1 : Int32) + ((p2 &&& (2147483647 : Int32)) % (4 : Int32))))), .unset] [(.int ((nar .byte (p1.toInt8.toInt32)) &&& (255 : Int32))), (.int ((nar .byte (((p0.toUInt32 >>> ((24 : Int32) &&& 31).toUInt32).toInt32).toInt8.toInt32)) &&& (255 : Int32))), (.int ((nar .byte (((p0.toUInt32 >>> ((16 : Int32) &&& 31).toUInt32).toInt32).toInt8.toInt32)) &&& (255 : Int32))), (.int ((nar .byte (((p0.toUInt32 >>> ((8 : Int32) &&& 31).toUInt32).toInt32).toInt8.toInt32)) &&& (255 : Int32)))])) _
      refine XS.iload X65.here hx rfl (hb hby at_104) rfl ?_
      show Steps p.tables e below (T65.setTop (mkF m 106 #[.val (.int p0), .val (.int p1), .val (.int p2), .val (.ref b3), .val (.int (1 : Int32)), .val (.int ((1 : Int32) + ((p2 &&& (2147483647 : Int32)) % (4 : Int32)))), .val (.int ((1 : Int32) + ((1 : Int32) + ((p2 &&& (2147483647 : Int32)) % (4 : Int32))))), .unset] [(.int ((1 : Int32) + ((p2 &&& (2147483647 : Int32)) % (4 : Int32)))), (.int ((nar .byte (p1.toInt8.toInt32)) &&& (255 : Int32))), (.int ((nar .byte (((p0.toUInt32 >>> ((24 : Int32) &&& 31).toUInt32).toInt32).toInt8.toInt32)) &&& (255 : Int32))), (.int ((nar .byte (((p0.toUInt32 >>> ((16 : Int32) &&& 31).toUInt32).toInt32).toInt8.toInt32)) &&& (255 : Int32))), (.int ((nar .byte (((p0.toUInt32 >>> ((8 : Int32) &&& 31).toUInt32).toInt32).toInt8.toInt32)) &&& (255 : Int32)))])) _
      refine st186 _ ?_
      show Steps p.tables e below (T186.setTop (mkF m 109 #[.val (.int p0), .val (.int p1), .val (.int p2), .val (.ref b3), .val (.int (1 : Int32)), .val (.int ((1 : Int32) + ((p2 &&& (2147483647 : Int32)) % (4 : Int32)))), .val (.int ((1 : Int32) + ((1 : Int32) + ((p2 &&& (2147483647 : Int32)) % (4 : Int32))))), .unset] [(.int (own_ref_f ((nar .byte (((p0.toUInt32 >>> ((8 : Int32) &&& 31).toUInt32).toInt32).toInt8.toInt32)) &&& (255 : Int32)) ((nar .byte (((p0.toUInt32 >>> ((16 : Int32) &&& 31).toUInt32).toInt32).toInt8.toInt32)) &&& (255 : Int32)) ((nar .byte (((p0.toUInt32 >>> ((24 : Int32) &&& 31).toUInt32).toInt32).toInt8.toInt32)) &&& (255 : Int32)) ((nar .byte (p1.toInt8.toInt32)) &&& (255 : Int32)) ((1 : Int32) + ((p2 &&& (2147483647 : Int32)) % (4 : Int32)))))])) _
      refine XS.istore X186.here hx rfl (hb hby at_109) rfl (l' := #[.val (.int p0), .val (.int p1), .val (.int p2), .val (.ref b3), .val (.int (1 : Int32)), .val (.int ((1 : Int32) + ((p2 &&& (2147483647 : Int32)) % (4 : Int32)))), .val (.int ((1 : Int32) + ((1 : Int32) + ((p2 &&& (2147483647 : Int32)) % (4 : Int32))))), .val (.int (own_ref_f ((nar .byte (((p0.toUInt32 >>> ((8 : Int32) &&& 31).toUInt32).toInt32).toInt8.toInt32)) &&& (255 : Int32)) ((nar .byte (((p0.toUInt32 >>> ((16 : Int32) &&& 31).toUInt32).toInt32).toInt8.toInt32)) &&& (255 : Int32)) ((nar .byte (((p0.toUInt32 >>> ((24 : Int32) &&& 31).toUInt32).toInt32).toInt8.toInt32)) &&& (255 : Int32)) ((nar .byte (p1.toInt8.toInt32)) &&& (255 : Int32)) ((1 : Int32) + ((p2 &&& (2147483647 : Int32)) % (4 : Int32)))))]) rfl ?_
      show Steps p.tables e below (T186.setTop (mkF m 111 #[.val (.int p0), .val (.int p1), .val (.int p2), .val (.ref b3), .val (.int (1 : Int32)), .val (.int ((1 : Int32) + ((p2 &&& (2147483647 : Int32)) % (4 : Int32)))), .val (.int ((1 : Int32) + ((1 : Int32) + ((p2 &&& (2147483647 : Int32)) % (4 : Int32))))), .val (.int (own_ref_f ((nar .byte (((p0.toUInt32 >>> ((8 : Int32) &&& 31).toUInt32).toInt32).toInt8.toInt32)) &&& (255 : Int32)) ((nar .byte (((p0.toUInt32 >>> ((16 : Int32) &&& 31).toUInt32).toInt32).toInt8.toInt32)) &&& (255 : Int32)) ((nar .byte (((p0.toUInt32 >>> ((24 : Int32) &&& 31).toUInt32).toInt32).toInt8.toInt32)) &&& (255 : Int32)) ((nar .byte (p1.toInt8.toInt32)) &&& (255 : Int32)) ((1 : Int32) + ((p2 &&& (2147483647 : Int32)) % (4 : Int32)))))] [])) _
      refine XS.aloadN X186.here hx rfl (hb hby at_111) rfl rfl ?_
      show Steps p.tables e below (T186.setTop (mkF m 112 #[.val (.int p0), .val (.int p1), .val (.int p2), .val (.ref b3), .val (.int (1 : Int32)), .val (.int ((1 : Int32) + ((p2 &&& (2147483647 : Int32)) % (4 : Int32)))), .val (.int ((1 : Int32) + ((1 : Int32) + ((p2 &&& (2147483647 : Int32)) % (4 : Int32))))), .val (.int (own_ref_f ((nar .byte (((p0.toUInt32 >>> ((8 : Int32) &&& 31).toUInt32).toInt32).toInt8.toInt32)) &&& (255 : Int32)) ((nar .byte (((p0.toUInt32 >>> ((16 : Int32) &&& 31).toUInt32).toInt32).toInt8.toInt32)) &&& (255 : Int32)) ((nar .byte (((p0.toUInt32 >>> ((24 : Int32) &&& 31).toUInt32).toInt32).toInt8.toInt32)) &&& (255 : Int32)) ((nar .byte (p1.toInt8.toInt32)) &&& (255 : Int32)) ((1 : Int32) + ((p2 &&& (2147483647 : Int32)) % (4 : Int32)))))] [(.ref b3)])) _
      refine XS.iload X186.here hx rfl (hb hby at_112) rfl ?_
      show Steps p.tables e below (T186.setTop (mkF m 114 #[.val (.int p0), .val (.int p1), .val (.int p2), .val (.ref b3), .val (.int (1 : Int32)), .val (.int ((1 : Int32) + ((p2 &&& (2147483647 : Int32)) % (4 : Int32)))), .val (.int ((1 : Int32) + ((1 : Int32) + ((p2 &&& (2147483647 : Int32)) % (4 : Int32))))), .val (.int (own_ref_f ((nar .byte (((p0.toUInt32 >>> ((8 : Int32) &&& 31).toUInt32).toInt32).toInt8.toInt32)) &&& (255 : Int32)) ((nar .byte (((p0.toUInt32 >>> ((16 : Int32) &&& 31).toUInt32).toInt32).toInt8.toInt32)) &&& (255 : Int32)) ((nar .byte (((p0.toUInt32 >>> ((24 : Int32) &&& 31).toUInt32).toInt32).toInt8.toInt32)) &&& (255 : Int32)) ((nar .byte (p1.toInt8.toInt32)) &&& (255 : Int32)) ((1 : Int32) + ((p2 &&& (2147483647 : Int32)) % (4 : Int32)))))] [(.int (1 : Int32)), (.ref b3)])) _
      refine XS.iload X186.here hx rfl (hb hby at_114) rfl ?_
      show Steps p.tables e below (T186.setTop (mkF m 116 #[.val (.int p0), .val (.int p1), .val (.int p2), .val (.ref b3), .val (.int (1 : Int32)), .val (.int ((1 : Int32) + ((p2 &&& (2147483647 : Int32)) % (4 : Int32)))), .val (.int ((1 : Int32) + ((1 : Int32) + ((p2 &&& (2147483647 : Int32)) % (4 : Int32))))), .val (.int (own_ref_f ((nar .byte (((p0.toUInt32 >>> ((8 : Int32) &&& 31).toUInt32).toInt32).toInt8.toInt32)) &&& (255 : Int32)) ((nar .byte (((p0.toUInt32 >>> ((16 : Int32) &&& 31).toUInt32).toInt32).toInt8.toInt32)) &&& (255 : Int32)) ((nar .byte (((p0.toUInt32 >>> ((24 : Int32) &&& 31).toUInt32).toInt32).toInt8.toInt32)) &&& (255 : Int32)) ((nar .byte (p1.toInt8.toInt32)) &&& (255 : Int32)) ((1 : Int32) + ((p2 &&& (2147483647 : Int32)) % (4 : Int32)))))] [(.int ((1 : Int32) + ((1 : Int32) + ((p2 &&& (2147483647 : Int32)) % (4 : Int32))))), (.int (1 : Int32)), (.ref b3)])) _
      refine st193 _ ?_
      show Steps p.tables e below (T193.setTop (mkF m 119 #[.val (.int p0), .val (.int p1), .val (.int p2), .val (.ref b3), .val (.int (1 : Int32)), .val (.int ((1 : Int32) + ((p2 &&& (2147483647 : Int32)) % (4 : Int32)))), .val (.int ((1 : Int32) + ((1 : Int32) + ((p2 &&& (2147483647 : Int32)) % (4 : Int32))))), .val (.int (own_ref_f ((nar .byte (((p0.toUInt32 >>> ((8 : Int32) &&& 31).toUInt32).toInt32).toInt8.toInt32)) &&& (255 : Int32)) ((nar .byte (((p0.toUInt32 >>> ((16 : Int32) &&& 31).toUInt32).toInt32).toInt8.toInt32)) &&& (255 : Int32)) ((nar .byte (((p0.toUInt32 >>> ((24 : Int32) &&& 31).toUInt32).toInt32).toInt8.toInt32)) &&& (255 : Int32)) ((nar .byte (p1.toInt8.toInt32)) &&& (255 : Int32)) ((1 : Int32) + ((p2 &&& (2147483647 : Int32)) % (4 : Int32)))))] [(.int (own_u_f (nar .byte (((p0.toUInt32 >>> ((8 : Int32) &&& 31).toUInt32).toInt32).toInt8.toInt32)) (nar .byte (((p0.toUInt32 >>> ((16 : Int32) &&& 31).toUInt32).toInt32).toInt8.toInt32)) (nar .byte (((p0.toUInt32 >>> ((24 : Int32) &&& 31).toUInt32).toInt32).toInt8.toInt32)) (nar .byte (p1.toInt8.toInt32)) ((1 : Int32) + ((p2 &&& (2147483647 : Int32)) % (4 : Int32)))))])) _
      refine XS.iload X193.here hx rfl (hb hby at_119) rfl ?_
      show Steps p.tables e below (T193.setTop (mkF m 121 #[.val (.int p0), .val (.int p1), .val (.int p2), .val (.ref b3), .val (.int (1 : Int32)), .val (.int ((1 : Int32) + ((p2 &&& (2147483647 : Int32)) % (4 : Int32)))), .val (.int ((1 : Int32) + ((1 : Int32) + ((p2 &&& (2147483647 : Int32)) % (4 : Int32))))), .val (.int (own_ref_f ((nar .byte (((p0.toUInt32 >>> ((8 : Int32) &&& 31).toUInt32).toInt32).toInt8.toInt32)) &&& (255 : Int32)) ((nar .byte (((p0.toUInt32 >>> ((16 : Int32) &&& 31).toUInt32).toInt32).toInt8.toInt32)) &&& (255 : Int32)) ((nar .byte (((p0.toUInt32 >>> ((24 : Int32) &&& 31).toUInt32).toInt32).toInt8.toInt32)) &&& (255 : Int32)) ((nar .byte (p1.toInt8.toInt32)) &&& (255 : Int32)) ((1 : Int32) + ((p2 &&& (2147483647 : Int32)) % (4 : Int32)))))] [(.int (own_ref_f ((nar .byte (((p0.toUInt32 >>> ((8 : Int32) &&& 31).toUInt32).toInt32).toInt8.toInt32)) &&& (255 : Int32)) ((nar .byte (((p0.toUInt32 >>> ((16 : Int32) &&& 31).toUInt32).toInt32).toInt8.toInt32)) &&& (255 : Int32)) ((nar .byte (((p0.toUInt32 >>> ((24 : Int32) &&& 31).toUInt32).toInt32).toInt8.toInt32)) &&& (255 : Int32)) ((nar .byte (p1.toInt8.toInt32)) &&& (255 : Int32)) ((1 : Int32) + ((p2 &&& (2147483647 : Int32)) % (4 : Int32))))), (.int (own_u_f (nar .byte (((p0.toUInt32 >>> ((8 : Int32) &&& 31).toUInt32).toInt32).toInt8.toInt32)) (nar .byte (((p0.toUInt32 >>> ((16 : Int32) &&& 31).toUInt32).toInt32).toInt8.toInt32)) (nar .byte (((p0.toUInt32 >>> ((24 : Int32) &&& 31).toUInt32).toInt32).toInt8.toInt32)) (nar .byte (p1.toInt8.toInt32)) ((1 : Int32) + ((p2 &&& (2147483647 : Int32)) % (4 : Int32)))))])) _
      refine XS.icmpNo X193.here hx rfl (hb hby at_121) rfl (teq (own_main _ _ _ _ _ (own_av4 _) : (own_u_f (nar .byte (((p0.toUInt32 >>> ((8 : Int32) &&& 31).toUInt32).toInt32).toInt8.toInt32)) (nar .byte (((p0.toUInt32 >>> ((16 : Int32) &&& 31).toUInt32).toInt32).toInt8.toInt32)) (nar .byte (((p0.toUInt32 >>> ((24 : Int32) &&& 31).toUInt32).toInt32).toInt8.toInt32)) (nar .byte (p1.toInt8.toInt32)) ((1 : Int32) + ((p2 &&& (2147483647 : Int32)) % (4 : Int32)))) = (own_ref_f ((nar .byte (((p0.toUInt32 >>> ((8 : Int32) &&& 31).toUInt32).toInt32).toInt8.toInt32)) &&& (255 : Int32)) ((nar .byte (((p0.toUInt32 >>> ((16 : Int32) &&& 31).toUInt32).toInt32).toInt8.toInt32)) &&& (255 : Int32)) ((nar .byte (((p0.toUInt32 >>> ((24 : Int32) &&& 31).toUInt32).toInt32).toInt8.toInt32)) &&& (255 : Int32)) ((nar .byte (p1.toInt8.toInt32)) &&& (255 : Int32)) ((1 : Int32) + ((p2 &&& (2147483647 : Int32)) % (4 : Int32)))))).2 ?_
      show Steps p.tables e below (T193.setTop (mkF m 124 #[.val (.int p0), .val (.int p1), .val (.int p2), .val (.ref b3), .val (.int (1 : Int32)), .val (.int ((1 : Int32) + ((p2 &&& (2147483647 : Int32)) % (4 : Int32)))), .val (.int ((1 : Int32) + ((1 : Int32) + ((p2 &&& (2147483647 : Int32)) % (4 : Int32))))), .val (.int (own_ref_f ((nar .byte (((p0.toUInt32 >>> ((8 : Int32) &&& 31).toUInt32).toInt32).toInt8.toInt32)) &&& (255 : Int32)) ((nar .byte (((p0.toUInt32 >>> ((16 : Int32) &&& 31).toUInt32).toInt32).toInt8.toInt32)) &&& (255 : Int32)) ((nar .byte (((p0.toUInt32 >>> ((24 : Int32) &&& 31).toUInt32).toInt32).toInt8.toInt32)) &&& (255 : Int32)) ((nar .byte (p1.toInt8.toInt32)) &&& (255 : Int32)) ((1 : Int32) + ((p2 &&& (2147483647 : Int32)) % (4 : Int32)))))] [])) _
      refine XS.iconst X193.here hx rfl (hb hby at_124) ?_
      show Steps p.tables e below (T193.setTop (mkF m 125 #[.val (.int p0), .val (.int p1), .val (.int p2), .val (.ref b3), .val (.int (1 : Int32)), .val (.int ((1 : Int32) + ((p2 &&& (2147483647 : Int32)) % (4 : Int32)))), .val (.int ((1 : Int32) + ((1 : Int32) + ((p2 &&& (2147483647 : Int32)) % (4 : Int32))))), .val (.int (own_ref_f ((nar .byte (((p0.toUInt32 >>> ((8 : Int32) &&& 31).toUInt32).toInt32).toInt8.toInt32)) &&& (255 : Int32)) ((nar .byte (((p0.toUInt32 >>> ((16 : Int32) &&& 31).toUInt32).toInt32).toInt8.toInt32)) &&& (255 : Int32)) ((nar .byte (((p0.toUInt32 >>> ((24 : Int32) &&& 31).toUInt32).toInt32).toInt8.toInt32)) &&& (255 : Int32)) ((nar .byte (p1.toInt8.toInt32)) &&& (255 : Int32)) ((1 : Int32) + ((p2 &&& (2147483647 : Int32)) % (4 : Int32)))))] [(.int (1 : Int32))])) _
      refine XS.goto X193.here hx rfl (pc0 := 125) (pc' := 129) rfl (hb hby at_125) (by decide) (by decide) ?_
      show Steps p.tables e below (T193.setTop (mkF m 129 #[.val (.int p0), .val (.int p1), .val (.int p2), .val (.ref b3), .val (.int (1 : Int32)), .val (.int ((1 : Int32) + ((p2 &&& (2147483647 : Int32)) % (4 : Int32)))), .val (.int ((1 : Int32) + ((1 : Int32) + ((p2 &&& (2147483647 : Int32)) % (4 : Int32))))), .val (.int (own_ref_f ((nar .byte (((p0.toUInt32 >>> ((8 : Int32) &&& 31).toUInt32).toInt32).toInt8.toInt32)) &&& (255 : Int32)) ((nar .byte (((p0.toUInt32 >>> ((16 : Int32) &&& 31).toUInt32).toInt32).toInt8.toInt32)) &&& (255 : Int32)) ((nar .byte (((p0.toUInt32 >>> ((24 : Int32) &&& 31).toUInt32).toInt32).toInt8.toInt32)) &&& (255 : Int32)) ((nar .byte (p1.toInt8.toInt32)) &&& (255 : Int32)) ((1 : Int32) + ((p2 &&& (2147483647 : Int32)) % (4 : Int32)))))] [(.int (1 : Int32))])) _
      exact retN X193 hx (t := .boolean) Bd.returns (by simp) (hb hby at_129) hr
    · show Qown_law Z p0 p1 p2 h0 n0 _ T193.heap _
      rw [eh193]
      exact ⟨rfl, N194⟩
set_option maxRecDepth 65536 in
set_option maxHeartbeats 40000000 in
theorem comes_1 {Post : Tables → Env → Array Value → State → Outcome → State → Prop} (hpost : ∀ tb e args s v u, (limb_1_1.after args s (.returned v) u = true ∧ limb_1_2.after args s (.returned v) u = true ∧ True) → FrameEnd s (.returned v) u (Jvm.fieldLocs frame_1_writes args s ++ Jvm.arrayLocs frame_1_arrays args s ++ Jvm.staticLocs frame_1_statics s) 16 128 → Post tb e args s (.returned v) u) :
    ArmFor flags0 classFile x code maxLocals ret World_1 tables_1 room_1 Calls_1 rest_1 Pre_1 Post := by
  intro l hfl _ _ p e ha hc hk s m args below hf hA hF happ hP
  obtain ⟨hcalls, hrest, hpre⟩ := hP
  obtain ⟨-, -, -, hnamed, -, -, -, hat⟩ := (Spec.applies_iff hf).mp happ
  obtain ⟨hg, hn⟩ := and_e (Cond.before_iff.mp (show (Jvm.Cond.and given_1 narrow_1).before args s = true from hpre))
  obtain ⟨gg1, gg2⟩ := and_e hg
  obtain ⟨gg3, gg4⟩ := and_e gg2
  obtain ⟨gg5, gg6⟩ := and_e gg4
  obtain ⟨w0, w1, w2, rfl⟩ : ∃ w0 w1 w2 : Value, args = #[w0, w1, w2] := by
    have hs : args.size = 3 := by simpa [Cond.value, given_1] using gg1
    obtain ⟨L⟩ := args
    match L, hs with
    | [w0, w1, w2], _ => exact ⟨w0, w1, w2, rfl⟩
  have hw := fun d (hd : d ∈ tables_1) => atoms_spec (ws := Jvm.Cond.code x code maxLocals ret :: tables_1) hat d (List.mem_cons_of_mem _ hd)
  obtain ⟨i0, ei0⟩ := is_v gg3
  obtain rfl : w0 = (.int i0) := Option.some.inj ei0
  obtain ⟨i1, ei1⟩ := is_v gg5
  obtain rfl : w1 = (.int i1) := Option.some.inj ei1
  obtain ⟨i2, ei2⟩ := is_v gg6
  obtain rfl : w2 = (.int i2) := Option.some.inj ei2
  obtain ⟨n, o, h1, h2, h3, _, L, rfl, ⟨rfl, N⟩, hq⟩ := own_law l s _ hw tables_1 i0 i1 i2 s.heap s.heap.size (Nat.le_refl _) p e ha hc hk s m _ below hf ((Spec.applies_iff_loose hf).mp happ).1 ⟨rfl, State.Warmed39.refl s, rfl⟩ trivial
  refine ⟨n, _, h1, h2, h3, hpost _ _ _ _ _ _ ⟨Cond.after_iff.mpr rfl, Cond.after_iff.mpr (eq_i res_at (Term.int_eval (1)) rfl), trivial⟩ ⟨hq.1, hq.2.1, (hq.2.2.sift fun y hy => Or.inr (N y hy)).mono (by decide) (by decide)⟩⟩
theorem main_1_1 : Claimed_1_1 := comes_1 fun _ _ _ _ _ _ h hF => ⟨h.1, hF⟩
theorem main_1_2 : Claimed_1_2 := comes_1 fun _ _ _ _ _ _ h hF => ⟨h.2.1, hF⟩
end Jvm.Pilot.@@N@@
namespace Jvm.Pilot.@@N@@
open Jvm Jvm.ClassFile Sem Op Lib Jvm.Free Jvm.Stand Jvm.Pilot.@@N@@.Jvm.D
/-! MADE BY PROGRAM (witnessworld.py) out of the Statement's table words and the real class files: 9 classes; the members and pool entries that the words name. The judged class is class 1, her method 1. -/
namespace start1
open Jvm.ClassFile
def u (s : String) : CpInfo := .utf8 (stringToUtf16 s)
/-- a pool by its gaps: so many unusable entries, then the entry; so many at the end -/
def gap : Nat → List CpInfo → List CpInfo
  | 0, r => r
  | n + 1, r => .unusable :: gap n r
def poolList (es : List (Nat × CpInfo)) (last : Nat) : List CpInfo := es.foldr (fun e r => gap e.1 (e.2 :: r)) (gap last [])
def pool (es : List (Nat × CpInfo)) (last : Nat) : Array CpInfo := ⟨poolList es last⟩
def fileOf (pool : Array CpInfo) (this : Nat) (attrs : Array Attribute := #[]) (ms : Array MethodInfo := #[]) (fl : Nat := 33) (sup : Nat := 0) (ifs : Array Nat := #[]) (fds : Array FieldInfo := #[]) : ClassFile where
  minorVersion := 0
  majorVersion := 65
  constantPool := pool
  accessFlags := fl
  thisClass := this
  superClass := sup
  interfaces := ifs
  fields := fds
  methods := ms
  attributes := attrs
def plain (name : String) (sup : Option ClassId) : Class where
  name := name
  kind := .ordinary
  loader := none
  accessFlags := 33
  super := sup
  interfaces := #[]
  cf := none
  fields := #[]
  methods := #[]
  instanceTypes := #[]
  staticTypes := #[]
  resolved := #[]
  callSites := []
  init := .initialized
  statics := none
  mirror := none

def pool0 : Array CpInfo := pool [(5, u "<init>"), (0, u "()V"), (1, .class_ 10), (1, u "java/lang/Object")] 113

def k0m0 : Method := { name := "<init>", desc := "()V", sig := { parameters := [], returnType := none }, accessFlags := 1, code := none }
/-- java/lang/Object -/
def k0 : Class := { plain "java/lang/Object" none with
  accessFlags := 33
  interfaces := #[]
  cf := some (fileOf pool0 8 #[] #[{ accessFlags := 1, nameIndex := 5, descriptorIndex := 6, attributes := #[] }] 33 0 #[] #[])
  fields := #[]
  methods := #[k0m0]
  instanceTypes := #[]
  staticTypes := #[]
  resolved := Array.replicate 124 none
  statics := none }

def pool1 : Array CpInfo := pool [(2, .class_ 4), (1, u "java/lang/Object"), (0, u "<init>"), (0, u "()V"), (0, .integer 2147483647), (0, .methodref 9 10), (0, .class_ 11), (0, .nameAndType 12 13), (0, u "fieldstone/ByteReaderUtf8LengthPinLaw"), (0, u "reference"), (0, u "(IIIII)I"), (0, .methodref 15 16), (0, .class_ 17), (0, .nameAndType 18 19), (0, u "fieldstone/ByteReader"), (0, u "utf8Length"), (0, u "([BII)I"), (0, .methodref 9 21), (0, .nameAndType 22 23), (0, u "cont"), (0, u "(I)Z"), (0, .integer 55296), (0, .integer 57343), (0, .integer 65536), (0, .integer 1114111), (2, u "law"), (0, u "(III)Z")] 5

def k1m0 : Method := { name := "<init>", desc := "()V", sig := { parameters := [], returnType := none }, accessFlags := 1, code := none }
def k1c1 : Code := { maxStack := 6, maxLocals := 8, code := code, exceptionTable := #[], attributes := #[] }
def k1m1 : Method := { name := "law", desc := "(III)Z", sig := { parameters := [.int, .int, .int], returnType := some .boolean }, accessFlags := 9, code := some k1c1 }
def k1c2 : Code := { maxStack := 2, maxLocals := 1, code := method_3_code, exceptionTable := #[], attributes := #[] }
def k1m2 : Method := { name := "cont", desc := "(I)Z", sig := { parameters := [.int], returnType := some .boolean }, accessFlags := 10, code := some k1c2 }
def k1c3 : Code := { maxStack := 3, maxLocals := 7, code := method_4_code, exceptionTable := #[], attributes := #[] }
def k1m3 : Method := { name := "reference", desc := "(IIIII)I", sig := { parameters := [.int, .int, .int, .int, .int], returnType := some .int }, accessFlags := 10, code := some k1c3 }
/-- fieldstone/ByteReaderUtf8LengthPinLaw -/
def k1 : Class := { plain "fieldstone/ByteReaderUtf8LengthPinLaw" (some 0) with
  accessFlags := 49
  interfaces := #[]
  cf := some (fileOf pool1 9 #[] #[{ accessFlags := 1, nameIndex := 5, descriptorIndex := 6, attributes := #[] }, { accessFlags := 9, nameIndex := 30, descriptorIndex := 31, attributes := #[] }, { accessFlags := 10, nameIndex := 22, descriptorIndex := 23, attributes := #[] }, { accessFlags := 10, nameIndex := 12, descriptorIndex := 13, attributes := #[] }] 49 2 #[] #[])
  fields := #[]
  methods := #[k1m0, k1m1, k1m2, k1m3]
  instanceTypes := #[]
  staticTypes := #[]
  resolved := Array.replicate 37 none
  statics := none }

def pool2 : Array CpInfo := pool [(2, .class_ 4), (1, u "java/lang/Object"), (3, .class_ 10), (1, u "fieldstone/ByteReader"), (4, u "bytes"), (0, u "[B"), (2, u "pos"), (0, u "I"), (2, u "limit"), (2, u "file"), (0, u "Ljava/lang/String;"), (95, u "utf8Length"), (0, u "([BII)I"), (1, .class_ 128), (1, u "fieldstone/ByteReader$Words"), (21, .class_ 152), (1, u "fieldstone/ByteReader$PackedInts"), (22, u "CUT_SHORT"), (1, u "NOT_UTF8"), (0, u "HIGH_BITS"), (0, u "J")] 47

def k2c0 : Code := { maxStack := 3, maxLocals := 9, code := prog_2_method_23_code, exceptionTable := #[], attributes := #[] }
def k2m0 : Method := { name := "utf8Length", desc := "([BII)I", sig := { parameters := [(.array .byte), .int, .int], returnType := some .int }, accessFlags := 8, code := some k2c0 }
/-- fieldstone/ByteReader -/
def k2 : Class := { plain "fieldstone/ByteReader" (some 0) with
  accessFlags := 48
  interfaces := #[]
  cf := some (fileOf pool2 8 #[.nestMembers #[150, 126]] #[{ accessFlags := 8, nameIndex := 123, descriptorIndex := 124, attributes := #[] }] 48 2 #[] #[{ accessFlags := 24, nameIndex := 175, descriptorIndex := 27, attributes := #[] }, { accessFlags := 24, nameIndex := 177, descriptorIndex := 27, attributes := #[] }, { accessFlags := 24, nameIndex := 178, descriptorIndex := 179, attributes := #[] }, { accessFlags := 2, nameIndex := 15, descriptorIndex := 16, attributes := #[] }, { accessFlags := 2, nameIndex := 23, descriptorIndex := 20, attributes := #[] }, { accessFlags := 2, nameIndex := 26, descriptorIndex := 27, attributes := #[] }, { accessFlags := 2, nameIndex := 19, descriptorIndex := 20, attributes := #[] }])
  fields := #[{ name := "CUT_SHORT", type := (.object "java/lang/String"), accessFlags := 24, slot := 0, constantValue := 0 }, { name := "NOT_UTF8", type := (.object "java/lang/String"), accessFlags := 24, slot := 1, constantValue := 0 }, { name := "HIGH_BITS", type := .long, accessFlags := 24, slot := 2, constantValue := 0 }, { name := "bytes", type := (.array .byte), accessFlags := 2, slot := 0, constantValue := 0 }, { name := "limit", type := .int, accessFlags := 2, slot := 1, constantValue := 0 }, { name := "file", type := (.object "java/lang/String"), accessFlags := 2, slot := 2, constantValue := 0 }, { name := "pos", type := .int, accessFlags := 2, slot := 3, constantValue := 0 }]
  methods := #[k2m0]
  instanceTypes := #[(.array .byte), .int, (.object "java/lang/String"), .int]
  staticTypes := #[(.object "java/lang/String"), (.object "java/lang/String"), .long]
  resolved := Array.replicate 227 none
  statics := none }

def pool3 : Array CpInfo := pool [(1, u "java/lang/Cloneable"), (0, .class_ 1), (0, u "java/lang/Object"), (0, .class_ 3)] 3

/-- java/lang/Cloneable -/
def k3 : Class := { plain "java/lang/Cloneable" (some 0) with
  accessFlags := 1537
  interfaces := #[]
  cf := some (fileOf pool3 2 #[] #[] 1537 4 #[] #[])
  fields := #[]
  methods := #[]
  instanceTypes := #[]
  staticTypes := #[]
  resolved := Array.replicate 8 none
  statics := none }

def pool4 : Array CpInfo := pool [(1, u "java/io/Serializable"), (0, .class_ 1), (0, u "java/lang/Object"), (0, .class_ 3)] 3

/-- java/io/Serializable -/
def k4 : Class := { plain "java/io/Serializable" (some 0) with
  accessFlags := 1537
  interfaces := #[]
  cf := some (fileOf pool4 2 #[] #[] 1537 4 #[] #[])
  fields := #[]
  methods := #[]
  instanceTypes := #[]
  staticTypes := #[]
  resolved := Array.replicate 8 none
  statics := none }

/-- the primitive byte -/
def k5 : Class := { plain "byte" none with kind := .primitive 'B', accessFlags := 0x411 }
/-- [B -/
def k6 : Class := { plain "[B" (some 0) with kind := .array 5 .byte, interfaces := #[3, 4], accessFlags := 1041 }

/-- the primitive int -/
def k7 : Class := { plain "int" none with kind := .primitive 'I', accessFlags := 0x411 }
/-- [I -/
def k8 : Class := { plain "[I" (some 0) with kind := .array 7 .int, interfaces := #[3, 4], accessFlags := 1041 }

def heap : Heap := #[]
def classes : Array Class := #[k0, k1, k2, k3, k4, k5, k6, k7, k8]
def interned : List (Array UInt16 × Addr) := []
def slotsUsed : Nat := 0
def theMethod : MethodId := ⟨1, 1⟩
def args0 : Array Value := #[.int 5, .int 7, .int 3]
def aboutOver (below : List Frame) : State where
  vm := { classes := classes, interned := interned.toArray }
  heap := heap
  slotsUsed := slotsUsed
  threads := #[{ frames := .invoking theMethod args0 :: below }]
def below0 : List Frame := [.native { method := ⟨0, 0⟩, args := #[] }]
def about1 : State := aboutOver below0
def p0 : Program := .bare "" "" ""
def e0 : Env := launch0.env 0 0 0
theorem w_frames : about1.frames = Frame.invoking theMethod args0 :: below0 := rfl
set_option maxRecDepth 65536 in
theorem w_args : argsFit about1.vm theMethod args0 = true := by decide +kernel
set_option maxRecDepth 65536 in
theorem w_heap : heapFits about1 = true := by decide +kernel
set_option maxRecDepth 65536 in
theorem w_runnable : about1.curStatus? = some .runnable := by decide +kernel
set_option maxRecDepth 65536 in
theorem w_alone : about1.alone = true := by decide +kernel
set_option maxRecDepth 65536 in
theorem w_named : about1.methodNamed? x = some theMethod := by decide +kernel
set_option maxRecDepth 65536 in
theorem w_hears : about1.hears theMethod below0 = true := by decide +kernel
set_option maxRecDepth 65536 in
theorem w_ripe : about1.ripe theMethod args0 below0 = true := by decide +kernel
theorem w_running : about1.status = .running := rfl
set_option maxRecDepth 65536 in
theorem w_room : about1.hasRoom e0.platform room_1 = true :=
  launch0.hasRoom_least _ room_1 (by decide +kernel) (by decide +kernel) (by decide +kernel) (by decide +kernel) (by decide +kernel) (by decide +kernel)
theorem allAtoms_all (ts : List Jvm.Cond) (a : Array Jvm.Value) (st : Jvm.State) : (allAtoms ts).before a st = ts.all (fun c => c.before a st) := by
  induction ts with
  | nil => rfl
  | cons c t ih =>
    show (Jvm.Cond.and c (allAtoms t)).before a st = _
    rw [Jvm.Cond.before_and, ih, List.all_cons]
def words1 : List Jvm.Cond := Jvm.Cond.code x code maxLocals ret :: tables_1
/-- a 'code' word, met by the world's own term for the bytes: nothing is compared byte by byte -/
theorem code_word {y : MethodName} {bytes : ByteArray} {mx : Nat} {rt : Option FieldType} {a : Array Value} {s : State} {m : MethodId} {meth : Method} {c : Code} (h1 : s.methodNamed? y = some m) (h2 : s.vm.method? m = some meth) (h3 : meth.code = some c) (h4 : c.code = bytes)
    (h5 : (c.maxLocals == mx && c.exceptionTable.isEmpty && decide (c.maxStack ≤ mostOperands) && decide (meth.sig.returnType = rt) && !meth.locks && decide (parseMethodDescriptor y.desc = some meth.sig)) = true) : (Jvm.Cond.code y bytes mx rt).before a s = true := by
  simp only [Bool.and_eq_true, beq_iff_eq, Bool.not_eq_true', decide_eq_true_eq] at h5
  obtain ⟨⟨⟨⟨⟨g1, g2⟩, g3⟩, g4⟩, g5⟩, g6⟩ := h5
  simp [Cond.before, Cond.holds, Cond.value, h1, h2, h3, h4, g1, g2, g3, g4, g5, g6]
def isCode : Jvm.Cond → Bool
  | .code _ _ _ _ => true
  | _ => false
theorem all_split {L : List Jvm.Cond} {P : Jvm.Cond → Bool} (h1 : L.all (fun c => isCode c || P c) = true) (h2 : ∀ c ∈ L.filter isCode, P c = true) : L.all P = true := by
  refine List.all_eq_true.mpr fun c hc => ?_
  have h := List.all_eq_true.mp h1 c hc
  rcases Bool.eq_false_or_eq_true (isCode c) with hi | hi
  · exact h2 c (List.mem_filter.mpr ⟨hc, hi⟩)
  · simpa [hi] using h
set_option maxRecDepth 65536 in
theorem w_c0 : (Jvm.Cond.code x code maxLocals ret).before args0 about1 = true := code_word (m := ⟨1, 1⟩) (meth := k1m1) (c := k1c1) (by decide +kernel) rfl rfl rfl (by decide +kernel)
set_option maxRecDepth 65536 in
theorem w_c1 : (Jvm.Cond.code ({ cls := "fieldstone/ByteReaderUtf8LengthPinLaw", name := "reference", desc := "(IIIII)I" } : Jvm.MethodName) method_4_code (7 : Nat) (Option.some Jvm.ClassFile.FieldType.int)).before args0 about1 = true := code_word (m := ⟨1, 3⟩) (meth := k1m3) (c := k1c3) (by decide +kernel) rfl rfl rfl (by decide +kernel)
set_option maxRecDepth 65536 in
theorem w_c2 : (Jvm.Cond.code ({ cls := "fieldstone/ByteReader", name := "utf8Length", desc := "([BII)I" } : Jvm.MethodName) prog_2_method_23_code (9 : Nat) (Option.some Jvm.ClassFile.FieldType.int)).before args0 about1 = true := code_word (m := ⟨2, 0⟩) (meth := k2m0) (c := k2c0) (by decide +kernel) rfl rfl rfl (by decide +kernel)
set_option maxRecDepth 65536 in
theorem w_c3 : (Jvm.Cond.code ({ cls := "fieldstone/ByteReaderUtf8LengthPinLaw", name := "cont", desc := "(I)Z" } : Jvm.MethodName) method_3_code (1 : Nat) (Option.some Jvm.ClassFile.FieldType.boolean)).before args0 about1 = true := code_word (m := ⟨1, 2⟩) (meth := k1m2) (c := k1c2) (by decide +kernel) rfl rfl rfl (by decide +kernel)
def codes1 : List Jvm.Cond := [Jvm.Cond.code x code maxLocals ret, Jvm.Cond.code ({ cls := "fieldstone/ByteReaderUtf8LengthPinLaw", name := "reference", desc := "(IIIII)I" } : Jvm.MethodName) method_4_code (7 : Nat) (Option.some Jvm.ClassFile.FieldType.int), Jvm.Cond.code ({ cls := "fieldstone/ByteReader", name := "utf8Length", desc := "([BII)I" } : Jvm.MethodName) prog_2_method_23_code (9 : Nat) (Option.some Jvm.ClassFile.FieldType.int), Jvm.Cond.code ({ cls := "fieldstone/ByteReaderUtf8LengthPinLaw", name := "cont", desc := "(I)Z" } : Jvm.MethodName) method_3_code (1 : Nat) (Option.some Jvm.ClassFile.FieldType.boolean)]
set_option maxRecDepth 65536 in
theorem codes_eq : words1.filter isCode = codes1 := rfl
theorem w_codes : ∀ c ∈ words1.filter isCode, c.before args0 about1 = true := by
  rw [codes_eq]
  intro c hc
  simp only [codes1, List.mem_cons, List.not_mem_nil, or_false] at hc
  rcases hc with rfl | rfl | rfl | rfl
  · exact w_c0
  · exact w_c1
  · exact w_c2
  · exact w_c3
set_option maxRecDepth 65536 in
theorem w_t1 : words1.all (fun c => isCode c || c.before args0 about1) = true := by decide +kernel
theorem w_tables : (allAtoms (Jvm.Cond.code x code maxLocals ret :: tables_1)).before args0 about1 = true := by
  rw [allAtoms_all]
  show words1.all (fun c => c.before args0 about1) = true
  refine all_split ?_ w_codes
  rw [w_t1]
set_option maxRecDepth 65536 in
theorem w_case : (Jvm.Cond.and given_1 narrow_1).before args0 about1 = true := by decide +kernel
theorem w_applies : (headSpec (Jvm.Cond.code x code maxLocals ret :: tables_1) room_1).applies x e0.platform about1 = true :=
  (Spec.applies_iff w_frames).mpr ⟨w_running, w_runnable, w_alone, w_named, w_hears, w_ripe, w_room, w_tables⟩
theorem atStart : AtStart classFile x code maxLocals ret World_1 tables_1 room_1 Calls_1 rest_1 Pre_1 launch0 p0 e0 about1 theMethod args0 below0 :=
  ⟨lists_1, trivial, launch0.admits_env _ _ _, launch0.least_env, fairChoices_fair.cas, fairChoices_fair.clock, w_frames, w_args, w_heap, w_applies, trivial, trivial, w_case⟩
end start1
theorem witness_1 : WitnessClaimed_1 := ⟨start1.p0, start1.e0, start1.about1, start1.theMethod, start1.args0, start1.below0, start1.atStart⟩
end Jvm.Pilot.@@N@@
