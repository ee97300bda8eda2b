import JvmDerived
import JvmDerived.Pilot.@@N@@Statement
import JvmDerived.Pilot.@@N@@Code
set_option linter.unusedVariables false
set_option linter.unusedSimpArgs false
@@BLOCK:NumsL.lean.txt@@
namespace Jvm.RoadKit
open Sem ClassFile Op Lib Jvm.Stand Jvm.Free Jvm.LawKit
section New
variable {p : Program} {l : Launch} {e : Env} {R : Room} {s : State} {m : MethodId} {args : Array Value} {below : List Frame} {meth : Method} {c : Code} {T : State} {locs : List Loc} {cells slots : Nat}
theorem retI (X : Stand p l e R s m args below meth c T locs cells slots) (hx : p.tables.exec = Jvm.exec) {pc : Nat} {Ls : Array Slot} {z : Int32} {rest : List Value} (hret : meth.sig.returnType = some .int) (hd : decode c.code pc = .ok (.ireturn, 1)) {fs : List Frame}
    (hl : ∀ (f : JFrame) (acts : List Action), f.method = m → f.locked = none → f.entered = [] → (doReturn e (T.setTop f) acts (some (.int z))).1 = T.setFrames fs) : Steps p.tables e below (T.setTop (mkF m pc Ls (.int z :: rest))) (T.setFrames fs) := by
  have hm' : T.vm.method? m = some meth := X.method'
  have hn : narrow .int (.int z) = .int z := rfl
  show Steps p.tables e below (T.setTop { method := m, pc := pc, locals := Ls, stack := _ :: rest, locked := none }) _
  jvm_step X.here [X.here.top, hx, hd, hm', hret, hn]
  first | (intro acts; rw [hl _ acts rfl rfl rfl]) | rw [hl _ _ rfl rfl rfl]
  exact Steps.refl _
end New
end Jvm.RoadKit
namespace Jvm.Pilot.@@N@@
open Jvm Jvm.ClassFile Sem Op Lib Jvm.Free Jvm.Stand Jvm.LawKit Jvm.RoadKit Bundle Jvm.Pilot.@@N@@.Jvm.D
theorem own_lcLt {x y : Int64} : lcmpW x y < 0 ↔ x < y := by rw [lcW]; exact lc_lt x y
theorem own_lcGt {x y : Int64} : 0 < lcmpW x y ↔ y < x := by rw [lcW]; exact lc_gt x y
theorem own_lcEq {x y : Int64} : lcmpW x y = 0 ↔ x = y := by rw [lcW]; exact lc_eq x y
theorem own_pn0 : plainName "com/example/tymely/tymely/model/BinaryWord" = true := by first | (simp [plainName, overriddenIn]; done) | decide +kernel
theorem own_ef_own_rm1 (m : MethodId) (q0 : Int64) (q1 : Int64) (q2 : Int64) : entryFrame m #[(.long q0), (.long q1), (.long q2)] 6 = mkF m 0 #[.val (.long q0), .second, .val (.long q1), .second, .val (.long q2), .second] [] := by first | (simp [entryFrame, mkF, argsToLocals, Value.category]; done) | rfl
theorem own_d1_0 : decode prog_20_method_5_code 0 = .ok (.lload_n 0, 1) := by decide +kernel
theorem own_d1_1 : decode prog_20_method_5_code 1 = .ok (.lload_n 2, 1) := by decide +kernel
theorem own_d1_2 : decode prog_20_method_5_code 2 = .ok (.lcmp, 1) := by decide +kernel
theorem own_d1_3 : decode prog_20_method_5_code 3 = .ok (.ifCond .ge 7, 3) := by decide +kernel
theorem own_d1_6 : decode prog_20_method_5_code 6 = .ok (.lload_n 0, 1) := by decide +kernel
theorem own_d1_7 : decode prog_20_method_5_code 7 = .ok (.goto 11, 3) := by decide +kernel
theorem own_d1_10 : decode prog_20_method_5_code 10 = .ok (.lload_n 2, 1) := by decide +kernel
theorem own_d1_11 : decode prog_20_method_5_code 11 = .ok (.lload_n 0, 1) := by decide +kernel
theorem own_d1_12 : decode prog_20_method_5_code 12 = .ok (.lload_n 2, 1) := by decide +kernel
theorem own_d1_13 : decode prog_20_method_5_code 13 = .ok (.lsub, 1) := by decide +kernel
theorem own_d1_14 : decode prog_20_method_5_code 14 = .ok (.lload 4, 2) := by decide +kernel
theorem own_d1_16 : decode prog_20_method_5_code 16 = .ok (.lrem, 1) := by decide +kernel
theorem own_d1_17 : decode prog_20_method_5_code 17 = .ok (.ladd, 1) := by decide +kernel
theorem own_d1_18 : decode prog_20_method_5_code 18 = .ok (.lreturn, 1) := by decide +kernel
def own_rm1_f (q0 : Int64) (q1 : Int64) (q2 : Int64) : Int64 := (if q0 < q1 then q0 else (q1 + ((q0 - q1) - ((q0 - q1) / q2) * q2)))
def Qown_rm1 (Z : State) (q0 : Int64) (q1 : Int64) (q2 : Int64) (h0 : Heap) (n0 : Nat) (v : Option Value) (h : Heap) (L : List Loc) : Prop := v = some (.long (own_rm1_f q0 q1 q2)) ∧ Fr n0 L ∧ h = h0
set_option maxRecDepth 65536 in
set_option maxHeartbeats 40000000 in
theorem own_rm1 (l : Launch) (Z : State) (a0 : Array Value) (hw : ∀ d ∈ tables_1, d.before a0 Z = true) (ws : List Jvm.Cond) (q0 : Int64) (q1 : Int64) (q2 : Int64) (h0 : Heap) (n0 : Nat) (Z0 : n0 ≤ h0.size) (hnz : ¬ q2 = (0 : Int64)) :
    MetFree l (⟨"com/example/tymely/tymely/model/BinaryWord", "position", "(JJJ)J"⟩ : MethodName) (head1 (Jvm.Cond.code (⟨"com/example/tymely/tymely/model/BinaryWord", "position", "(JJJ)J"⟩ : MethodName) prog_20_method_5_code 6 (some .long) :: ws) ({ frames := 0, cells := 0, slots := 0, locals := 0 } : Room)) (fun a U => a = #[(.long q0), (.long q1), (.long q2)] ∧ Z.Warmed39 U.vm ∧ U.heap = h0) (fun _ _ _ _ _ => True) (fun _ U o U' => ∃ v L, o = .returned v ∧ Qown_rm1 Z q0 q1 q2 h0 n0 v U'.heap L ∧ FrameEnd U o U' L ({ frames := 0, cells := 0, slots := 0, locals := 0 } : Room).cells ({ frames := 0, cells := 0, slots := 0, locals := 0 } : Room).slots) := by
  refine MetFree.of_bodySF (plainFor_of_name own_pn0) hisR ?_
  intro p e s m args below meth c s₁ Bd hml0 hP hK
  obtain ⟨rfl, hZ, hh⟩ := hP
  have hx := Bd.exec
  have hby := Bd.bytes
  have hml : c.maxLocals = 6 := hml0
  have hown : s.vm.findClass "com/example/tymely/tymely/model/BinaryWord" = some m.cls := findClass_of_methodNamed Bd.named
  have hnm := (name_of_methodNamed Bd.named Bd.method).1
  have X0 : Stand p l e ({ frames := 0, cells := 0, slots := 0, locals := 0 } : Room) s m #[(.long q0), (.long q1), (.long q2)] below meth c s₁ [] 0 0 := Stand.of_body Bd
  have e0 : s₁.heap = h0 := by rw [← hh, Bd.state]; rfl
  have N0 := Fr.nil n0
  have pre0 : ∀ t, Steps p.tables e below (s₁.setTop (mkF m 0 #[.val (.long q0), .second, .val (.long q1), .second, .val (.long q2), .second] [])) t → Steps p.tables e below (s₁.setTop (entryFrame m #[(.long q0), (.long q1), (.long q2)] 6)) t := fun t k => castTop (own_ef_own_rm1 m q0 q1 q2) k
  have pre5 : ∀ t, Steps p.tables e below (s₁.setTop (mkF m 3 #[.val (.long q0), .second, .val (.long q1), .second, .val (.long q2), .second] [(.int (lcmpW q0 q1))])) t → Steps p.tables e below (s₁.setTop (entryFrame m #[(.long q0), (.long q1), (.long q2)] 6)) t := by
    intro t kt
    refine pre0 _ ?_
    show Steps p.tables e below (s₁.setTop (mkF m 0 #[.val (.long q0), .second, .val (.long q1), .second, .val (.long q2), .second] [])) _
    refine XS.lloadN X0.here hx rfl (hb hby own_d1_0) rfl ?_
    show Steps p.tables e below (s₁.setTop (mkF m 1 #[.val (.long q0), .second, .val (.long q1), .second, .val (.long q2), .second] [(.long q0)])) _
    refine XS.lloadN X0.here hx rfl (hb hby own_d1_1) rfl ?_
    show Steps p.tables e below (s₁.setTop (mkF m 2 #[.val (.long q0), .second, .val (.long q1), .second, .val (.long q2), .second] [(.long q1), (.long q0)])) _
    refine XS.lcmp X0.here hx rfl (hb hby own_d1_2) rfl ?_
    exact kt
  by_cases hc3_6 : q0 < q1
  · obtain ⟨fs, hr, hrun, hended, hW, hsame⟩ := X0.leave (v := some (.long q0)) (fun h => by rw [Bd.returns] at h; cases h)
    refine ⟨_, _, pre5 _ ?_, hrun, hended, _, _, rfl, ?_, ⟨_, rfl⟩, hW, hsame.mono (by decide) (by decide)⟩
    · show Steps p.tables e below (s₁.setTop (mkF m 3 #[.val (.long q0), .second, .val (.long q1), .second, .val (.long q2), .second] [(.int (lcmpW q0 q1))])) _
      refine XS.ifNo X0.here hx rfl (hb hby own_d1_3) rfl ((if0 _ _).trans (tlt (own_lcLt.mpr hc3_6)).2.1) ?_
      show Steps p.tables e below (s₁.setTop (mkF m 6 #[.val (.long q0), .second, .val (.long q1), .second, .val (.long q2), .second] [])) _
      refine XS.lloadN X0.here hx rfl (hb hby own_d1_6) rfl ?_
      show Steps p.tables e below (s₁.setTop (mkF m 7 #[.val (.long q0), .second, .val (.long q1), .second, .val (.long q2), .second] [(.long q0)])) _
      refine XS.goto X0.here hx rfl (pc0 := 7) (pc' := 18) rfl (hb hby own_d1_7) (by decide) (by decide) ?_
      show Steps p.tables e below (s₁.setTop (mkF m 18 #[.val (.long q0), .second, .val (.long q1), .second, .val (.long q2), .second] [(.long q0)])) _
      jvm_step X0.here [X0.here.top, hx, (hb hby own_d1_18), X0.method', Bd.returns, narrow]
      first | (intro acts; rw [hr _ acts rfl rfl rfl]) | rw [hr _ _ rfl rfl rfl]
      exact Steps.refl _
    · show Qown_rm1 Z q0 q1 q2 h0 n0 _ s₁.heap _
      rw [e0]
      have hv : (own_rm1_f q0 q1 q2) = q0 := by unfold own_rm1_f; rw [if_pos hc3_6]
      exact ⟨(by rw [hv]), N0, rfl⟩
  · obtain ⟨fs, hr, hrun, hended, hW, hsame⟩ := X0.leave (v := some (.long (q1 + ((q0 - q1) - ((q0 - q1) / q2) * q2)))) (fun h => by rw [Bd.returns] at h; cases h)
    refine ⟨_, _, pre5 _ ?_, hrun, hended, _, _, rfl, ?_, ⟨_, rfl⟩, hW, hsame.mono (by decide) (by decide)⟩
    · show Steps p.tables e below (s₁.setTop (mkF m 3 #[.val (.long q0), .second, .val (.long q1), .second, .val (.long q2), .second] [(.int (lcmpW q0 q1))])) _
      refine XS.ifYes X0.here hx rfl (pc0 := 3) (pc' := 10) rfl (hb hby own_d1_3) rfl ((if0 _ _).trans (flt (fun q => hc3_6 (own_lcLt.mp q))).2.1) (by decide) (by decide) ?_
      show Steps p.tables e below (s₁.setTop (mkF m 10 #[.val (.long q0), .second, .val (.long q1), .second, .val (.long q2), .second] [])) _
      refine XS.lloadN X0.here hx rfl (hb hby own_d1_10) rfl ?_
      show Steps p.tables e below (s₁.setTop (mkF m 11 #[.val (.long q0), .second, .val (.long q1), .second, .val (.long q2), .second] [(.long q1)])) _
      refine XS.lloadN X0.here hx rfl (hb hby own_d1_11) rfl ?_
      show Steps p.tables e below (s₁.setTop (mkF m 12 #[.val (.long q0), .second, .val (.long q1), .second, .val (.long q2), .second] [(.long q0), (.long q1)])) _
      refine XS.lloadN X0.here hx rfl (hb hby own_d1_12) rfl ?_
      show Steps p.tables e below (s₁.setTop (mkF m 13 #[.val (.long q0), .second, .val (.long q1), .second, .val (.long q2), .second] [(.long q1), (.long q0), (.long q1)])) _
      refine XS.lsub X0.here hx rfl (hb hby own_d1_13) rfl ?_
      show Steps p.tables e below (s₁.setTop (mkF m 14 #[.val (.long q0), .second, .val (.long q1), .second, .val (.long q2), .second] [(.long (q0 - q1)), (.long q1)])) _
      refine XS.lload X0.here hx rfl (hb hby own_d1_14) rfl ?_
      show Steps p.tables e below (s₁.setTop (mkF m 16 #[.val (.long q0), .second, .val (.long q1), .second, .val (.long q2), .second] [(.long q2), (.long (q0 - q1)), (.long q1)])) _
      refine XS.lrem X0.here hx rfl (hb hby own_d1_16) rfl hnz ?_
      show Steps p.tables e below (s₁.setTop (mkF m 17 #[.val (.long q0), .second, .val (.long q1), .second, .val (.long q2), .second] [(.long ((q0 - q1) - ((q0 - q1) / q2) * q2)), (.long q1)])) _
      refine XS.ladd X0.here hx rfl (hb hby own_d1_17) rfl ?_
      show Steps p.tables e below (s₁.setTop (mkF m 18 #[.val (.long q0), .second, .val (.long q1), .second, .val (.long q2), .second] [(.long (q1 + ((q0 - q1) - ((q0 - q1) / q2) * q2)))])) _
      jvm_step X0.here [X0.here.top, hx, (hb hby own_d1_18), X0.method', Bd.returns, narrow]
      first | (intro acts; rw [hr _ acts rfl rfl rfl]) | rw [hr _ _ rfl rfl rfl]
      exact Steps.refl _
    · show Qown_rm1 Z q0 q1 q2 h0 n0 _ s₁.heap _
      rw [e0]
      have hv : (own_rm1_f q0 q1 q2) = (q1 + ((q0 - q1) - ((q0 - q1) / q2) * q2)) := by unfold own_rm1_f; rw [if_neg hc3_6]
      exact ⟨(by rw [hv]), N0, rfl⟩
theorem own_pre (p : Int64) : 0 ≤ (p &&& (2147483647 : Int64)).toInt ∧ (p &&& (2147483647 : Int64)).toInt < 2147483648 := by
  have e := Jvm.Kit.i64_mask p 2147483647 (k := 31) (by decide) (by decide)
  omega
theorem own_per (p : Int64) : 1 ≤ ((p &&& (2147483647 : Int64)) + (1 : Int64)).toInt ∧ ((p &&& (2147483647 : Int64)) + (1 : Int64)).toInt ≤ 2147483648 := by
  have e := own_pre p
  have o : (1 : Int64).toInt = 1 := rfl
  rw [Jvm.Kit.i64_add (by omega) (by omega)]
  omega
theorem own_r1 (p : Int64) : 0 ≤ (p &&& (9223372036854775807 : Int64)).toInt := by
  have e := Jvm.Kit.i64_mask p 9223372036854775807 (k := 63) (by decide) (by decide)
  omega
theorem own_r2 (p : Int64) : 0 ≤ (p &&& (4294967295 : Int64)).toInt := by
  have e := Jvm.Kit.i64_mask p 4294967295 (k := 32) (by decide) (by decide)
  omega
theorem own_ne0 {q : Int64} (h : 1 ≤ q.toInt) : ¬ q = (0 : Int64) := fun e => by
  rw [e] at h; have o : (0 : Int64).toInt = 0 := rfl; omega
theorem own_lo {r p q : Int64} (h : r < p) : own_rm1_f r p q = r := by unfold own_rm1_f; rw [if_pos h]
theorem own_hi {r p q : Int64} (hr : 0 ≤ r.toInt) (hp : 0 ≤ p.toInt ∧ p.toInt < 2147483648) (hq : 1 ≤ q.toInt ∧ q.toInt ≤ 2147483648) (h : ¬ r < p) :
    (own_rm1_f r p q).toInt = p.toInt + (r.toInt - p.toInt) % q.toInt := by
  have hl := r.toInt_lt
  have h' : p.toInt ≤ r.toInt := by rw [Int64.lt_iff_toInt_lt] at h; omega
  have e1 : (r - p).toInt = r.toInt - p.toInt := Jvm.Kit.i64_sub (by omega) (by omega)
  have e2 := Jvm.Kit.i64_rem_nonneg (x := r - p) (y := q) (by omega)
  have b1 := Int.emod_nonneg (r.toInt - p.toInt) (b := q.toInt) (by omega)
  have b2 := Int.emod_lt_of_pos (r.toInt - p.toInt) (b := q.toInt) (by omega)
  unfold own_rm1_f; rw [if_neg h]
  rw [e1] at e2
  rw [Jvm.Kit.i64_add (by rw [e2]; omega) (by rw [e2]; omega), e2]
theorem own_c1 {r p q : Int64} (hr : 0 ≤ r.toInt) (hp : 0 ≤ p.toInt ∧ p.toInt < 2147483648) (hq : 1 ≤ q.toInt ∧ q.toInt ≤ 2147483648) (h : ¬ r < p) : ¬ own_rm1_f r p q < p := by
  have e := own_hi hr hp hq h
  have b1 := Int.emod_nonneg (r.toInt - p.toInt) (b := q.toInt) (by omega)
  rw [Int64.lt_iff_toInt_lt]; omega
theorem own_c2 {r p q : Int64} (hr : 0 ≤ r.toInt) (hp : 0 ≤ p.toInt ∧ p.toInt < 2147483648) (hq : 1 ≤ q.toInt ∧ q.toInt ≤ 2147483648) (h : ¬ r < p) : own_rm1_f r p q < p + q := by
  have e := own_hi hr hp hq h
  have b2 := Int.emod_lt_of_pos (r.toInt - p.toInt) (b := q.toInt) (by omega)
  rw [Int64.lt_iff_toInt_lt, Jvm.Kit.i64_add (by omega) (by omega)]; omega
theorem own_c3 {r p q : Int64} (hr : 0 ≤ r.toInt) (hp : 0 ≤ p.toInt ∧ p.toInt < 2147483648) (hq : 1 ≤ q.toInt ∧ q.toInt ≤ 2147483648) (h : ¬ r < p) :
    ((r - own_rm1_f r p q) - ((r - own_rm1_f r p q) / q) * q) = (0 : Int64) := by
  have e := own_hi hr hp hq h
  have hl := r.toInt_lt
  have h' : p.toInt ≤ r.toInt := by rw [Int64.lt_iff_toInt_lt] at h; omega
  have b1 := Int.emod_nonneg (r.toInt - p.toInt) (b := q.toInt) (by omega)
  have b2 : (r.toInt - p.toInt) % q.toInt ≤ r.toInt - p.toInt := by
    have h1 := Int.mul_ediv_add_emod (r.toInt - p.toInt) q.toInt
    have h2 : 0 ≤ q.toInt * ((r.toInt - p.toInt) / q.toInt) := Int.mul_nonneg (by omega) (Int.ediv_nonneg (by omega) (by omega))
    omega
  have e1 : (r - own_rm1_f r p q).toInt = r.toInt - (own_rm1_f r p q).toInt := Jvm.Kit.i64_sub (by omega) (by omega)
  apply Int64.toInt_inj.mp
  rw [Jvm.Kit.i64_rem_nonneg (by omega), e1, e]
  have e3 : r.toInt - (p.toInt + (r.toInt - p.toInt) % q.toInt) = (r.toInt - p.toInt) - (r.toInt - p.toInt) % q.toInt := by omega
  rw [e3]
  exact Int.emod_eq_zero_of_dvd Int.dvd_self_sub_emod
theorem own_pn1 : plainName "com/example/tymely/tymely/model/BinaryWordPositionPinLaw" = true := by first | (simp [plainName, overriddenIn]; done) | decide +kernel
theorem own_ef_own_law (m : MethodId) (q0 : Int64) (q1 : Int64) (q2 : Int64) (p3 : Int32) : entryFrame m #[(.long q0), (.long q1), (.long q2), (.int p3)] maxLocals = mkF m 0 #[.val (.long q0), .second, .val (.long q1), .second, .val (.long q2), .second, .val (.int p3), .unset, .unset, .unset, .unset, .unset, .unset, .unset, .unset] [] := by first | (simp [entryFrame, mkF, argsToLocals, Value.category, maxLocals]; done) | rfl
theorem own_pd0 : parseMethodDescriptor "(JJJ)J" = some ⟨[.long, .long, .long], some .long⟩ := by decide +kernel
def Qown_law (Z : State) (q0 : Int64) (q1 : Int64) (q2 : Int64) (p3 : Int32) (h0 : Heap) (n0 : Nat) (v : Option Value) (h : Heap) (L : List Loc) : Prop := v = some (.int (1 : Int32)) ∧ Fr n0 L
set_option maxRecDepth 65536 in
set_option maxHeartbeats 40000000 in
theorem own_law (l : Launch) (Z : State) (a0 : Array Value) (hw : ∀ d ∈ tables_1, d.before a0 Z = true) (ws : List Jvm.Cond) (q0 : Int64) (q1 : Int64) (q2 : Int64) (p3 : Int32) (h0 : Heap) (n0 : Nat) (Z0 : n0 ≤ h0.size) :
    MetFree l x (head1 (Jvm.Cond.code x code maxLocals ret :: ws) room_1) (fun a U => a = #[(.long q0), (.long q1), (.long q2), (.int p3)] ∧ Z.Warmed39 U.vm ∧ U.heap = h0) (fun _ _ _ _ _ => True) (fun _ U o U' => ∃ v L, o = .returned v ∧ Qown_law Z q0 q1 q2 p3 h0 n0 v U'.heap L ∧ FrameEnd U o U' L room_1.cells room_1.slots) := by
  refine MetFree.of_bodySF (plainFor_of_name own_pn1) hisR ?_
  intro p e s m args below meth c s₁ Bd hml0 hP hK
  obtain ⟨rfl, hZ, hh⟩ := hP
  have hx := Bd.exec
  have hby := Bd.bytes
  have hml : c.maxLocals = 15 := hml0
  have hown : s.vm.findClass "com/example/tymely/tymely/model/BinaryWordPositionPinLaw" = some m.cls := findClass_of_methodNamed Bd.named
  have hnm := (name_of_methodNamed Bd.named Bd.method).1
  have X0 : Stand p l e room_1 s m #[(.long q0), (.long q1), (.long q2), (.int p3)] below meth c s₁ [] 0 0 := Stand.of_body Bd
  have e0 : s₁.heap = h0 := by rw [← hh, Bd.state]; rfl
  have N0 := Fr.nil n0
  have pre0 : ∀ t, Steps p.tables e below (s₁.setTop (mkF m 0 #[.val (.long q0), .second, .val (.long q1), .second, .val (.long q2), .second, .val (.int p3), .unset, .unset, .unset, .unset, .unset, .unset, .unset, .unset] [])) t → Steps p.tables e below (s₁.setTop (entryFrame m #[(.long q0), (.long q1), (.long q2), (.int p3)] maxLocals)) t := fun t k => castTop (own_ef_own_law m q0 q1 q2 p3) k
  have pre15 : ∀ t, Steps p.tables e below (s₁.setTop (mkF m 21 #[.val (.long q0), .second, .val (.long q1), .second, .val (.long q2), .second, .val (.int p3), .val (.long (q1 &&& (2147483647 : Int64))), .second, .val (.long ((q2 &&& (2147483647 : Int64)) + (1 : Int64))), .second, .unset, .unset, .unset, .unset] [(.int (p3 &&& (1 : Int32)))])) t → Steps p.tables e below (s₁.setTop (entryFrame m #[(.long q0), (.long q1), (.long q2), (.int p3)] maxLocals)) t := by
    intro t kt
    refine pre0 _ ?_
    show Steps p.tables e below (s₁.setTop (mkF m 0 #[.val (.long q0), .second, .val (.long q1), .second, .val (.long q2), .second, .val (.int p3), .unset, .unset, .unset, .unset, .unset, .unset, .unset, .unset] [])) _
    refine XS.lloadN X0.here hx rfl (hb hby at_0) rfl ?_
    show Steps p.tables e below (s₁.setTop (mkF m 1 #[.val (.long q0), .second, .val (.long q1), .second, .val (.long q2), .second, .val (.int p3), .unset, .unset, .unset, .unset, .unset, .unset, .unset, .unset] [(.long q1)])) _
    refine X0.ldc2Long hx hown (mvT hZ (hw _ (List.mem_of_getElem? (i := 0) rfl))) (g := (mkF m 1 #[.val (.long q0), .second, .val (.long q1), .second, .val (.long q2), .second, .val (.int p3), .unset, .unset, .unset, .unset, .unset, .unset, .unset, .unset] [(.long q1)])) rfl (hb hby at_1) _ ?_
    show Steps p.tables e below (s₁.setTop (mkF m 4 #[.val (.long q0), .second, .val (.long q1), .second, .val (.long q2), .second, .val (.int p3), .unset, .unset, .unset, .unset, .unset, .unset, .unset, .unset] [(.long (2147483647 : Int64)), (.long q1)])) _
    refine XS.land X0.here hx rfl (hb hby at_4) rfl ?_
    show Steps p.tables e below (s₁.setTop (mkF m 5 #[.val (.long q0), .second, .val (.long q1), .second, .val (.long q2), .second, .val (.int p3), .unset, .unset, .unset, .unset, .unset, .unset, .unset, .unset] [(.long (q1 &&& (2147483647 : Int64)))])) _
    refine XS.lstore X0.here hx rfl (hb hby at_5) rfl (l' := #[.val (.long q0), .second, .val (.long q1), .second, .val (.long q2), .second, .val (.int p3), .val (.long (q1 &&& (2147483647 : Int64))), .second, .unset, .unset, .unset, .unset, .unset, .unset]) rfl ?_
    show Steps p.tables e below (s₁.setTop (mkF m 7 #[.val (.long q0), .second, .val (.long q1), .second, .val (.long q2), .second, .val (.int p3), .val (.long (q1 &&& (2147483647 : Int64))), .second, .unset, .unset, .unset, .unset, .unset, .unset] [])) _
    refine XS.lload X0.here hx rfl (hb hby at_7) rfl ?_
    show Steps p.tables e below (s₁.setTop (mkF m 9 #[.val (.long q0), .second, .val (.long q1), .second, .val (.long q2), .second, .val (.int p3), .val (.long (q1 &&& (2147483647 : Int64))), .second, .unset, .unset, .unset, .unset, .unset, .unset] [(.long q2)])) _
    refine X0.ldc2Long hx hown (mvT hZ (hw _ (List.mem_of_getElem? (i := 0) rfl))) (g := (mkF m 9 #[.val (.long q0), .second, .val (.long q1), .second, .val (.long q2), .second, .val (.int p3), .val (.long (q1 &&& (2147483647 : Int64))), .second, .unset, .unset, .unset, .unset, .unset, .unset] [(.long q2)])) rfl (hb hby at_9) _ ?_
    show Steps p.tables e below (s₁.setTop (mkF m 12 #[.val (.long q0), .second, .val (.long q1), .second, .val (.long q2), .second, .val (.int p3), .val (.long (q1 &&& (2147483647 : Int64))), .second, .unset, .unset, .unset, .unset, .unset, .unset] [(.long (2147483647 : Int64)), (.long q2)])) _
    refine XS.land X0.here hx rfl (hb hby at_12) rfl ?_
    show Steps p.tables e below (s₁.setTop (mkF m 13 #[.val (.long q0), .second, .val (.long q1), .second, .val (.long q2), .second, .val (.int p3), .val (.long (q1 &&& (2147483647 : Int64))), .second, .unset, .unset, .unset, .unset, .unset, .unset] [(.long (q2 &&& (2147483647 : Int64)))])) _
    refine XS.lconst X0.here hx rfl (hb hby at_13) ?_
    show Steps p.tables e below (s₁.setTop (mkF m 14 #[.val (.long q0), .second, .val (.long q1), .second, .val (.long q2), .second, .val (.int p3), .val (.long (q1 &&& (2147483647 : Int64))), .second, .unset, .unset, .unset, .unset, .unset, .unset] [(.long (1 : Int64)), (.long (q2 &&& (2147483647 : Int64)))])) _
    refine XS.ladd X0.here hx rfl (hb hby at_14) rfl ?_
    show Steps p.tables e below (s₁.setTop (mkF m 15 #[.val (.long q0), .second, .val (.long q1), .second, .val (.long q2), .second, .val (.int p3), .val (.long (q1 &&& (2147483647 : Int64))), .second, .unset, .unset, .unset, .unset, .unset, .unset] [(.long ((q2 &&& (2147483647 : Int64)) + (1 : Int64)))])) _
    refine XS.lstore X0.here hx rfl (hb hby at_15) rfl (l' := #[.val (.long q0), .second, .val (.long q1), .second, .val (.long q2), .second, .val (.int p3), .val (.long (q1 &&& (2147483647 : Int64))), .second, .val (.long ((q2 &&& (2147483647 : Int64)) + (1 : Int64))), .second, .unset, .unset, .unset, .unset]) rfl ?_
    show Steps p.tables e below (s₁.setTop (mkF m 17 #[.val (.long q0), .second, .val (.long q1), .second, .val (.long q2), .second, .val (.int p3), .val (.long (q1 &&& (2147483647 : Int64))), .second, .val (.long ((q2 &&& (2147483647 : Int64)) + (1 : Int64))), .second, .unset, .unset, .unset, .unset] [])) _
    refine XS.iload X0.here hx rfl (hb hby at_17) rfl ?_
    show Steps p.tables e below (s₁.setTop (mkF m 19 #[.val (.long q0), .second, .val (.long q1), .second, .val (.long q2), .second, .val (.int p3), .val (.long (q1 &&& (2147483647 : Int64))), .second, .val (.long ((q2 &&& (2147483647 : Int64)) + (1 : Int64))), .second, .unset, .unset, .unset, .unset] [(.int p3)])) _
    refine XS.iconst X0.here hx rfl (hb hby at_19) ?_
    show Steps p.tables e below (s₁.setTop (mkF m 20 #[.val (.long q0), .second, .val (.long q1), .second, .val (.long q2), .second, .val (.int p3), .val (.long (q1 &&& (2147483647 : Int64))), .second, .val (.long ((q2 &&& (2147483647 : Int64)) + (1 : Int64))), .second, .unset, .unset, .unset, .unset] [(.int (1 : Int32)), (.int p3)])) _
    refine XS.iand X0.here hx rfl (hb hby at_20) rfl ?_
    exact kt
  by_cases hc21_16 : (p3 &&& (1 : Int32)) = (0 : Int32)
  · obtain ⟨_, _, ⟨T25, L25, k25, n25⟩, -, X25, ⟨Lc25, hQ25, l25, y25, z25⟩, st25⟩ := Jvm.LawKit.callS X0 hx (y := (⟨"com/example/tymely/tymely/model/BinaryWord", "position", "(JJJ)J"⟩ : MethodName)) hown (mvT hZ (hw _ (List.mem_of_getElem? (i := 2) rfl))) (mvT hZ (hw _ (List.mem_of_getElem? (i := 3) rfl))) (mvT hZ (hw _ (List.mem_of_getElem? (i := 4) rfl))) (mvT hZ (hw _ (List.mem_of_getElem? (i := 5) rfl))) (by decide) (backOf (W := 0) (own_rm1 l Z a0 hw [] (q0 &&& (4294967295 : Int64)) (q1 &&& (2147483647 : Int64)) ((q2 &&& (2147483647 : Int64)) + (1 : Int64)) h0 n0 Z0 (own_ne0 (own_per _).1)) hZ (hw _ (List.mem_of_getElem? (i := 5) rfl)) (hw _ (List.mem_of_getElem? (i := 4) rfl)) (by decide) (by decide)) (g := (mkF m 45 #[.val (.long q0), .second, .val (.long q1), .second, .val (.long q2), .second, .val (.int p3), .val (.long (q1 &&& (2147483647 : Int64))), .second, .val (.long ((q2 &&& (2147483647 : Int64)) + (1 : Int64))), .second, .val (.long (q0 &&& (4294967295 : Int64))), .second, .unset, .unset] [(.long ((q2 &&& (2147483647 : Int64)) + (1 : Int64))), (.long (q1 &&& (2147483647 : Int64))), (.long (q0 &&& (4294967295 : Int64)))])) rfl (by rw [hml]; rfl) (argsL := [(.long (q0 &&& (4294967295 : Int64))), (.long (q1 &&& (2147483647 : Int64))), (.long ((q2 &&& (2147483647 : Int64)) + (1 : Int64)))]) (rest := []) (lenOf own_pd0 rfl) rfl (by show 2 * 0 + _ ≤ _; exact Nat.le_of_eq rfl) (hb hby at_45) (fun _ _ => ⟨rfl, e0, (by decide : 0 + 0 ≤ _), (by decide : 0 + 0 ≤ _)⟩)
    dsimp only [Pt.U, Pt.locs, Pt.cells, Pt.slots] at X25 l25 y25 z25 st25 hQ25
    subst l25 y25 z25
    obtain ⟨rfl, Nq25, eh25⟩ := hQ25
    have N26 := Fr.app N0 Nq25
    have pre32 : ∀ t, Steps p.tables e below (T25.setTop (mkF m 55 #[.val (.long q0), .second, .val (.long q1), .second, .val (.long q2), .second, .val (.int p3), .val (.long (q1 &&& (2147483647 : Int64))), .second, .val (.long ((q2 &&& (2147483647 : Int64)) + (1 : Int64))), .second, .val (.long (q0 &&& (4294967295 : Int64))), .second, .val (.long (own_rm1_f (q0 &&& (4294967295 : Int64)) (q1 &&& (2147483647 : Int64)) ((q2 &&& (2147483647 : Int64)) + (1 : Int64)))), .second] [(.int (lcmpW (q0 &&& (4294967295 : Int64)) (q1 &&& (2147483647 : Int64))))])) t → Steps p.tables e below (s₁.setTop (entryFrame m #[(.long q0), (.long q1), (.long q2), (.int p3)] maxLocals)) t := by
      intro t kt
      refine pre15 _ ?_
      show Steps p.tables e below (s₁.setTop (mkF m 21 #[.val (.long q0), .second, .val (.long q1), .second, .val (.long q2), .second, .val (.int p3), .val (.long (q1 &&& (2147483647 : Int64))), .second, .val (.long ((q2 &&& (2147483647 : Int64)) + (1 : Int64))), .second, .unset, .unset, .unset, .unset] [(.int (p3 &&& (1 : Int32)))])) _
      refine XS.ifYes X0.here hx rfl (pc0 := 21) (pc' := 32) rfl (hb hby at_21) rfl ((if0 _ _).trans (teq hc21_16).1) (by decide) (by decide) ?_
      show Steps p.tables e below (s₁.setTop (mkF m 32 #[.val (.long q0), .second, .val (.long q1), .second, .val (.long q2), .second, .val (.int p3), .val (.long (q1 &&& (2147483647 : Int64))), .second, .val (.long ((q2 &&& (2147483647 : Int64)) + (1 : Int64))), .second, .unset, .unset, .unset, .unset] [])) _
      refine XS.lloadN X0.here hx rfl (hb hby at_32) rfl ?_
      show Steps p.tables e below (s₁.setTop (mkF m 33 #[.val (.long q0), .second, .val (.long q1), .second, .val (.long q2), .second, .val (.int p3), .val (.long (q1 &&& (2147483647 : Int64))), .second, .val (.long ((q2 &&& (2147483647 : Int64)) + (1 : Int64))), .second, .unset, .unset, .unset, .unset] [(.long q0)])) _
      refine X0.ldc2Long hx hown (mvT hZ (hw _ (List.mem_of_getElem? (i := 1) rfl))) (g := (mkF m 33 #[.val (.long q0), .second, .val (.long q1), .second, .val (.long q2), .second, .val (.int p3), .val (.long (q1 &&& (2147483647 : Int64))), .second, .val (.long ((q2 &&& (2147483647 : Int64)) + (1 : Int64))), .second, .unset, .unset, .unset, .unset] [(.long q0)])) rfl (hb hby at_33) _ ?_
      show Steps p.tables e below (s₁.setTop (mkF m 36 #[.val (.long q0), .second, .val (.long q1), .second, .val (.long q2), .second, .val (.int p3), .val (.long (q1 &&& (2147483647 : Int64))), .second, .val (.long ((q2 &&& (2147483647 : Int64)) + (1 : Int64))), .second, .unset, .unset, .unset, .unset] [(.long (4294967295 : Int64)), (.long q0)])) _
      refine XS.land X0.here hx rfl (hb hby at_36) rfl ?_
      show Steps p.tables e below (s₁.setTop (mkF m 37 #[.val (.long q0), .second, .val (.long q1), .second, .val (.long q2), .second, .val (.int p3), .val (.long (q1 &&& (2147483647 : Int64))), .second, .val (.long ((q2 &&& (2147483647 : Int64)) + (1 : Int64))), .second, .unset, .unset, .unset, .unset] [(.long (q0 &&& (4294967295 : Int64)))])) _
      refine XS.lstore X0.here hx rfl (hb hby at_37) rfl (l' := #[.val (.long q0), .second, .val (.long q1), .second, .val (.long q2), .second, .val (.int p3), .val (.long (q1 &&& (2147483647 : Int64))), .second, .val (.long ((q2 &&& (2147483647 : Int64)) + (1 : Int64))), .second, .val (.long (q0 &&& (4294967295 : Int64))), .second, .unset, .unset]) rfl ?_
      show Steps p.tables e below (s₁.setTop (mkF m 39 #[.val (.long q0), .second, .val (.long q1), .second, .val (.long q2), .second, .val (.int p3), .val (.long (q1 &&& (2147483647 : Int64))), .second, .val (.long ((q2 &&& (2147483647 : Int64)) + (1 : Int64))), .second, .val (.long (q0 &&& (4294967295 : Int64))), .second, .unset, .unset] [])) _
      refine XS.lload X0.here hx rfl (hb hby at_39) rfl ?_
      show Steps p.tables e below (s₁.setTop (mkF m 41 #[.val (.long q0), .second, .val (.long q1), .second, .val (.long q2), .second, .val (.int p3), .val (.long (q1 &&& (2147483647 : Int64))), .second, .val (.long ((q2 &&& (2147483647 : Int64)) + (1 : Int64))), .second, .val (.long (q0 &&& (4294967295 : Int64))), .second, .unset, .unset] [(.long (q0 &&& (4294967295 : Int64)))])) _
      refine XS.lload X0.here hx rfl (hb hby at_41) rfl ?_
      show Steps p.tables e below (s₁.setTop (mkF m 43 #[.val (.long q0), .second, .val (.long q1), .second, .val (.long q2), .second, .val (.int p3), .val (.long (q1 &&& (2147483647 : Int64))), .second, .val (.long ((q2 &&& (2147483647 : Int64)) + (1 : Int64))), .second, .val (.long (q0 &&& (4294967295 : Int64))), .second, .unset, .unset] [(.long (q1 &&& (2147483647 : Int64))), (.long (q0 &&& (4294967295 : Int64)))])) _
      refine XS.lload X0.here hx rfl (hb hby at_43) rfl ?_
      show Steps p.tables e below (s₁.setTop (mkF m 45 #[.val (.long q0), .second, .val (.long q1), .second, .val (.long q2), .second, .val (.int p3), .val (.long (q1 &&& (2147483647 : Int64))), .second, .val (.long ((q2 &&& (2147483647 : Int64)) + (1 : Int64))), .second, .val (.long (q0 &&& (4294967295 : Int64))), .second, .unset, .unset] [(.long ((q2 &&& (2147483647 : Int64)) + (1 : Int64))), (.long (q1 &&& (2147483647 : Int64))), (.long (q0 &&& (4294967295 : Int64)))])) _
      refine st25 _ ?_
      show Steps p.tables e below (T25.setTop (mkF m 48 #[.val (.long q0), .second, .val (.long q1), .second, .val (.long q2), .second, .val (.int p3), .val (.long (q1 &&& (2147483647 : Int64))), .second, .val (.long ((q2 &&& (2147483647 : Int64)) + (1 : Int64))), .second, .val (.long (q0 &&& (4294967295 : Int64))), .second, .unset, .unset] [(.long (own_rm1_f (q0 &&& (4294967295 : Int64)) (q1 &&& (2147483647 : Int64)) ((q2 &&& (2147483647 : Int64)) + (1 : Int64))))])) _
      refine XS.lstore X25.here hx rfl (hb hby at_48) rfl (l' := #[.val (.long q0), .second, .val (.long q1), .second, .val (.long q2), .second, .val (.int p3), .val (.long (q1 &&& (2147483647 : Int64))), .second, .val (.long ((q2 &&& (2147483647 : Int64)) + (1 : Int64))), .second, .val (.long (q0 &&& (4294967295 : Int64))), .second, .val (.long (own_rm1_f (q0 &&& (4294967295 : Int64)) (q1 &&& (2147483647 : Int64)) ((q2 &&& (2147483647 : Int64)) + (1 : Int64)))), .second]) rfl ?_
      show Steps p.tables e below (T25.setTop (mkF m 50 #[.val (.long q0), .second, .val (.long q1), .second, .val (.long q2), .second, .val (.int p3), .val (.long (q1 &&& (2147483647 : Int64))), .second, .val (.long ((q2 &&& (2147483647 : Int64)) + (1 : Int64))), .second, .val (.long (q0 &&& (4294967295 : Int64))), .second, .val (.long (own_rm1_f (q0 &&& (4294967295 : Int64)) (q1 &&& (2147483647 : Int64)) ((q2 &&& (2147483647 : Int64)) + (1 : Int64)))), .second] [])) _
      refine XS.lload X25.here hx rfl (hb hby at_50) rfl ?_
      show Steps p.tables e below (T25.setTop (mkF m 52 #[.val (.long q0), .second, .val (.long q1), .second, .val (.long q2), .second, .val (.int p3), .val (.long (q1 &&& (2147483647 : Int64))), .second, .val (.long ((q2 &&& (2147483647 : Int64)) + (1 : Int64))), .second, .val (.long (q0 &&& (4294967295 : Int64))), .second, .val (.long (own_rm1_f (q0 &&& (4294967295 : Int64)) (q1 &&& (2147483647 : Int64)) ((q2 &&& (2147483647 : Int64)) + (1 : Int64)))), .second] [(.long (q0 &&& (4294967295 : Int64)))])) _
      refine XS.lload X25.here hx rfl (hb hby at_52) rfl ?_
      show Steps p.tables e below (T25.setTop (mkF m 54 #[.val (.long q0), .second, .val (.long q1), .second, .val (.long q2), .second, .val (.int p3), .val (.long (q1 &&& (2147483647 : Int64))), .second, .val (.long ((q2 &&& (2147483647 : Int64)) + (1 : Int64))), .second, .val (.long (q0 &&& (4294967295 : Int64))), .second, .val (.long (own_rm1_f (q0 &&& (4294967295 : Int64)) (q1 &&& (2147483647 : Int64)) ((q2 &&& (2147483647 : Int64)) + (1 : Int64)))), .second] [(.long (q1 &&& (2147483647 : Int64))), (.long (q0 &&& (4294967295 : Int64)))])) _
      refine XS.lcmp X25.here hx rfl (hb hby at_54) rfl ?_
      exact kt
    by_cases hc55_33 : (q0 &&& (4294967295 : Int64)) < (q1 &&& (2147483647 : Int64))
    · obtain ⟨fs, hr, hrun, hended, hW, hsame⟩ := X25.leave (v := some (.int (1 : Int32))) (fun h => by rw [Bd.returns] at h; cases h)
      refine ⟨_, _, pre32 _ ?_, hrun, hended, _, _, rfl, ?_, ⟨_, rfl⟩, hW, hsame.mono (by decide) (by decide)⟩
      · show Steps p.tables e below (T25.setTop (mkF m 55 #[.val (.long q0), .second, .val (.long q1), .second, .val (.long q2), .second, .val (.int p3), .val (.long (q1 &&& (2147483647 : Int64))), .second, .val (.long ((q2 &&& (2147483647 : Int64)) + (1 : Int64))), .second, .val (.long (q0 &&& (4294967295 : Int64))), .second, .val (.long (own_rm1_f (q0 &&& (4294967295 : Int64)) (q1 &&& (2147483647 : Int64)) ((q2 &&& (2147483647 : Int64)) + (1 : Int64)))), .second] [(.int (lcmpW (q0 &&& (4294967295 : Int64)) (q1 &&& (2147483647 : Int64))))])) _
        refine XS.ifNo X25.here hx rfl (hb hby at_55) rfl ((if0 _ _).trans (tlt (own_lcLt.mpr hc55_33)).2.1) ?_
        show Steps p.tables e below (T25.setTop (mkF m 58 #[.val (.long q0), .second, .val (.long q1), .second, .val (.long q2), .second, .val (.int p3), .val (.long (q1 &&& (2147483647 : Int64))), .second, .val (.long ((q2 &&& (2147483647 : Int64)) + (1 : Int64))), .second, .val (.long (q0 &&& (4294967295 : Int64))), .second, .val (.long (own_rm1_f (q0 &&& (4294967295 : Int64)) (q1 &&& (2147483647 : Int64)) ((q2 &&& (2147483647 : Int64)) + (1 : Int64)))), .second] [])) _
        refine XS.lload X25.here hx rfl (hb hby at_58) rfl ?_
        show Steps p.tables e below (T25.setTop (mkF m 60 #[.val (.long q0), .second, .val (.long q1), .second, .val (.long q2), .second, .val (.int p3), .val (.long (q1 &&& (2147483647 : Int64))), .second, .val (.long ((q2 &&& (2147483647 : Int64)) + (1 : Int64))), .second, .val (.long (q0 &&& (4294967295 : Int64))), .second, .val (.long (own_rm1_f (q0 &&& (4294967295 : Int64)) (q1 &&& (2147483647 : Int64)) ((q2 &&& (2147483647 : Int64)) + (1 : Int64)))), .second] [(.long (own_rm1_f (q0 &&& (4294967295 : Int64)) (q1 &&& (2147483647 : Int64)) ((q2 &&& (2147483647 : Int64)) + (1 : Int64))))])) _
        refine XS.lload X25.here hx rfl (hb hby at_60) rfl ?_
        show Steps p.tables e below (T25.setTop (mkF m 62 #[.val (.long q0), .second, .val (.long q1), .second, .val (.long q2), .second, .val (.int p3), .val (.long (q1 &&& (2147483647 : Int64))), .second, .val (.long ((q2 &&& (2147483647 : Int64)) + (1 : Int64))), .second, .val (.long (q0 &&& (4294967295 : Int64))), .second, .val (.long (own_rm1_f (q0 &&& (4294967295 : Int64)) (q1 &&& (2147483647 : Int64)) ((q2 &&& (2147483647 : Int64)) + (1 : Int64)))), .second] [(.long (q0 &&& (4294967295 : Int64))), (.long (own_rm1_f (q0 &&& (4294967295 : Int64)) (q1 &&& (2147483647 : Int64)) ((q2 &&& (2147483647 : Int64)) + (1 : Int64))))])) _
        refine XS.lcmp X25.here hx rfl (hb hby at_62) rfl ?_
        show Steps p.tables e below (T25.setTop (mkF m 63 #[.val (.long q0), .second, .val (.long q1), .second, .val (.long q2), .second, .val (.int p3), .val (.long (q1 &&& (2147483647 : Int64))), .second, .val (.long ((q2 &&& (2147483647 : Int64)) + (1 : Int64))), .second, .val (.long (q0 &&& (4294967295 : Int64))), .second, .val (.long (own_rm1_f (q0 &&& (4294967295 : Int64)) (q1 &&& (2147483647 : Int64)) ((q2 &&& (2147483647 : Int64)) + (1 : Int64)))), .second] [(.int (lcmpW (own_rm1_f (q0 &&& (4294967295 : Int64)) (q1 &&& (2147483647 : Int64)) ((q2 &&& (2147483647 : Int64)) + (1 : Int64))) (q0 &&& (4294967295 : Int64))))])) _
        refine XS.ifNo X25.here hx rfl (hb hby at_63) rfl ((if0 _ _).trans (teq (own_lcEq.mpr (own_lo hc55_33 : (own_rm1_f (q0 &&& (4294967295 : Int64)) (q1 &&& (2147483647 : Int64)) ((q2 &&& (2147483647 : Int64)) + (1 : Int64))) = (q0 &&& (4294967295 : Int64))))).2) ?_
        show Steps p.tables e below (T25.setTop (mkF m 66 #[.val (.long q0), .second, .val (.long q1), .second, .val (.long q2), .second, .val (.int p3), .val (.long (q1 &&& (2147483647 : Int64))), .second, .val (.long ((q2 &&& (2147483647 : Int64)) + (1 : Int64))), .second, .val (.long (q0 &&& (4294967295 : Int64))), .second, .val (.long (own_rm1_f (q0 &&& (4294967295 : Int64)) (q1 &&& (2147483647 : Int64)) ((q2 &&& (2147483647 : Int64)) + (1 : Int64)))), .second] [])) _
        refine XS.iconst X25.here hx rfl (hb hby at_66) ?_
        show Steps p.tables e below (T25.setTop (mkF m 67 #[.val (.long q0), .second, .val (.long q1), .second, .val (.long q2), .second, .val (.int p3), .val (.long (q1 &&& (2147483647 : Int64))), .second, .val (.long ((q2 &&& (2147483647 : Int64)) + (1 : Int64))), .second, .val (.long (q0 &&& (4294967295 : Int64))), .second, .val (.long (own_rm1_f (q0 &&& (4294967295 : Int64)) (q1 &&& (2147483647 : Int64)) ((q2 &&& (2147483647 : Int64)) + (1 : Int64)))), .second] [(.int (1 : Int32))])) _
        refine XS.goto X25.here hx rfl (pc0 := 67) (pc' := 71) rfl (hb hby at_67) (by decide) (by decide) ?_
        show Steps p.tables e below (T25.setTop (mkF m 71 #[.val (.long q0), .second, .val (.long q1), .second, .val (.long q2), .second, .val (.int p3), .val (.long (q1 &&& (2147483647 : Int64))), .second, .val (.long ((q2 &&& (2147483647 : Int64)) + (1 : Int64))), .second, .val (.long (q0 &&& (4294967295 : Int64))), .second, .val (.long (own_rm1_f (q0 &&& (4294967295 : Int64)) (q1 &&& (2147483647 : Int64)) ((q2 &&& (2147483647 : Int64)) + (1 : Int64)))), .second] [(.int (1 : Int32))])) _
        exact retN X25 hx (t := .boolean) Bd.returns (by simp) (hb hby at_71) hr
      · show Qown_law Z q0 q1 q2 p3 h0 n0 _ T25.heap _
        rw [eh25]
        exact ⟨rfl, N26⟩
    · obtain ⟨fs, hr, hrun, hended, hW, hsame⟩ := X25.leave (v := some (.int (1 : Int32))) (fun h => by rw [Bd.returns] at h; cases h)
      refine ⟨_, _, pre32 _ ?_, hrun, hended, _, _, rfl, ?_, ⟨_, rfl⟩, hW, hsame.mono (by decide) (by decide)⟩
      · show Steps p.tables e below (T25.setTop (mkF m 55 #[.val (.long q0), .second, .val (.long q1), .second, .val (.long q2), .second, .val (.int p3), .val (.long (q1 &&& (2147483647 : Int64))), .second, .val (.long ((q2 &&& (2147483647 : Int64)) + (1 : Int64))), .second, .val (.long (q0 &&& (4294967295 : Int64))), .second, .val (.long (own_rm1_f (q0 &&& (4294967295 : Int64)) (q1 &&& (2147483647 : Int64)) ((q2 &&& (2147483647 : Int64)) + (1 : Int64)))), .second] [(.int (lcmpW (q0 &&& (4294967295 : Int64)) (q1 &&& (2147483647 : Int64))))])) _
        refine XS.ifYes X25.here hx rfl (pc0 := 55) (pc' := 72) rfl (hb hby at_55) rfl ((if0 _ _).trans (flt (fun q => hc55_33 (own_lcLt.mp q))).2.1) (by decide) (by decide) ?_
        show Steps p.tables e below (T25.setTop (mkF m 72 #[.val (.long q0), .second, .val (.long q1), .second, .val (.long q2), .second, .val (.int p3), .val (.long (q1 &&& (2147483647 : Int64))), .second, .val (.long ((q2 &&& (2147483647 : Int64)) + (1 : Int64))), .second, .val (.long (q0 &&& (4294967295 : Int64))), .second, .val (.long (own_rm1_f (q0 &&& (4294967295 : Int64)) (q1 &&& (2147483647 : Int64)) ((q2 &&& (2147483647 : Int64)) + (1 : Int64)))), .second] [])) _
        refine XS.lload X25.here hx rfl (hb hby at_72) rfl ?_
        show Steps p.tables e below (T25.setTop (mkF m 74 #[.val (.long q0), .second, .val (.long q1), .second, .val (.long q2), .second, .val (.int p3), .val (.long (q1 &&& (2147483647 : Int64))), .second, .val (.long ((q2 &&& (2147483647 : Int64)) + (1 : Int64))), .second, .val (.long (q0 &&& (4294967295 : Int64))), .second, .val (.long (own_rm1_f (q0 &&& (4294967295 : Int64)) (q1 &&& (2147483647 : Int64)) ((q2 &&& (2147483647 : Int64)) + (1 : Int64)))), .second] [(.long (q1 &&& (2147483647 : Int64)))])) _
        refine XS.lload X25.here hx rfl (hb hby at_74) rfl ?_
        show Steps p.tables e below (T25.setTop (mkF m 76 #[.val (.long q0), .second, .val (.long q1), .second, .val (.long q2), .second, .val (.int p3), .val (.long (q1 &&& (2147483647 : Int64))), .second, .val (.long ((q2 &&& (2147483647 : Int64)) + (1 : Int64))), .second, .val (.long (q0 &&& (4294967295 : Int64))), .second, .val (.long (own_rm1_f (q0 &&& (4294967295 : Int64)) (q1 &&& (2147483647 : Int64)) ((q2 &&& (2147483647 : Int64)) + (1 : Int64)))), .second] [(.long (own_rm1_f (q0 &&& (4294967295 : Int64)) (q1 &&& (2147483647 : Int64)) ((q2 &&& (2147483647 : Int64)) + (1 : Int64)))), (.long (q1 &&& (2147483647 : Int64)))])) _
        refine XS.lcmp X25.here hx rfl (hb hby at_76) rfl ?_
        show Steps p.tables e below (T25.setTop (mkF m 77 #[.val (.long q0), .second, .val (.long q1), .second, .val (.long q2), .second, .val (.int p3), .val (.long (q1 &&& (2147483647 : Int64))), .second, .val (.long ((q2 &&& (2147483647 : Int64)) + (1 : Int64))), .second, .val (.long (q0 &&& (4294967295 : Int64))), .second, .val (.long (own_rm1_f (q0 &&& (4294967295 : Int64)) (q1 &&& (2147483647 : Int64)) ((q2 &&& (2147483647 : Int64)) + (1 : Int64)))), .second] [(.int (lcmpW (q1 &&& (2147483647 : Int64)) (own_rm1_f (q0 &&& (4294967295 : Int64)) (q1 &&& (2147483647 : Int64)) ((q2 &&& (2147483647 : Int64)) + (1 : Int64)))))])) _
        refine XS.ifNo X25.here hx rfl (hb hby at_77) rfl ((if0 _ _).trans (flt (fun q => (own_c1 (own_r2 _) (own_pre _) (own_per _) hc55_33 : ¬ ((own_rm1_f (q0 &&& (4294967295 : Int64)) (q1 &&& (2147483647 : Int64)) ((q2 &&& (2147483647 : Int64)) + (1 : Int64))) < (q1 &&& (2147483647 : Int64)))) (own_lcGt.mp q))).2.2.1) ?_
        show Steps p.tables e below (T25.setTop (mkF m 80 #[.val (.long q0), .second, .val (.long q1), .second, .val (.long q2), .second, .val (.int p3), .val (.long (q1 &&& (2147483647 : Int64))), .second, .val (.long ((q2 &&& (2147483647 : Int64)) + (1 : Int64))), .second, .val (.long (q0 &&& (4294967295 : Int64))), .second, .val (.long (own_rm1_f (q0 &&& (4294967295 : Int64)) (q1 &&& (2147483647 : Int64)) ((q2 &&& (2147483647 : Int64)) + (1 : Int64)))), .second] [])) _
        refine XS.lload X25.here hx rfl (hb hby at_80) rfl ?_
        show Steps p.tables e below (T25.setTop (mkF m 82 #[.val (.long q0), .second, .val (.long q1), .second, .val (.long q2), .second, .val (.int p3), .val (.long (q1 &&& (2147483647 : Int64))), .second, .val (.long ((q2 &&& (2147483647 : Int64)) + (1 : Int64))), .second, .val (.long (q0 &&& (4294967295 : Int64))), .second, .val (.long (own_rm1_f (q0 &&& (4294967295 : Int64)) (q1 &&& (2147483647 : Int64)) ((q2 &&& (2147483647 : Int64)) + (1 : Int64)))), .second] [(.long (own_rm1_f (q0 &&& (4294967295 : Int64)) (q1 &&& (2147483647 : Int64)) ((q2 &&& (2147483647 : Int64)) + (1 : Int64))))])) _
        refine XS.lload X25.here hx rfl (hb hby at_82) rfl ?_
        show Steps p.tables e below (T25.setTop (mkF m 84 #[.val (.long q0), .second, .val (.long q1), .second, .val (.long q2), .second, .val (.int p3), .val (.long (q1 &&& (2147483647 : Int64))), .second, .val (.long ((q2 &&& (2147483647 : Int64)) + (1 : Int64))), .second, .val (.long (q0 &&& (4294967295 : Int64))), .second, .val (.long (own_rm1_f (q0 &&& (4294967295 : Int64)) (q1 &&& (2147483647 : Int64)) ((q2 &&& (2147483647 : Int64)) + (1 : Int64)))), .second] [(.long (q1 &&& (2147483647 : Int64))), (.long (own_rm1_f (q0 &&& (4294967295 : Int64)) (q1 &&& (2147483647 : Int64)) ((q2 &&& (2147483647 : Int64)) + (1 : Int64))))])) _
        refine XS.lload X25.here hx rfl (hb hby at_84) rfl ?_
        show Steps p.tables e below (T25.setTop (mkF m 86 #[.val (.long q0), .second, .val (.long q1), .second, .val (.long q2), .second, .val (.int p3), .val (.long (q1 &&& (2147483647 : Int64))), .second, .val (.long ((q2 &&& (2147483647 : Int64)) + (1 : Int64))), .second, .val (.long (q0 &&& (4294967295 : Int64))), .second, .val (.long (own_rm1_f (q0 &&& (4294967295 : Int64)) (q1 &&& (2147483647 : Int64)) ((q2 &&& (2147483647 : Int64)) + (1 : Int64)))), .second] [(.long ((q2 &&& (2147483647 : Int64)) + (1 : Int64))), (.long (q1 &&& (2147483647 : Int64))), (.long (own_rm1_f (q0 &&& (4294967295 : Int64)) (q1 &&& (2147483647 : Int64)) ((q2 &&& (2147483647 : Int64)) + (1 : Int64))))])) _
        refine XS.ladd X25.here hx rfl (hb hby at_86) rfl ?_
        show Steps p.tables e below (T25.setTop (mkF m 87 #[.val (.long q0), .second, .val (.long q1), .second, .val (.long q2), .second, .val (.int p3), .val (.long (q1 &&& (2147483647 : Int64))), .second, .val (.long ((q2 &&& (2147483647 : Int64)) + (1 : Int64))), .second, .val (.long (q0 &&& (4294967295 : Int64))), .second, .val (.long (own_rm1_f (q0 &&& (4294967295 : Int64)) (q1 &&& (2147483647 : Int64)) ((q2 &&& (2147483647 : Int64)) + (1 : Int64)))), .second] [(.long ((q1 &&& (2147483647 : Int64)) + ((q2 &&& (2147483647 : Int64)) + (1 : Int64)))), (.long (own_rm1_f (q0 &&& (4294967295 : Int64)) (q1 &&& (2147483647 : Int64)) ((q2 &&& (2147483647 : Int64)) + (1 : Int64))))])) _
        refine XS.lcmp X25.here hx rfl (hb hby at_87) rfl ?_
        show Steps p.tables e below (T25.setTop (mkF m 88 #[.val (.long q0), .second, .val (.long q1), .second, .val (.long q2), .second, .val (.int p3), .val (.long (q1 &&& (2147483647 : Int64))), .second, .val (.long ((q2 &&& (2147483647 : Int64)) + (1 : Int64))), .second, .val (.long (q0 &&& (4294967295 : Int64))), .second, .val (.long (own_rm1_f (q0 &&& (4294967295 : Int64)) (q1 &&& (2147483647 : Int64)) ((q2 &&& (2147483647 : Int64)) + (1 : Int64)))), .second] [(.int (lcmpW (own_rm1_f (q0 &&& (4294967295 : Int64)) (q1 &&& (2147483647 : Int64)) ((q2 &&& (2147483647 : Int64)) + (1 : Int64))) ((q1 &&& (2147483647 : Int64)) + ((q2 &&& (2147483647 : Int64)) + (1 : Int64)))))])) _
        refine XS.ifNo X25.here hx rfl (hb hby at_88) rfl ((if0 _ _).trans (tlt (own_lcLt.mpr (own_c2 (own_r2 _) (own_pre _) (own_per _) hc55_33 : (own_rm1_f (q0 &&& (4294967295 : Int64)) (q1 &&& (2147483647 : Int64)) ((q2 &&& (2147483647 : Int64)) + (1 : Int64))) < ((q1 &&& (2147483647 : Int64)) + ((q2 &&& (2147483647 : Int64)) + (1 : Int64)))))).2.1) ?_
        show Steps p.tables e below (T25.setTop (mkF m 91 #[.val (.long q0), .second, .val (.long q1), .second, .val (.long q2), .second, .val (.int p3), .val (.long (q1 &&& (2147483647 : Int64))), .second, .val (.long ((q2 &&& (2147483647 : Int64)) + (1 : Int64))), .second, .val (.long (q0 &&& (4294967295 : Int64))), .second, .val (.long (own_rm1_f (q0 &&& (4294967295 : Int64)) (q1 &&& (2147483647 : Int64)) ((q2 &&& (2147483647 : Int64)) + (1 : Int64)))), .second] [])) _
        refine XS.lload X25.here hx rfl (hb hby at_91) rfl ?_
        show Steps p.tables e below (T25.setTop (mkF m 93 #[.val (.long q0), .second, .val (.long q1), .second, .val (.long q2), .second, .val (.int p3), .val (.long (q1 &&& (2147483647 : Int64))), .second, .val (.long ((q2 &&& (2147483647 : Int64)) + (1 : Int64))), .second, .val (.long (q0 &&& (4294967295 : Int64))), .second, .val (.long (own_rm1_f (q0 &&& (4294967295 : Int64)) (q1 &&& (2147483647 : Int64)) ((q2 &&& (2147483647 : Int64)) + (1 : Int64)))), .second] [(.long (q0 &&& (4294967295 : Int64)))])) _
        refine XS.lload X25.here hx rfl (hb hby at_93) rfl ?_
        show Steps p.tables e below (T25.setTop (mkF m 95 #[.val (.long q0), .second, .val (.long q1), .second, .val (.long q2), .second, .val (.int p3), .val (.long (q1 &&& (2147483647 : Int64))), .second, .val (.long ((q2 &&& (2147483647 : Int64)) + (1 : Int64))), .second, .val (.long (q0 &&& (4294967295 : Int64))), .second, .val (.long (own_rm1_f (q0 &&& (4294967295 : Int64)) (q1 &&& (2147483647 : Int64)) ((q2 &&& (2147483647 : Int64)) + (1 : Int64)))), .second] [(.long (own_rm1_f (q0 &&& (4294967295 : Int64)) (q1 &&& (2147483647 : Int64)) ((q2 &&& (2147483647 : Int64)) + (1 : Int64)))), (.long (q0 &&& (4294967295 : Int64)))])) _
        refine XS.lsub X25.here hx rfl (hb hby at_95) rfl ?_
        show Steps p.tables e below (T25.setTop (mkF m 96 #[.val (.long q0), .second, .val (.long q1), .second, .val (.long q2), .second, .val (.int p3), .val (.long (q1 &&& (2147483647 : Int64))), .second, .val (.long ((q2 &&& (2147483647 : Int64)) + (1 : Int64))), .second, .val (.long (q0 &&& (4294967295 : Int64))), .second, .val (.long (own_rm1_f (q0 &&& (4294967295 : Int64)) (q1 &&& (2147483647 : Int64)) ((q2 &&& (2147483647 : Int64)) + (1 : Int64)))), .second] [(.long ((q0 &&& (4294967295 : Int64)) - (own_rm1_f (q0 &&& (4294967295 : Int64)) (q1 &&& (2147483647 : Int64)) ((q2 &&& (2147483647 : Int64)) + (1 : Int64)))))])) _
        refine XS.lload X25.here hx rfl (hb hby at_96) rfl ?_
        show Steps p.tables e below (T25.setTop (mkF m 98 #[.val (.long q0), .second, .val (.long q1), .second, .val (.long q2), .second, .val (.int p3), .val (.long (q1 &&& (2147483647 : Int64))), .second, .val (.long ((q2 &&& (2147483647 : Int64)) + (1 : Int64))), .second, .val (.long (q0 &&& (4294967295 : Int64))), .second, .val (.long (own_rm1_f (q0 &&& (4294967295 : Int64)) (q1 &&& (2147483647 : Int64)) ((q2 &&& (2147483647 : Int64)) + (1 : Int64)))), .second] [(.long ((q2 &&& (2147483647 : Int64)) + (1 : Int64))), (.long ((q0 &&& (4294967295 : Int64)) - (own_rm1_f (q0 &&& (4294967295 : Int64)) (q1 &&& (2147483647 : Int64)) ((q2 &&& (2147483647 : Int64)) + (1 : Int64)))))])) _
        refine XS.lrem X25.here hx rfl (hb hby at_98) rfl (own_ne0 (own_per _).1) ?_
        show Steps p.tables e below (T25.setTop (mkF m 99 #[.val (.long q0), .second, .val (.long q1), .second, .val (.long q2), .second, .val (.int p3), .val (.long (q1 &&& (2147483647 : Int64))), .second, .val (.long ((q2 &&& (2147483647 : Int64)) + (1 : Int64))), .second, .val (.long (q0 &&& (4294967295 : Int64))), .second, .val (.long (own_rm1_f (q0 &&& (4294967295 : Int64)) (q1 &&& (2147483647 : Int64)) ((q2 &&& (2147483647 : Int64)) + (1 : Int64)))), .second] [(.long (((q0 &&& (4294967295 : Int64)) - (own_rm1_f (q0 &&& (4294967295 : Int64)) (q1 &&& (2147483647 : Int64)) ((q2 &&& (2147483647 : Int64)) + (1 : Int64)))) - (((q0 &&& (4294967295 : Int64)) - (own_rm1_f (q0 &&& (4294967295 : Int64)) (q1 &&& (2147483647 : Int64)) ((q2 &&& (2147483647 : Int64)) + (1 : Int64)))) / ((q2 &&& (2147483647 : Int64)) + (1 : Int64))) * ((q2 &&& (2147483647 : Int64)) + (1 : Int64))))])) _
        refine XS.lconst X25.here hx rfl (hb hby at_99) ?_
        show Steps p.tables e below (T25.setTop (mkF m 100 #[.val (.long q0), .second, .val (.long q1), .second, .val (.long q2), .second, .val (.int p3), .val (.long (q1 &&& (2147483647 : Int64))), .second, .val (.long ((q2 &&& (2147483647 : Int64)) + (1 : Int64))), .second, .val (.long (q0 &&& (4294967295 : Int64))), .second, .val (.long (own_rm1_f (q0 &&& (4294967295 : Int64)) (q1 &&& (2147483647 : Int64)) ((q2 &&& (2147483647 : Int64)) + (1 : Int64)))), .second] [(.long (0 : Int64)), (.long (((q0 &&& (4294967295 : Int64)) - (own_rm1_f (q0 &&& (4294967295 : Int64)) (q1 &&& (2147483647 : Int64)) ((q2 &&& (2147483647 : Int64)) + (1 : Int64)))) - (((q0 &&& (4294967295 : Int64)) - (own_rm1_f (q0 &&& (4294967295 : Int64)) (q1 &&& (2147483647 : Int64)) ((q2 &&& (2147483647 : Int64)) + (1 : Int64)))) / ((q2 &&& (2147483647 : Int64)) + (1 : Int64))) * ((q2 &&& (2147483647 : Int64)) + (1 : Int64))))])) _
        refine XS.lcmp X25.here hx rfl (hb hby at_100) rfl ?_
        show Steps p.tables e below (T25.setTop (mkF m 101 #[.val (.long q0), .second, .val (.long q1), .second, .val (.long q2), .second, .val (.int p3), .val (.long (q1 &&& (2147483647 : Int64))), .second, .val (.long ((q2 &&& (2147483647 : Int64)) + (1 : Int64))), .second, .val (.long (q0 &&& (4294967295 : Int64))), .second, .val (.long (own_rm1_f (q0 &&& (4294967295 : Int64)) (q1 &&& (2147483647 : Int64)) ((q2 &&& (2147483647 : Int64)) + (1 : Int64)))), .second] [(.int (lcmpW (((q0 &&& (4294967295 : Int64)) - (own_rm1_f (q0 &&& (4294967295 : Int64)) (q1 &&& (2147483647 : Int64)) ((q2 &&& (2147483647 : Int64)) + (1 : Int64)))) - (((q0 &&& (4294967295 : Int64)) - (own_rm1_f (q0 &&& (4294967295 : Int64)) (q1 &&& (2147483647 : Int64)) ((q2 &&& (2147483647 : Int64)) + (1 : Int64)))) / ((q2 &&& (2147483647 : Int64)) + (1 : Int64))) * ((q2 &&& (2147483647 : Int64)) + (1 : Int64))) (0 : Int64)))])) _
        refine XS.ifNo X25.here hx rfl (hb hby at_101) rfl ((if0 _ _).trans (teq (own_lcEq.mpr (own_c3 (own_r2 _) (own_pre _) (own_per _) hc55_33 : (((q0 &&& (4294967295 : Int64)) - (own_rm1_f (q0 &&& (4294967295 : Int64)) (q1 &&& (2147483647 : Int64)) ((q2 &&& (2147483647 : Int64)) + (1 : Int64)))) - (((q0 &&& (4294967295 : Int64)) - (own_rm1_f (q0 &&& (4294967295 : Int64)) (q1 &&& (2147483647 : Int64)) ((q2 &&& (2147483647 : Int64)) + (1 : Int64)))) / ((q2 &&& (2147483647 : Int64)) + (1 : Int64))) * ((q2 &&& (2147483647 : Int64)) + (1 : Int64))) = (0 : Int64)))).2) ?_
        show Steps p.tables e below (T25.setTop (mkF m 104 #[.val (.long q0), .second, .val (.long q1), .second, .val (.long q2), .second, .val (.int p3), .val (.long (q1 &&& (2147483647 : Int64))), .second, .val (.long ((q2 &&& (2147483647 : Int64)) + (1 : Int64))), .second, .val (.long (q0 &&& (4294967295 : Int64))), .second, .val (.long (own_rm1_f (q0 &&& (4294967295 : Int64)) (q1 &&& (2147483647 : Int64)) ((q2 &&& (2147483647 : Int64)) + (1 : Int64)))), .second] [])) _
        refine XS.iconst X25.here hx rfl (hb hby at_104) ?_
        show Steps p.tables e below (T25.setTop (mkF m 105 #[.val (.long q0), .second, .val (.long q1), .second, .val (.long q2), .second, .val (.int p3), .val (.long (q1 &&& (2147483647 : Int64))), .second, .val (.long ((q2 &&& (2147483647 : Int64)) + (1 : Int64))), .second, .val (.long (q0 &&& (4294967295 : Int64))), .second, .val (.long (own_rm1_f (q0 &&& (4294967295 : Int64)) (q1 &&& (2147483647 : Int64)) ((q2 &&& (2147483647 : Int64)) + (1 : Int64)))), .second] [(.int (1 : Int32))])) _
        refine XS.goto X25.here hx rfl (pc0 := 105) (pc' := 109) rfl (hb hby at_105) (by decide) (by decide) ?_
        show Steps p.tables e below (T25.setTop (mkF m 109 #[.val (.long q0), .second, .val (.long q1), .second, .val (.long q2), .second, .val (.int p3), .val (.long (q1 &&& (2147483647 : Int64))), .second, .val (.long ((q2 &&& (2147483647 : Int64)) + (1 : Int64))), .second, .val (.long (q0 &&& (4294967295 : Int64))), .second, .val (.long (own_rm1_f (q0 &&& (4294967295 : Int64)) (q1 &&& (2147483647 : Int64)) ((q2 &&& (2147483647 : Int64)) + (1 : Int64)))), .second] [(.int (1 : Int32))])) _
        exact retN X25 hx (t := .boolean) Bd.returns (by simp) (hb hby at_109) hr
      · show Qown_law Z q0 q1 q2 p3 h0 n0 _ T25.heap _
        rw [eh25]
        exact ⟨rfl, N26⟩
  · obtain ⟨_, _, ⟨T71, L71, k71, n71⟩, -, X71, ⟨Lc71, hQ71, l71, y71, z71⟩, st71⟩ := Jvm.LawKit.callS X0 hx (y := (⟨"com/example/tymely/tymely/model/BinaryWord", "position", "(JJJ)J"⟩ : MethodName)) hown (mvT hZ (hw _ (List.mem_of_getElem? (i := 2) rfl))) (mvT hZ (hw _ (List.mem_of_getElem? (i := 3) rfl))) (mvT hZ (hw _ (List.mem_of_getElem? (i := 4) rfl))) (mvT hZ (hw _ (List.mem_of_getElem? (i := 5) rfl))) (by decide) (backOf (W := 0) (own_rm1 l Z a0 hw [] (q0 &&& (9223372036854775807 : Int64)) (q1 &&& (2147483647 : Int64)) ((q2 &&& (2147483647 : Int64)) + (1 : Int64)) h0 n0 Z0 (own_ne0 (own_per _).1)) hZ (hw _ (List.mem_of_getElem? (i := 5) rfl)) (hw _ (List.mem_of_getElem? (i := 4) rfl)) (by decide) (by decide)) (g := (mkF m 45 #[.val (.long q0), .second, .val (.long q1), .second, .val (.long q2), .second, .val (.int p3), .val (.long (q1 &&& (2147483647 : Int64))), .second, .val (.long ((q2 &&& (2147483647 : Int64)) + (1 : Int64))), .second, .val (.long (q0 &&& (9223372036854775807 : Int64))), .second, .unset, .unset] [(.long ((q2 &&& (2147483647 : Int64)) + (1 : Int64))), (.long (q1 &&& (2147483647 : Int64))), (.long (q0 &&& (9223372036854775807 : Int64)))])) rfl (by rw [hml]; rfl) (argsL := [(.long (q0 &&& (9223372036854775807 : Int64))), (.long (q1 &&& (2147483647 : Int64))), (.long ((q2 &&& (2147483647 : Int64)) + (1 : Int64)))]) (rest := []) (lenOf own_pd0 rfl) rfl (by show 2 * 0 + _ ≤ _; exact Nat.le_of_eq rfl) (hb hby at_45) (fun _ _ => ⟨rfl, e0, (by decide : 0 + 0 ≤ _), (by decide : 0 + 0 ≤ _)⟩)
    dsimp only [Pt.U, Pt.locs, Pt.cells, Pt.slots] at X71 l71 y71 z71 st71 hQ71
    subst l71 y71 z71
    obtain ⟨rfl, Nq71, eh71⟩ := hQ71
    have N72 := Fr.app N0 Nq71
    have pre78 : ∀ t, Steps p.tables e below (T71.setTop (mkF m 55 #[.val (.long q0), .second, .val (.long q1), .second, .val (.long q2), .second, .val (.int p3), .val (.long (q1 &&& (2147483647 : Int64))), .second, .val (.long ((q2 &&& (2147483647 : Int64)) + (1 : Int64))), .second, .val (.long (q0 &&& (9223372036854775807 : Int64))), .second, .val (.long (own_rm1_f (q0 &&& (9223372036854775807 : Int64)) (q1 &&& (2147483647 : Int64)) ((q2 &&& (2147483647 : Int64)) + (1 : Int64)))), .second] [(.int (lcmpW (q0 &&& (9223372036854775807 : Int64)) (q1 &&& (2147483647 : Int64))))])) t → Steps p.tables e below (s₁.setTop (entryFrame m #[(.long q0), (.long q1), (.long q2), (.int p3)] maxLocals)) t := by
      intro t kt
      refine pre15 _ ?_
      show Steps p.tables e below (s₁.setTop (mkF m 21 #[.val (.long q0), .second, .val (.long q1), .second, .val (.long q2), .second, .val (.int p3), .val (.long (q1 &&& (2147483647 : Int64))), .second, .val (.long ((q2 &&& (2147483647 : Int64)) + (1 : Int64))), .second, .unset, .unset, .unset, .unset] [(.int (p3 &&& (1 : Int32)))])) _
      refine XS.ifNo X0.here hx rfl (hb hby at_21) rfl ((if0 _ _).trans (feq hc21_16).1) ?_
      show Steps p.tables e below (s₁.setTop (mkF m 24 #[.val (.long q0), .second, .val (.long q1), .second, .val (.long q2), .second, .val (.int p3), .val (.long (q1 &&& (2147483647 : Int64))), .second, .val (.long ((q2 &&& (2147483647 : Int64)) + (1 : Int64))), .second, .unset, .unset, .unset, .unset] [])) _
      refine XS.lloadN X0.here hx rfl (hb hby at_24) rfl ?_
      show Steps p.tables e below (s₁.setTop (mkF m 25 #[.val (.long q0), .second, .val (.long q1), .second, .val (.long q2), .second, .val (.int p3), .val (.long (q1 &&& (2147483647 : Int64))), .second, .val (.long ((q2 &&& (2147483647 : Int64)) + (1 : Int64))), .second, .unset, .unset, .unset, .unset] [(.long q0)])) _
      refine X0.ldc2Long hx hown (mvT hZ (hw _ (List.mem_of_getElem? (i := 6) rfl))) (g := (mkF m 25 #[.val (.long q0), .second, .val (.long q1), .second, .val (.long q2), .second, .val (.int p3), .val (.long (q1 &&& (2147483647 : Int64))), .second, .val (.long ((q2 &&& (2147483647 : Int64)) + (1 : Int64))), .second, .unset, .unset, .unset, .unset] [(.long q0)])) rfl (hb hby at_25) _ ?_
      show Steps p.tables e below (s₁.setTop (mkF m 28 #[.val (.long q0), .second, .val (.long q1), .second, .val (.long q2), .second, .val (.int p3), .val (.long (q1 &&& (2147483647 : Int64))), .second, .val (.long ((q2 &&& (2147483647 : Int64)) + (1 : Int64))), .second, .unset, .unset, .unset, .unset] [(.long (9223372036854775807 : Int64)), (.long q0)])) _
      refine XS.land X0.here hx rfl (hb hby at_28) rfl ?_
      show Steps p.tables e below (s₁.setTop (mkF m 29 #[.val (.long q0), .second, .val (.long q1), .second, .val (.long q2), .second, .val (.int p3), .val (.long (q1 &&& (2147483647 : Int64))), .second, .val (.long ((q2 &&& (2147483647 : Int64)) + (1 : Int64))), .second, .unset, .unset, .unset, .unset] [(.long (q0 &&& (9223372036854775807 : Int64)))])) _
      refine XS.goto X0.here hx rfl (pc0 := 29) (pc' := 37) rfl (hb hby at_29) (by decide) (by decide) ?_
      show Steps p.tables e below (s₁.setTop (mkF m 37 #[.val (.long q0), .second, .val (.long q1), .second, .val (.long q2), .second, .val (.int p3), .val (.long (q1 &&& (2147483647 : Int64))), .second, .val (.long ((q2 &&& (2147483647 : Int64)) + (1 : Int64))), .second, .unset, .unset, .unset, .unset] [(.long (q0 &&& (9223372036854775807 : Int64)))])) _
      refine XS.lstore X0.here hx rfl (hb hby at_37) rfl (l' := #[.val (.long q0), .second, .val (.long q1), .second, .val (.long q2), .second, .val (.int p3), .val (.long (q1 &&& (2147483647 : Int64))), .second, .val (.long ((q2 &&& (2147483647 : Int64)) + (1 : Int64))), .second, .val (.long (q0 &&& (9223372036854775807 : Int64))), .second, .unset, .unset]) rfl ?_
      show Steps p.tables e below (s₁.setTop (mkF m 39 #[.val (.long q0), .second, .val (.long q1), .second, .val (.long q2), .second, .val (.int p3), .val (.long (q1 &&& (2147483647 : Int64))), .second, .val (.long ((q2 &&& (2147483647 : Int64)) + (1 : Int64))), .second, .val (.long (q0 &&& (9223372036854775807 : Int64))), .second, .unset, .unset] [])) _
      refine XS.lload X0.here hx rfl (hb hby at_39) rfl ?_
      show Steps p.tables e below (s₁.setTop (mkF m 41 #[.val (.long q0), .second, .val (.long q1), .second, .val (.long q2), .second, .val (.int p3), .val (.long (q1 &&& (2147483647 : Int64))), .second, .val (.long ((q2 &&& (2147483647 : Int64)) + (1 : Int64))), .second, .val (.long (q0 &&& (9223372036854775807 : Int64))), .second, .unset, .unset] [(.long (q0 &&& (9223372036854775807 : Int64)))])) _
      refine XS.lload X0.here hx rfl (hb hby at_41) rfl ?_
      show Steps p.tables e below (s₁.setTop (mkF m 43 #[.val (.long q0), .second, .val (.long q1), .second, .val (.long q2), .second, .val (.int p3), .val (.long (q1 &&& (2147483647 : Int64))), .second, .val (.long ((q2 &&& (2147483647 : Int64)) + (1 : Int64))), .second, .val (.long (q0 &&& (9223372036854775807 : Int64))), .second, .unset, .unset] [(.long (q1 &&& (2147483647 : Int64))), (.long (q0 &&& (9223372036854775807 : Int64)))])) _
      refine XS.lload X0.here hx rfl (hb hby at_43) rfl ?_
      show Steps p.tables e below (s₁.setTop (mkF m 45 #[.val (.long q0), .second, .val (.long q1), .second, .val (.long q2), .second, .val (.int p3), .val (.long (q1 &&& (2147483647 : Int64))), .second, .val (.long ((q2 &&& (2147483647 : Int64)) + (1 : Int64))), .second, .val (.long (q0 &&& (9223372036854775807 : Int64))), .second, .unset, .unset] [(.long ((q2 &&& (2147483647 : Int64)) + (1 : Int64))), (.long (q1 &&& (2147483647 : Int64))), (.long (q0 &&& (9223372036854775807 : Int64)))])) _
      refine st71 _ ?_
      show Steps p.tables e below (T71.setTop (mkF m 48 #[.val (.long q0), .second, .val (.long q1), .second, .val (.long q2), .second, .val (.int p3), .val (.long (q1 &&& (2147483647 : Int64))), .second, .val (.long ((q2 &&& (2147483647 : Int64)) + (1 : Int64))), .second, .val (.long (q0 &&& (9223372036854775807 : Int64))), .second, .unset, .unset] [(.long (own_rm1_f (q0 &&& (9223372036854775807 : Int64)) (q1 &&& (2147483647 : Int64)) ((q2 &&& (2147483647 : Int64)) + (1 : Int64))))])) _
      refine XS.lstore X71.here hx rfl (hb hby at_48) rfl (l' := #[.val (.long q0), .second, .val (.long q1), .second, .val (.long q2), .second, .val (.int p3), .val (.long (q1 &&& (2147483647 : Int64))), .second, .val (.long ((q2 &&& (2147483647 : Int64)) + (1 : Int64))), .second, .val (.long (q0 &&& (9223372036854775807 : Int64))), .second, .val (.long (own_rm1_f (q0 &&& (9223372036854775807 : Int64)) (q1 &&& (2147483647 : Int64)) ((q2 &&& (2147483647 : Int64)) + (1 : Int64)))), .second]) rfl ?_
      show Steps p.tables e below (T71.setTop (mkF m 50 #[.val (.long q0), .second, .val (.long q1), .second, .val (.long q2), .second, .val (.int p3), .val (.long (q1 &&& (2147483647 : Int64))), .second, .val (.long ((q2 &&& (2147483647 : Int64)) + (1 : Int64))), .second, .val (.long (q0 &&& (9223372036854775807 : Int64))), .second, .val (.long (own_rm1_f (q0 &&& (9223372036854775807 : Int64)) (q1 &&& (2147483647 : Int64)) ((q2 &&& (2147483647 : Int64)) + (1 : Int64)))), .second] [])) _
      refine XS.lload X71.here hx rfl (hb hby at_50) rfl ?_
      show Steps p.tables e below (T71.setTop (mkF m 52 #[.val (.long q0), .second, .val (.long q1), .second, .val (.long q2), .second, .val (.int p3), .val (.long (q1 &&& (2147483647 : Int64))), .second, .val (.long ((q2 &&& (2147483647 : Int64)) + (1 : Int64))), .second, .val (.long (q0 &&& (9223372036854775807 : Int64))), .second, .val (.long (own_rm1_f (q0 &&& (9223372036854775807 : Int64)) (q1 &&& (2147483647 : Int64)) ((q2 &&& (2147483647 : Int64)) + (1 : Int64)))), .second] [(.long (q0 &&& (9223372036854775807 : Int64)))])) _
      refine XS.lload X71.here hx rfl (hb hby at_52) rfl ?_
      show Steps p.tables e below (T71.setTop (mkF m 54 #[.val (.long q0), .second, .val (.long q1), .second, .val (.long q2), .second, .val (.int p3), .val (.long (q1 &&& (2147483647 : Int64))), .second, .val (.long ((q2 &&& (2147483647 : Int64)) + (1 : Int64))), .second, .val (.long (q0 &&& (9223372036854775807 : Int64))), .second, .val (.long (own_rm1_f (q0 &&& (9223372036854775807 : Int64)) (q1 &&& (2147483647 : Int64)) ((q2 &&& (2147483647 : Int64)) + (1 : Int64)))), .second] [(.long (q1 &&& (2147483647 : Int64))), (.long (q0 &&& (9223372036854775807 : Int64)))])) _
      refine XS.lcmp X71.here hx rfl (hb hby at_54) rfl ?_
      exact kt
    by_cases hc55_79 : (q0 &&& (9223372036854775807 : Int64)) < (q1 &&& (2147483647 : Int64))
    · obtain ⟨fs, hr, hrun, hended, hW, hsame⟩ := X71.leave (v := some (.int (1 : Int32))) (fun h => by rw [Bd.returns] at h; cases h)
      refine ⟨_, _, pre78 _ ?_, hrun, hended, _, _, rfl, ?_, ⟨_, rfl⟩, hW, hsame.mono (by decide) (by decide)⟩
      · show Steps p.tables e below (T71.setTop (mkF m 55 #[.val (.long q0), .second, .val (.long q1), .second, .val (.long q2), .second, .val (.int p3), .val (.long (q1 &&& (2147483647 : Int64))), .second, .val (.long ((q2 &&& (2147483647 : Int64)) + (1 : Int64))), .second, .val (.long (q0 &&& (9223372036854775807 : Int64))), .second, .val (.long (own_rm1_f (q0 &&& (9223372036854775807 : Int64)) (q1 &&& (2147483647 : Int64)) ((q2 &&& (2147483647 : Int64)) + (1 : Int64)))), .second] [(.int (lcmpW (q0 &&& (9223372036854775807 : Int64)) (q1 &&& (2147483647 : Int64))))])) _
        refine XS.ifNo X71.here hx rfl (hb hby at_55) rfl ((if0 _ _).trans (tlt (own_lcLt.mpr hc55_79)).2.1) ?_
        show Steps p.tables e below (T71.setTop (mkF m 58 #[.val (.long q0), .second, .val (.long q1), .second, .val (.long q2), .second, .val (.int p3), .val (.long (q1 &&& (2147483647 : Int64))), .second, .val (.long ((q2 &&& (2147483647 : Int64)) + (1 : Int64))), .second, .val (.long (q0 &&& (9223372036854775807 : Int64))), .second, .val (.long (own_rm1_f (q0 &&& (9223372036854775807 : Int64)) (q1 &&& (2147483647 : Int64)) ((q2 &&& (2147483647 : Int64)) + (1 : Int64)))), .second] [])) _
        refine XS.lload X71.here hx rfl (hb hby at_58) rfl ?_
        show Steps p.tables e below (T71.setTop (mkF m 60 #[.val (.long q0), .second, .val (.long q1), .second, .val (.long q2), .second, .val (.int p3), .val (.long (q1 &&& (2147483647 : Int64))), .second, .val (.long ((q2 &&& (2147483647 : Int64)) + (1 : Int64))), .second, .val (.long (q0 &&& (9223372036854775807 : Int64))), .second, .val (.long (own_rm1_f (q0 &&& (9223372036854775807 : Int64)) (q1 &&& (2147483647 : Int64)) ((q2 &&& (2147483647 : Int64)) + (1 : Int64)))), .second] [(.long (own_rm1_f (q0 &&& (9223372036854775807 : Int64)) (q1 &&& (2147483647 : Int64)) ((q2 &&& (2147483647 : Int64)) + (1 : Int64))))])) _
        refine XS.lload X71.here hx rfl (hb hby at_60) rfl ?_
        show Steps p.tables e below (T71.setTop (mkF m 62 #[.val (.long q0), .second, .val (.long q1), .second, .val (.long q2), .second, .val (.int p3), .val (.long (q1 &&& (2147483647 : Int64))), .second, .val (.long ((q2 &&& (2147483647 : Int64)) + (1 : Int64))), .second, .val (.long (q0 &&& (9223372036854775807 : Int64))), .second, .val (.long (own_rm1_f (q0 &&& (9223372036854775807 : Int64)) (q1 &&& (2147483647 : Int64)) ((q2 &&& (2147483647 : Int64)) + (1 : Int64)))), .second] [(.long (q0 &&& (9223372036854775807 : Int64))), (.long (own_rm1_f (q0 &&& (9223372036854775807 : Int64)) (q1 &&& (2147483647 : Int64)) ((q2 &&& (2147483647 : Int64)) + (1 : Int64))))])) _
        refine XS.lcmp X71.here hx rfl (hb hby at_62) rfl ?_
        show Steps p.tables e below (T71.setTop (mkF m 63 #[.val (.long q0), .second, .val (.long q1), .second, .val (.long q2), .second, .val (.int p3), .val (.long (q1 &&& (2147483647 : Int64))), .second, .val (.long ((q2 &&& (2147483647 : Int64)) + (1 : Int64))), .second, .val (.long (q0 &&& (9223372036854775807 : Int64))), .second, .val (.long (own_rm1_f (q0 &&& (9223372036854775807 : Int64)) (q1 &&& (2147483647 : Int64)) ((q2 &&& (2147483647 : Int64)) + (1 : Int64)))), .second] [(.int (lcmpW (own_rm1_f (q0 &&& (9223372036854775807 : Int64)) (q1 &&& (2147483647 : Int64)) ((q2 &&& (2147483647 : Int64)) + (1 : Int64))) (q0 &&& (9223372036854775807 : Int64))))])) _
        refine XS.ifNo X71.here hx rfl (hb hby at_63) rfl ((if0 _ _).trans (teq (own_lcEq.mpr (own_lo hc55_79 : (own_rm1_f (q0 &&& (9223372036854775807 : Int64)) (q1 &&& (2147483647 : Int64)) ((q2 &&& (2147483647 : Int64)) + (1 : Int64))) = (q0 &&& (9223372036854775807 : Int64))))).2) ?_
        show Steps p.tables e below (T71.setTop (mkF m 66 #[.val (.long q0), .second, .val (.long q1), .second, .val (.long q2), .second, .val (.int p3), .val (.long (q1 &&& (2147483647 : Int64))), .second, .val (.long ((q2 &&& (2147483647 : Int64)) + (1 : Int64))), .second, .val (.long (q0 &&& (9223372036854775807 : Int64))), .second, .val (.long (own_rm1_f (q0 &&& (9223372036854775807 : Int64)) (q1 &&& (2147483647 : Int64)) ((q2 &&& (2147483647 : Int64)) + (1 : Int64)))), .second] [])) _
        refine XS.iconst X71.here hx rfl (hb hby at_66) ?_
        show Steps p.tables e below (T71.setTop (mkF m 67 #[.val (.long q0), .second, .val (.long q1), .second, .val (.long q2), .second, .val (.int p3), .val (.long (q1 &&& (2147483647 : Int64))), .second, .val (.long ((q2 &&& (2147483647 : Int64)) + (1 : Int64))), .second, .val (.long (q0 &&& (9223372036854775807 : Int64))), .second, .val (.long (own_rm1_f (q0 &&& (9223372036854775807 : Int64)) (q1 &&& (2147483647 : Int64)) ((q2 &&& (2147483647 : Int64)) + (1 : Int64)))), .second] [(.int (1 : Int32))])) _
        refine XS.goto X71.here hx rfl (pc0 := 67) (pc' := 71) rfl (hb hby at_67) (by decide) (by decide) ?_
        show Steps p.tables e below (T71.setTop (mkF m 71 #[.val (.long q0), .second, .val (.long q1), .second, .val (.long q2), .second, .val (.int p3), .val (.long (q1 &&& (2147483647 : Int64))), .second, .val (.long ((q2 &&& (2147483647 : Int64)) + (1 : Int64))), .second, .val (.long (q0 &&& (9223372036854775807 : Int64))), .second, .val (.long (own_rm1_f (q0 &&& (9223372036854775807 : Int64)) (q1 &&& (2147483647 : Int64)) ((q2 &&& (2147483647 : Int64)) + (1 : Int64)))), .second] [(.int (1 : Int32))])) _
        exact retN X71 hx (t := .boolean) Bd.returns (by simp) (hb hby at_71) hr
      · show Qown_law Z q0 q1 q2 p3 h0 n0 _ T71.heap _
        rw [eh71]
        exact ⟨rfl, N72⟩
    · obtain ⟨fs, hr, hrun, hended, hW, hsame⟩ := X71.leave (v := some (.int (1 : Int32))) (fun h => by rw [Bd.returns] at h; cases h)
      refine ⟨_, _, pre78 _ ?_, hrun, hended, _, _, rfl, ?_, ⟨_, rfl⟩, hW, hsame.mono (by decide) (by decide)⟩
      · show Steps p.tables e below (T71.setTop (mkF m 55 #[.val (.long q0), .second, .val (.long q1), .second, .val (.long q2), .second, .val (.int p3), .val (.long (q1 &&& (2147483647 : Int64))), .second, .val (.long ((q2 &&& (2147483647 : Int64)) + (1 : Int64))), .second, .val (.long (q0 &&& (9223372036854775807 : Int64))), .second, .val (.long (own_rm1_f (q0 &&& (9223372036854775807 : Int64)) (q1 &&& (2147483647 : Int64)) ((q2 &&& (2147483647 : Int64)) + (1 : Int64)))), .second] [(.int (lcmpW (q0 &&& (9223372036854775807 : Int64)) (q1 &&& (2147483647 : Int64))))])) _
        refine XS.ifYes X71.here hx rfl (pc0 := 55) (pc' := 72) rfl (hb hby at_55) rfl ((if0 _ _).trans (flt (fun q => hc55_79 (own_lcLt.mp q))).2.1) (by decide) (by decide) ?_
        show Steps p.tables e below (T71.setTop (mkF m 72 #[.val (.long q0), .second, .val (.long q1), .second, .val (.long q2), .second, .val (.int p3), .val (.long (q1 &&& (2147483647 : Int64))), .second, .val (.long ((q2 &&& (2147483647 : Int64)) + (1 : Int64))), .second, .val (.long (q0 &&& (9223372036854775807 : Int64))), .second, .val (.long (own_rm1_f (q0 &&& (9223372036854775807 : Int64)) (q1 &&& (2147483647 : Int64)) ((q2 &&& (2147483647 : Int64)) + (1 : Int64)))), .second] [])) _
        refine XS.lload X71.here hx rfl (hb hby at_72) rfl ?_
        show Steps p.tables e below (T71.setTop (mkF m 74 #[.val (.long q0), .second, .val (.long q1), .second, .val (.long q2), .second, .val (.int p3), .val (.long (q1 &&& (2147483647 : Int64))), .second, .val (.long ((q2 &&& (2147483647 : Int64)) + (1 : Int64))), .second, .val (.long (q0 &&& (9223372036854775807 : Int64))), .second, .val (.long (own_rm1_f (q0 &&& (9223372036854775807 : Int64)) (q1 &&& (2147483647 : Int64)) ((q2 &&& (2147483647 : Int64)) + (1 : Int64)))), .second] [(.long (q1 &&& (2147483647 : Int64)))])) _
        refine XS.lload X71.here hx rfl (hb hby at_74) rfl ?_
        show Steps p.tables e below (T71.setTop (mkF m 76 #[.val (.long q0), .second, .val (.long q1), .second, .val (.long q2), .second, .val (.int p3), .val (.long (q1 &&& (2147483647 : Int64))), .second, .val (.long ((q2 &&& (2147483647 : Int64)) + (1 : Int64))), .second, .val (.long (q0 &&& (9223372036854775807 : Int64))), .second, .val (.long (own_rm1_f (q0 &&& (9223372036854775807 : Int64)) (q1 &&& (2147483647 : Int64)) ((q2 &&& (2147483647 : Int64)) + (1 : Int64)))), .second] [(.long (own_rm1_f (q0 &&& (9223372036854775807 : Int64)) (q1 &&& (2147483647 : Int64)) ((q2 &&& (2147483647 : Int64)) + (1 : Int64)))), (.long (q1 &&& (2147483647 : Int64)))])) _
        refine XS.lcmp X71.here hx rfl (hb hby at_76) rfl ?_
        show Steps p.tables e below (T71.setTop (mkF m 77 #[.val (.long q0), .second, .val (.long q1), .second, .val (.long q2), .second, .val (.int p3), .val (.long (q1 &&& (2147483647 : Int64))), .second, .val (.long ((q2 &&& (2147483647 : Int64)) + (1 : Int64))), .second, .val (.long (q0 &&& (9223372036854775807 : Int64))), .second, .val (.long (own_rm1_f (q0 &&& (9223372036854775807 : Int64)) (q1 &&& (2147483647 : Int64)) ((q2 &&& (2147483647 : Int64)) + (1 : Int64)))), .second] [(.int (lcmpW (q1 &&& (2147483647 : Int64)) (own_rm1_f (q0 &&& (9223372036854775807 : Int64)) (q1 &&& (2147483647 : Int64)) ((q2 &&& (2147483647 : Int64)) + (1 : Int64)))))])) _
        refine XS.ifNo X71.here hx rfl (hb hby at_77) rfl ((if0 _ _).trans (flt (fun q => (own_c1 (own_r1 _) (own_pre _) (own_per _) hc55_79 : ¬ ((own_rm1_f (q0 &&& (9223372036854775807 : Int64)) (q1 &&& (2147483647 : Int64)) ((q2 &&& (2147483647 : Int64)) + (1 : Int64))) < (q1 &&& (2147483647 : Int64)))) (own_lcGt.mp q))).2.2.1) ?_
        show Steps p.tables e below (T71.setTop (mkF m 80 #[.val (.long q0), .second, .val (.long q1), .second, .val (.long q2), .second, .val (.int p3), .val (.long (q1 &&& (2147483647 : Int64))), .second, .val (.long ((q2 &&& (2147483647 : Int64)) + (1 : Int64))), .second, .val (.long (q0 &&& (9223372036854775807 : Int64))), .second, .val (.long (own_rm1_f (q0 &&& (9223372036854775807 : Int64)) (q1 &&& (2147483647 : Int64)) ((q2 &&& (2147483647 : Int64)) + (1 : Int64)))), .second] [])) _
        refine XS.lload X71.here hx rfl (hb hby at_80) rfl ?_
        show Steps p.tables e below (T71.setTop (mkF m 82 #[.val (.long q0), .second, .val (.long q1), .second, .val (.long q2), .second, .val (.int p3), .val (.long (q1 &&& (2147483647 : Int64))), .second, .val (.long ((q2 &&& (2147483647 : Int64)) + (1 : Int64))), .second, .val (.long (q0 &&& (9223372036854775807 : Int64))), .second, .val (.long (own_rm1_f (q0 &&& (9223372036854775807 : Int64)) (q1 &&& (2147483647 : Int64)) ((q2 &&& (2147483647 : Int64)) + (1 : Int64)))), .second] [(.long (own_rm1_f (q0 &&& (9223372036854775807 : Int64)) (q1 &&& (2147483647 : Int64)) ((q2 &&& (2147483647 : Int64)) + (1 : Int64))))])) _
        refine XS.lload X71.here hx rfl (hb hby at_82) rfl ?_
        show Steps p.tables e below (T71.setTop (mkF m 84 #[.val (.long q0), .second, .val (.long q1), .second, .val (.long q2), .second, .val (.int p3), .val (.long (q1 &&& (2147483647 : Int64))), .second, .val (.long ((q2 &&& (2147483647 : Int64)) + (1 : Int64))), .second, .val (.long (q0 &&& (9223372036854775807 : Int64))), .second, .val (.long (own_rm1_f (q0 &&& (9223372036854775807 : Int64)) (q1 &&& (2147483647 : Int64)) ((q2 &&& (2147483647 : Int64)) + (1 : Int64)))), .second] [(.long (q1 &&& (2147483647 : Int64))), (.long (own_rm1_f (q0 &&& (9223372036854775807 : Int64)) (q1 &&& (2147483647 : Int64)) ((q2 &&& (2147483647 : Int64)) + (1 : Int64))))])) _
        refine XS.lload X71.here hx rfl (hb hby at_84) rfl ?_
        show Steps p.tables e below (T71.setTop (mkF m 86 #[.val (.long q0), .second, .val (.long q1), .second, .val (.long q2), .second, .val (.int p3), .val (.long (q1 &&& (2147483647 : Int64))), .second, .val (.long ((q2 &&& (2147483647 : Int64)) + (1 : Int64))), .second, .val (.long (q0 &&& (9223372036854775807 : Int64))), .second, .val (.long (own_rm1_f (q0 &&& (9223372036854775807 : Int64)) (q1 &&& (2147483647 : Int64)) ((q2 &&& (2147483647 : Int64)) + (1 : Int64)))), .second] [(.long ((q2 &&& (2147483647 : Int64)) + (1 : Int64))), (.long (q1 &&& (2147483647 : Int64))), (.long (own_rm1_f (q0 &&& (9223372036854775807 : Int64)) (q1 &&& (2147483647 : Int64)) ((q2 &&& (2147483647 : Int64)) + (1 : Int64))))])) _
        refine XS.ladd X71.here hx rfl (hb hby at_86) rfl ?_
        show Steps p.tables e below (T71.setTop (mkF m 87 #[.val (.long q0), .second, .val (.long q1), .second, .val (.long q2), .second, .val (.int p3), .val (.long (q1 &&& (2147483647 : Int64))), .second, .val (.long ((q2 &&& (2147483647 : Int64)) + (1 : Int64))), .second, .val (.long (q0 &&& (9223372036854775807 : Int64))), .second, .val (.long (own_rm1_f (q0 &&& (9223372036854775807 : Int64)) (q1 &&& (2147483647 : Int64)) ((q2 &&& (2147483647 : Int64)) + (1 : Int64)))), .second] [(.long ((q1 &&& (2147483647 : Int64)) + ((q2 &&& (2147483647 : Int64)) + (1 : Int64)))), (.long (own_rm1_f (q0 &&& (9223372036854775807 : Int64)) (q1 &&& (2147483647 : Int64)) ((q2 &&& (2147483647 : Int64)) + (1 : Int64))))])) _
        refine XS.lcmp X71.here hx rfl (hb hby at_87) rfl ?_
        show Steps p.tables e below (T71.setTop (mkF m 88 #[.val (.long q0), .second, .val (.long q1), .second, .val (.long q2), .second, .val (.int p3), .val (.long (q1 &&& (2147483647 : Int64))), .second, .val (.long ((q2 &&& (2147483647 : Int64)) + (1 : Int64))), .second, .val (.long (q0 &&& (9223372036854775807 : Int64))), .second, .val (.long (own_rm1_f (q0 &&& (9223372036854775807 : Int64)) (q1 &&& (2147483647 : Int64)) ((q2 &&& (2147483647 : Int64)) + (1 : Int64)))), .second] [(.int (lcmpW (own_rm1_f (q0 &&& (9223372036854775807 : Int64)) (q1 &&& (2147483647 : Int64)) ((q2 &&& (2147483647 : Int64)) + (1 : Int64))) ((q1 &&& (2147483647 : Int64)) + ((q2 &&& (2147483647 : Int64)) + (1 : Int64)))))])) _
        refine XS.ifNo X71.here hx rfl (hb hby at_88) rfl ((if0 _ _).trans (tlt (own_lcLt.mpr (own_c2 (own_r1 _) (own_pre _) (own_per _) hc55_79 : (own_rm1_f (q0 &&& (9223372036854775807 : Int64)) (q1 &&& (2147483647 : Int64)) ((q2 &&& (2147483647 : Int64)) + (1 : Int64))) < ((q1 &&& (2147483647 : Int64)) + ((q2 &&& (2147483647 : Int64)) + (1 : Int64)))))).2.1) ?_
        show Steps p.tables e below (T71.setTop (mkF m 91 #[.val (.long q0), .second, .val (.long q1), .second, .val (.long q2), .second, .val (.int p3), .val (.long (q1 &&& (2147483647 : Int64))), .second, .val (.long ((q2 &&& (2147483647 : Int64)) + (1 : Int64))), .second, .val (.long (q0 &&& (9223372036854775807 : Int64))), .second, .val (.long (own_rm1_f (q0 &&& (9223372036854775807 : Int64)) (q1 &&& (2147483647 : Int64)) ((q2 &&& (2147483647 : Int64)) + (1 : Int64)))), .second] [])) _
        refine XS.lload X71.here hx rfl (hb hby at_91) rfl ?_
        show Steps p.tables e below (T71.setTop (mkF m 93 #[.val (.long q0), .second, .val (.long q1), .second, .val (.long q2), .second, .val (.int p3), .val (.long (q1 &&& (2147483647 : Int64))), .second, .val (.long ((q2 &&& (2147483647 : Int64)) + (1 : Int64))), .second, .val (.long (q0 &&& (9223372036854775807 : Int64))), .second, .val (.long (own_rm1_f (q0 &&& (9223372036854775807 : Int64)) (q1 &&& (2147483647 : Int64)) ((q2 &&& (2147483647 : Int64)) + (1 : Int64)))), .second] [(.long (q0 &&& (9223372036854775807 : Int64)))])) _
        refine XS.lload X71.here hx rfl (hb hby at_93) rfl ?_
        show Steps p.tables e below (T71.setTop (mkF m 95 #[.val (.long q0), .second, .val (.long q1), .second, .val (.long q2), .second, .val (.int p3), .val (.long (q1 &&& (2147483647 : Int64))), .second, .val (.long ((q2 &&& (2147483647 : Int64)) + (1 : Int64))), .second, .val (.long (q0 &&& (9223372036854775807 : Int64))), .second, .val (.long (own_rm1_f (q0 &&& (9223372036854775807 : Int64)) (q1 &&& (2147483647 : Int64)) ((q2 &&& (2147483647 : Int64)) + (1 : Int64)))), .second] [(.long (own_rm1_f (q0 &&& (9223372036854775807 : Int64)) (q1 &&& (2147483647 : Int64)) ((q2 &&& (2147483647 : Int64)) + (1 : Int64)))), (.long (q0 &&& (9223372036854775807 : Int64)))])) _
        refine XS.lsub X71.here hx rfl (hb hby at_95) rfl ?_
        show Steps p.tables e below (T71.setTop (mkF m 96 #[.val (.long q0), .second, .val (.long q1), .second, .val (.long q2), .second, .val (.int p3), .val (.long (q1 &&& (2147483647 : Int64))), .second, .val (.long ((q2 &&& (2147483647 : Int64)) + (1 : Int64))), .second, .val (.long (q0 &&& (9223372036854775807 : Int64))), .second, .val (.long (own_rm1_f (q0 &&& (9223372036854775807 : Int64)) (q1 &&& (2147483647 : Int64)) ((q2 &&& (2147483647 : Int64)) + (1 : Int64)))), .second] [(.long ((q0 &&& (9223372036854775807 : Int64)) - (own_rm1_f (q0 &&& (9223372036854775807 : Int64)) (q1 &&& (2147483647 : Int64)) ((q2 &&& (2147483647 : Int64)) + (1 : Int64)))))])) _
        refine XS.lload X71.here hx rfl (hb hby at_96) rfl ?_
        show Steps p.tables e below (T71.setTop (mkF m 98 #[.val (.long q0), .second, .val (.long q1), .second, .val (.long q2), .second, .val (.int p3), .val (.long (q1 &&& (2147483647 : Int64))), .second, .val (.long ((q2 &&& (2147483647 : Int64)) + (1 : Int64))), .second, .val (.long (q0 &&& (9223372036854775807 : Int64))), .second, .val (.long (own_rm1_f (q0 &&& (9223372036854775807 : Int64)) (q1 &&& (2147483647 : Int64)) ((q2 &&& (2147483647 : Int64)) + (1 : Int64)))), .second] [(.long ((q2 &&& (2147483647 : Int64)) + (1 : Int64))), (.long ((q0 &&& (9223372036854775807 : Int64)) - (own_rm1_f (q0 &&& (9223372036854775807 : Int64)) (q1 &&& (2147483647 : Int64)) ((q2 &&& (2147483647 : Int64)) + (1 : Int64)))))])) _
        refine XS.lrem X71.here hx rfl (hb hby at_98) rfl (own_ne0 (own_per _).1) ?_
        show Steps p.tables e below (T71.setTop (mkF m 99 #[.val (.long q0), .second, .val (.long q1), .second, .val (.long q2), .second, .val (.int p3), .val (.long (q1 &&& (2147483647 : Int64))), .second, .val (.long ((q2 &&& (2147483647 : Int64)) + (1 : Int64))), .second, .val (.long (q0 &&& (9223372036854775807 : Int64))), .second, .val (.long (own_rm1_f (q0 &&& (9223372036854775807 : Int64)) (q1 &&& (2147483647 : Int64)) ((q2 &&& (2147483647 : Int64)) + (1 : Int64)))), .second] [(.long (((q0 &&& (9223372036854775807 : Int64)) - (own_rm1_f (q0 &&& (9223372036854775807 : Int64)) (q1 &&& (2147483647 : Int64)) ((q2 &&& (2147483647 : Int64)) + (1 : Int64)))) - (((q0 &&& (9223372036854775807 : Int64)) - (own_rm1_f (q0 &&& (9223372036854775807 : Int64)) (q1 &&& (2147483647 : Int64)) ((q2 &&& (2147483647 : Int64)) + (1 : Int64)))) / ((q2 &&& (2147483647 : Int64)) + (1 : Int64))) * ((q2 &&& (2147483647 : Int64)) + (1 : Int64))))])) _
        refine XS.lconst X71.here hx rfl (hb hby at_99) ?_
        show Steps p.tables e below (T71.setTop (mkF m 100 #[.val (.long q0), .second, .val (.long q1), .second, .val (.long q2), .second, .val (.int p3), .val (.long (q1 &&& (2147483647 : Int64))), .second, .val (.long ((q2 &&& (2147483647 : Int64)) + (1 : Int64))), .second, .val (.long (q0 &&& (9223372036854775807 : Int64))), .second, .val (.long (own_rm1_f (q0 &&& (9223372036854775807 : Int64)) (q1 &&& (2147483647 : Int64)) ((q2 &&& (2147483647 : Int64)) + (1 : Int64)))), .second] [(.long (0 : Int64)), (.long (((q0 &&& (9223372036854775807 : Int64)) - (own_rm1_f (q0 &&& (9223372036854775807 : Int64)) (q1 &&& (2147483647 : Int64)) ((q2 &&& (2147483647 : Int64)) + (1 : Int64)))) - (((q0 &&& (9223372036854775807 : Int64)) - (own_rm1_f (q0 &&& (9223372036854775807 : Int64)) (q1 &&& (2147483647 : Int64)) ((q2 &&& (2147483647 : Int64)) + (1 : Int64)))) / ((q2 &&& (2147483647 : Int64)) + (1 : Int64))) * ((q2 &&& (2147483647 : Int64)) + (1 : Int64))))])) _
        refine XS.lcmp X71.here hx rfl (hb hby at_100) rfl ?_
        show Steps p.tables e below (T71.setTop (mkF m 101 #[.val (.long q0), .second, .val (.long q1), .second, .val (.long q2), .second, .val (.int p3), .val (.long (q1 &&& (2147483647 : Int64))), .second, .val (.long ((q2 &&& (2147483647 : Int64)) + (1 : Int64))), .second, .val (.long (q0 &&& (9223372036854775807 : Int64))), .second, .val (.long (own_rm1_f (q0 &&& (9223372036854775807 : Int64)) (q1 &&& (2147483647 : Int64)) ((q2 &&& (2147483647 : Int64)) + (1 : Int64)))), .second] [(.int (lcmpW (((q0 &&& (9223372036854775807 : Int64)) - (own_rm1_f (q0 &&& (9223372036854775807 : Int64)) (q1 &&& (2147483647 : Int64)) ((q2 &&& (2147483647 : Int64)) + (1 : Int64)))) - (((q0 &&& (9223372036854775807 : Int64)) - (own_rm1_f (q0 &&& (9223372036854775807 : Int64)) (q1 &&& (2147483647 : Int64)) ((q2 &&& (2147483647 : Int64)) + (1 : Int64)))) / ((q2 &&& (2147483647 : Int64)) + (1 : Int64))) * ((q2 &&& (2147483647 : Int64)) + (1 : Int64))) (0 : Int64)))])) _
        refine XS.ifNo X71.here hx rfl (hb hby at_101) rfl ((if0 _ _).trans (teq (own_lcEq.mpr (own_c3 (own_r1 _) (own_pre _) (own_per _) hc55_79 : (((q0 &&& (9223372036854775807 : Int64)) - (own_rm1_f (q0 &&& (9223372036854775807 : Int64)) (q1 &&& (2147483647 : Int64)) ((q2 &&& (2147483647 : Int64)) + (1 : Int64)))) - (((q0 &&& (9223372036854775807 : Int64)) - (own_rm1_f (q0 &&& (9223372036854775807 : Int64)) (q1 &&& (2147483647 : Int64)) ((q2 &&& (2147483647 : Int64)) + (1 : Int64)))) / ((q2 &&& (2147483647 : Int64)) + (1 : Int64))) * ((q2 &&& (2147483647 : Int64)) + (1 : Int64))) = (0 : Int64)))).2) ?_
        show Steps p.tables e below (T71.setTop (mkF m 104 #[.val (.long q0), .second, .val (.long q1), .second, .val (.long q2), .second, .val (.int p3), .val (.long (q1 &&& (2147483647 : Int64))), .second, .val (.long ((q2 &&& (2147483647 : Int64)) + (1 : Int64))), .second, .val (.long (q0 &&& (9223372036854775807 : Int64))), .second, .val (.long (own_rm1_f (q0 &&& (9223372036854775807 : Int64)) (q1 &&& (2147483647 : Int64)) ((q2 &&& (2147483647 : Int64)) + (1 : Int64)))), .second] [])) _
        refine XS.iconst X71.here hx rfl (hb hby at_104) ?_
        show Steps p.tables e below (T71.setTop (mkF m 105 #[.val (.long q0), .second, .val (.long q1), .second, .val (.long q2), .second, .val (.int p3), .val (.long (q1 &&& (2147483647 : Int64))), .second, .val (.long ((q2 &&& (2147483647 : Int64)) + (1 : Int64))), .second, .val (.long (q0 &&& (9223372036854775807 : Int64))), .second, .val (.long (own_rm1_f (q0 &&& (9223372036854775807 : Int64)) (q1 &&& (2147483647 : Int64)) ((q2 &&& (2147483647 : Int64)) + (1 : Int64)))), .second] [(.int (1 : Int32))])) _
        refine XS.goto X71.here hx rfl (pc0 := 105) (pc' := 109) rfl (hb hby at_105) (by decide) (by decide) ?_
        show Steps p.tables e below (T71.setTop (mkF m 109 #[.val (.long q0), .second, .val (.long q1), .second, .val (.long q2), .second, .val (.int p3), .val (.long (q1 &&& (2147483647 : Int64))), .second, .val (.long ((q2 &&& (2147483647 : Int64)) + (1 : Int64))), .second, .val (.long (q0 &&& (9223372036854775807 : Int64))), .second, .val (.long (own_rm1_f (q0 &&& (9223372036854775807 : Int64)) (q1 &&& (2147483647 : Int64)) ((q2 &&& (2147483647 : Int64)) + (1 : Int64)))), .second] [(.int (1 : Int32))])) _
        exact retN X71 hx (t := .boolean) Bd.returns (by simp) (hb hby at_109) hr
      · show Qown_law Z q0 q1 q2 p3 h0 n0 _ T71.heap _
        rw [eh71]
        exact ⟨rfl, N72⟩
set_option maxRecDepth 65536 in
set_option maxHeartbeats 40000000 in
theorem comes_1 {Post : Tables → Env → Array Value → State → Outcome → State → Prop} (hpost : ∀ tb e args s v u, (limb_1_1.after args s (.returned v) u = true ∧ limb_1_2.after args s (.returned v) u = true ∧ True) → FrameEnd s (.returned v) u (Jvm.fieldLocs frame_1_writes args s ++ Jvm.arrayLocs frame_1_arrays args s ++ Jvm.staticLocs frame_1_statics s) 0 0 → Post tb e args s (.returned v) u) :
    ArmFor flags0 classFile x code maxLocals ret World_1 tables_1 room_1 Calls_1 rest_1 Pre_1 Post := by
  intro l hfl _ _ p e ha hc hk s m args below hf hA hF happ hP
  obtain ⟨hcalls, hrest, hpre⟩ := hP
  obtain ⟨-, -, -, hnamed, -, -, -, hat⟩ := (Spec.applies_iff hf).mp happ
  obtain ⟨hg, hn⟩ := and_e (Cond.before_iff.mp (show (Jvm.Cond.and given_1 narrow_1).before args s = true from hpre))
  obtain ⟨gg1, gg2⟩ := and_e hg
  obtain ⟨gg3, gg4⟩ := and_e gg2
  obtain ⟨gg5, gg6⟩ := and_e gg4
  obtain ⟨gg7, gg8⟩ := and_e gg6
  obtain ⟨w0, w1, w2, w3, rfl⟩ : ∃ w0 w1 w2 w3 : Value, args = #[w0, w1, w2, w3] := by
    have hs : args.size = 4 := by simpa [Cond.value, given_1] using gg1
    obtain ⟨L⟩ := args
    match L, hs with
    | [w0, w1, w2, w3], _ => exact ⟨w0, w1, w2, w3, rfl⟩
  have hw := fun d (hd : d ∈ tables_1) => atoms_spec (ws := Jvm.Cond.code x code maxLocals ret :: tables_1) hat d (List.mem_cons_of_mem _ hd)
  obtain ⟨i0, ei0⟩ := isL_v gg3
  obtain rfl : w0 = (.long i0) := Option.some.inj ei0
  obtain ⟨i1, ei1⟩ := isL_v gg5
  obtain rfl : w1 = (.long i1) := Option.some.inj ei1
  obtain ⟨i2, ei2⟩ := isL_v gg7
  obtain rfl : w2 = (.long i2) := Option.some.inj ei2
  obtain ⟨i3, ei3⟩ := is_v gg8
  obtain rfl : w3 = (.int i3) := Option.some.inj ei3
  obtain ⟨n, o, h1, h2, h3, _, L, rfl, ⟨rfl, N⟩, hq⟩ := own_law l s _ hw tables_1 i0 i1 i2 i3 s.heap s.heap.size (Nat.le_refl _) p e ha hc hk s m _ below hf ((Spec.applies_iff_loose hf).mp happ).1 ⟨rfl, State.Warmed39.refl s, rfl⟩ trivial
  refine ⟨n, _, h1, h2, h3, hpost _ _ _ _ _ _ ⟨Cond.after_iff.mpr rfl, Cond.after_iff.mpr (eq_i res_at (Term.int_eval (1)) rfl), trivial⟩ ⟨hq.1, hq.2.1, (hq.2.2.sift fun y hy => Or.inr (N y hy)).mono (by decide) (by decide)⟩⟩
theorem main_1_1 : Claimed_1_1 := comes_1 fun _ _ _ _ _ _ h hF => ⟨h.1, hF⟩
theorem main_1_2 : Claimed_1_2 := comes_1 fun _ _ _ _ _ _ h hF => ⟨h.2.1, hF⟩
end Jvm.Pilot.@@N@@
namespace Jvm.Pilot.@@N@@
open Jvm Jvm.ClassFile Sem Op Lib Jvm.Free Jvm.Stand Jvm.Pilot.@@N@@.Jvm.D
/-! MADE BY PROGRAM (witnessworld.py) out of the Statement's table words and the real class files: 10 classes; the members and pool entries that the words name. The judged class is class 1, her method 1. -/
namespace start1
open Jvm.ClassFile
def u (s : String) : CpInfo := .utf8 (stringToUtf16 s)
/-- a pool by its gaps: so many unusable entries, then the entry; so many at the end -/
def gap : Nat → List CpInfo → List CpInfo
  | 0, r => r
  | n + 1, r => .unusable :: gap n r
def poolList (es : List (Nat × CpInfo)) (last : Nat) : List CpInfo := es.foldr (fun e r => gap e.1 (e.2 :: r)) (gap last [])
def pool (es : List (Nat × CpInfo)) (last : Nat) : Array CpInfo := ⟨poolList es last⟩
def fileOf (pool : Array CpInfo) (this : Nat) (attrs : Array Attribute := #[]) (ms : Array MethodInfo := #[]) (fl : Nat := 33) (sup : Nat := 0) (ifs : Array Nat := #[]) (fds : Array FieldInfo := #[]) : ClassFile where
  minorVersion := 0
  majorVersion := 65
  constantPool := pool
  accessFlags := fl
  thisClass := this
  superClass := sup
  interfaces := ifs
  fields := fds
  methods := ms
  attributes := attrs
def plain (name : String) (sup : Option ClassId) : Class where
  name := name
  kind := .ordinary
  loader := none
  accessFlags := 33
  super := sup
  interfaces := #[]
  cf := none
  fields := #[]
  methods := #[]
  instanceTypes := #[]
  staticTypes := #[]
  resolved := #[]
  callSites := []
  init := .initialized
  statics := none
  mirror := none

def pool0 : Array CpInfo := pool [(5, u "<init>"), (0, u "()V"), (1, .class_ 10), (1, u "java/lang/Object")] 113

def k0m0 : Method := { name := "<init>", desc := "()V", sig := { parameters := [], returnType := none }, accessFlags := 1, code := none }
/-- java/lang/Object -/
def k0 : Class := { plain "java/lang/Object" none with
  accessFlags := 33
  interfaces := #[]
  cf := some (fileOf pool0 8 #[] #[{ accessFlags := 1, nameIndex := 5, descriptorIndex := 6, attributes := #[] }] 33 0 #[] #[])
  fields := #[]
  methods := #[k0m0]
  instanceTypes := #[]
  staticTypes := #[]
  resolved := Array.replicate 124 none
  statics := none }

def pool1 : Array CpInfo := pool [(2, .class_ 4), (1, u "java/lang/Object"), (0, u "<init>"), (0, u "()V"), (0, .long 2147483647), (3, .long 9223372036854775807), (1, .long 4294967295), (1, .methodref 16 17), (0, .class_ 18), (0, .nameAndType 19 20), (0, u "com/example/tymely/tymely/model/BinaryWord"), (0, u "position"), (0, u "(JJJ)J"), (0, .class_ 22), (0, u "com/example/tymely/tymely/model/BinaryWordPositionPinLaw"), (2, u "law"), (0, u "(JJJI)Z")] 3

def k1m0 : Method := { name := "<init>", desc := "()V", sig := { parameters := [], returnType := none }, accessFlags := 1, code := none }
def k1c1 : Code := { maxStack := 6, maxLocals := 15, code := code, exceptionTable := #[], attributes := #[] }
def k1m1 : Method := { name := "law", desc := "(JJJI)Z", sig := { parameters := [.long, .long, .long, .int], returnType := some .boolean }, accessFlags := 9, code := some k1c1 }
/-- com/example/tymely/tymely/model/BinaryWordPositionPinLaw -/
def k1 : Class := { plain "com/example/tymely/tymely/model/BinaryWordPositionPinLaw" (some 0) with
  accessFlags := 49
  interfaces := #[]
  cf := some (fileOf pool1 21 #[] #[{ accessFlags := 1, nameIndex := 5, descriptorIndex := 6, attributes := #[] }, { accessFlags := 9, nameIndex := 25, descriptorIndex := 26, attributes := #[] }] 49 2 #[] #[])
  fields := #[]
  methods := #[k1m0, k1m1]
  instanceTypes := #[]
  staticTypes := #[]
  resolved := Array.replicate 30 none
  statics := none }

def pool2 : Array CpInfo := pool [(2, .class_ 4), (1, u "java/lang/Object"), (0, u "<init>"), (0, u "()V"), (0, .class_ 8), (0, u "java/lang/Record")] 13

def k2m0 : Method := { name := "<init>", desc := "()V", sig := { parameters := [], returnType := none }, accessFlags := 4, code := none }
/-- java/lang/Record -/
def k2 : Class := { plain "java/lang/Record" (some 0) with
  accessFlags := 1057
  interfaces := #[]
  cf := some (fileOf pool2 7 #[] #[{ accessFlags := 4, nameIndex := 5, descriptorIndex := 6, attributes := #[] }] 1057 2 #[] #[])
  fields := #[]
  methods := #[k2m0]
  instanceTypes := #[]
  staticTypes := #[]
  resolved := Array.replicate 22 none
  statics := none }

def pool3 : Array CpInfo := pool [(2, .class_ 4), (1, u "java/lang/Record"), (3, .class_ 10), (1, u "com/example/tymely/tymely/model/BinaryWord"), (45, u "prefix"), (0, u "Ljava/lang/String;"), (2, u "period"), (2, u "position"), (0, u "(JJJ)J")] 55

def k3c0 : Code := { maxStack := 6, maxLocals := 6, code := prog_20_method_5_code, exceptionTable := #[], attributes := #[] }
def k3m0 : Method := { name := "position", desc := "(JJJ)J", sig := { parameters := [.long, .long, .long], returnType := some .long }, accessFlags := 8, code := some k3c0 }
/-- com/example/tymely/tymely/model/BinaryWord -/
def k3 : Class := { plain "com/example/tymely/tymely/model/BinaryWord" (some 2) with
  accessFlags := 49
  interfaces := #[]
  cf := some (fileOf pool3 8 #[] #[{ accessFlags := 8, nameIndex := 63, descriptorIndex := 64, attributes := #[] }] 49 2 #[] #[{ accessFlags := 18, nameIndex := 56, descriptorIndex := 57, attributes := #[] }, { accessFlags := 18, nameIndex := 60, descriptorIndex := 57, attributes := #[] }])
  fields := #[{ name := "prefix", type := (.object "java/lang/String"), accessFlags := 18, slot := 0, constantValue := 0 }, { name := "period", type := (.object "java/lang/String"), accessFlags := 18, slot := 1, constantValue := 0 }]
  methods := #[k3m0]
  instanceTypes := #[(.object "java/lang/String"), (.object "java/lang/String")]
  staticTypes := #[]
  resolved := Array.replicate 120 none
  statics := none }

def pool4 : Array CpInfo := pool [(1, u "java/lang/Cloneable"), (0, .class_ 1), (0, u "java/lang/Object"), (0, .class_ 3)] 3

/-- java/lang/Cloneable -/
def k4 : Class := { plain "java/lang/Cloneable" (some 0) with
  accessFlags := 1537
  interfaces := #[]
  cf := some (fileOf pool4 2 #[] #[] 1537 4 #[] #[])
  fields := #[]
  methods := #[]
  instanceTypes := #[]
  staticTypes := #[]
  resolved := Array.replicate 8 none
  statics := none }

def pool5 : Array CpInfo := pool [(1, u "java/io/Serializable"), (0, .class_ 1), (0, u "java/lang/Object"), (0, .class_ 3)] 3

/-- java/io/Serializable -/
def k5 : Class := { plain "java/io/Serializable" (some 0) with
  accessFlags := 1537
  interfaces := #[]
  cf := some (fileOf pool5 2 #[] #[] 1537 4 #[] #[])
  fields := #[]
  methods := #[]
  instanceTypes := #[]
  staticTypes := #[]
  resolved := Array.replicate 8 none
  statics := none }

/-- the primitive byte -/
def k6 : Class := { plain "byte" none with kind := .primitive 'B', accessFlags := 0x411 }
/-- [B -/
def k7 : Class := { plain "[B" (some 0) with kind := .array 6 .byte, interfaces := #[4, 5], accessFlags := 1041 }

/-- the primitive int -/
def k8 : Class := { plain "int" none with kind := .primitive 'I', accessFlags := 0x411 }
/-- [I -/
def k9 : Class := { plain "[I" (some 0) with kind := .array 8 .int, interfaces := #[4, 5], accessFlags := 1041 }

def heap : Heap := #[]
def classes : Array Class := #[k0, k1, k2, k3, k4, k5, k6, k7, k8, k9]
def interned : List (Array UInt16 × Addr) := []
def slotsUsed : Nat := 0
def theMethod : MethodId := ⟨1, 1⟩
def args0 : Array Value := #[.long 5, .long 7, .long 3, .int 1]
def aboutOver (below : List Frame) : State where
  vm := { classes := classes, interned := interned.toArray }
  heap := heap
  slotsUsed := slotsUsed
  threads := #[{ frames := .invoking theMethod args0 :: below }]
def below0 : List Frame := [.native { method := ⟨0, 0⟩, args := #[] }]
def about1 : State := aboutOver below0
def p0 : Program := .bare "" "" ""
def e0 : Env := launch0.env 0 0 0
theorem w_frames : about1.frames = Frame.invoking theMethod args0 :: below0 := rfl
set_option maxRecDepth 65536 in
theorem w_args : argsFit about1.vm theMethod args0 = true := by decide +kernel
set_option maxRecDepth 65536 in
theorem w_heap : heapFits about1 = true := by decide +kernel
set_option maxRecDepth 65536 in
theorem w_runnable : about1.curStatus? = some .runnable := by decide +kernel
set_option maxRecDepth 65536 in
theorem w_alone : about1.alone = true := by decide +kernel
set_option maxRecDepth 65536 in
theorem w_named : about1.methodNamed? x = some theMethod := by decide +kernel
set_option maxRecDepth 65536 in
theorem w_hears : about1.hears theMethod below0 = true := by decide +kernel
set_option maxRecDepth 65536 in
theorem w_ripe : about1.ripe theMethod args0 below0 = true := by decide +kernel
theorem w_running : about1.status = .running := rfl
set_option maxRecDepth 65536 in
theorem w_room : about1.hasRoom e0.platform room_1 = true :=
  launch0.hasRoom_least _ room_1 (by decide +kernel) (by decide +kernel) (by decide +kernel) (by decide +kernel) (by decide +kernel) (by decide +kernel)
theorem allAtoms_all (ts : List Jvm.Cond) (a : Array Jvm.Value) (st : Jvm.State) : (allAtoms ts).before a st = ts.all (fun c => c.before a st) := by
  induction ts with
  | nil => rfl
  | cons c t ih =>
    show (Jvm.Cond.and c (allAtoms t)).before a st = _
    rw [Jvm.Cond.before_and, ih, List.all_cons]
def words1 : List Jvm.Cond := Jvm.Cond.code x code maxLocals ret :: tables_1
/-- a 'code' word, met by the world's own term for the bytes: nothing is compared byte by byte -/
theorem code_word {y : MethodName} {bytes : ByteArray} {mx : Nat} {rt : Option FieldType} {a : Array Value} {s : State} {m : MethodId} {meth : Method} {c : Code} (h1 : s.methodNamed? y = some m) (h2 : s.vm.method? m = some meth) (h3 : meth.code = some c) (h4 : c.code = bytes)
    (h5 : (c.maxLocals == mx && c.exceptionTable.isEmpty && decide (c.maxStack ≤ mostOperands) && decide (meth.sig.returnType = rt) && !meth.locks && decide (parseMethodDescriptor y.desc = some meth.sig)) = true) : (Jvm.Cond.code y bytes mx rt).before a s = true := by
  simp only [Bool.and_eq_true, beq_iff_eq, Bool.not_eq_true', decide_eq_true_eq] at h5
  obtain ⟨⟨⟨⟨⟨g1, g2⟩, g3⟩, g4⟩, g5⟩, g6⟩ := h5
  simp [Cond.before, Cond.holds, Cond.value, h1, h2, h3, h4, g1, g2, g3, g4, g5, g6]
def isCode : Jvm.Cond → Bool
  | .code _ _ _ _ => true
  | _ => false
theorem all_split {L : List Jvm.Cond} {P : Jvm.Cond → Bool} (h1 : L.all (fun c => isCode c || P c) = true) (h2 : ∀ c ∈ L.filter isCode, P c = true) : L.all P = true := by
  refine List.all_eq_true.mpr fun c hc => ?_
  have h := List.all_eq_true.mp h1 c hc
  rcases Bool.eq_false_or_eq_true (isCode c) with hi | hi
  · exact h2 c (List.mem_filter.mpr ⟨hc, hi⟩)
  · simpa [hi] using h
set_option maxRecDepth 65536 in
theorem w_c0 : (Jvm.Cond.code x code maxLocals ret).before args0 about1 = true := code_word (m := ⟨1, 1⟩) (meth := k1m1) (c := k1c1) (by decide +kernel) rfl rfl rfl (by decide +kernel)
set_option maxRecDepth 65536 in
theorem w_c1 : (Jvm.Cond.code ({ cls := "com/example/tymely/tymely/model/BinaryWord", name := "position", desc := "(JJJ)J" } : Jvm.MethodName) prog_20_method_5_code (6 : Nat) (Option.some Jvm.ClassFile.FieldType.long)).before args0 about1 = true := code_word (m := ⟨3, 0⟩) (meth := k3m0) (c := k3c0) (by decide +kernel) rfl rfl rfl (by decide +kernel)
def codes1 : List Jvm.Cond := [Jvm.Cond.code x code maxLocals ret, Jvm.Cond.code ({ cls := "com/example/tymely/tymely/model/BinaryWord", name := "position", desc := "(JJJ)J" } : Jvm.MethodName) prog_20_method_5_code (6 : Nat) (Option.some Jvm.ClassFile.FieldType.long)]
set_option maxRecDepth 65536 in
theorem codes_eq : words1.filter isCode = codes1 := rfl
theorem w_codes : ∀ c ∈ words1.filter isCode, c.before args0 about1 = true := by
  rw [codes_eq]
  intro c hc
  simp only [codes1, List.mem_cons, List.not_mem_nil, or_false] at hc
  rcases hc with rfl | rfl
  · exact w_c0
  · exact w_c1
set_option maxRecDepth 65536 in
theorem w_t1 : words1.all (fun c => isCode c || c.before args0 about1) = true := by decide +kernel
theorem w_tables : (allAtoms (Jvm.Cond.code x code maxLocals ret :: tables_1)).before args0 about1 = true := by
  rw [allAtoms_all]
  show words1.all (fun c => c.before args0 about1) = true
  refine all_split ?_ w_codes
  rw [w_t1]
set_option maxRecDepth 65536 in
theorem w_case : (Jvm.Cond.and given_1 narrow_1).before args0 about1 = true := by decide +kernel
theorem w_applies : (headSpec (Jvm.Cond.code x code maxLocals ret :: tables_1) room_1).applies x e0.platform about1 = true :=
  (Spec.applies_iff w_frames).mpr ⟨w_running, w_runnable, w_alone, w_named, w_hears, w_ripe, w_room, w_tables⟩
theorem atStart : AtStart classFile x code maxLocals ret World_1 tables_1 room_1 Calls_1 rest_1 Pre_1 launch0 p0 e0 about1 theMethod args0 below0 :=
  ⟨lists_1, trivial, launch0.admits_env _ _ _, launch0.least_env, fairChoices_fair.cas, fairChoices_fair.clock, w_frames, w_args, w_heap, w_applies, trivial, trivial, w_case⟩
end start1
theorem witness_1 : WitnessClaimed_1 := ⟨start1.p0, start1.e0, start1.about1, start1.theMethod, start1.args0, start1.below0, start1.atStart⟩
end Jvm.Pilot.@@N@@
