import JvmDerived
import JvmDerived.Pilot.@@N@@Statement
import JvmDerived.Pilot.@@N@@Code
set_option linter.unusedVariables false
set_option linter.unusedSimpArgs false
@@BLOCK:NumsL.lean.txt@@
namespace Jvm.RoadKit
open Sem ClassFile Op Lib Jvm.Stand Jvm.Free Jvm.LawKit
section New
variable {p : Program} {l : Launch} {e : Env} {R : Room} {s : State} {m : MethodId} {args : Array Value} {below : List Frame} {meth : Method} {c : Code} {T : State} {locs : List Loc} {cells slots : Nat}
theorem retI (X : Stand p l e R s m args below meth c T locs cells slots) (hx : p.tables.exec = Jvm.exec) {pc : Nat} {Ls : Array Slot} {z : Int32} {rest : List Value} (hret : meth.sig.returnType = some .int) (hd : decode c.code pc = .ok (.ireturn, 1)) {fs : List Frame}
    (hl : ∀ (f : JFrame) (acts : List Action), f.method = m → f.locked = none → f.entered = [] → (doReturn e (T.setTop f) acts (some (.int z))).1 = T.setFrames fs) : Steps p.tables e below (T.setTop (mkF m pc Ls (.int z :: rest))) (T.setFrames fs) := by
  have hm' : T.vm.method? m = some meth := X.method'
  have hn : narrow .int (.int z) = .int z := rfl
  show Steps p.tables e below (T.setTop { method := m, pc := pc, locals := Ls, stack := _ :: rest, locked := none }) _
  jvm_step X.here [X.here.top, hx, hd, hm', hret, hn]
  first | (intro acts; rw [hl _ acts rfl rfl rfl]) | rw [hl _ _ rfl rfl rfl]
  exact Steps.refl _
end New
end Jvm.RoadKit
namespace Jvm.Pilot.@@N@@
open Jvm Jvm.ClassFile Sem Op Lib Jvm.Free Jvm.Stand Jvm.LawKit Jvm.RoadKit Bundle Jvm.Pilot.@@N@@.Jvm.D
theorem own_lcLt {x y : Int64} : lcmpW x y < 0 ↔ x < y := by rw [lcW]; exact lc_lt x y
theorem own_lcGt {x y : Int64} : 0 < lcmpW x y ↔ y < x := by rw [lcW]; exact lc_gt x y
theorem own_lcEq {x y : Int64} : lcmpW x y = 0 ↔ x = y := by rw [lcW]; exact lc_eq x y
abbrev vI (x : Int32) : Slot := .val (.int x)
abbrev vJ (x : Int64) : Slot := .val (.long x)
abbrev vR (x : Addr) : Slot := .val (.ref x)
abbrev vD (x : UInt64) : Slot := .val (.double x)
abbrev u_ : Slot := .unset
abbrev s_ : Slot := .second
abbrev SS (p : Program) (e : Env) (b : List Frame) (m : MethodId) (T : State) (n : Nat) (L : Array Slot) (S : List Value) (t : State) : Prop := Steps p.tables e b (T.setTop (mkF m n L S)) t
theorem gm (i : Nat) {l : List Jvm.Cond} {d : Jvm.Cond} (h : l[i]? = some d) : d ∈ l := List.mem_of_getElem? h
theorem ga (i : Nat) {l : List Addr} {d : Addr} (h : l[i]? = some d) : d ∈ l := List.mem_of_getElem? h
section
open Jvm.FP.Core
/-- whole numbers rounded to 53 digits -/
def own_rnN (n : Nat) : Nat := if n < 2 ^ 53 then n else nearest n (2 ^ (n.log2 - 52)) * 2 ^ (n.log2 - 52)
def own_rn (i : Int) : Int := if i < 0 then -(own_rnN i.natAbs : Int) else (own_rnN i.natAbs : Int)
def own_Rep (i : Int) : Prop := ∃ k : Nat, (2 ^ k : Int) ∣ i ∧ -(9007199254740992 * 2 ^ k) < i ∧ i < 9007199254740992 * 2 ^ k
theorem own_pw (k : Nat) : (1 : Int) ≤ 2 ^ k := by
  have : (0 : Int) < 2 ^ k := Int.pow_pos (by decide)
  omega
theorem own_pws (k : Nat) : (2 : Int) ^ (k + 1) = 2 * 2 ^ k := by rw [Int.pow_succ, Int.mul_comm]
theorem own_pdv {i k : Nat} (h : i ≤ k) : (2 ^ i : Int) ∣ 2 ^ k := by
  obtain ⟨d, rfl⟩ := Nat.le.dest h
  rw [Int.pow_add]; exact Int.dvd_mul_right _ _
theorem own_ple {i k : Nat} (h : i ≤ k) : (2 ^ i : Int) ≤ 2 ^ k := Int.le_of_dvd (by have := own_pw k; omega) (own_pdv h)
theorem own_plt {i k : Nat} (h : (2 ^ i : Int) < 2 ^ k) : i < k := by
  apply Nat.lt_of_not_le; intro q
  have := own_ple q; omega
/-- multiples of K: a gap of K between unlike ones -/
theorem own_gap {K x y : Int} (hx : K ∣ x) (hy : K ∣ y) (h : x < y) : x + K ≤ y := by
  have h1 : K ∣ y - x := Int.dvd_sub hy hx
  have := Int.le_of_dvd (by omega) h1
  omega
theorem own_repLe {i : Int} {k : Nat} (hd : (2 ^ k : Int) ∣ i) (h1 : -(9007199254740992 * 2 ^ k) ≤ i) (h2 : i ≤ 9007199254740992 * 2 ^ k) : own_Rep i := by
  by_cases a : i = 9007199254740992 * 2 ^ k
  · refine ⟨k + 1, ?_, ?_, ?_⟩
    · rw [a, own_pws]; exact ⟨4503599627370496, by omega⟩
    · rw [own_pws]; have := own_pw k; omega
    · rw [own_pws]; have := own_pw k; omega
  by_cases b : i = -(9007199254740992 * 2 ^ k)
  · refine ⟨k + 1, ?_, ?_, ?_⟩
    · rw [b, own_pws]; exact ⟨-4503599627370496, by omega⟩
    · rw [own_pws]; have := own_pw k; omega
    · rw [own_pws]; have := own_pw k; omega
  exact ⟨k, hd, by omega, by omega⟩
theorem own_repNeg {i : Int} (h : own_Rep i) : own_Rep (-i) := by
  obtain ⟨k, h1, h2, h3⟩ := h
  exact ⟨k, (Int.dvd_neg).mpr h1, by omega, by omega⟩
theorem own_repSm {i : Int} (h1 : -9007199254740992 ≤ i) (h2 : i ≤ 9007199254740992) : own_Rep i :=
  own_repLe (k := 0) (by simp) (by simp; omega) (by simp; omega)
theorem own_rnNeg (i : Int) : own_rn (-i) = -own_rn i := by
  unfold own_rn
  rw [Int.natAbs_neg]
  by_cases h : i < 0
  · rw [if_pos h, if_neg (by omega)]; omega
  · by_cases h0 : i = 0
    · subst h0; simp [own_rnN]
    · rw [if_neg h, if_pos (by omega)]
/-- a magnitude from 2^53 on: the quotient and the rest by K = 2^k -/
theorem own_nearest (n d : Nat) (hd : 0 < d) : ∃ q : Nat, nearest n d = q ∧ (2 * n ≤ 2 * (q * d) + d) ∧ (2 * (q * d) ≤ 2 * n + d) ∧ (n % d = 0 → q * d = n) := by
  refine ⟨_, rfl, ?_⟩
  have e := Nat.div_add_mod n d
  have l := Nat.mod_lt n hd
  unfold nearest
  generalize hr : n % d = r at *
  generalize hq : n / d = q at *
  have e' : q * d = d * q := Nat.mul_comm _ _
  have e2 : (q + 1) * d = d * q + d := by rw [Nat.add_mul, Nat.one_mul, e']
  split
  · rw [e']; omega
  · split
    · rw [e2]; omega
    · rcases Nat.mod_two_eq_zero_or_one q with z | z
      · rw [z, Nat.add_zero, e']; omega
      · rw [z, e2]; omega
theorem own_log {n : Nat} (h : 2 ^ 53 ≤ n) : ∃ k : Nat, n.log2 - 52 = k ∧ 1 ≤ k ∧ 2 ^ 52 * 2 ^ k ≤ n ∧ n < 2 ^ 53 * 2 ^ k := by
  have h0 : n ≠ 0 := by omega
  have h1 := Nat.log2_self_le h0
  have h2 := Nat.lt_log2_self (n := n)
  have h3 : 53 ≤ n.log2 := (Nat.le_log2 h0).mpr h
  refine ⟨_, rfl, by omega, ?_, ?_⟩
  · rw [← Nat.pow_add, show 52 + (n.log2 - 52) = n.log2 by omega]; exact h1
  · rw [← Nat.pow_add, show 53 + (n.log2 - 52) = n.log2 + 1 by omega]; exact h2
/-- THE ROUNDING, for a number from 2^53 on -/
theorem own_rnP {n : Nat} (h : 2 ^ 53 ≤ n) : ∃ k : Nat, 1 ≤ k ∧ (4503599627370496 * 2 ^ k : Int) ≤ n ∧ (n : Int) < 9007199254740992 * 2 ^ k ∧ (2 ^ k : Int) ∣ own_rn n ∧ 2 * ((n : Int) - own_rn n) ≤ 2 ^ k ∧ 2 * (own_rn n - n) ≤ 2 ^ k ∧ ((2 ^ k : Int) ∣ n → own_rn n = n) ∧ (own_rn n = (nearest n (2 ^ k) : Nat) * 2 ^ k) := by
  obtain ⟨k, ek, k1, l1, l2⟩ := own_log h
  have e : own_rn n = (nearest n (2 ^ k) : Nat) * (2 ^ k : Int) := by
    unfold own_rn own_rnN
    rw [if_neg (by omega), Int.natAbs_natCast, if_neg (by omega), ek]
    simp
  obtain ⟨q, eq, g1, g2, g3⟩ := own_nearest n (2 ^ k) (Nat.two_pow_pos k)
  have ec : ((q * 2 ^ k : Nat) : Int) = q * 2 ^ k := by simp
  have ep : ((2 ^ k : Nat) : Int) = 2 ^ k := by simp
  refine ⟨k, k1, ?_, ?_, ?_, ?_, ?_, ?_, e⟩
  · rw [← ep]; omega
  · rw [← ep]; omega
  · rw [e]; exact Int.dvd_mul_left _ _
  · rw [e, eq, ← ec, ← ep]; omega
  · rw [e, eq, ← ec, ← ep]; omega
  · intro hd
    rw [e, eq, ← ec]
    have : n % 2 ^ k = 0 := by
      apply Nat.mod_eq_zero_of_dvd
      have : ((2 ^ k : Nat) : Int) ∣ (n : Int) := by rw [ep]; exact hd
      exact Int.ofNat_dvd.mp this
    rw [g3 this]
theorem own_rnSm {i : Int} (h1 : -9007199254740992 < i) (h2 : i < 9007199254740992) : own_rn i = i := by
  unfold own_rn own_rnN
  split <;> rw [if_pos (by omega)] <;> omega
/-- THE ROUNDING: either the number itself, or on the grid of K -/
theorem own_rnD (i : Int) : own_rn i = i ∨ ∃ k : Nat, 1 ≤ k ∧ ((4503599627370496 * 2 ^ k ≤ i ∧ i < 9007199254740992 * 2 ^ k) ∨ (i ≤ -(4503599627370496 * 2 ^ k) ∧ -(9007199254740992 * 2 ^ k) < i)) ∧ (2 ^ k : Int) ∣ own_rn i ∧ 2 * (i - own_rn i) ≤ 2 ^ k ∧ 2 * (own_rn i - i) ≤ 2 ^ k ∧ ¬ (2 ^ k : Int) ∣ i := by
  by_cases h : -9007199254740992 < i ∧ i < 9007199254740992
  · exact Or.inl (own_rnSm h.1 h.2)
  by_cases hp : 0 ≤ i
  · obtain ⟨n, rfl⟩ := Int.eq_ofNat_of_zero_le hp
    obtain ⟨k, k1, l1, l2, d, b1, b2, ex, -⟩ := own_rnP (n := n) (by omega)
    by_cases z : (2 ^ k : Int) ∣ n
    · exact Or.inl (ex z)
    · exact Or.inr ⟨k, k1, Or.inl ⟨l1, l2⟩, d, b1, b2, z⟩
  · obtain ⟨n, hn⟩ := Int.eq_ofNat_of_zero_le (show 0 ≤ -i by omega)
    have e : own_rn i = -own_rn n := by rw [← own_rnNeg, ← hn, Int.neg_neg]
    obtain ⟨k, k1, l1, l2, d, b1, b2, ex, -⟩ := own_rnP (n := n) (by omega)
    by_cases z : (2 ^ k : Int) ∣ n
    · left; rw [e, ex z]; omega
    · refine Or.inr ⟨k, k1, Or.inr ⟨by omega, by omega⟩, ?_, by omega, by omega, ?_⟩
      · rw [e]; exact (Int.dvd_neg).mpr d
      · intro q; apply z; rw [← hn]; exact (Int.dvd_neg).mpr q
theorem own_rrn (i : Int) : own_Rep (own_rn i) := by
  rcases own_rnD i with e | ⟨k, k1, l, d, b1, b2, -⟩
  · by_cases h : -9007199254740992 < i ∧ i < 9007199254740992
    · rw [e]; exact own_repSm (by omega) (by omega)
    · by_cases hp : 0 ≤ i
      · obtain ⟨n, rfl⟩ := Int.eq_ofNat_of_zero_le hp
        obtain ⟨k, k1, l1, l2, d, b1, b2, ex, -⟩ := own_rnP (n := n) (by omega)
        rw [e] at d ⊢
        exact ⟨k, d, by omega, l2⟩
      · obtain ⟨n, hn⟩ := Int.eq_ofNat_of_zero_le (show 0 ≤ -i by omega)
        obtain ⟨k, k1, l1, l2, d, b1, b2, ex, -⟩ := own_rnP (n := n) (by omega)
        have e2 : own_rn i = -own_rn n := by rw [← own_rnNeg, ← hn, Int.neg_neg]
        rw [e2]; apply own_repNeg
        rw [show own_rn n = n by omega] at d ⊢
        exact ⟨k, d, by omega, l2⟩
  · have g1 : ∀ z : Int, (2 ^ k : Int) ∣ 9007199254740992 * 2 ^ k := fun _ => Int.dvd_mul_left _ _
    refine own_repLe d ?_ ?_
    · apply Int.not_lt.mp; intro q
      have := own_gap d ((Int.dvd_neg).mpr (g1 0)) q
      have := own_pw k
      rcases l with ⟨l1, l2⟩ | ⟨l1, l2⟩ <;> omega
    · apply Int.not_lt.mp; intro q
      have := own_gap (g1 0) d q
      have := own_pw k
      rcases l with ⟨l1, l2⟩ | ⟨l1, l2⟩ <;> omega
/-- a number on the format's grid is kept -/
theorem own_rnRep {i : Int} (h : own_Rep i) : own_rn i = i := by
  rcases own_rnD i with e | ⟨k, k1, l, d, b1, b2, nd⟩
  · exact e
  · obtain ⟨j, h1, h2, h3⟩ := h
    exfalso; apply nd
    refine Int.dvd_trans (own_pdv ?_) h1
    apply Nat.le_of_lt_succ; apply own_plt
    rw [own_pws]
    rcases l with ⟨l1, l2⟩ | ⟨l1, l2⟩ <;> omega
/-- no number of the format is nearer -/
theorem own_near {n t : Int} (ht : own_Rep t) : (own_rn n - n ≤ t - n ∨ own_rn n - n ≤ n - t) ∧ (n - own_rn n ≤ t - n ∨ n - own_rn n ≤ n - t) := by
  rcases own_rnD n with e | ⟨k, k1, l, d, b1, b2, nd⟩
  · rw [e]; omega
  · have hp := own_pw k
    by_cases c : (2 ^ k : Int) ∣ t
    · by_cases q : t = own_rn n
      · rw [q]; omega
      · rcases Int.lt_or_lt_of_ne q with r | r
        · have := own_gap c d r; omega
        · have := own_gap d c r; omega
    · obtain ⟨j, h1, h2, h3⟩ := ht
      have hj : j < k := by
        apply Nat.lt_of_not_le; intro q; exact c (Int.dvd_trans (own_pdv q) h1)
      obtain ⟨k', rfl⟩ : ∃ k', k = k' + 1 := ⟨k - 1, by omega⟩
      have hjk := own_ple (show j ≤ k' by omega)
      rw [own_pws] at *
      have d2 : (2 * 2 ^ k' : Int) ∣ 4503599627370496 * (2 * 2 ^ k') := Int.dvd_mul_left _ _
      rcases l with ⟨l1, l2⟩ | ⟨l1, l2⟩
      · have g : 4503599627370496 * (2 * 2 ^ k') ≤ own_rn n := by
          apply Int.not_lt.mp; intro q
          have := own_gap d d2 q; omega
        by_cases z : own_rn n = 4503599627370496 * (2 * 2 ^ k')
        · omega
        · have := own_gap d2 d (by omega)
          omega
      · have d3 := (Int.dvd_neg).mpr d2
        have g : own_rn n ≤ -(4503599627370496 * (2 * 2 ^ k')) := by
          apply Int.not_lt.mp; intro q
          have := own_gap d3 d q; omega
        by_cases z : own_rn n = -(4503599627370496 * (2 * 2 ^ k'))
        · omega
        · have := own_gap d d3 (by omega)
          omega
/-- the error is no greater than either addend -/
theorem own_errLe {x y : Int} (hx : own_Rep x) : (x + y - own_rn (x + y) ≤ y ∨ x + y - own_rn (x + y) ≤ -y) ∧ (own_rn (x + y) - (x + y) ≤ y ∨ own_rn (x + y) - (x + y) ≤ -y) := by
  have := own_near (n := x + y) hx
  omega
/-- a multiple of 2^m is rounded to one -/
theorem own_rnDvd {n : Int} {m : Nat} (h : (2 ^ m : Int) ∣ n) : (2 ^ m : Int) ∣ own_rn n := by
  rcases own_rnD n with e | ⟨k, k1, l, d, b1, b2, nd⟩
  · rw [e]; exact h
  · by_cases q : m ≤ k
    · exact Int.dvd_trans (own_pdv q) d
    · exact absurd (Int.dvd_trans (own_pdv (by omega)) h) nd
/-- the sum's distance to the greater addend is a number of the format -/
theorem own_fast {x y : Int} (hx : own_Rep x) (hy : own_Rep y) (h1 : y ≤ x ∨ y ≤ -x) (h2 : -y ≤ x ∨ -y ≤ -x) : own_Rep (own_rn (x + y) - x) := by
  rcases own_rnD (x + y) with e | ⟨k, k1, l, d, b1, b2, nd⟩
  · rw [e, show x + y - x = y by omega]; exact hy
  · obtain ⟨j, x1, x2, x3⟩ := hx
    obtain ⟨i, y1, y2, y3⟩ := hy
    have hpk := own_pw k
    have hpj := own_pw j
    have hkj : k ≤ j + 1 := by
      apply Nat.le_of_lt_succ; apply own_plt
      rw [own_pws, own_pws]
      rcases l with ⟨l1, l2⟩ | ⟨l1, l2⟩ <;> omega
    by_cases c : k ≤ j
    · have dx := Int.dvd_trans (own_pdv c) x1
      have ny : ¬ (2 ^ k : Int) ∣ y := fun q => nd (Int.dvd_add dx q)
      have hik : i < k := by
        apply Nat.lt_of_not_le; intro q; exact ny (Int.dvd_trans (own_pdv q) y1)
      obtain ⟨k', rfl⟩ : ∃ k', k = k' + 1 := ⟨k - 1, by omega⟩
      have hi := own_ple (show i ≤ k' by omega)
      refine own_repLe (Int.dvd_sub d dx) ?_ ?_
      · rw [own_pws] at *; omega
      · rw [own_pws] at *; omega
    · have ek : k = j + 1 := by omega
      subst ek
      have dj : (2 ^ j : Int) ∣ own_rn (x + y) := Int.dvd_trans (own_pdv (Nat.le_succ j)) d
      have dB : (2 ^ j : Int) ∣ 9007199254740992 * 2 ^ j := Int.dvd_mul_left _ _
      have u1 := own_gap x1 dB x3
      have u2 := own_gap ((Int.dvd_neg).mpr dB) x1 x2
      rw [own_pws] at b1 b2
      refine own_repLe (Int.dvd_sub dj x1) ?_ ?_
      · omega
      · omega
/-- the error is small -/
theorem own_errSm {n : Int} (h1 : -9223372036854775808 < n) (h2 : n < 9223372036854775808) : -1024 ≤ n - own_rn n ∧ n - own_rn n ≤ 1024 := by
  rcases own_rnD n with e | ⟨k, k1, l, d, b1, b2, nd⟩
  · rw [e]; omega
  · have : k < 11 := by
      apply own_plt
      rw [show (2 ^ 11 : Int) = 2048 by decide]
      rcases l with ⟨l1, l2⟩ | ⟨l1, l2⟩ <;> omega
    have := own_ple (show k ≤ 10 by omega)
    rw [show (2 ^ 10 : Int) = 1024 by decide] at this
    omega
/-- THE TWO-SUM: Knuth's formula gives the error itself -/
theorem own_two {a b s : Int} (ha : own_Rep a) (hb : own_Rep b) (hs : s = own_rn (a + b)) (hab0 : a.natAbs + b.natAbs ≤ 9223372036854700000) :
    own_rn (own_rn (a - own_rn (s - own_rn (s - a))) + own_rn (b - own_rn (s - a))) = a + b - s := by
  have es := own_errSm (n := a + b) (by omega) (by omega)
  rw [← hs] at es
  by_cases c : (b ≤ a ∨ b ≤ -a) ∧ (-b ≤ a ∨ -b ≤ -a)
  · have f := own_fast ha hb c.1 c.2
    rw [← hs] at f
    rw [own_rnRep f, show s - (s - a) = a by omega, own_rnRep ha, show a - a = 0 by omega, own_rnSm (i := 0) (by decide) (by decide), show b - (s - a) = a + b - s by omega, own_rnSm (i := a + b - s) (by omega) (by omega), Int.zero_add, own_rnSm (by omega) (by omega)]
  · by_cases z : a + b - s = 0
    · have e1 : s - a = b := by omega
      rw [e1, own_rnRep hb, show s - b = a by omega, own_rnRep ha, show a - a = 0 by omega, show b - b = 0 by omega, own_rnSm (i := 0) (by decide) (by decide), z]; decide
    · -- |a| < |b|; the sum is at least as great as a
      have hab : (a ≤ b ∨ a ≤ -b) ∧ (-a ≤ b ∨ -a ≤ -b) := by omega
      have big : (a ≤ a + b ∨ a ≤ -(a + b)) ∧ (-a ≤ a + b ∨ -a ≤ -(a + b)) := by
        apply Classical.byContradiction; intro q
        apply z
        have : own_rn (a + b) = a + b := by
          obtain ⟨i, x1, x2, x3⟩ := ha
          obtain ⟨j, y1, y2, y3⟩ := hb
          apply own_rnRep
          by_cases w : i ≤ j
          · have dj := Int.dvd_trans (own_pdv w) y1
            exact ⟨i, Int.dvd_add x1 dj, by omega, by omega⟩
          · have di := Int.dvd_trans (own_pdv (show j ≤ i by omega)) x1
            exact ⟨j, Int.dvd_add di y1, by omega, by omega⟩
        omega
      have nr := own_near (n := a + b) ha
      have nr' := own_near (n := a + b) (own_repNeg ha)
      rw [← hs] at nr nr'
      have bs : (-a ≤ s ∨ -a ≤ -s) ∧ (-(-a) ≤ s ∨ -(-a) ≤ -s) := by omega
      have f := own_fast (x := s) (y := -a) (hs ▸ own_rrn _) (own_repNeg ha) bs.1 bs.2
      have e1 : s + -a = s - a := by omega
      rw [e1] at f
      have es2 := own_errSm (n := s - a) (by omega) (by omega)
      have f' := own_repNeg f
      rw [show -(own_rn (s - a) - s) = s - own_rn (s - a) by omega] at f'
      rw [own_rnRep f', own_rnSm (i := a - (s - own_rn (s - a))) (by omega) (by omega), own_rnSm (i := b - own_rn (s - a)) (by omega) (by omega), show a - (s - own_rn (s - a)) + (b - own_rn (s - a)) = a + b - s by omega, own_rnSm (by omega) (by omega)]
theorem own_binade {i : Int} {k k' : Nat} (h1 : 4503599627370496 * 2 ^ k ≤ i) (h2 : i < 9007199254740992 * 2 ^ k) (h3 : 4503599627370496 * 2 ^ k' ≤ i) (h4 : i < 9007199254740992 * 2 ^ k') : k = k' := by
  have a : k < k' + 1 := by apply own_plt; rw [own_pws]; omega
  have b : k' < k + 1 := by apply own_plt; rw [own_pws]; omega
  omega
/-- between two neighbours of the grid -/
theorem own_rnQ {P r : Int} {k : Nat} (k1 : 1 ≤ k) (hP : (2 ^ k : Int) ∣ P) (h1 : 4503599627370496 * 2 ^ k ≤ P) (h2 : P + 2 ^ k ≤ 9007199254740992 * 2 ^ k) (r0 : 0 ≤ r) (r1 : r < 2 ^ k) :
    (2 * r < 2 ^ k → own_rn (P + r) = P) ∧ (2 ^ k < 2 * r → own_rn (P + r) = P + 2 ^ k) ∧ (own_rn (P + r) = P ∨ own_rn (P + r) = P + 2 ^ k) := by
  have hp := own_pw k
  rcases own_rnD (P + r) with e | ⟨k', k1', l, d, b1, b2, nd⟩
  · have hr : r = 0 := by
      apply Classical.byContradiction; intro q
      obtain ⟨j, x1, x2, x3⟩ := own_rrn (P + r)
      rw [e] at x1 x2 x3
      have hj : k ≤ j := by
        apply Nat.le_of_lt_succ; apply own_plt; rw [own_pws]; omega
      have := Int.dvd_trans (own_pdv hj) x1
      have h3 : (2 ^ k : Int) ∣ r := (Int.dvd_add_right hP).mp this
      have := Int.le_of_dvd (by omega) h3
      omega
    subst hr
    rw [e]; omega
  · have hk : k' = k := by
      rcases l with ⟨l1, l2⟩ | ⟨l1, l2⟩
      · exact own_binade l1 l2 (by omega) (by omega)
      · have := own_pw k'; omega
    subst hk
    have hd2 : (2 ^ k' : Int) ∣ P + 2 ^ k' := Int.dvd_add hP (Int.dvd_refl _)
    have c : own_rn (P + r) = P ∨ own_rn (P + r) = P + 2 ^ k' := by
      by_cases q : own_rn (P + r) = P
      · exact Or.inl q
      · by_cases q2 : own_rn (P + r) = P + 2 ^ k'
        · exact Or.inr q2
        · exfalso
          rcases Int.lt_or_lt_of_ne q with w | w
          · have := own_gap d hP w; omega
          · have := own_gap hP d w
            have := own_gap hd2 d (by omega)
            omega
    refine ⟨fun q => ?_, fun q => ?_, c⟩
    · rcases c with c | c
      · exact c
      · rw [c] at b2; omega
    · rcases c with c | c
      · rw [c] at b1; omega
      · exact c
theorem own_tieP {M D : Int} {m : Nat} (hM : 0 < M) (hd : (2 ^ m : Int) ∣ M) (d1 : -2 ^ m < D) (d2 : D < 2 ^ m) (hg : ¬ M - own_rn M = 0) :
    (((0 < M - own_rn M ∧ 0 < D) ∨ (M - own_rn M < 0 ∧ D < 0)) → (own_rn (own_rn M + 2 * (M - own_rn M)) - own_rn M = 2 * (M - own_rn M) → own_rn (M + D) = own_rn (own_rn M + 2 * (M - own_rn M))) ∧ (¬ own_rn (own_rn M + 2 * (M - own_rn M)) - own_rn M = 2 * (M - own_rn M) → own_rn (M + D) = own_rn M))
    ∧ (¬ ((0 < M - own_rn M ∧ 0 < D) ∨ (M - own_rn M < 0 ∧ D < 0)) → own_rn (M + D) = own_rn M) := by
  rcases own_rnD M with e | ⟨k, k1, l, d, b1, b2, nd⟩
  · exact absurd (by omega) hg
  have hp := own_pw k
  have hpm := own_pw m
  have l' : 4503599627370496 * 2 ^ k ≤ M ∧ M < 9007199254740992 * 2 ^ k := by
    rcases l with l | l
    · exact l
    · omega
  have hmk : m < k := by
    apply Nat.lt_of_not_le; intro q; exact nd (Int.dvd_trans (own_pdv q) hd)
  obtain ⟨k0, rfl⟩ : ∃ k0, k = k0 + 1 := ⟨k - 1, by omega⟩
  have hmH := own_pdv (show m ≤ k0 by omega)
  have hmK := own_pdv (show m ≤ k0 + 1 by omega)
  have eK := own_pws k0
  generalize hK : (2 : Int) ^ (k0 + 1) = K at *
  generalize hH : (2 : Int) ^ k0 = H at *
  have hdiv := Int.emod_add_mul_ediv M K
  have r0 := Int.emod_nonneg M (show K ≠ 0 by omega)
  have r1 := Int.emod_lt_of_pos M (show 0 < K by omega)
  have hPd : K ∣ K * (M / K) := Int.dvd_mul_right _ _
  generalize hR : M % K = R at *
  generalize hPP : K * (M / K) = P at *
  have eM : M = P + R := by omega
  have hRd : (2 ^ m : Int) ∣ R := by
    have : R = M - P := by omega
    rw [this]; exact Int.dvd_sub hd (Int.dvd_trans hmK hPd)
  have hR0 : R ≠ 0 := by
    intro q; apply nd; rw [eM, q, Int.add_zero]; exact hPd
  have g1 := own_gap (Int.dvd_zero _) hRd (show 0 < R by omega)
  have g2 := own_gap hRd hmK r1
  have dB1 : K ∣ 4503599627370496 * K := Int.dvd_mul_left _ _
  have dB2 : K ∣ 9007199254740992 * K := Int.dvd_mul_left _ _
  have p1 : 4503599627370496 * K ≤ P := by
    apply Int.not_lt.mp; intro q; have := own_gap hPd dB1 q; omega
  have p2 : P + K ≤ 9007199254740992 * K := own_gap hPd dB2 (by omega)
  have Q := fun (r : Int) (a : 0 ≤ r) (b : r < K) => own_rnQ (P := P) (r := r) (k := k0 + 1) (by omega) (by rw [hK]; exact hPd) (by rw [hK]; exact p1) (by rw [hK]; exact p2) a (by rw [hK]; exact b)
  rw [hK] at Q
  have q0 := Q R (by omega) r1
  have qD := Q (R + D) (by omega) (by omega)
  have eMD : M + D = P + (R + D) := by omega
  rw [eMD]
  rw [eM] at hg ⊢
  rcases Int.lt_trichotomy (2 * R) K with c | c | c
  · have g3 := own_gap hRd hmH (show R < H by omega)
    have e1 := q0.1 c
    have e2 := qD.1 (by omega)
    rw [e1, e2, show P + 2 * (P + R - P) = P + 2 * R by omega]
    have q2 := (Q (2 * R) (by omega) c).2.2
    omega
  · have eP : own_rn P = P := own_rnRep (own_repLe (k := k0 + 1) (by rw [hK]; exact hPd) (by rw [hK]; omega) (by rw [hK]; omega))
    have eP2 : own_rn (P + K) = P + K := own_rnRep (own_repLe (k := k0 + 1) (by rw [hK]; exact Int.dvd_add hPd (Int.dvd_refl _)) (by rw [hK]; omega) (by rw [hK]; omega))
    rcases q0.2.2 with e1 | e1
    · rw [e1, show P + 2 * (P + R - P) = P + K by omega, eP2]
      rcases Int.lt_trichotomy D 0 with w | w | w
      · rw [qD.1 (by omega)]; omega
      · subst w; rw [Int.add_zero, e1]; omega
      · rw [qD.2.1 (by omega)]; omega
    · rw [e1, show P + K + 2 * (P + R - (P + K)) = P by omega, eP]
      rcases Int.lt_trichotomy D 0 with w | w | w
      · rw [qD.1 (by omega)]; omega
      · subst w; rw [Int.add_zero, e1]; omega
      · rw [qD.2.1 (by omega)]; omega
  · have g3 := own_gap hmH hRd (show H < R by omega)
    have e1 := q0.2.1 c
    have e2 := qD.2.1 (by omega)
    rw [e1, e2, show P + K + 2 * (P + R - (P + K)) = P + (2 * R - K) by omega]
    have q2 := (Q (2 * R - K) (by omega) (by omega)).2.2
    omega
theorem own_tie {M D : Int} {m : Nat} (hd : (2 ^ m : Int) ∣ M) (d1 : -2 ^ m < D) (d2 : D < 2 ^ m) (hg : ¬ M - own_rn M = 0) :
    (((0 < M - own_rn M ∧ 0 < D) ∨ (M - own_rn M < 0 ∧ D < 0)) → (own_rn (own_rn M + 2 * (M - own_rn M)) - own_rn M = 2 * (M - own_rn M) → own_rn (M + D) = own_rn (own_rn M + 2 * (M - own_rn M))) ∧ (¬ own_rn (own_rn M + 2 * (M - own_rn M)) - own_rn M = 2 * (M - own_rn M) → own_rn (M + D) = own_rn M))
    ∧ (¬ ((0 < M - own_rn M ∧ 0 < D) ∨ (M - own_rn M < 0 ∧ D < 0)) → own_rn (M + D) = own_rn M) := by
  rcases Int.lt_trichotomy M 0 with c | c | c
  · have t := own_tieP (M := -M) (D := -D) (m := m) (by omega) ((Int.dvd_neg).mpr hd) (by omega) (by omega) (by rw [own_rnNeg]; omega)
    rw [own_rnNeg, show -M + -D = -(M + D) by omega, own_rnNeg, show -own_rn M + 2 * (-M - -own_rn M) = -(own_rn M + 2 * (M - own_rn M)) by omega, own_rnNeg] at t
    omega
  · subst c; exact absurd (by decide) hg
  · exact own_tieP c hd d1 d2 hg
theorem own_errLt (n : Int) : ∃ k : Nat, (2 ^ k : Int) ∣ own_rn n ∧ -2 ^ k < n - own_rn n ∧ n - own_rn n < 2 ^ k := by
  rcases own_rnD n with e | ⟨k, k1, l, d, b1, b2, nd⟩
  · exact ⟨0, by simp, by rw [e]; simp, by rw [e]; simp⟩
  · have := own_pw k
    exact ⟨k, d, by omega, by omega⟩
theorem own_min {m k : Nat} {x y p : Int} (h1 : (2 ^ m : Int) ∣ x) (h2 : (2 ^ k : Int) ∣ y) (a1 : -2 ^ m < p) (a2 : p < 2 ^ m) (b1 : -2 ^ k < p) (b2 : p < 2 ^ k) : ∃ j : Nat, j ≤ m ∧ j ≤ k ∧ (2 ^ j : Int) ∣ x ∧ (2 ^ j : Int) ∣ y ∧ -2 ^ j < p ∧ p < 2 ^ j := by
  by_cases c : m ≤ k
  · exact ⟨m, Nat.le_refl _, c, h1, Int.dvd_trans (own_pdv c) h2, a1, a2⟩
  · exact ⟨k, by omega, Nat.le_refl _, Int.dvd_trans (own_pdv (show k ≤ m by omega)) h1, h2, b1, b2⟩
/-- the error of one step lies below what comes behind it -/
theorem own_st1 {Q y t : Int} {M : Nat} (hQ : own_Rep Q) (ht : (2 ^ M : Int) ∣ t) (y1 : -2 ^ M < y) (y2 : y < 2 ^ M) : ∃ j : Nat, j ≤ M ∧ (2 ^ j : Int) ∣ own_rn (Q + y) ∧ (2 ^ j : Int) ∣ t ∧ -2 ^ j < Q + y - own_rn (Q + y) ∧ Q + y - own_rn (Q + y) < 2 ^ j := by
  obtain ⟨k, k1, k2, k3⟩ := own_errLt (Q + y)
  have b := own_errLe (x := Q) (y := y) hQ
  obtain ⟨j, j1, j2, j3, j4, j5, j6⟩ := own_min k1 ht k2 k3 (by omega) (by omega)
  exact ⟨j, j2, j3, j4, j5, j6⟩
theorem own_errDvd {n : Int} {m : Nat} (h : (2 ^ m : Int) ∣ n) : (2 ^ m : Int) ∣ n - own_rn n := Int.dvd_sub h (own_rnDvd h)
/-- the partials of four numbers don't overlap -/
theorem own_nonov {a b c d s2 e1 t1 f1 t2 f2 u1 g1 u2 g2 : Int} (hc : own_Rep c) (hd : own_Rep d) (h1 : s2 = own_rn (b + a)) (h2 : e1 = b + a - s2) (h3 : t1 = own_rn (c + e1)) (h4 : f1 = c + e1 - t1) (h5 : t2 = own_rn (t1 + s2)) (h6 : f2 = t1 + s2 - t2)
    (h7 : u1 = own_rn (d + f1)) (h8 : g1 = d + f1 - u1) (h9 : u2 = own_rn (u1 + f2)) (h10 : g2 = u1 + f2 - u2) :
    (∃ m1 : Nat, (2 ^ m1 : Int) ∣ u2 + t2 ∧ (2 ^ m1 : Int) ∣ g2 ∧ -2 ^ m1 < g1 ∧ g1 < 2 ^ m1) ∧ (∃ m2 : Nat, (2 ^ m2 : Int) ∣ u2 + t2 ∧ -2 ^ m2 < g2 + g1 ∧ g2 + g1 < 2 ^ m2) := by
  obtain ⟨m0, a1, a2, a3⟩ := own_errLt (b + a)
  rw [← h1, ← h2] at a2 a3
  rw [← h1] at a1
  obtain ⟨m, -, b1, b2, b3, b4⟩ := own_st1 hc a1 a2 a3
  rw [← h3, ← h4] at b3 b4
  rw [← h3] at b1
  have b5 := Int.dvd_add b1 b2
  have b6 := own_rnDvd b5
  have b7 := own_errDvd b5
  rw [← h5] at b6
  rw [← h5, ← h6] at b7
  obtain ⟨M, c1, c2, c3⟩ := own_errLt (t1 + s2)
  rw [← h5, ← h6] at c2 c3
  rw [← h5] at c1
  obtain ⟨m1, d0, d1, d2, d3, d4⟩ := own_st1 hd b7 b3 b4
  rw [← h7, ← h8] at d3 d4
  rw [← h7] at d1
  have d5 := Int.dvd_trans (own_pdv d0) b6
  have d6 := Int.dvd_add d1 d2
  have d7 := own_rnDvd d6
  have d8 := own_errDvd d6
  rw [← h9] at d7
  rw [← h9, ← h10] at d8
  refine ⟨⟨m1, Int.dvd_add d7 d5, d8, d3, d4⟩, ?_⟩
  by_cases z : g2 = 0
  · exact ⟨m1, Int.dvd_add d7 d5, by omega, by omega⟩
  · obtain ⟨m2, e0, x1, x2, x3, x4⟩ := own_st1 (h7 ▸ own_rrn _) c1 c2 c3
    rw [← h9, ← h10] at x3 x4
    rw [← h9] at x1
    refine ⟨m2, Int.dvd_add x1 x2, ?_, ?_⟩
    all_goals
      have hlt : m1 < m2 := by
        apply own_plt
        rcases Int.lt_or_lt_of_ne z with w | w
        · have := own_gap d8 (Int.dvd_zero _) w; omega
        · have := own_gap (Int.dvd_zero _) d8 w; omega
      have dv := own_pdv (Nat.le_of_lt hlt)
      have y1 := own_gap d8 dv x4
      have y2 := own_gap ((Int.dvd_neg).mpr dv) d8 x3
      omega
def own_fix (s er : Int) : List Int → Int
  | [] => s
  | q :: _ => if (er < 0 ↔ q < 0) then (if own_rn (own_rn (s + own_rn (er * 2)) - s) = own_rn (er * 2) then own_rn (s + own_rn (er * 2)) else s) else s
def own_vd : Int → List Int → Int
  | s, [] => s
  | s, p :: r => if own_rn (p - own_rn (own_rn (s + p) - s)) = 0 then own_vd (own_rn (s + p)) r else own_fix (own_rn (s + p)) (own_rn (p - own_rn (own_rn (s + p) - s))) r
/-- value(), of the partials from the greatest down -/
def own_val : List Int → Int
  | [] => 0
  | t :: r => own_vd t r
def own_keep (l : List Int) : List Int := l.filter (fun x => decide (x ≠ 0))
theorem own_keep0 {l : List Int} : own_keep (0 :: l) = own_keep l := by simp [own_keep]
theorem own_keepS {x : Int} {l : List Int} (h : ¬ x = 0) : own_keep (x :: l) = x :: own_keep l := by simp [own_keep, h]
theorem own_vd1 (s p : Int) : own_vd s [p] = own_rn (s + p) := by
  rw [own_vd]; split <;> rfl
theorem own_er {s p : Int} (p1 : -1024 ≤ p) (p2 : p ≤ 1024) (s1 : -9223372036854770000 < s) (s2 : s < 9223372036854770000) : own_rn (p - own_rn (own_rn (s + p) - s)) = s + p - own_rn (s + p) := by
  have := own_errSm (n := s + p) (by omega) (by omega)
  rw [own_rnSm (i := own_rn (s + p) - s) (by omega) (by omega), own_rnSm (by omega) (by omega)]; omega
theorem own_fixT {M D q s : Int} {m : Nat} {r : List Int} (hd : (2 ^ m : Int) ∣ M) (d1 : -2 ^ m < D) (d2 : D < 2 ^ m) (es : own_rn M = s) (hg : ¬ M - s = 0) (q1 : q < 0 ↔ D < 0) (q2 : ¬ D = 0) (g1 : -1024 ≤ M - s) (g2 : M - s ≤ 1024) : own_fix s (M - s) (q :: r) = own_rn (M + D) := by
  subst es
  have t := own_tie hd d1 d2 hg
  have e2 : own_rn ((M - own_rn M) * 2) = 2 * (M - own_rn M) := by rw [own_rnSm (by omega) (by omega)]; omega
  show (if (M - own_rn M < 0 ↔ q < 0) then _ else _) = _
  rw [e2]
  have e3 : own_rn (own_rn (own_rn M + 2 * (M - own_rn M)) - own_rn M) = own_rn (own_rn M + 2 * (M - own_rn M)) - own_rn M := by
    apply own_rnRep
    -- the neighbour's distance is small
    have n1 := own_near (n := own_rn M + 2 * (M - own_rn M)) (own_rrn M)
    exact own_repSm (by omega) (by omega)
  rw [e3]
  by_cases c : (M - own_rn M < 0 ↔ q < 0)
  · rw [if_pos c]
    have t1 := t.1 (by omega)
    by_cases w : own_rn (own_rn M + 2 * (M - own_rn M)) - own_rn M = 2 * (M - own_rn M)
    · rw [if_pos w]; exact (t1.1 w).symm
    · rw [if_neg w]; exact (t1.2 w).symm
  · rw [if_neg c]
    exact (t.2 (by omega)).symm
theorem own_val4 {u3 g3 g2 g1 : Int} (hu : own_Rep u3) (h3 : own_rn (u3 + g3) = u3) (hz : u3 = 0 → g3 = 0) (u1 : -9223372036854770000 < u3) (u2 : u3 < 9223372036854770000) (s1 : -1024 ≤ g1 ∧ g1 ≤ 1024) (s2 : -1024 ≤ g2 ∧ g2 ≤ 1024) (s3 : -1024 ≤ g3 ∧ g3 ≤ 1024)
    (hB : ∃ m1 : Nat, (2 ^ m1 : Int) ∣ u3 + g3 ∧ (2 ^ m1 : Int) ∣ g2 ∧ -2 ^ m1 < g1 ∧ g1 < 2 ^ m1) (hA : ∃ m2 : Nat, (2 ^ m2 : Int) ∣ u3 + g3 ∧ -2 ^ m2 < g2 + g1 ∧ g2 + g1 < 2 ^ m2) :
    own_val (own_keep [u3, g3, g2, g1]) = own_rn (u3 + g3 + g2 + g1) := by
  obtain ⟨m1, B1, B2, B3, B4⟩ := hB
  obtain ⟨m2, A1, A2, A3⟩ := hA
  have sg : ¬ g2 = 0 → (g2 < 0 ↔ g2 + g1 < 0) ∧ ¬ g2 + g1 = 0 := by
    intro z
    rcases Int.lt_or_lt_of_ne z with w | w
    · have := own_gap B2 (Int.dvd_zero _) w; omega
    · have := own_gap (Int.dvd_zero _) B2 w; omega
  by_cases z0 : u3 = 0
  · have z3 := hz z0
    subst z0 z3
    rw [own_keep0, own_keep0, Int.add_zero, Int.zero_add]
    by_cases y2 : g2 = 0
    · subst y2
      rw [own_keep0, Int.zero_add]
      by_cases y1 : g1 = 0
      · subst y1; decide
      · rw [own_keepS y1, own_rnSm (by omega) (by omega)]; rfl
    · rw [own_keepS y2]
      by_cases y1 : g1 = 0
      · subst y1; rw [own_keep0, Int.add_zero, own_rnSm (by omega) (by omega)]; rfl
      · rw [own_keepS y1]; exact own_vd1 _ _
  · rw [own_keepS z0]
    by_cases z3 : g3 = 0
    · subst z3
      rw [own_keep0]
      rw [Int.add_zero] at *
      by_cases y2 : g2 = 0
      · subst y2
        rw [own_keep0, Int.add_zero]
        by_cases y1 : g1 = 0
        · subst y1; rw [own_keep0, Int.add_zero, own_rnRep hu]; rfl
        · rw [own_keepS y1]; exact own_vd1 _ _
      · rw [own_keepS y2]
        show own_vd u3 (g2 :: own_keep [g1]) = _
        rw [own_vd, own_er s2.1 s2.2 u1 u2]
        by_cases w : u3 + g2 - own_rn (u3 + g2) = 0
        · rw [if_pos w]
          have e : own_rn (u3 + g2) = u3 + g2 := by omega
          by_cases y1 : g1 = 0
          · subst y1; rw [own_keep0, Int.add_zero]; rfl
          · rw [own_keepS y1, e]; exact own_vd1 _ _
        · rw [if_neg w]
          by_cases y1 : g1 = 0
          · subst y1; rw [own_keep0, Int.add_zero]; rfl
          · rw [own_keepS y1]
            have es := own_errSm (n := u3 + g2) (by omega) (by omega)
            exact own_fixT (m := m1) (Int.dvd_add B1 B2) B3 B4 rfl w Iff.rfl y1 (by omega) (by omega)
    · rw [own_keepS z3]
      show own_vd u3 (g3 :: own_keep [g2, g1]) = _
      rw [own_vd, own_er s3.1 s3.2 u1 u2, h3, show u3 + g3 - u3 = g3 by omega, if_neg z3]
      have e3 : u3 + g3 - u3 = g3 := by omega
      by_cases y2 : g2 = 0
      · subst y2
        rw [own_keep0]
        by_cases y1 : g1 = 0
        · subst y1; rw [own_keep0, Int.add_zero, Int.add_zero, h3]; rfl
        · rw [own_keepS y1]
          have := own_fixT (q := g1) (r := own_keep []) (M := u3 + g3) (D := 0 + g1) A1 A2 A3 h3 (by omega) (by omega) (by omega) (by omega) (by omega)
          rw [e3, Int.zero_add] at this
          rw [Int.add_zero]; exact this
      · rw [own_keepS y2]
        have := own_fixT (q := g2) (r := own_keep [g1]) (M := u3 + g3) (D := g2 + g1) A1 A2 A3 h3 (by omega) (sg y2).1 (sg y2).2 (by omega) (by omega)
        rw [e3] at this
        rw [Int.add_assoc (u3 + g3)]; exact this
def own_grow : Int → List Int → List Int
  | x, [] => [x]
  | x, p :: ps => (x + p - own_rn (x + p)) :: own_grow (own_rn (x + p)) ps
/-- add(): the partials behind it -/
def own_addL (x : Int) (ps : List Int) : List Int := own_keep (own_grow x ps)
theorem own_growK {l : List Int} : ∀ {x : Int}, own_Rep x → own_keep (own_grow x (own_keep l)) = own_keep (own_grow x l) := by
  induction l with
  | nil => intro x hx; rfl
  | cons p l ih =>
    intro x hx
    by_cases z : p = 0
    · subst z
      rw [own_keep0, own_grow, Int.add_zero, own_rnRep hx, Int.sub_self, own_keep0]; exact ih hx
    · rw [own_keepS z, own_grow, own_grow]
      by_cases w : x + p - own_rn (x + p) = 0
      · rw [w, own_keep0, own_keep0]; exact ih (own_rrn _)
      · rw [own_keepS w, own_keepS w, ih (own_rrn _)]
theorem own_keepR (l : List Int) : (own_keep l).reverse = own_keep l.reverse := by simp [own_keep]
theorem own_keepM {l : List Int} {p : Int} (h : p ∈ own_keep l) : p ∈ l := (List.mem_filter.mp h).1
theorem own_keepLen (l : List Int) : (own_keep l).length ≤ l.length := List.length_filter_le _ _
def own_abs (l : List Int) : Nat := (l.map Int.natAbs).sum
theorem own_absC (p : Int) (l : List Int) : own_abs (p :: l) = p.natAbs + own_abs l := by simp [own_abs]
theorem own_keepAbs (l : List Int) : own_abs (own_keep l) = own_abs l := by
  induction l with
  | nil => rfl
  | cons p l ih =>
    by_cases z : p = 0
    · subst z; rw [own_keep0, ih, own_absC]; simp
    · rw [own_keepS z, own_absC, own_absC, ih]
theorem own_keepLast (gs : List Int) (u : Int) {p : Int} (h : p ∈ (own_keep (gs ++ [u])).dropLast) : p ∈ gs := by
  have e : own_keep (gs ++ [u]) = own_keep gs ++ own_keep [u] := by simp [own_keep, List.filter_append]
  rw [e] at h
  by_cases z : u = 0
  · subst z
    rw [own_keep0, show own_keep [] = [] from rfl, List.append_nil] at h
    exact own_keepM ((List.dropLast_sublist _).subset h)
  · rw [own_keepS z, show own_keep [] = [] from rfl, List.dropLast_concat] at h
    exact own_keepM h
/-- the sum of four, all in one -/
theorem own_all {a b c d : Int} (ha : own_Rep a) (hb : own_Rep b) (hc : own_Rep c) (hd : own_Rep d) (a1 : -1152921504606846976 ≤ a ∧ a ≤ 1152921504606846976) (b1 : -1152921504606846976 ≤ b ∧ b ≤ 1152921504606846976) (c1 : -1152921504606846976 ≤ c ∧ c ≤ 1152921504606846976) (d1 : -1152921504606846976 ≤ d ∧ d ≤ 1152921504606846976) :
    (∀ p ∈ own_addL a [], own_Rep p) ∧ (∀ p ∈ own_addL b (own_addL a []), own_Rep p) ∧ (∀ p ∈ own_addL c (own_addL b (own_addL a [])), own_Rep p) ∧ (∀ p ∈ own_addL d (own_addL c (own_addL b (own_addL a []))), own_Rep p)
    ∧ b.natAbs + own_abs (own_addL a []) ≤ 4611686018427400000 ∧ c.natAbs + own_abs (own_addL b (own_addL a [])) ≤ 4611686018427400000 ∧ d.natAbs + own_abs (own_addL c (own_addL b (own_addL a []))) ≤ 4611686018427400000
    ∧ (own_addL a []).length ≤ 1 ∧ (own_addL b (own_addL a [])).length ≤ 2 ∧ (own_addL c (own_addL b (own_addL a []))).length ≤ 3 ∧ (own_addL d (own_addL c (own_addL b (own_addL a [])))).length ≤ 4
    ∧ (∀ p ∈ (own_addL b (own_addL a [])).dropLast, -1024 ≤ p ∧ p ≤ 1024) ∧ (∀ p ∈ (own_addL d (own_addL c (own_addL b (own_addL a [])))).dropLast, -1024 ≤ p ∧ p ≤ 1024)
    ∧ (∀ p ∈ own_addL b (own_addL a []), -9223372036854700000 ≤ p ∧ p ≤ 9223372036854700000) ∧ (∀ p ∈ own_addL d (own_addL c (own_addL b (own_addL a []))), -9223372036854700000 ≤ p ∧ p ≤ 9223372036854700000)
    ∧ own_val (own_addL b (own_addL a [])).reverse = own_rn (a + b) ∧ own_val (own_addL d (own_addL c (own_addL b (own_addL a [])))).reverse = own_rn (a + b + c + d) := by
  have e1 : own_addL a [] = own_keep [a] := rfl
  have e2 : own_addL b (own_addL a []) = own_keep (own_grow b [a]) := by rw [e1]; exact own_growK hb
  have e3 : own_addL c (own_addL b (own_addL a [])) = own_keep (own_grow c (own_grow b [a])) := by rw [e2]; exact own_growK hc
  have e4 : own_addL d (own_addL c (own_addL b (own_addL a []))) = own_keep (own_grow d (own_grow c (own_grow b [a]))) := by rw [e3]; exact own_growK hd
  rw [e4, e3, e2, e1]
  clear e1 e2 e3 e4
  simp only [own_grow]
  obtain ⟨s2, h1⟩ : ∃ s2, s2 = own_rn (b + a) := ⟨_, rfl⟩
  rw [← h1]
  obtain ⟨q1, h2⟩ : ∃ q1, q1 = b + a - s2 := ⟨_, rfl⟩
  rw [← h2]
  obtain ⟨t1, h3⟩ : ∃ t1, t1 = own_rn (c + q1) := ⟨_, rfl⟩
  rw [← h3]
  obtain ⟨f1, h4⟩ : ∃ f1, f1 = c + q1 - t1 := ⟨_, rfl⟩
  rw [← h4]
  obtain ⟨t2, h5⟩ : ∃ t2, t2 = own_rn (t1 + s2) := ⟨_, rfl⟩
  rw [← h5]
  obtain ⟨f2, h6⟩ : ∃ f2, f2 = t1 + s2 - t2 := ⟨_, rfl⟩
  rw [← h6]
  obtain ⟨u1, h7⟩ : ∃ u1, u1 = own_rn (d + f1) := ⟨_, rfl⟩
  rw [← h7]
  obtain ⟨g1, h8⟩ : ∃ g1, g1 = d + f1 - u1 := ⟨_, rfl⟩
  rw [← h8]
  obtain ⟨u2, h9⟩ : ∃ u2, u2 = own_rn (u1 + f2) := ⟨_, rfl⟩
  rw [← h9]
  obtain ⟨g2, h10⟩ : ∃ g2, g2 = u1 + f2 - u2 := ⟨_, rfl⟩
  rw [← h10]
  obtain ⟨u3, h11⟩ : ∃ u3, u3 = own_rn (u2 + t2) := ⟨_, rfl⟩
  rw [← h11]
  obtain ⟨g3, h12⟩ : ∃ g3, g3 = u2 + t2 - u3 := ⟨_, rfl⟩
  rw [← h12]
  have x1 := own_errSm (n := b + a) (by omega) (by omega)
  rw [← h1, ← h2] at x1
  have x2 := own_errSm (n := c + q1) (by omega) (by omega)
  rw [← h3, ← h4] at x2
  have x3 := own_errSm (n := t1 + s2) (by omega) (by omega)
  rw [← h5, ← h6] at x3
  have x4 := own_errSm (n := d + f1) (by omega) (by omega)
  rw [← h7, ← h8] at x4
  have x5 := own_errSm (n := u1 + f2) (by omega) (by omega)
  rw [← h9, ← h10] at x5
  have x6 := own_errSm (n := u2 + t2) (by omega) (by omega)
  rw [← h11, ← h12] at x6
  have r1 : own_Rep q1 := own_repSm (by omega) (by omega)
  have r2 : own_Rep f1 := own_repSm (by omega) (by omega)
  have r3 : own_Rep f2 := own_repSm (by omega) (by omega)
  have r4 : own_Rep g1 := own_repSm (by omega) (by omega)
  have r5 : own_Rep g2 := own_repSm (by omega) (by omega)
  have r6 : own_Rep g3 := own_repSm (by omega) (by omega)
  have rs2 : own_Rep s2 := h1 ▸ own_rrn _
  have rt2 : own_Rep t2 := h5 ▸ own_rrn _
  have ru3 : own_Rep u3 := h11 ▸ own_rrn _
  obtain ⟨nB, nA⟩ := own_nonov hc hd h1 h2 h3 h4 h5 h6 h7 h8 h9 h10
  refine ⟨?_, ?_, ?_, ?_, ?_, ?_, ?_, ?_, ?_, ?_, ?_, ?_, ?_, ?_, ?_, ?_, ?_⟩
  · intro p hp; have := own_keepM hp; simp only [List.mem_cons, List.not_mem_nil, or_false] at this; subst this; exact ha
  · intro p hp; have := own_keepM hp; simp only [List.mem_cons, List.not_mem_nil, or_false] at this; rcases this with rfl | rfl <;> assumption
  · intro p hp; have := own_keepM hp; simp only [List.mem_cons, List.not_mem_nil, or_false] at this; rcases this with rfl | rfl | rfl <;> assumption
  · intro p hp; have := own_keepM hp; simp only [List.mem_cons, List.not_mem_nil, or_false] at this; rcases this with rfl | rfl | rfl | rfl <;> assumption
  · rw [own_keepAbs]; simp only [own_absC, show own_abs [] = 0 from rfl]; omega
  · rw [own_keepAbs]; simp only [own_absC, show own_abs [] = 0 from rfl]; omega
  · rw [own_keepAbs]; simp only [own_absC, show own_abs [] = 0 from rfl]; omega
  · exact own_keepLen _
  · exact own_keepLen _
  · exact own_keepLen _
  · exact own_keepLen _
  · intro p hp; have := own_keepLast [q1] s2 hp; simp only [List.mem_cons, List.not_mem_nil, or_false] at this; subst this; omega
  · intro p hp; have := own_keepLast [g1, g2, g3] u3 hp; simp only [List.mem_cons, List.not_mem_nil, or_false] at this; rcases this with rfl | rfl | rfl <;> omega
  · intro p hp; have := own_keepM hp; simp only [List.mem_cons, List.not_mem_nil, or_false] at this; rcases this with rfl | rfl <;> omega
  · intro p hp; have := own_keepM hp; simp only [List.mem_cons, List.not_mem_nil, or_false] at this; rcases this with rfl | rfl | rfl | rfl <;> omega
  · rw [own_keepR]
    show own_val (own_keep [s2, q1]) = _
    have e : own_rn (a + b) = s2 := by rw [h1, Int.add_comm]
    rw [e]
    by_cases z : s2 = 0
    · have zq : q1 = 0 := by
        rcases own_rnD (b + a) with w | ⟨k, k1, l, dd, b1', b2', nd⟩
        · omega
        · have := own_pw k; omega
      rw [z, zq, own_keep0, own_keep0]; rfl
    · rw [own_keepS z]
      by_cases y : q1 = 0
      · rw [y, own_keep0]; rfl
      · rw [own_keepS y]
        show own_vd s2 [q1] = s2
        rw [own_vd1, show s2 + q1 = b + a by omega, ← h1]
  · rw [own_keepR]
    show own_val (own_keep [u3, g3, g2, g1]) = _
    have eM : u3 + g3 = u2 + t2 := by omega
    rw [own_val4 ru3 (by rw [eM, ← h11]) (by
      intro z
      rcases own_rnD (u2 + t2) with w | ⟨k, k1, l, dd, b1', b2', nd⟩
      · omega
      · have := own_pw k; omega) (by omega) (by omega) x4 x5 x6 (by rw [eM]; exact nB) (by rw [eM]; exact nA)]
    congr 1; omega
def own_D (i : Int) : UInt64 := l2d (Int64.ofInt i)
theorem own_toI {i : Int} (h1 : -9223372036854775808 ≤ i) (h2 : i < 9223372036854775808) : (Int64.ofInt i).toInt = i := by
  exact Int64.toInt_ofInt_of_le (by omega) (by omega)
theorem own_rw (a : Int64) : Whole (own_rn a.toInt) (val64 (l2d a)) := by
  have hu := a.toInt_lt
  have hl := a.le_toInt
  by_cases sm : a.toInt.natAbs < 2 ^ 53
  · rw [own_rnSm (by omega) (by omega)]; exact l2d_int (by omega)
  · obtain ⟨k, ek, k1, l1, l2⟩ := own_log (n := a.toInt.natAbs) (by omega)
    have hk : k ≤ 11 := by
      apply Nat.le_of_not_lt; intro q
      have : (2 : Nat) ^ 12 ≤ 2 ^ k := Nat.pow_le_pow_right (by decide) (by omega)
      omega
    have h1 : val64 (l2d a) = roundRatio b64 (decide (a.toInt < 0)) a.toInt.natAbs 1 0 := val64_l2d a
    have eq : quantum b64 a.toInt.natAbs 1 0 = (k : Int) := by
      refine quantum_eq (by omega) (by decide) (by show (2 : Int) - (2 ^ 10 - 1 : Nat) - (53 : Nat) ≤ (k : Int); omega) ?_ (Or.inr ?_)
      · show a.toInt.natAbs * 2 ^ (-((k : Int) - 0 + ((53 : Nat) : Int))).toNat < 1 * 2 ^ ((k : Int) - 0 + ((53 : Nat) : Int)).toNat
        rw [show (-((k : Int) - 0 + ((53 : Nat) : Int))).toNat = 0 by omega, show ((k : Int) - 0 + ((53 : Nat) : Int)).toNat = 53 + k by omega, Nat.pow_add]
        omega
      · show ¬ a.toInt.natAbs * 2 ^ (-((k : Int) - 0 + (((53 : Nat) : Int) - 1))).toNat < 1 * 2 ^ ((k : Int) - 0 + (((53 : Nat) : Int) - 1)).toNat
        rw [show (-((k : Int) - 0 + (((53 : Nat) : Int) - 1))).toNat = 0 by omega, show ((k : Int) - 0 + (((53 : Nat) : Int) - 1)).toNat = 52 + k by omega, Nat.pow_add]
        omega
    have h2 : val64 (l2d a) = settle b64 (decide (a.toInt < 0)) (nearest a.toInt.natAbs (2 ^ k)) (k : Int) := by
      rw [h1]; unfold roundRatio
      rw [if_neg (by omega), eq]; unfold roundAt unitsNum unitsDen
      rw [show ((0 : Int) - (k : Int)).toNat = 0 by omega, show ((k : Int) - 0).toNat = k by omega, Nat.pow_zero, Nat.mul_one, Nat.one_mul]
    obtain ⟨q, eqq, g1, g2, g3⟩ := own_nearest a.toInt.natAbs (2 ^ k) (Nat.two_pow_pos k)
    have hr : own_rn a.toInt = signed (decide (a.toInt < 0)) (q * 2 ^ k) := by
      unfold own_rn own_rnN signed
      rw [if_neg sm, ek, eqq]
      by_cases c : a.toInt < 0 <;> simp [c]
    have qm : b64.qmax = 971 := by decide
    rw [h2, eqq, hr]; unfold settle bound
    by_cases c : q < 2 ^ b64.p
    · rw [if_pos c, if_pos (by rw [qm]; omega)]
      show signed _ (q * 2 ^ (k : Int).toNat) = signed _ (q * 2 ^ k) * ((2 ^ (-(k : Int)).toNat : Nat) : Int)
      rw [show (k : Int).toNat = k by omega, show (-(k : Int)).toNat = 0 by omega]; simp
    · rw [if_neg c, if_pos (by rw [qm]; omega)]
      have c' : 2 ^ 53 ≤ q := Nat.le_of_not_lt c
      have e53 : q = 2 ^ 53 := by
        apply Nat.le_antisymm _ c'
        apply Nat.le_of_lt_succ; apply Nat.lt_of_not_le; intro w
        have : (2 ^ 53 + 1) * 2 ^ k ≤ q * 2 ^ k := Nat.mul_le_mul_right _ w
        rw [Nat.add_mul, Nat.one_mul] at this
        omega
      show signed _ (2 ^ 52 * 2 ^ ((k : Int) + 1).toNat) = signed _ (q * 2 ^ k) * ((2 ^ (-((k : Int) + 1)).toNat : Nat) : Int)
      rw [show ((k : Int) + 1).toNat = 1 + k by omega, show (-((k : Int) + 1)).toNat = 0 by omega, e53, Nat.pow_add, ← Nat.mul_assoc]; simp
theorem own_Dw {i : Int} (h : own_Rep i) (h1 : -9223372036854775808 ≤ i) (h2 : i < 9223372036854775808) : DInt i (own_D i) := by
  have := own_rw (Int64.ofInt i)
  rw [own_toI h1 h2, own_rnRep h] at this
  exact this
theorem own_rnB {i : Int} (h1 : -9223372036854774000 < i) (h2 : i < 9223372036854774000) : -9223372036854775808 ≤ own_rn i ∧ own_rn i < 9223372036854775808 := by
  have := own_errSm (n := i) (by omega) (by omega); omega
theorem own_Drn {i : Int} (h1 : -9223372036854774000 < i) (h2 : i < 9223372036854774000) : own_D (own_rn i) = own_D i := by
  by_cases z : own_rn i = 0
  · have e : i = 0 := by
      rcases own_rnD i with e | ⟨k, k1, l, d, b1, b2, nd⟩
      · omega
      · have := own_pw k; omega
    subst e; rw [z]
  · have b := own_rnB h1 h2
    have w1 := own_rw (Int64.ofInt i)
    rw [own_toI (by omega) (by omega)] at w1
    exact dint_unique z (own_Dw (own_rrn i) b.1 b.2) w1
theorem own_Dadd {i j : Int} (hi : own_Rep i) (hj : own_Rep j) (h1 : -9223372036854770000 < i) (h2 : i < 9223372036854770000) (h3 : -9223372036854770000 < j) (h4 : j < 9223372036854770000) (h5 : -9223372036854770000 < i + j) (h6 : i + j < 9223372036854770000) : dadd (own_D i) (own_D j) = own_D (own_rn (i + j)) := by
  rw [own_Drn (by omega) (by omega)]
  have wa := own_Dw hi (by omega) (by omega)
  have wb := own_Dw hj (by omega) (by omega)
  obtain ⟨c, q, ea⟩ := l2d_shape (Int64.ofInt i)
  obtain ⟨d, r, eb⟩ := l2d_shape (Int64.ofInt j)
  rw [own_toI (by omega) (by omega)] at ea eb
  show of64 (round b64 (exactSum (val64 (own_D i)) (val64 (own_D j)))) = of64 (round b64 (ofInt (Int64.ofInt (i + j)).toInt))
  unfold DInt own_D at wa wb
  rw [ea] at wa
  rw [eb] at wb
  unfold own_D
  rw [ea, eb, round_sum_whole wa wb, own_toI (by omega) (by omega)]
  intro h
  rw [Bool.and_eq_false_iff]; simp; omega
theorem own_Dsub {i j : Int} (hi : own_Rep i) (hj : own_Rep j) (h1 : -9223372036854770000 < i) (h2 : i < 9223372036854770000) (h3 : -9223372036854770000 < j) (h4 : j < 9223372036854770000) (h5 : -9223372036854770000 < i - j) (h6 : i - j < 9223372036854770000) : dsub (own_D i) (own_D j) = own_D (own_rn (i - j)) := by
  rw [own_Drn (by omega) (by omega)]
  have wa := own_Dw hi (by omega) (by omega)
  have wb := whole_negate (own_Dw hj (by omega) (by omega))
  obtain ⟨c, q, ea⟩ := l2d_shape (Int64.ofInt i)
  obtain ⟨d, r, eb⟩ := l2d_shape (Int64.ofInt j)
  rw [own_toI (by omega) (by omega)] at ea eb
  show of64 (round b64 (exactSum (val64 (own_D i)) (negate (val64 (own_D j))))) = of64 (round b64 (ofInt (Int64.ofInt (i - j)).toInt))
  unfold own_D at wb
  unfold DInt own_D at wa
  rw [ea] at wa
  rw [eb] at wb
  unfold own_D
  rw [ea, eb]
  simp only [negate] at wb ⊢
  rw [round_sum_whole wa wb, own_toI (by omega) (by omega)]
  · rfl
  · intro h
    rw [Bool.and_eq_false_iff]; simp; omega
theorem own_Dcmp {i j : Int} (hi : own_Rep i) (hj : own_Rep j) (h1 : -9223372036854770000 < i) (h2 : i < 9223372036854770000) (h3 : -9223372036854770000 < j) (h4 : j < 9223372036854770000) : dcmp (own_D i) (own_D j) = some (compare i j) :=
  dcmp_int (own_Dw hi (by omega) (by omega)) (own_Dw hj (by omega) (by omega))
theorem own_Dd2l {i : Int} (hi : own_Rep i) (h1 : -9223372036854770000 < i) (h2 : i < 9223372036854770000) : d2l (own_D i) = Int64.ofInt i := by
  apply d2l_int
  rw [own_toI (by omega) (by omega)]
  exact own_Dw hi (by omega) (by omega)

theorem own_c0 : FP.dconst0 = own_D 0 := by decide +kernel
theorem own_c2 : (4611686018427387904 : UInt64) = own_D 2 := by decide +kernel
theorem own_rep0 : own_Rep 0 := own_repSm (by decide) (by decide)
def own_cmp (i j : Int) : Int32 := if i < j then -1 else if i = j then 0 else 1
theorem own_cmEq {i j : Int} : own_cmp i j = (0 : Int32) ↔ i = j := by
  unfold own_cmp
  by_cases a : i < j
  · rw [if_pos a]; exact ⟨fun q => absurd q (by decide), fun q => by omega⟩
  · rw [if_neg a]
    by_cases b : i = j
    · rw [if_pos b]; exact ⟨fun _ => b, fun _ => rfl⟩
    · rw [if_neg b]; exact ⟨fun q => absurd q (by decide), fun q => absurd q b⟩
theorem own_cmLt {i j : Int} : own_cmp i j < (0 : Int32) ↔ i < j := by
  unfold own_cmp
  by_cases a : i < j
  · rw [if_pos a]; exact ⟨fun _ => a, fun _ => by decide⟩
  · rw [if_neg a]
    by_cases b : i = j
    · rw [if_pos b]; exact ⟨fun q => absurd q (by decide), fun q => absurd q a⟩
    · rw [if_neg b]; exact ⟨fun q => absurd q (by decide), fun q => absurd q a⟩
theorem own_cmGt {i j : Int} : (0 : Int32) < own_cmp i j ↔ j < i := by
  unfold own_cmp
  by_cases a : i < j
  · rw [if_pos a]; exact ⟨fun q => absurd q (by decide), fun q => by omega⟩
  · rw [if_neg a]
    by_cases b : i = j
    · rw [if_pos b]; exact ⟨fun q => absurd q (by decide), fun q => by omega⟩
    · rw [if_neg b]; exact ⟨fun _ => by omega, fun _ => by decide⟩
theorem own_DcmpV {i j : Int} (hi : own_Rep i) (hj : own_Rep j) (h1 : -9223372036854770000 < i) (h2 : i < 9223372036854770000) (h3 : -9223372036854770000 < j) (h4 : j < 9223372036854770000) (o : CmpOp) : cmpValue (FP.dcmp (own_D i) (own_D j)) o = own_cmp i j := by
  have e : FP.dcmp (own_D i) (own_D j) = some (compare i j) := own_Dcmp hi hj h1 h2 h3 h4
  rw [e, Jvm.FP.Core.compare_ite]
  unfold own_cmp
  split
  · cases o <;> rfl
  · split <;> cases o <;> rfl
theorem own_Dmul2 {i : Int} (hz : ¬ i = 0) (h1 : -100000 < i) (h2 : i < 100000) : FP.dmul (own_D i) (own_D 2) = own_D (own_rn (i * 2)) := by
  have t := own_toI (i := i) (by omega) (by omega)
  have t2 := own_toI (i := 2) (by omega) (by omega)
  have hza : Int64.ofInt i ≠ 0 := fun q => hz (by rw [q] at t; exact t.symm)
  rw [own_rnSm (i := i * 2) (by omega) (by omega)]
  show FP.dmul (FP.l2d (Int64.ofInt i)) (FP.l2d (Int64.ofInt 2)) = FP.l2d (Int64.ofInt (i * 2))
  rw [Int64.ofInt_mul]
  exact dmul_w ⟨by omega, by omega⟩ ⟨by omega, by omega⟩ hza (by decide) (by rw [t, t2]; omega) (by rw [t, t2]; omega)
theorem own_in (q : Int64) : ∃ A : Int, own_Rep A ∧ (-1152921504606846976 ≤ A ∧ A ≤ 1152921504606846976) ∧ FP.l2d (q >>> ((3 : Int32) &&& 0x3f).toInt64) = own_D A := by
  have hu := q.toInt_lt
  have hl := q.le_toInt
  have e : (q >>> ((3 : Int32) &&& 0x3f).toInt64).toInt = q.toInt / 8 := by
    show (q.toBitVec.sshiftRight 3).toInt = q.toBitVec.toInt / 8
    rw [BitVec.toInt_sshiftRight, Int.shiftRight_eq_div_pow]; rfl
  have r60 : own_Rep 1152921504606846976 := ⟨8, by decide, by decide, by decide⟩
  have n1 := own_near (n := q.toInt / 8) r60
  have n2 := own_near (n := q.toInt / 8) (own_repNeg r60)
  refine ⟨own_rn (q.toInt / 8), own_rrn _, ⟨by omega, by omega⟩, ?_⟩
  rw [own_Drn (by omega) (by omega), ← e]
  show _ = FP.l2d (Int64.ofInt _)
  rw [Int64.ofInt_toInt]
theorem own_l2a (a b : Int) : FP.l2d (Int64.ofInt a + Int64.ofInt b) = own_D (a + b) := by rw [← Int64.ofInt_add]; rfl
theorem own_l2b (a b c d : Int) : FP.l2d (Int64.ofInt a + Int64.ofInt b + Int64.ofInt c + Int64.ofInt d) = own_D (a + b + c + d) := by rw [← Int64.ofInt_add, ← Int64.ofInt_add, ← Int64.ofInt_add]; rfl
end
theorem own_pn0 : plainName "com/example/merit/merit/ExactSum" = true := by first | (simp [plainName, overriddenIn]; done) | decide +kernel
theorem own_ef_own_re (m : MethodId) (ud0 : UInt64) (ud1 : UInt64) (ud2 : UInt64) : entryFrame m #[(.double ud0), (.double ud1), (.double ud2)] 8 = mkF m 0 #[.val (.double ud0), .second, .val (.double ud1), .second, .val (.double ud2), .second, .unset, .unset] [] := by first | (simp [entryFrame, mkF, argsToLocals, Value.category]; done) | rfl
theorem d5_0 : decode prog_12_method_5_code 0 = .ok (.dload 4, 2) := by decide +kernel
theorem d5_2 : decode prog_12_method_5_code 2 = .ok (.dload_n 0, 1) := by decide +kernel
theorem d5_3 : decode prog_12_method_5_code 3 = .ok (.dsub, 1) := by decide +kernel
theorem d5_4 : decode prog_12_method_5_code 4 = .ok (.dstore 6, 2) := by decide +kernel
theorem d5_6 : decode prog_12_method_5_code 6 = .ok (.dload_n 0, 1) := by decide +kernel
theorem d5_7 : decode prog_12_method_5_code 7 = .ok (.dload 4, 2) := by decide +kernel
theorem d5_9 : decode prog_12_method_5_code 9 = .ok (.dload 6, 2) := by decide +kernel
theorem d5_11 : decode prog_12_method_5_code 11 = .ok (.dsub, 1) := by decide +kernel
theorem d5_12 : decode prog_12_method_5_code 12 = .ok (.dsub, 1) := by decide +kernel
theorem d5_13 : decode prog_12_method_5_code 13 = .ok (.dload_n 2, 1) := by decide +kernel
theorem d5_14 : decode prog_12_method_5_code 14 = .ok (.dload 6, 2) := by decide +kernel
theorem d5_16 : decode prog_12_method_5_code 16 = .ok (.dsub, 1) := by decide +kernel
theorem d5_17 : decode prog_12_method_5_code 17 = .ok (.dadd, 1) := by decide +kernel
theorem d5_18 : decode prog_12_method_5_code 18 = .ok (.dreturn, 1) := by decide +kernel
def Qown_re (Z : State) (ra : Int) (rb : Int) (rs : Int) (h0 : Heap) (n0 : Nat) (v : Option Value) (h : Heap) (L : List Loc) : Prop := v = some (.double (own_D (ra + rb - rs))) ∧ Fr n0 L ∧ h = h0
set_option maxRecDepth 65536 in
set_option maxHeartbeats 40000000 in
theorem own_re (l : Launch) (Z : State) (a0 : Array Value) (hw : ∀ d ∈ tables_1, d.before a0 Z = true) (ws : List Jvm.Cond) (ra : Int) (rb : Int) (rs : Int) (h0 : Heap) (n0 : Nat) (Z0 : n0 ≤ h0.size) (ha : own_Rep ra) (hb_ : own_Rep rb) (hs : rs = own_rn (ra + rb)) (hbd : ra.natAbs + rb.natAbs ≤ 9223372036854700000) :
    MetFree l (⟨"com/example/merit/merit/ExactSum", "roundingError", "(DDD)D"⟩ : MethodName) (head1 (Jvm.Cond.code (⟨"com/example/merit/merit/ExactSum", "roundingError", "(DDD)D"⟩ : MethodName) prog_12_method_5_code 8 (some .double) :: ws) ({ frames := 0, cells := 0, slots := 0, locals := 0 } : Room)) (fun a U => a = #[(.double (own_D ra)), (.double (own_D rb)), (.double (own_D rs))] ∧ Z.Warmed39 U.vm ∧ U.heap = h0) (fun _ _ _ _ _ => True) (fun _ U o U' => ∃ v L, o = .returned v ∧ Qown_re Z ra rb rs h0 n0 v U'.heap L ∧ FrameEnd U o U' L ({ frames := 0, cells := 0, slots := 0, locals := 0 } : Room).cells ({ frames := 0, cells := 0, slots := 0, locals := 0 } : Room).slots) := by
  refine MetFree.of_bodySF (plainFor_of_name own_pn0) hisR ?_
  intro p e s m args below meth c s₁ Bd hml0 hP hK
  obtain ⟨rfl, hZ, hh⟩ := hP
  have hx := Bd.exec
  have hby := Bd.bytes
  have hml : c.maxLocals = 8 := hml0
  have hown : s.vm.findClass "com/example/merit/merit/ExactSum" = some m.cls := findClass_of_methodNamed Bd.named
  have hnm := (name_of_methodNamed Bd.named Bd.method).1
  have X0 : Stand p l e ({ frames := 0, cells := 0, slots := 0, locals := 0 } : Room) s m #[(.double (own_D ra)), (.double (own_D rb)), (.double (own_D rs))] below meth c s₁ [] 0 0 := Stand.of_body Bd
  have e0 : s₁.heap = h0 := by rw [← hh, Bd.state]; rfl
  have N0 := Fr.nil n0
  have pre0 : ∀ t, Steps p.tables e below (s₁.setTop (mkF m 0 #[vD ((own_D ra)), s_, vD ((own_D rb)), s_, vD ((own_D rs)), s_, u_, u_] [])) t → Steps p.tables e below (s₁.setTop (entryFrame m #[(.double (own_D ra)), (.double (own_D rb)), (.double (own_D rs))] 8)) t := fun t k => castTop (own_ef_own_re m (own_D ra) (own_D rb) (own_D rs)) k
  have hE0 := own_errSm (n := ra + rb) (by omega) (by omega)
  rw [← hs] at hE0
  have hrs : own_Rep rs := hs ▸ own_rrn _
  have hq4 : FP.dsub (own_D rs) (own_D ra) = own_D (own_rn (rs - ra)) := own_Dsub hrs ha (by omega) (by omega) (by omega) (by omega) (by omega) (by omega)
  have hq4E := own_errSm (n := rs - ra) (by omega) (by omega)
  have hq10 : FP.dsub (own_D rs) (own_D (own_rn (rs - ra))) = own_D (own_rn (rs - (own_rn (rs - ra)))) := own_Dsub hrs (own_rrn _) (by omega) (by omega) (by omega) (by omega) (by omega) (by omega)
  have hq10E := own_errSm (n := rs - (own_rn (rs - ra))) (by omega) (by omega)
  have hq12 : FP.dsub (own_D ra) (own_D (own_rn (rs - (own_rn (rs - ra))))) = own_D (own_rn (ra - (own_rn (rs - (own_rn (rs - ra)))))) := own_Dsub ha (own_rrn _) (by omega) (by omega) (by omega) (by omega) (by omega) (by omega)
  have hq12E := own_errSm (n := ra - (own_rn (rs - (own_rn (rs - ra))))) (by omega) (by omega)
  have hq16 : FP.dsub (own_D rb) (own_D (own_rn (rs - ra))) = own_D (own_rn (rb - (own_rn (rs - ra)))) := own_Dsub hb_ (own_rrn _) (by omega) (by omega) (by omega) (by omega) (by omega) (by omega)
  have hq16E := own_errSm (n := rb - (own_rn (rs - ra))) (by omega) (by omega)
  have hq18 : FP.dadd (own_D (own_rn (ra - (own_rn (rs - (own_rn (rs - ra))))))) (own_D (own_rn (rb - (own_rn (rs - ra))))) = own_D (own_rn ((own_rn (ra - (own_rn (rs - (own_rn (rs - ra)))))) + (own_rn (rb - (own_rn (rs - ra)))))) := own_Dadd (own_rrn _) (own_rrn _) (by omega) (by omega) (by omega) (by omega) (by omega) (by omega)
  have hq18E := own_errSm (n := (own_rn (ra - (own_rn (rs - (own_rn (rs - ra)))))) + (own_rn (rb - (own_rn (rs - ra))))) (by omega) (by omega)
  obtain ⟨fs, hr, hrun, hended, hW, hsame⟩ := X0.leave (v := some (.double (own_D (own_rn ((own_rn (ra - (own_rn (rs - (own_rn (rs - ra)))))) + (own_rn (rb - (own_rn (rs - ra))))))))) (fun h => by rw [Bd.returns] at h; cases h) (hlocks := BodyLoose.notSynchronized Bd)
  refine ⟨_, _, pre0 _ ?_, hrun, hended, _, _, rfl, ?_, ⟨_, rfl⟩, hW, hsame.mono (by decide) (by decide)⟩
  · show SS p e below m s₁ 0 #[vD ((own_D ra)), s_, vD ((own_D rb)), s_, vD ((own_D rs)), s_, u_, u_] [] _
    refine XS.dload X0.here hx rfl (hb hby d5_0) rfl ?_
    refine XS.dloadN X0.here hx rfl (hb hby d5_2) rfl ?_
    show SS p e below m s₁ 3 #[vD ((own_D ra)), s_, vD ((own_D rb)), s_, vD ((own_D rs)), s_, u_, u_] [(.double (own_D ra)), (.double (own_D rs))] _
    refine XS.dsubS X0.here hx rfl (hb hby d5_3) rfl (nn_w (a := Int64.ofInt (own_rn (rs - ra))) hq4) hq4 ?_
    show SS p e below m s₁ 4 #[vD ((own_D ra)), s_, vD ((own_D rb)), s_, vD ((own_D rs)), s_, u_, u_] [(.double (own_D (own_rn (rs - ra))))] _
    refine XS.dstore X0.here hx rfl (hb hby d5_4) rfl (l' := #[vD ((own_D ra)), s_, vD ((own_D rb)), s_, vD ((own_D rs)), s_, vD ((own_D (own_rn (rs - ra)))), s_]) rfl ?_
    refine XS.dloadN X0.here hx rfl (hb hby d5_6) rfl ?_
    refine XS.dload X0.here hx rfl (hb hby d5_7) rfl ?_
    show SS p e below m s₁ 9 #[vD ((own_D ra)), s_, vD ((own_D rb)), s_, vD ((own_D rs)), s_, vD ((own_D (own_rn (rs - ra)))), s_] [(.double (own_D rs)), (.double (own_D ra))] _
    refine XS.dload X0.here hx rfl (hb hby d5_9) rfl ?_
    show SS p e below m s₁ 11 #[vD ((own_D ra)), s_, vD ((own_D rb)), s_, vD ((own_D rs)), s_, vD ((own_D (own_rn (rs - ra)))), s_] [(.double (own_D (own_rn (rs - ra)))), (.double (own_D rs)), (.double (own_D ra))] _
    refine XS.dsubS X0.here hx rfl (hb hby d5_11) rfl (nn_w (a := Int64.ofInt (own_rn (rs - (own_rn (rs - ra))))) hq10) hq10 ?_
    show SS p e below m s₁ 12 #[vD ((own_D ra)), s_, vD ((own_D rb)), s_, vD ((own_D rs)), s_, vD ((own_D (own_rn (rs - ra)))), s_] [(.double (own_D (own_rn (rs - (own_rn (rs - ra)))))), (.double (own_D ra))] _
    refine XS.dsubS X0.here hx rfl (hb hby d5_12) rfl (nn_w (a := Int64.ofInt (own_rn (ra - (own_rn (rs - (own_rn (rs - ra))))))) hq12) hq12 ?_
    show SS p e below m s₁ 13 #[vD ((own_D ra)), s_, vD ((own_D rb)), s_, vD ((own_D rs)), s_, vD ((own_D (own_rn (rs - ra)))), s_] [(.double (own_D (own_rn (ra - (own_rn (rs - (own_rn (rs - ra))))))))] _
    refine XS.dloadN X0.here hx rfl (hb hby d5_13) rfl ?_
    refine XS.dload X0.here hx rfl (hb hby d5_14) rfl ?_
    show SS p e below m s₁ 16 #[vD ((own_D ra)), s_, vD ((own_D rb)), s_, vD ((own_D rs)), s_, vD ((own_D (own_rn (rs - ra)))), s_] [(.double (own_D (own_rn (rs - ra)))), (.double (own_D rb)), (.double (own_D (own_rn (ra - (own_rn (rs - (own_rn (rs - ra))))))))] _
    refine XS.dsubS X0.here hx rfl (hb hby d5_16) rfl (nn_w (a := Int64.ofInt (own_rn (rb - (own_rn (rs - ra))))) hq16) hq16 ?_
    show SS p e below m s₁ 17 #[vD ((own_D ra)), s_, vD ((own_D rb)), s_, vD ((own_D rs)), s_, vD ((own_D (own_rn (rs - ra)))), s_] [(.double (own_D (own_rn (rb - (own_rn (rs - ra)))))), (.double (own_D (own_rn (ra - (own_rn (rs - (own_rn (rs - ra))))))))] _
    refine XS.daddS X0.here hx rfl (hb hby d5_17) rfl (nn_w (a := Int64.ofInt (own_rn ((own_rn (ra - (own_rn (rs - (own_rn (rs - ra)))))) + (own_rn (rb - (own_rn (rs - ra))))))) hq18) hq18 ?_
    show SS p e below m s₁ 18 #[vD ((own_D ra)), s_, vD ((own_D rb)), s_, vD ((own_D rs)), s_, vD ((own_D (own_rn (rs - ra)))), s_] [(.double (own_D (own_rn ((own_rn (ra - (own_rn (rs - (own_rn (rs - ra)))))) + (own_rn (rb - (own_rn (rs - ra))))))))] _
    jvm_step X0.here [X0.here.top, hx, (hb hby d5_18), X0.method', Bd.returns, narrow]
    first | (intro acts; rw [hr _ acts rfl rfl rfl]) | rw [hr _ _ rfl rfl rfl]
    exact Steps.refl _
  · show Qown_re Z ra rb rs h0 n0 _ s₁.heap _
    rw [e0]
    exact ⟨(by rw [own_two ha hb_ hs hbd]), N0, rfl⟩
def own_dv (i : Int) : Value := .double (own_D i)
def own_pt (vs : List Value) (ps : List Int) : Prop := vs.length = 4 ∧ vs.take ps.length = ps.map own_dv
theorem own_ef_own_add3 (m : MethodId) (a_o : Addr) (ud0 : UInt64) : entryFrame m #[(.ref a_o), (.double ud0)] 13 = mkF m 0 #[.val (.ref a_o), .val (.double ud0), .second, .unset, .unset, .unset, .unset, .unset, .unset, .unset, .unset, .unset, .unset] [] := by first | (simp [entryFrame, mkF, argsToLocals, Value.category]; done) | rfl
theorem own_pd0 : parseMethodDescriptor "(DDD)D" = some ⟨[.double, .double, .double], some .double⟩ := by decide +kernel
theorem d3_0 : decode prog_12_method_2_code 0 = .ok (.dload_n 1, 1) := by decide +kernel
theorem d3_1 : decode prog_12_method_2_code 1 = .ok (.dstore_n 3, 1) := by decide +kernel
theorem d3_2 : decode prog_12_method_2_code 2 = .ok (.iconst 0, 1) := by decide +kernel
theorem d3_3 : decode prog_12_method_2_code 3 = .ok (.istore 5, 2) := by decide +kernel
theorem d3_5 : decode prog_12_method_2_code 5 = .ok (.iconst 0, 1) := by decide +kernel
theorem d3_6 : decode prog_12_method_2_code 6 = .ok (.istore 6, 2) := by decide +kernel
theorem d3_8 : decode prog_12_method_2_code 8 = .ok (.iload 6, 2) := by decide +kernel
theorem d3_10 : decode prog_12_method_2_code 10 = .ok (.aload_n 0, 1) := by decide +kernel
theorem d3_11 : decode prog_12_method_2_code 11 = .ok (.getfield 13, 3) := by decide +kernel
theorem d3_14 : decode prog_12_method_2_code 14 = .ok (.if_icmp .ge 56, 3) := by decide +kernel
theorem d3_17 : decode prog_12_method_2_code 17 = .ok (.aload_n 0, 1) := by decide +kernel
theorem d3_18 : decode prog_12_method_2_code 18 = .ok (.getfield 7, 3) := by decide +kernel
theorem d3_21 : decode prog_12_method_2_code 21 = .ok (.iload 6, 2) := by decide +kernel
theorem d3_23 : decode prog_12_method_2_code 23 = .ok (.daload, 1) := by decide +kernel
theorem d3_24 : decode prog_12_method_2_code 24 = .ok (.dstore 7, 2) := by decide +kernel
theorem d3_26 : decode prog_12_method_2_code 26 = .ok (.dload_n 3, 1) := by decide +kernel
theorem d3_27 : decode prog_12_method_2_code 27 = .ok (.dload 7, 2) := by decide +kernel
theorem d3_29 : decode prog_12_method_2_code 29 = .ok (.dadd, 1) := by decide +kernel
theorem d3_30 : decode prog_12_method_2_code 30 = .ok (.dstore 9, 2) := by decide +kernel
theorem d3_32 : decode prog_12_method_2_code 32 = .ok (.dload_n 3, 1) := by decide +kernel
theorem d3_33 : decode prog_12_method_2_code 33 = .ok (.dload 7, 2) := by decide +kernel
theorem d3_35 : decode prog_12_method_2_code 35 = .ok (.dload 9, 2) := by decide +kernel
theorem d3_37 : decode prog_12_method_2_code 37 = .ok (.invokestatic 17, 3) := by decide +kernel
theorem d3_40 : decode prog_12_method_2_code 40 = .ok (.dstore 11, 2) := by decide +kernel
theorem d3_42 : decode prog_12_method_2_code 42 = .ok (.dload 11, 2) := by decide +kernel
theorem d3_44 : decode prog_12_method_2_code 44 = .ok (.dconst 0, 1) := by decide +kernel
theorem d3_45 : decode prog_12_method_2_code 45 = .ok (.dcmp .l, 1) := by decide +kernel
theorem d3_46 : decode prog_12_method_2_code 46 = .ok (.ifCond .eq 15, 3) := by decide +kernel
theorem d3_49 : decode prog_12_method_2_code 49 = .ok (.aload_n 0, 1) := by decide +kernel
theorem d3_50 : decode prog_12_method_2_code 50 = .ok (.getfield 7, 3) := by decide +kernel
theorem d3_53 : decode prog_12_method_2_code 53 = .ok (.iload 5, 2) := by decide +kernel
theorem d3_55 : decode prog_12_method_2_code 55 = .ok (.iinc 5 1, 3) := by decide +kernel
theorem d3_58 : decode prog_12_method_2_code 58 = .ok (.dload 11, 2) := by decide +kernel
theorem d3_60 : decode prog_12_method_2_code 60 = .ok (.dastore, 1) := by decide +kernel
theorem d3_61 : decode prog_12_method_2_code 61 = .ok (.dload 9, 2) := by decide +kernel
theorem d3_63 : decode prog_12_method_2_code 63 = .ok (.dstore_n 3, 1) := by decide +kernel
theorem d3_64 : decode prog_12_method_2_code 64 = .ok (.iinc 6 1, 3) := by decide +kernel
theorem d3_67 : decode prog_12_method_2_code 67 = .ok (.goto (-59), 3) := by decide +kernel
theorem d3_70 : decode prog_12_method_2_code 70 = .ok (.dload_n 3, 1) := by decide +kernel
theorem d3_71 : decode prog_12_method_2_code 71 = .ok (.dconst 0, 1) := by decide +kernel
theorem d3_72 : decode prog_12_method_2_code 72 = .ok (.dcmp .l, 1) := by decide +kernel
theorem d3_73 : decode prog_12_method_2_code 73 = .ok (.ifCond .eq 39, 3) := by decide +kernel
theorem d3_76 : decode prog_12_method_2_code 76 = .ok (.iload 5, 2) := by decide +kernel
theorem d3_78 : decode prog_12_method_2_code 78 = .ok (.aload_n 0, 1) := by decide +kernel
theorem d3_79 : decode prog_12_method_2_code 79 = .ok (.getfield 7, 3) := by decide +kernel
theorem d3_82 : decode prog_12_method_2_code 82 = .ok (.arraylength, 1) := by decide +kernel
theorem d3_83 : decode prog_12_method_2_code 83 = .ok (.if_icmp .ne 18, 3) := by decide +kernel
theorem d3_101 : decode prog_12_method_2_code 101 = .ok (.aload_n 0, 1) := by decide +kernel
theorem d3_102 : decode prog_12_method_2_code 102 = .ok (.getfield 7, 3) := by decide +kernel
theorem d3_105 : decode prog_12_method_2_code 105 = .ok (.iload 5, 2) := by decide +kernel
theorem d3_107 : decode prog_12_method_2_code 107 = .ok (.iinc 5 1, 3) := by decide +kernel
theorem d3_110 : decode prog_12_method_2_code 110 = .ok (.dload_n 3, 1) := by decide +kernel
theorem d3_111 : decode prog_12_method_2_code 111 = .ok (.dastore, 1) := by decide +kernel
theorem d3_112 : decode prog_12_method_2_code 112 = .ok (.aload_n 0, 1) := by decide +kernel
theorem d3_113 : decode prog_12_method_2_code 113 = .ok (.iload 5, 2) := by decide +kernel
theorem d3_115 : decode prog_12_method_2_code 115 = .ok (.putfield 13, 3) := by decide +kernel
theorem d3_118 : decode prog_12_method_2_code 118 = .ok (.return_, 1) := by decide +kernel
def own_add3_f (x : Int) (p0 : Int) (p1 : Int) (p2 : Int) : List Int := (if (x + p0 - (own_rn (x + p0))) = 0 then (if ((own_rn (x + p0)) + p1 - (own_rn ((own_rn (x + p0)) + p1))) = 0 then (if ((own_rn ((own_rn (x + p0)) + p1)) + p2 - (own_rn ((own_rn ((own_rn (x + p0)) + p1)) + p2))) = 0 then (if (own_rn ((own_rn ((own_rn (x + p0)) + p1)) + p2)) = 0 then [] else [(own_rn ((own_rn ((own_rn (x + p0)) + p1)) + p2))]) else (if (own_rn ((own_rn ((own_rn (x + p0)) + p1)) + p2)) = 0 then [((own_rn ((own_rn (x + p0)) + p1)) + p2 - (own_rn ((own_rn ((own_rn (x + p0)) + p1)) + p2)))] else [((own_rn ((own_rn (x + p0)) + p1)) + p2 - (own_rn ((own_rn ((own_rn (x + p0)) + p1)) + p2))), (own_rn ((own_rn ((own_rn (x + p0)) + p1)) + p2))])) else (if ((own_rn ((own_rn (x + p0)) + p1)) + p2 - (own_rn ((own_rn ((own_rn (x + p0)) + p1)) + p2))) = 0 then (if (own_rn ((own_rn ((own_rn (x + p0)) + p1)) + p2)) = 0 then [((own_rn (x + p0)) + p1 - (own_rn ((own_rn (x + p0)) + p1)))] else [((own_rn (x + p0)) + p1 - (own_rn ((own_rn (x + p0)) + p1))), (own_rn ((own_rn ((own_rn (x + p0)) + p1)) + p2))]) else (if (own_rn ((own_rn ((own_rn (x + p0)) + p1)) + p2)) = 0 then [((own_rn (x + p0)) + p1 - (own_rn ((own_rn (x + p0)) + p1))), ((own_rn ((own_rn (x + p0)) + p1)) + p2 - (own_rn ((own_rn ((own_rn (x + p0)) + p1)) + p2)))] else [((own_rn (x + p0)) + p1 - (own_rn ((own_rn (x + p0)) + p1))), ((own_rn ((own_rn (x + p0)) + p1)) + p2 - (own_rn ((own_rn ((own_rn (x + p0)) + p1)) + p2))), (own_rn ((own_rn ((own_rn (x + p0)) + p1)) + p2))]))) else (if ((own_rn (x + p0)) + p1 - (own_rn ((own_rn (x + p0)) + p1))) = 0 then (if ((own_rn ((own_rn (x + p0)) + p1)) + p2 - (own_rn ((own_rn ((own_rn (x + p0)) + p1)) + p2))) = 0 then (if (own_rn ((own_rn ((own_rn (x + p0)) + p1)) + p2)) = 0 then [(x + p0 - (own_rn (x + p0)))] else [(x + p0 - (own_rn (x + p0))), (own_rn ((own_rn ((own_rn (x + p0)) + p1)) + p2))]) else (if (own_rn ((own_rn ((own_rn (x + p0)) + p1)) + p2)) = 0 then [(x + p0 - (own_rn (x + p0))), ((own_rn ((own_rn (x + p0)) + p1)) + p2 - (own_rn ((own_rn ((own_rn (x + p0)) + p1)) + p2)))] else [(x + p0 - (own_rn (x + p0))), ((own_rn ((own_rn (x + p0)) + p1)) + p2 - (own_rn ((own_rn ((own_rn (x + p0)) + p1)) + p2))), (own_rn ((own_rn ((own_rn (x + p0)) + p1)) + p2))])) else (if ((own_rn ((own_rn (x + p0)) + p1)) + p2 - (own_rn ((own_rn ((own_rn (x + p0)) + p1)) + p2))) = 0 then (if (own_rn ((own_rn ((own_rn (x + p0)) + p1)) + p2)) = 0 then [(x + p0 - (own_rn (x + p0))), ((own_rn (x + p0)) + p1 - (own_rn ((own_rn (x + p0)) + p1)))] else [(x + p0 - (own_rn (x + p0))), ((own_rn (x + p0)) + p1 - (own_rn ((own_rn (x + p0)) + p1))), (own_rn ((own_rn ((own_rn (x + p0)) + p1)) + p2))]) else (if (own_rn ((own_rn ((own_rn (x + p0)) + p1)) + p2)) = 0 then [(x + p0 - (own_rn (x + p0))), ((own_rn (x + p0)) + p1 - (own_rn ((own_rn (x + p0)) + p1))), ((own_rn ((own_rn (x + p0)) + p1)) + p2 - (own_rn ((own_rn ((own_rn (x + p0)) + p1)) + p2)))] else [(x + p0 - (own_rn (x + p0))), ((own_rn (x + p0)) + p1 - (own_rn ((own_rn (x + p0)) + p1))), ((own_rn ((own_rn (x + p0)) + p1)) + p2 - (own_rn ((own_rn ((own_rn (x + p0)) + p1)) + p2))), (own_rn ((own_rn ((own_rn (x + p0)) + p1)) + p2))]))))
def Qown_add3 (Z : State) (x : Int) (a_o : Addr) (pa : Addr) (k_p : ClassId) (p0 : Int) (p1 : Int) (p2 : Int) (w3 : Value) (h0 : Heap) (n0 : Nat) (v : Option Value) (h : Heap) (L : List Loc) : Prop := ∃ vs_r : List Value, v = none ∧ Fr n0 L ∧ Keep h0 h [a_o, pa] ∧ Fld Z h a_o "com/example/merit/merit/ExactSum" "partials" "[D" (.ref pa) ∧ Arv Z h pa k_p .double (4 : Int32) vs_r (.double FP.dconst0) ∧ Fld Z h a_o "com/example/merit/merit/ExactSum" "count" "I" (.int (Int32.ofNat (own_add3_f x p0 p1 p2).length)) ∧ own_pt vs_r (own_add3_f x p0 p1 p2)
set_option maxRecDepth 65536 in
set_option maxHeartbeats 40000000 in
theorem own_add3 (l : Launch) (Z : State) (a0 : Array Value) (hw : ∀ d ∈ tables_1, d.before a0 Z = true) (ws : List Jvm.Cond) (x : Int) (a_o : Addr) (pa : Addr) (k_p : ClassId) (p0 : Int) (p1 : Int) (p2 : Int) (w3 : Value) (h0 : Heap) (n0 : Nat) (Z0 : n0 ≤ h0.size) (hxa : Exa Z h0 a_o "com/example/merit/merit/ExactSum") (hfp : Fld Z h0 a_o "com/example/merit/merit/ExactSum" "partials" "[D" (.ref pa)) (hfc : Fld Z h0 a_o "com/example/merit/merit/ExactSum" "count" "I" (.int 3)) (hA : Arv Z h0 pa k_p .double (4 : Int32) [(.double (own_D p0)), (.double (own_D p1)), (.double (own_D p2)), w3] (.double FP.dconst0)) (hr0 : own_Rep p0) (hr1 : own_Rep p1) (hr2 : own_Rep p2) (hg : n0 ≤ a_o) (hgp : n0 ≤ pa) (hne : a_o ≠ pa) (hrx : own_Rep x) (hbd : x.natAbs + p0.natAbs + p1.natAbs + p2.natAbs ≤ 4611686018427400000) :
    MetFree l (⟨"com/example/merit/merit/ExactSum", "add", "(D)V"⟩ : MethodName) (head1 (Jvm.Cond.code (⟨"com/example/merit/merit/ExactSum", "add", "(D)V"⟩ : MethodName) prog_12_method_2_code 13 none :: ws) ({ frames := 1, cells := 0, slots := 0, locals := 19 } : Room)) (fun a U => a = #[(.ref a_o), (.double (own_D x))] ∧ Z.Warmed39 U.vm ∧ U.heap = h0) (fun _ _ _ _ _ => True) (fun _ U o U' => ∃ v L, o = .returned v ∧ Qown_add3 Z x a_o pa k_p p0 p1 p2 w3 h0 n0 v U'.heap L ∧ FrameEnd U o U' L ({ frames := 1, cells := 0, slots := 0, locals := 19 } : Room).cells ({ frames := 1, cells := 0, slots := 0, locals := 19 } : Room).slots) := by
  refine MetFree.of_bodySF (plainFor_of_name own_pn0) hisR ?_
  intro p e s m args below meth c s₁ Bd hml0 hP hK
  obtain ⟨rfl, hZ, hh⟩ := hP
  have hx := Bd.exec
  have hby := Bd.bytes
  have hml : c.maxLocals = 13 := hml0
  have hown : s.vm.findClass "com/example/merit/merit/ExactSum" = some m.cls := findClass_of_methodNamed Bd.named
  have hnm := (name_of_methodNamed Bd.named Bd.method).1
  have X0 : Stand p l e ({ frames := 1, cells := 0, slots := 0, locals := 19 } : Room) s m #[(.ref a_o), (.double (own_D x))] below meth c s₁ [] 0 0 := Stand.of_body Bd
  have e0 : s₁.heap = h0 := by rw [← hh, Bd.state]; rfl
  have N0 := Fr.nil n0
  have pre0 : ∀ t, Steps p.tables e below (s₁.setTop (mkF m 0 #[vR (a_o), vD ((own_D x)), s_, u_, u_, u_, u_, u_, u_, u_, u_, u_, u_] [])) t → Steps p.tables e below (s₁.setTop (entryFrame m #[(.ref a_o), (.double (own_D x))] 13)) t := fun t k => castTop (own_ef_own_add3 m a_o (own_D x)) k
  obtain ⟨T10, X10, e10, st10⟩ := getF X0 hx hZ hown (host := "") (Or.inl (hw _ (gm 17 rfl))) Via.refl e0 hfc (g := (mkF m 11 #[vR (a_o), vD ((own_D x)), s_, vD ((own_D x)), s_, vI (0), vI (0), u_, u_, u_, u_, u_, u_] [(.ref a_o), (.int 0)])) rfl rfl (hb hby d3_11)
  obtain ⟨T14, X14, e14, st14⟩ := getF X10 hx hZ hown (host := "") (Or.inl (hw _ (gm 10 rfl))) Via.refl e10 hfp (g := (mkF m 18 #[vR (a_o), vD ((own_D x)), s_, vD ((own_D x)), s_, vI (0), vI (0), u_, u_, u_, u_, u_, u_] [(.ref a_o)])) rfl rfl (hb hby d3_18)
  obtain ⟨cl17, Ar17, q17, S17, M17, H17, G17⟩ := id hA
  have hin17 : ¬ ((0 : Int32) < 0 ∨ cl17.slots.size ≤ ((0 : Int32)).toNatClampNeg) := inb_of S17 ⟨by decide, by decide⟩
  have hat17 : cl17.slots[((0 : Int32)).toNatClampNeg]? = some (.double (own_D p0)) := H17.at hin17 rfl
  have hq22 : FP.dadd (own_D x) (own_D p0) = own_D (own_rn (x + p0)) := own_Dadd hrx hr0 (by omega) (by omega) (by omega) (by omega) (by omega) (by omega)
  have hq22E := own_errSm (n := x + p0) (by omega) (by omega)
  obtain ⟨_, _, ⟨T28, L28, k28, n28⟩, -, X28, ⟨Lc28, hQ28, l28, y28, z28⟩, st28⟩ := Jvm.LawKit.callS X14 hx (y := (⟨"com/example/merit/merit/ExactSum", "roundingError", "(DDD)D"⟩ : MethodName)) hown (mvT hZ (hw _ (gm 24 rfl))) (mvT hZ (hw _ (gm 25 rfl))) (mvT hZ (hw _ (gm 2 rfl))) (mvT hZ (hw _ (gm 26 rfl))) (by decide) (backOf (W := 0) (own_re l Z a0 hw [] x p0 (own_rn (x + p0)) h0 n0 Z0 hrx hr0 rfl (by omega)) hZ (hw _ (gm 26 rfl)) (hw _ (gm 2 rfl)) (by decide) (by decide)) (g := (mkF m 37 #[vR (a_o), vD ((own_D x)), s_, vD ((own_D x)), s_, vI (0), vI (0), vD ((own_D p0)), s_, vD ((own_D (own_rn (x + p0)))), s_, u_, u_] [(.double (own_D (own_rn (x + p0)))), (.double (own_D p0)), (.double (own_D x))])) rfl (by rw [hml]; rfl) (argsL := [(.double (own_D x)), (.double (own_D p0)), (.double (own_D (own_rn (x + p0))))]) (rest := []) (lenOf own_pd0 rfl) rfl (by show 2 * 0 + _ ≤ _; exact Nat.le_of_eq rfl) (hb hby d3_37) (fun _ _ => ⟨rfl, e14, (by decide : 0 + 0 ≤ _), (by decide : 0 + 0 ≤ _)⟩)
  dsimp only [Pt.U, Pt.locs, Pt.cells, Pt.slots] at X28 l28 y28 z28 st28 hQ28
  rw [l28, y28, z28] at X28
  obtain ⟨rfl, Nq28, eh28⟩ := hQ28
  have N29 := Fr.app N0 Nq28
  have hRe30 : own_Rep (x + p0 - (own_rn (x + p0))) := own_repSm (by omega) (by omega)
  have pre36 : ∀ t, Steps p.tables e below (T28.setTop (mkF m 46 #[vR (a_o), vD ((own_D x)), s_, vD ((own_D x)), s_, vI (0), vI (0), vD ((own_D p0)), s_, vD ((own_D (own_rn (x + p0)))), s_, vD ((own_D (x + p0 - (own_rn (x + p0))))), s_] [(.int (own_cmp (x + p0 - (own_rn (x + p0))) 0))])) t → Steps p.tables e below (s₁.setTop (entryFrame m #[(.ref a_o), (.double (own_D x))] 13)) t := by
    intro t kt
    refine pre0 _ ?_
    show SS p e below m s₁ 0 #[vR (a_o), vD ((own_D x)), s_, u_, u_, u_, u_, u_, u_, u_, u_, u_, u_] [] _
    refine XS.dloadN X0.here hx rfl (hb hby d3_0) rfl ?_
    refine XS.dstoreN X0.here hx rfl (hb hby d3_1) rfl (l' := #[vR (a_o), vD ((own_D x)), s_, vD ((own_D x)), s_, u_, u_, u_, u_, u_, u_, u_, u_]) rfl ?_
    refine XS.iconst X0.here hx rfl (hb hby d3_2) ?_ --lit 0
    show SS p e below m s₁ 3 #[vR (a_o), vD ((own_D x)), s_, vD ((own_D x)), s_, u_, u_, u_, u_, u_, u_, u_, u_] [(.int 0)] _
    refine XS.istore X0.here hx rfl (hb hby d3_3) rfl (l' := #[vR (a_o), vD ((own_D x)), s_, vD ((own_D x)), s_, vI (0), u_, u_, u_, u_, u_, u_, u_]) rfl ?_
    refine XS.iconst X0.here hx rfl (hb hby d3_5) ?_ --lit 0
    refine XS.istore X0.here hx rfl (hb hby d3_6) rfl (l' := #[vR (a_o), vD ((own_D x)), s_, vD ((own_D x)), s_, vI (0), vI (0), u_, u_, u_, u_, u_, u_]) rfl ?_
    show SS p e below m s₁ 8 #[vR (a_o), vD ((own_D x)), s_, vD ((own_D x)), s_, vI (0), vI (0), u_, u_, u_, u_, u_, u_] [] _
    refine XS.iload X0.here hx rfl (hb hby d3_8) rfl ?_
    refine XS.aloadN X0.here hx rfl (hb hby d3_10) rfl rfl ?_
    show SS p e below m s₁ 11 #[vR (a_o), vD ((own_D x)), s_, vD ((own_D x)), s_, vI (0), vI (0), u_, u_, u_, u_, u_, u_] [(.ref a_o), (.int 0)] _
    refine st10 _ ?_
    show SS p e below m T10 14 #[vR (a_o), vD ((own_D x)), s_, vD ((own_D x)), s_, vI (0), vI (0), u_, u_, u_, u_, u_, u_] [(.int 3), (.int 0)] _
    refine XS.icmpNo X10.here hx rfl (hb hby d3_14) rfl (tlt ((by decide) : (0 : Int32) < (3 : Int32))).2.1 ?_
    refine XS.aloadN X10.here hx rfl (hb hby d3_17) rfl rfl ?_
    show SS p e below m T10 18 #[vR (a_o), vD ((own_D x)), s_, vD ((own_D x)), s_, vI (0), vI (0), u_, u_, u_, u_, u_, u_] [(.ref a_o)] _
    refine st14 _ ?_
    show SS p e below m T14 21 #[vR (a_o), vD ((own_D x)), s_, vD ((own_D x)), s_, vI (0), vI (0), u_, u_, u_, u_, u_, u_] [(.ref pa)] _
    refine XS.iload X14.here hx rfl (hb hby d3_21) rfl ?_
    show SS p e below m T14 23 #[vR (a_o), vD ((own_D x)), s_, vD ((own_D x)), s_, vI (0), vI (0), u_, u_, u_, u_, u_, u_] [(.int 0), (.ref pa)] _
    refine X14.daload hx (j := (0 : Int32)) (v := (.double (own_D p0))) (by rw [e14]; exact Ar17.1) (State.isArrayOf_alike hZ.alike Ar17.2.1) Ar17.2.2 hin17 hat17 (g := (mkF m 23 #[vR (a_o), vD ((own_D x)), s_, vD ((own_D x)), s_, vI (0), vI (0), u_, u_, u_, u_, u_, u_] [(.int 0), (.ref pa)])) rfl rfl (hb hby d3_23) _ ?_
    show SS p e below m T14 24 #[vR (a_o), vD ((own_D x)), s_, vD ((own_D x)), s_, vI (0), vI (0), u_, u_, u_, u_, u_, u_] [(.double (own_D p0))] _
    refine XS.dstore X14.here hx rfl (hb hby d3_24) rfl (l' := #[vR (a_o), vD ((own_D x)), s_, vD ((own_D x)), s_, vI (0), vI (0), vD ((own_D p0)), s_, u_, u_, u_, u_]) rfl ?_
    refine XS.dloadN X14.here hx rfl (hb hby d3_26) rfl ?_
    refine XS.dload X14.here hx rfl (hb hby d3_27) rfl ?_
    show SS p e below m T14 29 #[vR (a_o), vD ((own_D x)), s_, vD ((own_D x)), s_, vI (0), vI (0), vD ((own_D p0)), s_, u_, u_, u_, u_] [(.double (own_D p0)), (.double (own_D x))] _
    refine XS.daddS X14.here hx rfl (hb hby d3_29) rfl (nn_w (a := Int64.ofInt (own_rn (x + p0))) hq22) hq22 ?_
    show SS p e below m T14 30 #[vR (a_o), vD ((own_D x)), s_, vD ((own_D x)), s_, vI (0), vI (0), vD ((own_D p0)), s_, u_, u_, u_, u_] [(.double (own_D (own_rn (x + p0))))] _
    refine XS.dstore X14.here hx rfl (hb hby d3_30) rfl (l' := #[vR (a_o), vD ((own_D x)), s_, vD ((own_D x)), s_, vI (0), vI (0), vD ((own_D p0)), s_, vD ((own_D (own_rn (x + p0)))), s_, u_, u_]) rfl ?_
    refine XS.dloadN X14.here hx rfl (hb hby d3_32) rfl ?_
    refine XS.dload X14.here hx rfl (hb hby d3_33) rfl ?_
    show SS p e below m T14 35 #[vR (a_o), vD ((own_D x)), s_, vD ((own_D x)), s_, vI (0), vI (0), vD ((own_D p0)), s_, vD ((own_D (own_rn (x + p0)))), s_, u_, u_] [(.double (own_D p0)), (.double (own_D x))] _
    refine XS.dload X14.here hx rfl (hb hby d3_35) rfl ?_
    show SS p e below m T14 37 #[vR (a_o), vD ((own_D x)), s_, vD ((own_D x)), s_, vI (0), vI (0), vD ((own_D p0)), s_, vD ((own_D (own_rn (x + p0)))), s_, u_, u_] [(.double (own_D (own_rn (x + p0)))), (.double (own_D p0)), (.double (own_D x))] _
    refine st28 _ ?_
    show SS p e below m T28 40 #[vR (a_o), vD ((own_D x)), s_, vD ((own_D x)), s_, vI (0), vI (0), vD ((own_D p0)), s_, vD ((own_D (own_rn (x + p0)))), s_, u_, u_] [(.double (own_D (x + p0 - (own_rn (x + p0)))))] _
    refine XS.dstore X28.here hx rfl (hb hby d3_40) rfl (l' := #[vR (a_o), vD ((own_D x)), s_, vD ((own_D x)), s_, vI (0), vI (0), vD ((own_D p0)), s_, vD ((own_D (own_rn (x + p0)))), s_, vD ((own_D (x + p0 - (own_rn (x + p0))))), s_]) rfl ?_
    refine XS.dload X28.here hx rfl (hb hby d3_42) rfl ?_
    refine XS.dconst0 X28.here hx rfl (hb hby d3_44) own_c0 ?_
    show SS p e below m T28 45 #[vR (a_o), vD ((own_D x)), s_, vD ((own_D x)), s_, vI (0), vI (0), vD ((own_D p0)), s_, vD ((own_D (own_rn (x + p0)))), s_, vD ((own_D (x + p0 - (own_rn (x + p0))))), s_] [(.double (own_D 0)), (.double (own_D (x + p0 - (own_rn (x + p0)))))] _
    refine XS.dcmpS X28.here hx rfl (hb hby d3_45) rfl (own_DcmpV hRe30 own_rep0 (by omega) (by omega) (by omega) (by omega) _) ?_
    exact kt
  by_cases hc46_37 : (x + p0 - (own_rn (x + p0))) = 0
  · obtain ⟨T45, X45, e45, st45⟩ := getF X28 hx hZ hown (host := "") (Or.inl (hw _ (gm 17 rfl))) Via.refl eh28 hfc (g := (mkF m 11 #[vR (a_o), vD ((own_D x)), s_, vD ((own_D (own_rn (x + p0)))), s_, vI (0), vI (1), vD ((own_D p0)), s_, vD ((own_D (own_rn (x + p0)))), s_, vD ((own_D (x + p0 - (own_rn (x + p0))))), s_] [(.ref a_o), (.int 1)])) rfl rfl (hb hby d3_11)
    obtain ⟨T49, X49, e49, st49⟩ := getF X45 hx hZ hown (host := "") (Or.inl (hw _ (gm 10 rfl))) Via.refl e45 hfp (g := (mkF m 18 #[vR (a_o), vD ((own_D x)), s_, vD ((own_D (own_rn (x + p0)))), s_, vI (0), vI (1), vD ((own_D p0)), s_, vD ((own_D (own_rn (x + p0)))), s_, vD ((own_D (x + p0 - (own_rn (x + p0))))), s_] [(.ref a_o)])) rfl rfl (hb hby d3_18)
    obtain ⟨cl52, Ar52, q52, S52, M52, H52, G52⟩ := id hA
    have hin52 : ¬ ((1 : Int32) < 0 ∨ cl52.slots.size ≤ ((1 : Int32)).toNatClampNeg) := inb_of S52 ⟨by decide, by decide⟩
    have hat52 : cl52.slots[((1 : Int32)).toNatClampNeg]? = some (.double (own_D p1)) := H52.at hin52 rfl
    have hq57 : FP.dadd (own_D (own_rn (x + p0))) (own_D p1) = own_D (own_rn ((own_rn (x + p0)) + p1)) := own_Dadd (own_rrn _) hr1 (by omega) (by omega) (by omega) (by omega) (by omega) (by omega)
    have hq57E := own_errSm (n := (own_rn (x + p0)) + p1) (by omega) (by omega)
    obtain ⟨_, _, ⟨T63, L63, k63, n63⟩, -, X63, ⟨Lc63, hQ63, l63, y63, z63⟩, st63⟩ := Jvm.LawKit.callS X49 hx (y := (⟨"com/example/merit/merit/ExactSum", "roundingError", "(DDD)D"⟩ : MethodName)) hown (mvT hZ (hw _ (gm 24 rfl))) (mvT hZ (hw _ (gm 25 rfl))) (mvT hZ (hw _ (gm 2 rfl))) (mvT hZ (hw _ (gm 26 rfl))) (by decide) (backOf (W := 0) (own_re l Z a0 hw [] (own_rn (x + p0)) p1 (own_rn ((own_rn (x + p0)) + p1)) h0 n0 Z0 (own_rrn _) hr1 rfl (by omega)) hZ (hw _ (gm 26 rfl)) (hw _ (gm 2 rfl)) (by decide) (by decide)) (g := (mkF m 37 #[vR (a_o), vD ((own_D x)), s_, vD ((own_D (own_rn (x + p0)))), s_, vI (0), vI (1), vD ((own_D p1)), s_, vD ((own_D (own_rn ((own_rn (x + p0)) + p1)))), s_, vD ((own_D (x + p0 - (own_rn (x + p0))))), s_] [(.double (own_D (own_rn ((own_rn (x + p0)) + p1)))), (.double (own_D p1)), (.double (own_D (own_rn (x + p0))))])) rfl (by rw [hml]; rfl) (argsL := [(.double (own_D (own_rn (x + p0)))), (.double (own_D p1)), (.double (own_D (own_rn ((own_rn (x + p0)) + p1))))]) (rest := []) (lenOf own_pd0 rfl) rfl (by show 2 * 0 + _ ≤ _; exact Nat.le_of_eq rfl) (hb hby d3_37) (fun _ _ => ⟨rfl, e49, (by decide : 0 + 0 ≤ _), (by decide : 0 + 0 ≤ _)⟩)
    dsimp only [Pt.U, Pt.locs, Pt.cells, Pt.slots] at X63 l63 y63 z63 st63 hQ63
    rw [l63, y63, z63] at X63
    obtain ⟨rfl, Nq63, eh63⟩ := hQ63
    have N64 := Fr.app N29 Nq63
    have hRe65 : own_Rep ((own_rn (x + p0)) + p1 - (own_rn ((own_rn (x + p0)) + p1))) := own_repSm (by omega) (by omega)
    have pre71 : ∀ t, Steps p.tables e below (T63.setTop (mkF m 46 #[vR (a_o), vD ((own_D x)), s_, vD ((own_D (own_rn (x + p0)))), s_, vI (0), vI (1), vD ((own_D p1)), s_, vD ((own_D (own_rn ((own_rn (x + p0)) + p1)))), s_, vD ((own_D ((own_rn (x + p0)) + p1 - (own_rn ((own_rn (x + p0)) + p1))))), s_] [(.int (own_cmp ((own_rn (x + p0)) + p1 - (own_rn ((own_rn (x + p0)) + p1))) 0))])) t → Steps p.tables e below (s₁.setTop (entryFrame m #[(.ref a_o), (.double (own_D x))] 13)) t := by
      intro t kt
      refine pre36 _ ?_
      show SS p e below m T28 46 #[vR (a_o), vD ((own_D x)), s_, vD ((own_D x)), s_, vI (0), vI (0), vD ((own_D p0)), s_, vD ((own_D (own_rn (x + p0)))), s_, vD ((own_D (x + p0 - (own_rn (x + p0))))), s_] [(.int (own_cmp (x + p0 - (own_rn (x + p0))) 0))] _
      refine XS.ifYes X28.here hx rfl (pc0 := 46) (pc' := 61) rfl (hb hby d3_46) rfl ((if0 _ _).trans (teq (own_cmEq.mpr hc46_37)).1) (by decide) (by decide) ?_
      refine XS.dload X28.here hx rfl (hb hby d3_61) rfl ?_
      refine XS.dstoreN X28.here hx rfl (hb hby d3_63) rfl (l' := #[vR (a_o), vD ((own_D x)), s_, vD ((own_D (own_rn (x + p0)))), s_, vI (0), vI (0), vD ((own_D p0)), s_, vD ((own_D (own_rn (x + p0)))), s_, vD ((own_D (x + p0 - (own_rn (x + p0))))), s_]) rfl ?_
      show SS p e below m T28 64 #[vR (a_o), vD ((own_D x)), s_, vD ((own_D (own_rn (x + p0)))), s_, vI (0), vI (0), vD ((own_D p0)), s_, vD ((own_D (own_rn (x + p0)))), s_, vD ((own_D (x + p0 - (own_rn (x + p0))))), s_] [] _
      refine XS.iinc X28.here hx rfl (hb hby d3_64) rfl (l' := #[vR (a_o), vD ((own_D x)), s_, vD ((own_D (own_rn (x + p0)))), s_, vI (0), vI (1), vD ((own_D p0)), s_, vD ((own_D (own_rn (x + p0)))), s_, vD ((own_D (x + p0 - (own_rn (x + p0))))), s_]) rfl ?_
      refine XS.goto X28.here hx rfl (pc0 := 67) (pc' := 8) rfl (hb hby d3_67) (by decide) (by decide) ?_
      refine XS.iload X28.here hx rfl (hb hby d3_8) rfl ?_
      show SS p e below m T28 10 #[vR (a_o), vD ((own_D x)), s_, vD ((own_D (own_rn (x + p0)))), s_, vI (0), vI (1), vD ((own_D p0)), s_, vD ((own_D (own_rn (x + p0)))), s_, vD ((own_D (x + p0 - (own_rn (x + p0))))), s_] [(.int 1)] _
      refine XS.aloadN X28.here hx rfl (hb hby d3_10) rfl rfl ?_
      show SS p e below m T28 11 #[vR (a_o), vD ((own_D x)), s_, vD ((own_D (own_rn (x + p0)))), s_, vI (0), vI (1), vD ((own_D p0)), s_, vD ((own_D (own_rn (x + p0)))), s_, vD ((own_D (x + p0 - (own_rn (x + p0))))), s_] [(.ref a_o), (.int 1)] _
      refine st45 _ ?_
      show SS p e below m T45 14 #[vR (a_o), vD ((own_D x)), s_, vD ((own_D (own_rn (x + p0)))), s_, vI (0), vI (1), vD ((own_D p0)), s_, vD ((own_D (own_rn (x + p0)))), s_, vD ((own_D (x + p0 - (own_rn (x + p0))))), s_] [(.int 3), (.int 1)] _
      refine XS.icmpNo X45.here hx rfl (hb hby d3_14) rfl (tlt ((by decide) : (1 : Int32) < (3 : Int32))).2.1 ?_
      refine XS.aloadN X45.here hx rfl (hb hby d3_17) rfl rfl ?_
      show SS p e below m T45 18 #[vR (a_o), vD ((own_D x)), s_, vD ((own_D (own_rn (x + p0)))), s_, vI (0), vI (1), vD ((own_D p0)), s_, vD ((own_D (own_rn (x + p0)))), s_, vD ((own_D (x + p0 - (own_rn (x + p0))))), s_] [(.ref a_o)] _
      refine st49 _ ?_
      show SS p e below m T49 21 #[vR (a_o), vD ((own_D x)), s_, vD ((own_D (own_rn (x + p0)))), s_, vI (0), vI (1), vD ((own_D p0)), s_, vD ((own_D (own_rn (x + p0)))), s_, vD ((own_D (x + p0 - (own_rn (x + p0))))), s_] [(.ref pa)] _
      refine XS.iload X49.here hx rfl (hb hby d3_21) rfl ?_
      show SS p e below m T49 23 #[vR (a_o), vD ((own_D x)), s_, vD ((own_D (own_rn (x + p0)))), s_, vI (0), vI (1), vD ((own_D p0)), s_, vD ((own_D (own_rn (x + p0)))), s_, vD ((own_D (x + p0 - (own_rn (x + p0))))), s_] [(.int 1), (.ref pa)] _
      refine X49.daload hx (j := (1 : Int32)) (v := (.double (own_D p1))) (by rw [e49]; exact Ar52.1) (State.isArrayOf_alike hZ.alike Ar52.2.1) Ar52.2.2 hin52 hat52 (g := (mkF m 23 #[vR (a_o), vD ((own_D x)), s_, vD ((own_D (own_rn (x + p0)))), s_, vI (0), vI (1), vD ((own_D p0)), s_, vD ((own_D (own_rn (x + p0)))), s_, vD ((own_D (x + p0 - (own_rn (x + p0))))), s_] [(.int 1), (.ref pa)])) rfl rfl (hb hby d3_23) _ ?_
      show SS p e below m T49 24 #[vR (a_o), vD ((own_D x)), s_, vD ((own_D (own_rn (x + p0)))), s_, vI (0), vI (1), vD ((own_D p0)), s_, vD ((own_D (own_rn (x + p0)))), s_, vD ((own_D (x + p0 - (own_rn (x + p0))))), s_] [(.double (own_D p1))] _
      refine XS.dstore X49.here hx rfl (hb hby d3_24) rfl (l' := #[vR (a_o), vD ((own_D x)), s_, vD ((own_D (own_rn (x + p0)))), s_, vI (0), vI (1), vD ((own_D p1)), s_, vD ((own_D (own_rn (x + p0)))), s_, vD ((own_D (x + p0 - (own_rn (x + p0))))), s_]) rfl ?_
      refine XS.dloadN X49.here hx rfl (hb hby d3_26) rfl ?_
      refine XS.dload X49.here hx rfl (hb hby d3_27) rfl ?_
      show SS p e below m T49 29 #[vR (a_o), vD ((own_D x)), s_, vD ((own_D (own_rn (x + p0)))), s_, vI (0), vI (1), vD ((own_D p1)), s_, vD ((own_D (own_rn (x + p0)))), s_, vD ((own_D (x + p0 - (own_rn (x + p0))))), s_] [(.double (own_D p1)), (.double (own_D (own_rn (x + p0))))] _
      refine XS.daddS X49.here hx rfl (hb hby d3_29) rfl (nn_w (a := Int64.ofInt (own_rn ((own_rn (x + p0)) + p1))) hq57) hq57 ?_
      show SS p e below m T49 30 #[vR (a_o), vD ((own_D x)), s_, vD ((own_D (own_rn (x + p0)))), s_, vI (0), vI (1), vD ((own_D p1)), s_, vD ((own_D (own_rn (x + p0)))), s_, vD ((own_D (x + p0 - (own_rn (x + p0))))), s_] [(.double (own_D (own_rn ((own_rn (x + p0)) + p1))))] _
      refine XS.dstore X49.here hx rfl (hb hby d3_30) rfl (l' := #[vR (a_o), vD ((own_D x)), s_, vD ((own_D (own_rn (x + p0)))), s_, vI (0), vI (1), vD ((own_D p1)), s_, vD ((own_D (own_rn ((own_rn (x + p0)) + p1)))), s_, vD ((own_D (x + p0 - (own_rn (x + p0))))), s_]) rfl ?_
      refine XS.dloadN X49.here hx rfl (hb hby d3_32) rfl ?_
      refine XS.dload X49.here hx rfl (hb hby d3_33) rfl ?_
      show SS p e below m T49 35 #[vR (a_o), vD ((own_D x)), s_, vD ((own_D (own_rn (x + p0)))), s_, vI (0), vI (1), vD ((own_D p1)), s_, vD ((own_D (own_rn ((own_rn (x + p0)) + p1)))), s_, vD ((own_D (x + p0 - (own_rn (x + p0))))), s_] [(.double (own_D p1)), (.double (own_D (own_rn (x + p0))))] _
      refine XS.dload X49.here hx rfl (hb hby d3_35) rfl ?_
      show SS p e below m T49 37 #[vR (a_o), vD ((own_D x)), s_, vD ((own_D (own_rn (x + p0)))), s_, vI (0), vI (1), vD ((own_D p1)), s_, vD ((own_D (own_rn ((own_rn (x + p0)) + p1)))), s_, vD ((own_D (x + p0 - (own_rn (x + p0))))), s_] [(.double (own_D (own_rn ((own_rn (x + p0)) + p1)))), (.double (own_D p1)), (.double (own_D (own_rn (x + p0))))] _
      refine st63 _ ?_
      show SS p e below m T63 40 #[vR (a_o), vD ((own_D x)), s_, vD ((own_D (own_rn (x + p0)))), s_, vI (0), vI (1), vD ((own_D p1)), s_, vD ((own_D (own_rn ((own_rn (x + p0)) + p1)))), s_, vD ((own_D (x + p0 - (own_rn (x + p0))))), s_] [(.double (own_D ((own_rn (x + p0)) + p1 - (own_rn ((own_rn (x + p0)) + p1)))))] _
      refine XS.dstore X63.here hx rfl (hb hby d3_40) rfl (l' := #[vR (a_o), vD ((own_D x)), s_, vD ((own_D (own_rn (x + p0)))), s_, vI (0), vI (1), vD ((own_D p1)), s_, vD ((own_D (own_rn ((own_rn (x + p0)) + p1)))), s_, vD ((own_D ((own_rn (x + p0)) + p1 - (own_rn ((own_rn (x + p0)) + p1))))), s_]) rfl ?_
      refine XS.dload X63.here hx rfl (hb hby d3_42) rfl ?_
      refine XS.dconst0 X63.here hx rfl (hb hby d3_44) own_c0 ?_
      show SS p e below m T63 45 #[vR (a_o), vD ((own_D x)), s_, vD ((own_D (own_rn (x + p0)))), s_, vI (0), vI (1), vD ((own_D p1)), s_, vD ((own_D (own_rn ((own_rn (x + p0)) + p1)))), s_, vD ((own_D ((own_rn (x + p0)) + p1 - (own_rn ((own_rn (x + p0)) + p1))))), s_] [(.double (own_D 0)), (.double (own_D ((own_rn (x + p0)) + p1 - (own_rn ((own_rn (x + p0)) + p1)))))] _
      refine XS.dcmpS X63.here hx rfl (hb hby d3_45) rfl (own_DcmpV hRe65 own_rep0 (by omega) (by omega) (by omega) (by omega) _) ?_
      exact kt
    by_cases hc46_72 : ((own_rn (x + p0)) + p1 - (own_rn ((own_rn (x + p0)) + p1))) = 0
    · obtain ⟨T80, X80, e80, st80⟩ := getF X63 hx hZ hown (host := "") (Or.inl (hw _ (gm 17 rfl))) Via.refl eh63 hfc (g := (mkF m 11 #[vR (a_o), vD ((own_D x)), s_, vD ((own_D (own_rn ((own_rn (x + p0)) + p1)))), s_, vI (0), vI (2), vD ((own_D p1)), s_, vD ((own_D (own_rn ((own_rn (x + p0)) + p1)))), s_, vD ((own_D ((own_rn (x + p0)) + p1 - (own_rn ((own_rn (x + p0)) + p1))))), s_] [(.ref a_o), (.int 2)])) rfl rfl (hb hby d3_11)
      obtain ⟨T84, X84, e84, st84⟩ := getF X80 hx hZ hown (host := "") (Or.inl (hw _ (gm 10 rfl))) Via.refl e80 hfp (g := (mkF m 18 #[vR (a_o), vD ((own_D x)), s_, vD ((own_D (own_rn ((own_rn (x + p0)) + p1)))), s_, vI (0), vI (2), vD ((own_D p1)), s_, vD ((own_D (own_rn ((own_rn (x + p0)) + p1)))), s_, vD ((own_D ((own_rn (x + p0)) + p1 - (own_rn ((own_rn (x + p0)) + p1))))), s_] [(.ref a_o)])) rfl rfl (hb hby d3_18)
      obtain ⟨cl87, Ar87, q87, S87, M87, H87, G87⟩ := id hA
      have hin87 : ¬ ((2 : Int32) < 0 ∨ cl87.slots.size ≤ ((2 : Int32)).toNatClampNeg) := inb_of S87 ⟨by decide, by decide⟩
      have hat87 : cl87.slots[((2 : Int32)).toNatClampNeg]? = some (.double (own_D p2)) := H87.at hin87 rfl
      have hq92 : FP.dadd (own_D (own_rn ((own_rn (x + p0)) + p1))) (own_D p2) = own_D (own_rn ((own_rn ((own_rn (x + p0)) + p1)) + p2)) := own_Dadd (own_rrn _) hr2 (by omega) (by omega) (by omega) (by omega) (by omega) (by omega)
      have hq92E := own_errSm (n := (own_rn ((own_rn (x + p0)) + p1)) + p2) (by omega) (by omega)
      obtain ⟨_, _, ⟨T98, L98, k98, n98⟩, -, X98, ⟨Lc98, hQ98, l98, y98, z98⟩, st98⟩ := Jvm.LawKit.callS X84 hx (y := (⟨"com/example/merit/merit/ExactSum", "roundingError", "(DDD)D"⟩ : MethodName)) hown (mvT hZ (hw _ (gm 24 rfl))) (mvT hZ (hw _ (gm 25 rfl))) (mvT hZ (hw _ (gm 2 rfl))) (mvT hZ (hw _ (gm 26 rfl))) (by decide) (backOf (W := 0) (own_re l Z a0 hw [] (own_rn ((own_rn (x + p0)) + p1)) p2 (own_rn ((own_rn ((own_rn (x + p0)) + p1)) + p2)) h0 n0 Z0 (own_rrn _) hr2 rfl (by omega)) hZ (hw _ (gm 26 rfl)) (hw _ (gm 2 rfl)) (by decide) (by decide)) (g := (mkF m 37 #[vR (a_o), vD ((own_D x)), s_, vD ((own_D (own_rn ((own_rn (x + p0)) + p1)))), s_, vI (0), vI (2), vD ((own_D p2)), s_, vD ((own_D (own_rn ((own_rn ((own_rn (x + p0)) + p1)) + p2)))), s_, vD ((own_D ((own_rn (x + p0)) + p1 - (own_rn ((own_rn (x + p0)) + p1))))), s_] [(.double (own_D (own_rn ((own_rn ((own_rn (x + p0)) + p1)) + p2)))), (.double (own_D p2)), (.double (own_D (own_rn ((own_rn (x + p0)) + p1))))])) rfl (by rw [hml]; rfl) (argsL := [(.double (own_D (own_rn ((own_rn (x + p0)) + p1)))), (.double (own_D p2)), (.double (own_D (own_rn ((own_rn ((own_rn (x + p0)) + p1)) + p2))))]) (rest := []) (lenOf own_pd0 rfl) rfl (by show 2 * 0 + _ ≤ _; exact Nat.le_of_eq rfl) (hb hby d3_37) (fun _ _ => ⟨rfl, e84, (by decide : 0 + 0 ≤ _), (by decide : 0 + 0 ≤ _)⟩)
      dsimp only [Pt.U, Pt.locs, Pt.cells, Pt.slots] at X98 l98 y98 z98 st98 hQ98
      rw [l98, y98, z98] at X98
      obtain ⟨rfl, Nq98, eh98⟩ := hQ98
      have N99 := Fr.app N64 Nq98
      have hRe100 : own_Rep ((own_rn ((own_rn (x + p0)) + p1)) + p2 - (own_rn ((own_rn ((own_rn (x + p0)) + p1)) + p2))) := own_repSm (by omega) (by omega)
      have pre106 : ∀ t, Steps p.tables e below (T98.setTop (mkF m 46 #[vR (a_o), vD ((own_D x)), s_, vD ((own_D (own_rn ((own_rn (x + p0)) + p1)))), s_, vI (0), vI (2), vD ((own_D p2)), s_, vD ((own_D (own_rn ((own_rn ((own_rn (x + p0)) + p1)) + p2)))), s_, vD ((own_D ((own_rn ((own_rn (x + p0)) + p1)) + p2 - (own_rn ((own_rn ((own_rn (x + p0)) + p1)) + p2))))), s_] [(.int (own_cmp ((own_rn ((own_rn (x + p0)) + p1)) + p2 - (own_rn ((own_rn ((own_rn (x + p0)) + p1)) + p2))) 0))])) t → Steps p.tables e below (s₁.setTop (entryFrame m #[(.ref a_o), (.double (own_D x))] 13)) t := by
        intro t kt
        refine pre71 _ ?_
        show SS p e below m T63 46 #[vR (a_o), vD ((own_D x)), s_, vD ((own_D (own_rn (x + p0)))), s_, vI (0), vI (1), vD ((own_D p1)), s_, vD ((own_D (own_rn ((own_rn (x + p0)) + p1)))), s_, vD ((own_D ((own_rn (x + p0)) + p1 - (own_rn ((own_rn (x + p0)) + p1))))), s_] [(.int (own_cmp ((own_rn (x + p0)) + p1 - (own_rn ((own_rn (x + p0)) + p1))) 0))] _
        refine XS.ifYes X63.here hx rfl (pc0 := 46) (pc' := 61) rfl (hb hby d3_46) rfl ((if0 _ _).trans (teq (own_cmEq.mpr hc46_72)).1) (by decide) (by decide) ?_
        refine XS.dload X63.here hx rfl (hb hby d3_61) rfl ?_
        refine XS.dstoreN X63.here hx rfl (hb hby d3_63) rfl (l' := #[vR (a_o), vD ((own_D x)), s_, vD ((own_D (own_rn ((own_rn (x + p0)) + p1)))), s_, vI (0), vI (1), vD ((own_D p1)), s_, vD ((own_D (own_rn ((own_rn (x + p0)) + p1)))), s_, vD ((own_D ((own_rn (x + p0)) + p1 - (own_rn ((own_rn (x + p0)) + p1))))), s_]) rfl ?_
        show SS p e below m T63 64 #[vR (a_o), vD ((own_D x)), s_, vD ((own_D (own_rn ((own_rn (x + p0)) + p1)))), s_, vI (0), vI (1), vD ((own_D p1)), s_, vD ((own_D (own_rn ((own_rn (x + p0)) + p1)))), s_, vD ((own_D ((own_rn (x + p0)) + p1 - (own_rn ((own_rn (x + p0)) + p1))))), s_] [] _
        refine XS.iinc X63.here hx rfl (hb hby d3_64) rfl (l' := #[vR (a_o), vD ((own_D x)), s_, vD ((own_D (own_rn ((own_rn (x + p0)) + p1)))), s_, vI (0), vI (2), vD ((own_D p1)), s_, vD ((own_D (own_rn ((own_rn (x + p0)) + p1)))), s_, vD ((own_D ((own_rn (x + p0)) + p1 - (own_rn ((own_rn (x + p0)) + p1))))), s_]) rfl ?_
        refine XS.goto X63.here hx rfl (pc0 := 67) (pc' := 8) rfl (hb hby d3_67) (by decide) (by decide) ?_
        refine XS.iload X63.here hx rfl (hb hby d3_8) rfl ?_
        show SS p e below m T63 10 #[vR (a_o), vD ((own_D x)), s_, vD ((own_D (own_rn ((own_rn (x + p0)) + p1)))), s_, vI (0), vI (2), vD ((own_D p1)), s_, vD ((own_D (own_rn ((own_rn (x + p0)) + p1)))), s_, vD ((own_D ((own_rn (x + p0)) + p1 - (own_rn ((own_rn (x + p0)) + p1))))), s_] [(.int 2)] _
        refine XS.aloadN X63.here hx rfl (hb hby d3_10) rfl rfl ?_
        show SS p e below m T63 11 #[vR (a_o), vD ((own_D x)), s_, vD ((own_D (own_rn ((own_rn (x + p0)) + p1)))), s_, vI (0), vI (2), vD ((own_D p1)), s_, vD ((own_D (own_rn ((own_rn (x + p0)) + p1)))), s_, vD ((own_D ((own_rn (x + p0)) + p1 - (own_rn ((own_rn (x + p0)) + p1))))), s_] [(.ref a_o), (.int 2)] _
        refine st80 _ ?_
        show SS p e below m T80 14 #[vR (a_o), vD ((own_D x)), s_, vD ((own_D (own_rn ((own_rn (x + p0)) + p1)))), s_, vI (0), vI (2), vD ((own_D p1)), s_, vD ((own_D (own_rn ((own_rn (x + p0)) + p1)))), s_, vD ((own_D ((own_rn (x + p0)) + p1 - (own_rn ((own_rn (x + p0)) + p1))))), s_] [(.int 3), (.int 2)] _
        refine XS.icmpNo X80.here hx rfl (hb hby d3_14) rfl (tlt ((by decide) : (2 : Int32) < (3 : Int32))).2.1 ?_
        refine XS.aloadN X80.here hx rfl (hb hby d3_17) rfl rfl ?_
        show SS p e below m T80 18 #[vR (a_o), vD ((own_D x)), s_, vD ((own_D (own_rn ((own_rn (x + p0)) + p1)))), s_, vI (0), vI (2), vD ((own_D p1)), s_, vD ((own_D (own_rn ((own_rn (x + p0)) + p1)))), s_, vD ((own_D ((own_rn (x + p0)) + p1 - (own_rn ((own_rn (x + p0)) + p1))))), s_] [(.ref a_o)] _
        refine st84 _ ?_
        show SS p e below m T84 21 #[vR (a_o), vD ((own_D x)), s_, vD ((own_D (own_rn ((own_rn (x + p0)) + p1)))), s_, vI (0), vI (2), vD ((own_D p1)), s_, vD ((own_D (own_rn ((own_rn (x + p0)) + p1)))), s_, vD ((own_D ((own_rn (x + p0)) + p1 - (own_rn ((own_rn (x + p0)) + p1))))), s_] [(.ref pa)] _
        refine XS.iload X84.here hx rfl (hb hby d3_21) rfl ?_
        show SS p e below m T84 23 #[vR (a_o), vD ((own_D x)), s_, vD ((own_D (own_rn ((own_rn (x + p0)) + p1)))), s_, vI (0), vI (2), vD ((own_D p1)), s_, vD ((own_D (own_rn ((own_rn (x + p0)) + p1)))), s_, vD ((own_D ((own_rn (x + p0)) + p1 - (own_rn ((own_rn (x + p0)) + p1))))), s_] [(.int 2), (.ref pa)] _
        refine X84.daload hx (j := (2 : Int32)) (v := (.double (own_D p2))) (by rw [e84]; exact Ar87.1) (State.isArrayOf_alike hZ.alike Ar87.2.1) Ar87.2.2 hin87 hat87 (g := (mkF m 23 #[vR (a_o), vD ((own_D x)), s_, vD ((own_D (own_rn ((own_rn (x + p0)) + p1)))), s_, vI (0), vI (2), vD ((own_D p1)), s_, vD ((own_D (own_rn ((own_rn (x + p0)) + p1)))), s_, vD ((own_D ((own_rn (x + p0)) + p1 - (own_rn ((own_rn (x + p0)) + p1))))), s_] [(.int 2), (.ref pa)])) rfl rfl (hb hby d3_23) _ ?_
        show SS p e below m T84 24 #[vR (a_o), vD ((own_D x)), s_, vD ((own_D (own_rn ((own_rn (x + p0)) + p1)))), s_, vI (0), vI (2), vD ((own_D p1)), s_, vD ((own_D (own_rn ((own_rn (x + p0)) + p1)))), s_, vD ((own_D ((own_rn (x + p0)) + p1 - (own_rn ((own_rn (x + p0)) + p1))))), s_] [(.double (own_D p2))] _
        refine XS.dstore X84.here hx rfl (hb hby d3_24) rfl (l' := #[vR (a_o), vD ((own_D x)), s_, vD ((own_D (own_rn ((own_rn (x + p0)) + p1)))), s_, vI (0), vI (2), vD ((own_D p2)), s_, vD ((own_D (own_rn ((own_rn (x + p0)) + p1)))), s_, vD ((own_D ((own_rn (x + p0)) + p1 - (own_rn ((own_rn (x + p0)) + p1))))), s_]) rfl ?_
        refine XS.dloadN X84.here hx rfl (hb hby d3_26) rfl ?_
        refine XS.dload X84.here hx rfl (hb hby d3_27) rfl ?_
        show SS p e below m T84 29 #[vR (a_o), vD ((own_D x)), s_, vD ((own_D (own_rn ((own_rn (x + p0)) + p1)))), s_, vI (0), vI (2), vD ((own_D p2)), s_, vD ((own_D (own_rn ((own_rn (x + p0)) + p1)))), s_, vD ((own_D ((own_rn (x + p0)) + p1 - (own_rn ((own_rn (x + p0)) + p1))))), s_] [(.double (own_D p2)), (.double (own_D (own_rn ((own_rn (x + p0)) + p1))))] _
        refine XS.daddS X84.here hx rfl (hb hby d3_29) rfl (nn_w (a := Int64.ofInt (own_rn ((own_rn ((own_rn (x + p0)) + p1)) + p2))) hq92) hq92 ?_
        show SS p e below m T84 30 #[vR (a_o), vD ((own_D x)), s_, vD ((own_D (own_rn ((own_rn (x + p0)) + p1)))), s_, vI (0), vI (2), vD ((own_D p2)), s_, vD ((own_D (own_rn ((own_rn (x + p0)) + p1)))), s_, vD ((own_D ((own_rn (x + p0)) + p1 - (own_rn ((own_rn (x + p0)) + p1))))), s_] [(.double (own_D (own_rn ((own_rn ((own_rn (x + p0)) + p1)) + p2))))] _
        refine XS.dstore X84.here hx rfl (hb hby d3_30) rfl (l' := #[vR (a_o), vD ((own_D x)), s_, vD ((own_D (own_rn ((own_rn (x + p0)) + p1)))), s_, vI (0), vI (2), vD ((own_D p2)), s_, vD ((own_D (own_rn ((own_rn ((own_rn (x + p0)) + p1)) + p2)))), s_, vD ((own_D ((own_rn (x + p0)) + p1 - (own_rn ((own_rn (x + p0)) + p1))))), s_]) rfl ?_
        refine XS.dloadN X84.here hx rfl (hb hby d3_32) rfl ?_
        refine XS.dload X84.here hx rfl (hb hby d3_33) rfl ?_
        show SS p e below m T84 35 #[vR (a_o), vD ((own_D x)), s_, vD ((own_D (own_rn ((own_rn (x + p0)) + p1)))), s_, vI (0), vI (2), vD ((own_D p2)), s_, vD ((own_D (own_rn ((own_rn ((own_rn (x + p0)) + p1)) + p2)))), s_, vD ((own_D ((own_rn (x + p0)) + p1 - (own_rn ((own_rn (x + p0)) + p1))))), s_] [(.double (own_D p2)), (.double (own_D (own_rn ((own_rn (x + p0)) + p1))))] _
        refine XS.dload X84.here hx rfl (hb hby d3_35) rfl ?_
        show SS p e below m T84 37 #[vR (a_o), vD ((own_D x)), s_, vD ((own_D (own_rn ((own_rn (x + p0)) + p1)))), s_, vI (0), vI (2), vD ((own_D p2)), s_, vD ((own_D (own_rn ((own_rn ((own_rn (x + p0)) + p1)) + p2)))), s_, vD ((own_D ((own_rn (x + p0)) + p1 - (own_rn ((own_rn (x + p0)) + p1))))), s_] [(.double (own_D (own_rn ((own_rn ((own_rn (x + p0)) + p1)) + p2)))), (.double (own_D p2)), (.double (own_D (own_rn ((own_rn (x + p0)) + p1))))] _
        refine st98 _ ?_
        show SS p e below m T98 40 #[vR (a_o), vD ((own_D x)), s_, vD ((own_D (own_rn ((own_rn (x + p0)) + p1)))), s_, vI (0), vI (2), vD ((own_D p2)), s_, vD ((own_D (own_rn ((own_rn ((own_rn (x + p0)) + p1)) + p2)))), s_, vD ((own_D ((own_rn (x + p0)) + p1 - (own_rn ((own_rn (x + p0)) + p1))))), s_] [(.double (own_D ((own_rn ((own_rn (x + p0)) + p1)) + p2 - (own_rn ((own_rn ((own_rn (x + p0)) + p1)) + p2)))))] _
        refine XS.dstore X98.here hx rfl (hb hby d3_40) rfl (l' := #[vR (a_o), vD ((own_D x)), s_, vD ((own_D (own_rn ((own_rn (x + p0)) + p1)))), s_, vI (0), vI (2), vD ((own_D p2)), s_, vD ((own_D (own_rn ((own_rn ((own_rn (x + p0)) + p1)) + p2)))), s_, vD ((own_D ((own_rn ((own_rn (x + p0)) + p1)) + p2 - (own_rn ((own_rn ((own_rn (x + p0)) + p1)) + p2))))), s_]) rfl ?_
        refine XS.dload X98.here hx rfl (hb hby d3_42) rfl ?_
        refine XS.dconst0 X98.here hx rfl (hb hby d3_44) own_c0 ?_
        show SS p e below m T98 45 #[vR (a_o), vD ((own_D x)), s_, vD ((own_D (own_rn ((own_rn (x + p0)) + p1)))), s_, vI (0), vI (2), vD ((own_D p2)), s_, vD ((own_D (own_rn ((own_rn ((own_rn (x + p0)) + p1)) + p2)))), s_, vD ((own_D ((own_rn ((own_rn (x + p0)) + p1)) + p2 - (own_rn ((own_rn ((own_rn (x + p0)) + p1)) + p2))))), s_] [(.double (own_D 0)), (.double (own_D ((own_rn ((own_rn (x + p0)) + p1)) + p2 - (own_rn ((own_rn ((own_rn (x + p0)) + p1)) + p2)))))] _
        refine XS.dcmpS X98.here hx rfl (hb hby d3_45) rfl (own_DcmpV hRe100 own_rep0 (by omega) (by omega) (by omega) (by omega) _) ?_
        exact kt
      by_cases hc46_107 : ((own_rn ((own_rn (x + p0)) + p1)) + p2 - (own_rn ((own_rn ((own_rn (x + p0)) + p1)) + p2))) = 0
      · obtain ⟨T115, X115, e115, st115⟩ := getF X98 hx hZ hown (host := "") (Or.inl (hw _ (gm 17 rfl))) Via.refl eh98 hfc (g := (mkF m 11 #[vR (a_o), vD ((own_D x)), s_, vD ((own_D (own_rn ((own_rn ((own_rn (x + p0)) + p1)) + p2)))), s_, vI (0), vI (3), vD ((own_D p2)), s_, vD ((own_D (own_rn ((own_rn ((own_rn (x + p0)) + p1)) + p2)))), s_, vD ((own_D ((own_rn ((own_rn (x + p0)) + p1)) + p2 - (own_rn ((own_rn ((own_rn (x + p0)) + p1)) + p2))))), s_] [(.ref a_o), (.int 3)])) rfl rfl (hb hby d3_11)
        have pre121 : ∀ t, Steps p.tables e below (T115.setTop (mkF m 73 #[vR (a_o), vD ((own_D x)), s_, vD ((own_D (own_rn ((own_rn ((own_rn (x + p0)) + p1)) + p2)))), s_, vI (0), vI (3), vD ((own_D p2)), s_, vD ((own_D (own_rn ((own_rn ((own_rn (x + p0)) + p1)) + p2)))), s_, vD ((own_D ((own_rn ((own_rn (x + p0)) + p1)) + p2 - (own_rn ((own_rn ((own_rn (x + p0)) + p1)) + p2))))), s_] [(.int (own_cmp (own_rn ((own_rn ((own_rn (x + p0)) + p1)) + p2)) 0))])) t → Steps p.tables e below (s₁.setTop (entryFrame m #[(.ref a_o), (.double (own_D x))] 13)) t := by
          intro t kt
          refine pre106 _ ?_
          show SS p e below m T98 46 #[vR (a_o), vD ((own_D x)), s_, vD ((own_D (own_rn ((own_rn (x + p0)) + p1)))), s_, vI (0), vI (2), vD ((own_D p2)), s_, vD ((own_D (own_rn ((own_rn ((own_rn (x + p0)) + p1)) + p2)))), s_, vD ((own_D ((own_rn ((own_rn (x + p0)) + p1)) + p2 - (own_rn ((own_rn ((own_rn (x + p0)) + p1)) + p2))))), s_] [(.int (own_cmp ((own_rn ((own_rn (x + p0)) + p1)) + p2 - (own_rn ((own_rn ((own_rn (x + p0)) + p1)) + p2))) 0))] _
          refine XS.ifYes X98.here hx rfl (pc0 := 46) (pc' := 61) rfl (hb hby d3_46) rfl ((if0 _ _).trans (teq (own_cmEq.mpr hc46_107)).1) (by decide) (by decide) ?_
          refine XS.dload X98.here hx rfl (hb hby d3_61) rfl ?_
          refine XS.dstoreN X98.here hx rfl (hb hby d3_63) rfl (l' := #[vR (a_o), vD ((own_D x)), s_, vD ((own_D (own_rn ((own_rn ((own_rn (x + p0)) + p1)) + p2)))), s_, vI (0), vI (2), vD ((own_D p2)), s_, vD ((own_D (own_rn ((own_rn ((own_rn (x + p0)) + p1)) + p2)))), s_, vD ((own_D ((own_rn ((own_rn (x + p0)) + p1)) + p2 - (own_rn ((own_rn ((own_rn (x + p0)) + p1)) + p2))))), s_]) rfl ?_
          show SS p e below m T98 64 #[vR (a_o), vD ((own_D x)), s_, vD ((own_D (own_rn ((own_rn ((own_rn (x + p0)) + p1)) + p2)))), s_, vI (0), vI (2), vD ((own_D p2)), s_, vD ((own_D (own_rn ((own_rn ((own_rn (x + p0)) + p1)) + p2)))), s_, vD ((own_D ((own_rn ((own_rn (x + p0)) + p1)) + p2 - (own_rn ((own_rn ((own_rn (x + p0)) + p1)) + p2))))), s_] [] _
          refine XS.iinc X98.here hx rfl (hb hby d3_64) rfl (l' := #[vR (a_o), vD ((own_D x)), s_, vD ((own_D (own_rn ((own_rn ((own_rn (x + p0)) + p1)) + p2)))), s_, vI (0), vI (3), vD ((own_D p2)), s_, vD ((own_D (own_rn ((own_rn ((own_rn (x + p0)) + p1)) + p2)))), s_, vD ((own_D ((own_rn ((own_rn (x + p0)) + p1)) + p2 - (own_rn ((own_rn ((own_rn (x + p0)) + p1)) + p2))))), s_]) rfl ?_
          refine XS.goto X98.here hx rfl (pc0 := 67) (pc' := 8) rfl (hb hby d3_67) (by decide) (by decide) ?_
          refine XS.iload X98.here hx rfl (hb hby d3_8) rfl ?_
          show SS p e below m T98 10 #[vR (a_o), vD ((own_D x)), s_, vD ((own_D (own_rn ((own_rn ((own_rn (x + p0)) + p1)) + p2)))), s_, vI (0), vI (3), vD ((own_D p2)), s_, vD ((own_D (own_rn ((own_rn ((own_rn (x + p0)) + p1)) + p2)))), s_, vD ((own_D ((own_rn ((own_rn (x + p0)) + p1)) + p2 - (own_rn ((own_rn ((own_rn (x + p0)) + p1)) + p2))))), s_] [(.int 3)] _
          refine XS.aloadN X98.here hx rfl (hb hby d3_10) rfl rfl ?_
          show SS p e below m T98 11 #[vR (a_o), vD ((own_D x)), s_, vD ((own_D (own_rn ((own_rn ((own_rn (x + p0)) + p1)) + p2)))), s_, vI (0), vI (3), vD ((own_D p2)), s_, vD ((own_D (own_rn ((own_rn ((own_rn (x + p0)) + p1)) + p2)))), s_, vD ((own_D ((own_rn ((own_rn (x + p0)) + p1)) + p2 - (own_rn ((own_rn ((own_rn (x + p0)) + p1)) + p2))))), s_] [(.ref a_o), (.int 3)] _
          refine st115 _ ?_
          show SS p e below m T115 14 #[vR (a_o), vD ((own_D x)), s_, vD ((own_D (own_rn ((own_rn ((own_rn (x + p0)) + p1)) + p2)))), s_, vI (0), vI (3), vD ((own_D p2)), s_, vD ((own_D (own_rn ((own_rn ((own_rn (x + p0)) + p1)) + p2)))), s_, vD ((own_D ((own_rn ((own_rn (x + p0)) + p1)) + p2 - (own_rn ((own_rn ((own_rn (x + p0)) + p1)) + p2))))), s_] [(.int 3), (.int 3)] _
          refine XS.icmpYes X115.here hx rfl (pc0 := 14) (pc' := 70) rfl (hb hby d3_14) rfl (flt ((by decide) : ¬ ((3 : Int32) < (3 : Int32)))).2.1 (by decide) (by decide) ?_
          refine XS.dloadN X115.here hx rfl (hb hby d3_70) rfl ?_
          refine XS.dconst0 X115.here hx rfl (hb hby d3_71) own_c0 ?_
          show SS p e below m T115 72 #[vR (a_o), vD ((own_D x)), s_, vD ((own_D (own_rn ((own_rn ((own_rn (x + p0)) + p1)) + p2)))), s_, vI (0), vI (3), vD ((own_D p2)), s_, vD ((own_D (own_rn ((own_rn ((own_rn (x + p0)) + p1)) + p2)))), s_, vD ((own_D ((own_rn ((own_rn (x + p0)) + p1)) + p2 - (own_rn ((own_rn ((own_rn (x + p0)) + p1)) + p2))))), s_] [(.double (own_D 0)), (.double (own_D (own_rn ((own_rn ((own_rn (x + p0)) + p1)) + p2))))] _
          refine XS.dcmpS X115.here hx rfl (hb hby d3_72) rfl (own_DcmpV (own_rrn _) own_rep0 (by omega) (by omega) (by omega) (by omega) _) ?_
          exact kt
        by_cases hc73_122 : (own_rn ((own_rn ((own_rn (x + p0)) + p1)) + p2)) = 0
        · obtain ⟨T126, h126, X126, e126, W126, st126⟩ := putF X115 hx hZ hown (host := "") (Or.inl (hw _ (gm 17 rfl))) Via.refl e115 hfc hxa (Or.inl (hw _ (gm 18 rfl))) (hw _ (gm 1 rfl)) (ty := .int) (by decide) rfl rfl (g := (mkF m 115 #[vR (a_o), vD ((own_D x)), s_, vD ((own_D (own_rn ((own_rn ((own_rn (x + p0)) + p1)) + p2)))), s_, vI (0), vI (3), vD ((own_D p2)), s_, vD ((own_D (own_rn ((own_rn ((own_rn (x + p0)) + p1)) + p2)))), s_, vD ((own_D ((own_rn ((own_rn (x + p0)) + p1)) + p2 - (own_rn ((own_rn ((own_rn (x + p0)) + p1)) + p2))))), s_] [(.int 0), (.ref a_o)])) rfl rfl (hb hby d3_115)
          have Kc127 : Keep h0 h126 [a_o, pa] := (Keep.refl h0 [a_o, pa]).wr W126 (Or.inl (ga 0 rfl))
          have Zs128 : n0 ≤ h126.size := Nat.le_trans Z0 (Keep.of_wr W126).1
          have N129 := Fr.snoc X126 N99 hg
          have Fw126 : Fld Z h126 a_o "com/example/merit/merit/ExactSum" "count" "I" (.int 0) := hfc.same W126
          obtain ⟨fs, hr, hrun, hended, hW, hsame⟩ := X126.leave (v := none) (fun _ => rfl) (hlocks := BodyLoose.notSynchronized Bd)
          refine ⟨_, _, pre121 _ ?_, hrun, hended, _, _, rfl, ?_, ⟨_, rfl⟩, hW, hsame.mono (by decide) (by decide)⟩
          · show SS p e below m T115 73 #[vR (a_o), vD ((own_D x)), s_, vD ((own_D (own_rn ((own_rn ((own_rn (x + p0)) + p1)) + p2)))), s_, vI (0), vI (3), vD ((own_D p2)), s_, vD ((own_D (own_rn ((own_rn ((own_rn (x + p0)) + p1)) + p2)))), s_, vD ((own_D ((own_rn ((own_rn (x + p0)) + p1)) + p2 - (own_rn ((own_rn ((own_rn (x + p0)) + p1)) + p2))))), s_] [(.int (own_cmp (own_rn ((own_rn ((own_rn (x + p0)) + p1)) + p2)) 0))] _
            refine XS.ifYes X115.here hx rfl (pc0 := 73) (pc' := 112) rfl (hb hby d3_73) rfl ((if0 _ _).trans (teq (own_cmEq.mpr hc73_122)).1) (by decide) (by decide) ?_
            refine XS.aloadN X115.here hx rfl (hb hby d3_112) rfl rfl ?_
            refine XS.iload X115.here hx rfl (hb hby d3_113) rfl ?_
            show SS p e below m T115 115 #[vR (a_o), vD ((own_D x)), s_, vD ((own_D (own_rn ((own_rn ((own_rn (x + p0)) + p1)) + p2)))), s_, vI (0), vI (3), vD ((own_D p2)), s_, vD ((own_D (own_rn ((own_rn ((own_rn (x + p0)) + p1)) + p2)))), s_, vD ((own_D ((own_rn ((own_rn (x + p0)) + p1)) + p2 - (own_rn ((own_rn ((own_rn (x + p0)) + p1)) + p2))))), s_] [(.int 0), (.ref a_o)] _
            refine st126 _ ?_
            show SS p e below m T126 118 #[vR (a_o), vD ((own_D x)), s_, vD ((own_D (own_rn ((own_rn ((own_rn (x + p0)) + p1)) + p2)))), s_, vI (0), vI (3), vD ((own_D p2)), s_, vD ((own_D (own_rn ((own_rn ((own_rn (x + p0)) + p1)) + p2)))), s_, vD ((own_D ((own_rn ((own_rn (x + p0)) + p1)) + p2 - (own_rn ((own_rn ((own_rn (x + p0)) + p1)) + p2))))), s_] [] _
            exact X126.returnOut hx Bd.returns (hb hby d3_118) hr
          · show Qown_add3 Z x a_o pa k_p p0 p1 p2 w3 h0 n0 _ T126.heap _
            rw [e126]
            have hv : (own_add3_f x p0 p1 p2) = [] := by unfold own_add3_f; rw [if_pos hc46_37, if_pos hc46_72, if_pos hc46_107, if_pos hc73_122]
            have Fq131 : Fld Z h126 a_o "com/example/merit/merit/ExactSum" "partials" "[D" (.ref pa) := (hfp.other W126 (Or.inr (slot_ne (Or.inl (hw _ (gm 11 rfl))) (Or.inl (hw _ (gm 18 rfl))) (by decide) (t := (.array .double)) (t' := .int) (by decide) (by decide))))
            have Fq132 : Arv Z h126 pa k_p .double (4 : Int32) [(.double (own_D p0)), (.double (own_D p1)), (.double (own_D p2)), w3] (.double FP.dconst0) := (hA.other W126 (Ne.symm hne))
            exact ⟨[(.double (own_D p0)), (.double (own_D p1)), (.double (own_D p2)), w3], rfl, N129, Kc127, Fq131, Fq132, (by rw [hv]; exact Fw126), (by rw [hv]; exact ⟨rfl, rfl⟩)⟩
        · obtain ⟨T136, X136, e136, st136⟩ := getF X115 hx hZ hown (host := "") (Or.inl (hw _ (gm 10 rfl))) Via.refl e115 hfp (g := (mkF m 79 #[vR (a_o), vD ((own_D x)), s_, vD ((own_D (own_rn ((own_rn ((own_rn (x + p0)) + p1)) + p2)))), s_, vI (0), vI (3), vD ((own_D p2)), s_, vD ((own_D (own_rn ((own_rn ((own_rn (x + p0)) + p1)) + p2)))), s_, vD ((own_D ((own_rn ((own_rn (x + p0)) + p1)) + p2 - (own_rn ((own_rn ((own_rn (x + p0)) + p1)) + p2))))), s_] [(.ref a_o), (.int 0)])) rfl rfl (hb hby d3_79)
          obtain ⟨cl138, Ar138, -, S138, M138, -, -⟩ := id hA
          obtain ⟨T142, X142, e142, st142⟩ := getF X136 hx hZ hown (host := "") (Or.inl (hw _ (gm 10 rfl))) Via.refl e136 hfp (g := (mkF m 102 #[vR (a_o), vD ((own_D x)), s_, vD ((own_D (own_rn ((own_rn ((own_rn (x + p0)) + p1)) + p2)))), s_, vI (0), vI (3), vD ((own_D p2)), s_, vD ((own_D (own_rn ((own_rn ((own_rn (x + p0)) + p1)) + p2)))), s_, vD ((own_D ((own_rn ((own_rn (x + p0)) + p1)) + p2 - (own_rn ((own_rn ((own_rn (x + p0)) + p1)) + p2))))), s_] [(.ref a_o)])) rfl rfl (hb hby d3_102)
          obtain ⟨cl147, Ar147, q147, S147, M147, H147, G147⟩ := id hA
          have hin147 : ¬ ((0 : Int32) < 0 ∨ cl147.slots.size ≤ ((0 : Int32)).toNatClampNeg) := inb_of S147 ⟨by decide, by decide⟩
          obtain ⟨T148, h148, X148, e148, W148, st148⟩ := stD X142 hx hZ e142 Ar147 (j := (0 : Int32)) hin147 (g := (mkF m 111 #[vR (a_o), vD ((own_D x)), s_, vD ((own_D (own_rn ((own_rn ((own_rn (x + p0)) + p1)) + p2)))), s_, vI (1), vI (3), vD ((own_D p2)), s_, vD ((own_D (own_rn ((own_rn ((own_rn (x + p0)) + p1)) + p2)))), s_, vD ((own_D ((own_rn ((own_rn (x + p0)) + p1)) + p2 - (own_rn ((own_rn ((own_rn (x + p0)) + p1)) + p2))))), s_] [(.double (own_D (own_rn ((own_rn ((own_rn (x + p0)) + p1)) + p2)))), (.int 0), (.ref pa)])) rfl rfl (hb hby d3_111)
          have Kc150 : Keep h0 h148 [a_o, pa] := (Keep.refl h0 [a_o, pa]).wr W148 (Or.inl (ga 1 rfl))
          have Zs151 : n0 ≤ h148.size := Nat.le_trans Z0 (Keep.of_wr W148).1
          have N152 := Fr.snoc X148 N99 hgp
          have Vm149 : Arv Z h148 pa k_p .double (4 : Int32) [(.double (own_D (own_rn ((own_rn ((own_rn (x + p0)) + p1)) + p2)))), (.double (own_D p1)), (.double (own_D p2)), w3] (.double FP.dconst0) := Arv.set Ar147 q147 S147 M147 H147 G147 rfl W148 0 rfl (Nat.le_of_ble_eq_true rfl)
          have Fq156 : Exa Z h148 a_o "com/example/merit/merit/ExactSum" := (hxa.wr W148)
          have Fq157 : Fld Z h148 a_o "com/example/merit/merit/ExactSum" "count" "I" (.int 3) := (hfc.other W148 (Or.inl hne))
          obtain ⟨T158, h158, X158, e158, W158, st158⟩ := putF X148 hx hZ hown (host := "") (Or.inl (hw _ (gm 17 rfl))) Via.refl e148 Fq157 Fq156 (Or.inl (hw _ (gm 18 rfl))) (hw _ (gm 1 rfl)) (ty := .int) (by decide) rfl rfl (g := (mkF m 115 #[vR (a_o), vD ((own_D x)), s_, vD ((own_D (own_rn ((own_rn ((own_rn (x + p0)) + p1)) + p2)))), s_, vI (1), vI (3), vD ((own_D p2)), s_, vD ((own_D (own_rn ((own_rn ((own_rn (x + p0)) + p1)) + p2)))), s_, vD ((own_D ((own_rn ((own_rn (x + p0)) + p1)) + p2 - (own_rn ((own_rn ((own_rn (x + p0)) + p1)) + p2))))), s_] [(.int 1), (.ref a_o)])) rfl rfl (hb hby d3_115)
          have Kc159 : Keep h0 h158 [a_o, pa] := Kc150.wr W158 (Or.inl (ga 0 rfl))
          have Zs160 : n0 ≤ h158.size := Nat.le_trans Zs151 (Keep.of_wr W158).1
          have N161 := Fr.snoc X158 N152 hg
          have Fw158 : Fld Z h158 a_o "com/example/merit/merit/ExactSum" "count" "I" (.int 1) := Fq157.same W158
          obtain ⟨fs, hr, hrun, hended, hW, hsame⟩ := X158.leave (v := none) (fun _ => rfl) (hlocks := BodyLoose.notSynchronized Bd)
          refine ⟨_, _, pre121 _ ?_, hrun, hended, _, _, rfl, ?_, ⟨_, rfl⟩, hW, hsame.mono (by decide) (by decide)⟩
          · show SS p e below m T115 73 #[vR (a_o), vD ((own_D x)), s_, vD ((own_D (own_rn ((own_rn ((own_rn (x + p0)) + p1)) + p2)))), s_, vI (0), vI (3), vD ((own_D p2)), s_, vD ((own_D (own_rn ((own_rn ((own_rn (x + p0)) + p1)) + p2)))), s_, vD ((own_D ((own_rn ((own_rn (x + p0)) + p1)) + p2 - (own_rn ((own_rn ((own_rn (x + p0)) + p1)) + p2))))), s_] [(.int (own_cmp (own_rn ((own_rn ((own_rn (x + p0)) + p1)) + p2)) 0))] _
            refine XS.ifNo X115.here hx rfl (hb hby d3_73) rfl ((if0 _ _).trans (feq (fun q => hc73_122 (own_cmEq.mp q))).1) ?_
            refine XS.iload X115.here hx rfl (hb hby d3_76) rfl ?_
            refine XS.aloadN X115.here hx rfl (hb hby d3_78) rfl rfl ?_
            show SS p e below m T115 79 #[vR (a_o), vD ((own_D x)), s_, vD ((own_D (own_rn ((own_rn ((own_rn (x + p0)) + p1)) + p2)))), s_, vI (0), vI (3), vD ((own_D p2)), s_, vD ((own_D (own_rn ((own_rn ((own_rn (x + p0)) + p1)) + p2)))), s_, vD ((own_D ((own_rn ((own_rn (x + p0)) + p1)) + p2 - (own_rn ((own_rn ((own_rn (x + p0)) + p1)) + p2))))), s_] [(.ref a_o), (.int 0)] _
            refine st136 _ ?_
            show SS p e below m T136 82 #[vR (a_o), vD ((own_D x)), s_, vD ((own_D (own_rn ((own_rn ((own_rn (x + p0)) + p1)) + p2)))), s_, vI (0), vI (3), vD ((own_D p2)), s_, vD ((own_D (own_rn ((own_rn ((own_rn (x + p0)) + p1)) + p2)))), s_, vD ((own_D ((own_rn ((own_rn (x + p0)) + p1)) + p2 - (own_rn ((own_rn ((own_rn (x + p0)) + p1)) + p2))))), s_] [(.ref pa), (.int 0)] _
            refine X136.arraylength hx (by rw [e136]; exact Ar138.1) (State.isArrayOf_alike hZ.alike Ar138.2.1) (g := (mkF m 82 #[vR (a_o), vD ((own_D x)), s_, vD ((own_D (own_rn ((own_rn ((own_rn (x + p0)) + p1)) + p2)))), s_, vI (0), vI (3), vD ((own_D p2)), s_, vD ((own_D (own_rn ((own_rn ((own_rn (x + p0)) + p1)) + p2)))), s_, vD ((own_D ((own_rn ((own_rn (x + p0)) + p1)) + p2 - (own_rn ((own_rn ((own_rn (x + p0)) + p1)) + p2))))), s_] [(.ref pa), (.int 0)])) rfl rfl (hb hby d3_82) _ ?_
            rw [len_of S138 M138]
            show SS p e below m T136 83 #[vR (a_o), vD ((own_D x)), s_, vD ((own_D (own_rn ((own_rn ((own_rn (x + p0)) + p1)) + p2)))), s_, vI (0), vI (3), vD ((own_D p2)), s_, vD ((own_D (own_rn ((own_rn ((own_rn (x + p0)) + p1)) + p2)))), s_, vD ((own_D ((own_rn ((own_rn (x + p0)) + p1)) + p2 - (own_rn ((own_rn ((own_rn (x + p0)) + p1)) + p2))))), s_] [(.int 4), (.int 0)] _
            refine XS.icmpYes X136.here hx rfl (pc0 := 83) (pc' := 101) rfl (hb hby d3_83) rfl (feq ((by decide) : ¬ ((0 : Int32) = (4 : Int32)))).2 (by decide) (by decide) ?_
            refine XS.aloadN X136.here hx rfl (hb hby d3_101) rfl rfl ?_
            show SS p e below m T136 102 #[vR (a_o), vD ((own_D x)), s_, vD ((own_D (own_rn ((own_rn ((own_rn (x + p0)) + p1)) + p2)))), s_, vI (0), vI (3), vD ((own_D p2)), s_, vD ((own_D (own_rn ((own_rn ((own_rn (x + p0)) + p1)) + p2)))), s_, vD ((own_D ((own_rn ((own_rn (x + p0)) + p1)) + p2 - (own_rn ((own_rn ((own_rn (x + p0)) + p1)) + p2))))), s_] [(.ref a_o)] _
            refine st142 _ ?_
            show SS p e below m T142 105 #[vR (a_o), vD ((own_D x)), s_, vD ((own_D (own_rn ((own_rn ((own_rn (x + p0)) + p1)) + p2)))), s_, vI (0), vI (3), vD ((own_D p2)), s_, vD ((own_D (own_rn ((own_rn ((own_rn (x + p0)) + p1)) + p2)))), s_, vD ((own_D ((own_rn ((own_rn (x + p0)) + p1)) + p2 - (own_rn ((own_rn ((own_rn (x + p0)) + p1)) + p2))))), s_] [(.ref pa)] _
            refine XS.iload X142.here hx rfl (hb hby d3_105) rfl ?_
            refine XS.iinc X142.here hx rfl (hb hby d3_107) rfl (l' := #[vR (a_o), vD ((own_D x)), s_, vD ((own_D (own_rn ((own_rn ((own_rn (x + p0)) + p1)) + p2)))), s_, vI (1), vI (3), vD ((own_D p2)), s_, vD ((own_D (own_rn ((own_rn ((own_rn (x + p0)) + p1)) + p2)))), s_, vD ((own_D ((own_rn ((own_rn (x + p0)) + p1)) + p2 - (own_rn ((own_rn ((own_rn (x + p0)) + p1)) + p2))))), s_]) rfl ?_
            refine XS.dloadN X142.here hx rfl (hb hby d3_110) rfl ?_
            show SS p e below m T142 111 #[vR (a_o), vD ((own_D x)), s_, vD ((own_D (own_rn ((own_rn ((own_rn (x + p0)) + p1)) + p2)))), s_, vI (1), vI (3), vD ((own_D p2)), s_, vD ((own_D (own_rn ((own_rn ((own_rn (x + p0)) + p1)) + p2)))), s_, vD ((own_D ((own_rn ((own_rn (x + p0)) + p1)) + p2 - (own_rn ((own_rn ((own_rn (x + p0)) + p1)) + p2))))), s_] [(.double (own_D (own_rn ((own_rn ((own_rn (x + p0)) + p1)) + p2)))), (.int 0), (.ref pa)] _
            refine st148 _ ?_
            show SS p e below m T148 112 #[vR (a_o), vD ((own_D x)), s_, vD ((own_D (own_rn ((own_rn ((own_rn (x + p0)) + p1)) + p2)))), s_, vI (1), vI (3), vD ((own_D p2)), s_, vD ((own_D (own_rn ((own_rn ((own_rn (x + p0)) + p1)) + p2)))), s_, vD ((own_D ((own_rn ((own_rn (x + p0)) + p1)) + p2 - (own_rn ((own_rn ((own_rn (x + p0)) + p1)) + p2))))), s_] [] _
            refine XS.aloadN X148.here hx rfl (hb hby d3_112) rfl rfl ?_
            refine XS.iload X148.here hx rfl (hb hby d3_113) rfl ?_
            show SS p e below m T148 115 #[vR (a_o), vD ((own_D x)), s_, vD ((own_D (own_rn ((own_rn ((own_rn (x + p0)) + p1)) + p2)))), s_, vI (1), vI (3), vD ((own_D p2)), s_, vD ((own_D (own_rn ((own_rn ((own_rn (x + p0)) + p1)) + p2)))), s_, vD ((own_D ((own_rn ((own_rn (x + p0)) + p1)) + p2 - (own_rn ((own_rn ((own_rn (x + p0)) + p1)) + p2))))), s_] [(.int 1), (.ref a_o)] _
            refine st158 _ ?_
            show SS p e below m T158 118 #[vR (a_o), vD ((own_D x)), s_, vD ((own_D (own_rn ((own_rn ((own_rn (x + p0)) + p1)) + p2)))), s_, vI (1), vI (3), vD ((own_D p2)), s_, vD ((own_D (own_rn ((own_rn ((own_rn (x + p0)) + p1)) + p2)))), s_, vD ((own_D ((own_rn ((own_rn (x + p0)) + p1)) + p2 - (own_rn ((own_rn ((own_rn (x + p0)) + p1)) + p2))))), s_] [] _
            exact X158.returnOut hx Bd.returns (hb hby d3_118) hr
          · show Qown_add3 Z x a_o pa k_p p0 p1 p2 w3 h0 n0 _ T158.heap _
            rw [e158]
            have hv : (own_add3_f x p0 p1 p2) = [(own_rn ((own_rn ((own_rn (x + p0)) + p1)) + p2))] := by unfold own_add3_f; rw [if_pos hc46_37, if_pos hc46_72, if_pos hc46_107, if_neg hc73_122]
            have Fq163 : Fld Z h158 a_o "com/example/merit/merit/ExactSum" "partials" "[D" (.ref pa) := ((hfp.other W148 (Or.inl hne)).other W158 (Or.inr (slot_ne (Or.inl (hw _ (gm 11 rfl))) (Or.inl (hw _ (gm 18 rfl))) (by decide) (t := (.array .double)) (t' := .int) (by decide) (by decide))))
            have Fq164 : Arv Z h158 pa k_p .double (4 : Int32) [(.double (own_D (own_rn ((own_rn ((own_rn (x + p0)) + p1)) + p2)))), (.double (own_D p1)), (.double (own_D p2)), w3] (.double FP.dconst0) := (Vm149.other W158 (Ne.symm hne))
            exact ⟨[(.double (own_D (own_rn ((own_rn ((own_rn (x + p0)) + p1)) + p2)))), (.double (own_D p1)), (.double (own_D p2)), w3], rfl, N161, Kc159, Fq163, Fq164, (by rw [hv]; exact Fw158), (by rw [hv]; exact ⟨rfl, rfl⟩)⟩
      · obtain ⟨T167, X167, e167, st167⟩ := getF X98 hx hZ hown (host := "") (Or.inl (hw _ (gm 10 rfl))) Via.refl eh98 hfp (g := (mkF m 50 #[vR (a_o), vD ((own_D x)), s_, vD ((own_D (own_rn ((own_rn (x + p0)) + p1)))), s_, vI (0), vI (2), vD ((own_D p2)), s_, vD ((own_D (own_rn ((own_rn ((own_rn (x + p0)) + p1)) + p2)))), s_, vD ((own_D ((own_rn ((own_rn (x + p0)) + p1)) + p2 - (own_rn ((own_rn ((own_rn (x + p0)) + p1)) + p2))))), s_] [(.ref a_o)])) rfl rfl (hb hby d3_50)
        obtain ⟨cl172, Ar172, q172, S172, M172, H172, G172⟩ := id hA
        have hin172 : ¬ ((0 : Int32) < 0 ∨ cl172.slots.size ≤ ((0 : Int32)).toNatClampNeg) := inb_of S172 ⟨by decide, by decide⟩
        obtain ⟨T173, h173, X173, e173, W173, st173⟩ := stD X167 hx hZ e167 Ar172 (j := (0 : Int32)) hin172 (g := (mkF m 60 #[vR (a_o), vD ((own_D x)), s_, vD ((own_D (own_rn ((own_rn (x + p0)) + p1)))), s_, vI (1), vI (2), vD ((own_D p2)), s_, vD ((own_D (own_rn ((own_rn ((own_rn (x + p0)) + p1)) + p2)))), s_, vD ((own_D ((own_rn ((own_rn (x + p0)) + p1)) + p2 - (own_rn ((own_rn ((own_rn (x + p0)) + p1)) + p2))))), s_] [(.double (own_D ((own_rn ((own_rn (x + p0)) + p1)) + p2 - (own_rn ((own_rn ((own_rn (x + p0)) + p1)) + p2))))), (.int 0), (.ref pa)])) rfl rfl (hb hby d3_60)
        have Kc175 : Keep h0 h173 [a_o, pa] := (Keep.refl h0 [a_o, pa]).wr W173 (Or.inl (ga 1 rfl))
        have Zs176 : n0 ≤ h173.size := Nat.le_trans Z0 (Keep.of_wr W173).1
        have N177 := Fr.snoc X173 N99 hgp
        have Vm174 : Arv Z h173 pa k_p .double (4 : Int32) [(.double (own_D ((own_rn ((own_rn (x + p0)) + p1)) + p2 - (own_rn ((own_rn ((own_rn (x + p0)) + p1)) + p2))))), (.double (own_D p1)), (.double (own_D p2)), w3] (.double FP.dconst0) := Arv.set Ar172 q172 S172 M172 H172 G172 rfl W173 0 rfl (Nat.le_of_ble_eq_true rfl)
        have Fq185 : Fld Z h173 a_o "com/example/merit/merit/ExactSum" "count" "I" (.int 3) := (hfc.other W173 (Or.inl hne))
        obtain ⟨T186, X186, e186, st186⟩ := getF X173 hx hZ hown (host := "") (Or.inl (hw _ (gm 17 rfl))) Via.refl e173 Fq185 (g := (mkF m 11 #[vR (a_o), vD ((own_D x)), s_, vD ((own_D (own_rn ((own_rn ((own_rn (x + p0)) + p1)) + p2)))), s_, vI (1), vI (3), vD ((own_D p2)), s_, vD ((own_D (own_rn ((own_rn ((own_rn (x + p0)) + p1)) + p2)))), s_, vD ((own_D ((own_rn ((own_rn (x + p0)) + p1)) + p2 - (own_rn ((own_rn ((own_rn (x + p0)) + p1)) + p2))))), s_] [(.ref a_o), (.int 3)])) rfl rfl (hb hby d3_11)
        have pre192 : ∀ t, Steps p.tables e below (T186.setTop (mkF m 73 #[vR (a_o), vD ((own_D x)), s_, vD ((own_D (own_rn ((own_rn ((own_rn (x + p0)) + p1)) + p2)))), s_, vI (1), vI (3), vD ((own_D p2)), s_, vD ((own_D (own_rn ((own_rn ((own_rn (x + p0)) + p1)) + p2)))), s_, vD ((own_D ((own_rn ((own_rn (x + p0)) + p1)) + p2 - (own_rn ((own_rn ((own_rn (x + p0)) + p1)) + p2))))), s_] [(.int (own_cmp (own_rn ((own_rn ((own_rn (x + p0)) + p1)) + p2)) 0))])) t → Steps p.tables e below (s₁.setTop (entryFrame m #[(.ref a_o), (.double (own_D x))] 13)) t := by
          intro t kt
          refine pre106 _ ?_
          show SS p e below m T98 46 #[vR (a_o), vD ((own_D x)), s_, vD ((own_D (own_rn ((own_rn (x + p0)) + p1)))), s_, vI (0), vI (2), vD ((own_D p2)), s_, vD ((own_D (own_rn ((own_rn ((own_rn (x + p0)) + p1)) + p2)))), s_, vD ((own_D ((own_rn ((own_rn (x + p0)) + p1)) + p2 - (own_rn ((own_rn ((own_rn (x + p0)) + p1)) + p2))))), s_] [(.int (own_cmp ((own_rn ((own_rn (x + p0)) + p1)) + p2 - (own_rn ((own_rn ((own_rn (x + p0)) + p1)) + p2))) 0))] _
          refine XS.ifNo X98.here hx rfl (hb hby d3_46) rfl ((if0 _ _).trans (feq (fun q => hc46_107 (own_cmEq.mp q))).1) ?_
          refine XS.aloadN X98.here hx rfl (hb hby d3_49) rfl rfl ?_
          show SS p e below m T98 50 #[vR (a_o), vD ((own_D x)), s_, vD ((own_D (own_rn ((own_rn (x + p0)) + p1)))), s_, vI (0), vI (2), vD ((own_D p2)), s_, vD ((own_D (own_rn ((own_rn ((own_rn (x + p0)) + p1)) + p2)))), s_, vD ((own_D ((own_rn ((own_rn (x + p0)) + p1)) + p2 - (own_rn ((own_rn ((own_rn (x + p0)) + p1)) + p2))))), s_] [(.ref a_o)] _
          refine st167 _ ?_
          show SS p e below m T167 53 #[vR (a_o), vD ((own_D x)), s_, vD ((own_D (own_rn ((own_rn (x + p0)) + p1)))), s_, vI (0), vI (2), vD ((own_D p2)), s_, vD ((own_D (own_rn ((own_rn ((own_rn (x + p0)) + p1)) + p2)))), s_, vD ((own_D ((own_rn ((own_rn (x + p0)) + p1)) + p2 - (own_rn ((own_rn ((own_rn (x + p0)) + p1)) + p2))))), s_] [(.ref pa)] _
          refine XS.iload X167.here hx rfl (hb hby d3_53) rfl ?_
          refine XS.iinc X167.here hx rfl (hb hby d3_55) rfl (l' := #[vR (a_o), vD ((own_D x)), s_, vD ((own_D (own_rn ((own_rn (x + p0)) + p1)))), s_, vI (1), vI (2), vD ((own_D p2)), s_, vD ((own_D (own_rn ((own_rn ((own_rn (x + p0)) + p1)) + p2)))), s_, vD ((own_D ((own_rn ((own_rn (x + p0)) + p1)) + p2 - (own_rn ((own_rn ((own_rn (x + p0)) + p1)) + p2))))), s_]) rfl ?_
          refine XS.dload X167.here hx rfl (hb hby d3_58) rfl ?_
          show SS p e below m T167 60 #[vR (a_o), vD ((own_D x)), s_, vD ((own_D (own_rn ((own_rn (x + p0)) + p1)))), s_, vI (1), vI (2), vD ((own_D p2)), s_, vD ((own_D (own_rn ((own_rn ((own_rn (x + p0)) + p1)) + p2)))), s_, vD ((own_D ((own_rn ((own_rn (x + p0)) + p1)) + p2 - (own_rn ((own_rn ((own_rn (x + p0)) + p1)) + p2))))), s_] [(.double (own_D ((own_rn ((own_rn (x + p0)) + p1)) + p2 - (own_rn ((own_rn ((own_rn (x + p0)) + p1)) + p2))))), (.int 0), (.ref pa)] _
          refine st173 _ ?_
          show SS p e below m T173 61 #[vR (a_o), vD ((own_D x)), s_, vD ((own_D (own_rn ((own_rn (x + p0)) + p1)))), s_, vI (1), vI (2), vD ((own_D p2)), s_, vD ((own_D (own_rn ((own_rn ((own_rn (x + p0)) + p1)) + p2)))), s_, vD ((own_D ((own_rn ((own_rn (x + p0)) + p1)) + p2 - (own_rn ((own_rn ((own_rn (x + p0)) + p1)) + p2))))), s_] [] _
          refine XS.dload X173.here hx rfl (hb hby d3_61) rfl ?_
          refine XS.dstoreN X173.here hx rfl (hb hby d3_63) rfl (l' := #[vR (a_o), vD ((own_D x)), s_, vD ((own_D (own_rn ((own_rn ((own_rn (x + p0)) + p1)) + p2)))), s_, vI (1), vI (2), vD ((own_D p2)), s_, vD ((own_D (own_rn ((own_rn ((own_rn (x + p0)) + p1)) + p2)))), s_, vD ((own_D ((own_rn ((own_rn (x + p0)) + p1)) + p2 - (own_rn ((own_rn ((own_rn (x + p0)) + p1)) + p2))))), s_]) rfl ?_
          refine XS.iinc X173.here hx rfl (hb hby d3_64) rfl (l' := #[vR (a_o), vD ((own_D x)), s_, vD ((own_D (own_rn ((own_rn ((own_rn (x + p0)) + p1)) + p2)))), s_, vI (1), vI (3), vD ((own_D p2)), s_, vD ((own_D (own_rn ((own_rn ((own_rn (x + p0)) + p1)) + p2)))), s_, vD ((own_D ((own_rn ((own_rn (x + p0)) + p1)) + p2 - (own_rn ((own_rn ((own_rn (x + p0)) + p1)) + p2))))), s_]) rfl ?_
          show SS p e below m T173 67 #[vR (a_o), vD ((own_D x)), s_, vD ((own_D (own_rn ((own_rn ((own_rn (x + p0)) + p1)) + p2)))), s_, vI (1), vI (3), vD ((own_D p2)), s_, vD ((own_D (own_rn ((own_rn ((own_rn (x + p0)) + p1)) + p2)))), s_, vD ((own_D ((own_rn ((own_rn (x + p0)) + p1)) + p2 - (own_rn ((own_rn ((own_rn (x + p0)) + p1)) + p2))))), s_] [] _
          refine XS.goto X173.here hx rfl (pc0 := 67) (pc' := 8) rfl (hb hby d3_67) (by decide) (by decide) ?_
          refine XS.iload X173.here hx rfl (hb hby d3_8) rfl ?_
          refine XS.aloadN X173.here hx rfl (hb hby d3_10) rfl rfl ?_
          show SS p e below m T173 11 #[vR (a_o), vD ((own_D x)), s_, vD ((own_D (own_rn ((own_rn ((own_rn (x + p0)) + p1)) + p2)))), s_, vI (1), vI (3), vD ((own_D p2)), s_, vD ((own_D (own_rn ((own_rn ((own_rn (x + p0)) + p1)) + p2)))), s_, vD ((own_D ((own_rn ((own_rn (x + p0)) + p1)) + p2 - (own_rn ((own_rn ((own_rn (x + p0)) + p1)) + p2))))), s_] [(.ref a_o), (.int 3)] _
          refine st186 _ ?_
          show SS p e below m T186 14 #[vR (a_o), vD ((own_D x)), s_, vD ((own_D (own_rn ((own_rn ((own_rn (x + p0)) + p1)) + p2)))), s_, vI (1), vI (3), vD ((own_D p2)), s_, vD ((own_D (own_rn ((own_rn ((own_rn (x + p0)) + p1)) + p2)))), s_, vD ((own_D ((own_rn ((own_rn (x + p0)) + p1)) + p2 - (own_rn ((own_rn ((own_rn (x + p0)) + p1)) + p2))))), s_] [(.int 3), (.int 3)] _
          refine XS.icmpYes X186.here hx rfl (pc0 := 14) (pc' := 70) rfl (hb hby d3_14) rfl (flt ((by decide) : ¬ ((3 : Int32) < (3 : Int32)))).2.1 (by decide) (by decide) ?_
          refine XS.dloadN X186.here hx rfl (hb hby d3_70) rfl ?_
          refine XS.dconst0 X186.here hx rfl (hb hby d3_71) own_c0 ?_
          show SS p e below m T186 72 #[vR (a_o), vD ((own_D x)), s_, vD ((own_D (own_rn ((own_rn ((own_rn (x + p0)) + p1)) + p2)))), s_, vI (1), vI (3), vD ((own_D p2)), s_, vD ((own_D (own_rn ((own_rn ((own_rn (x + p0)) + p1)) + p2)))), s_, vD ((own_D ((own_rn ((own_rn (x + p0)) + p1)) + p2 - (own_rn ((own_rn ((own_rn (x + p0)) + p1)) + p2))))), s_] [(.double (own_D 0)), (.double (own_D (own_rn ((own_rn ((own_rn (x + p0)) + p1)) + p2))))] _
          refine XS.dcmpS X186.here hx rfl (hb hby d3_72) rfl (own_DcmpV (own_rrn _) own_rep0 (by omega) (by omega) (by omega) (by omega) _) ?_
          exact kt
        by_cases hc73_193 : (own_rn ((own_rn ((own_rn (x + p0)) + p1)) + p2)) = 0
        · have Fq197 : Exa Z h173 a_o "com/example/merit/merit/ExactSum" := (hxa.wr W173)
          obtain ⟨T198, h198, X198, e198, W198, st198⟩ := putF X186 hx hZ hown (host := "") (Or.inl (hw _ (gm 17 rfl))) Via.refl e186 Fq185 Fq197 (Or.inl (hw _ (gm 18 rfl))) (hw _ (gm 1 rfl)) (ty := .int) (by decide) rfl rfl (g := (mkF m 115 #[vR (a_o), vD ((own_D x)), s_, vD ((own_D (own_rn ((own_rn ((own_rn (x + p0)) + p1)) + p2)))), s_, vI (1), vI (3), vD ((own_D p2)), s_, vD ((own_D (own_rn ((own_rn ((own_rn (x + p0)) + p1)) + p2)))), s_, vD ((own_D ((own_rn ((own_rn (x + p0)) + p1)) + p2 - (own_rn ((own_rn ((own_rn (x + p0)) + p1)) + p2))))), s_] [(.int 1), (.ref a_o)])) rfl rfl (hb hby d3_115)
          have Kc199 : Keep h0 h198 [a_o, pa] := Kc175.wr W198 (Or.inl (ga 0 rfl))
          have Zs200 : n0 ≤ h198.size := Nat.le_trans Zs176 (Keep.of_wr W198).1
          have N201 := Fr.snoc X198 N177 hg
          have Fw198 : Fld Z h198 a_o "com/example/merit/merit/ExactSum" "count" "I" (.int 1) := Fq185.same W198
          obtain ⟨fs, hr, hrun, hended, hW, hsame⟩ := X198.leave (v := none) (fun _ => rfl) (hlocks := BodyLoose.notSynchronized Bd)
          refine ⟨_, _, pre192 _ ?_, hrun, hended, _, _, rfl, ?_, ⟨_, rfl⟩, hW, hsame.mono (by decide) (by decide)⟩
          · show SS p e below m T186 73 #[vR (a_o), vD ((own_D x)), s_, vD ((own_D (own_rn ((own_rn ((own_rn (x + p0)) + p1)) + p2)))), s_, vI (1), vI (3), vD ((own_D p2)), s_, vD ((own_D (own_rn ((own_rn ((own_rn (x + p0)) + p1)) + p2)))), s_, vD ((own_D ((own_rn ((own_rn (x + p0)) + p1)) + p2 - (own_rn ((own_rn ((own_rn (x + p0)) + p1)) + p2))))), s_] [(.int (own_cmp (own_rn ((own_rn ((own_rn (x + p0)) + p1)) + p2)) 0))] _
            refine XS.ifYes X186.here hx rfl (pc0 := 73) (pc' := 112) rfl (hb hby d3_73) rfl ((if0 _ _).trans (teq (own_cmEq.mpr hc73_193)).1) (by decide) (by decide) ?_
            refine XS.aloadN X186.here hx rfl (hb hby d3_112) rfl rfl ?_
            refine XS.iload X186.here hx rfl (hb hby d3_113) rfl ?_
            show SS p e below m T186 115 #[vR (a_o), vD ((own_D x)), s_, vD ((own_D (own_rn ((own_rn ((own_rn (x + p0)) + p1)) + p2)))), s_, vI (1), vI (3), vD ((own_D p2)), s_, vD ((own_D (own_rn ((own_rn ((own_rn (x + p0)) + p1)) + p2)))), s_, vD ((own_D ((own_rn ((own_rn (x + p0)) + p1)) + p2 - (own_rn ((own_rn ((own_rn (x + p0)) + p1)) + p2))))), s_] [(.int 1), (.ref a_o)] _
            refine st198 _ ?_
            show SS p e below m T198 118 #[vR (a_o), vD ((own_D x)), s_, vD ((own_D (own_rn ((own_rn ((own_rn (x + p0)) + p1)) + p2)))), s_, vI (1), vI (3), vD ((own_D p2)), s_, vD ((own_D (own_rn ((own_rn ((own_rn (x + p0)) + p1)) + p2)))), s_, vD ((own_D ((own_rn ((own_rn (x + p0)) + p1)) + p2 - (own_rn ((own_rn ((own_rn (x + p0)) + p1)) + p2))))), s_] [] _
            exact X198.returnOut hx Bd.returns (hb hby d3_118) hr
          · show Qown_add3 Z x a_o pa k_p p0 p1 p2 w3 h0 n0 _ T198.heap _
            rw [e198]
            have hv : (own_add3_f x p0 p1 p2) = [((own_rn ((own_rn (x + p0)) + p1)) + p2 - (own_rn ((own_rn ((own_rn (x + p0)) + p1)) + p2)))] := by unfold own_add3_f; rw [if_pos hc46_37, if_pos hc46_72, if_neg hc46_107, if_pos hc73_193]
            have Fq203 : Fld Z h198 a_o "com/example/merit/merit/ExactSum" "partials" "[D" (.ref pa) := ((hfp.other W173 (Or.inl hne)).other W198 (Or.inr (slot_ne (Or.inl (hw _ (gm 11 rfl))) (Or.inl (hw _ (gm 18 rfl))) (by decide) (t := (.array .double)) (t' := .int) (by decide) (by decide))))
            have Fq204 : Arv Z h198 pa k_p .double (4 : Int32) [(.double (own_D ((own_rn ((own_rn (x + p0)) + p1)) + p2 - (own_rn ((own_rn ((own_rn (x + p0)) + p1)) + p2))))), (.double (own_D p1)), (.double (own_D p2)), w3] (.double FP.dconst0) := (Vm174.other W198 (Ne.symm hne))
            exact ⟨[(.double (own_D ((own_rn ((own_rn (x + p0)) + p1)) + p2 - (own_rn ((own_rn ((own_rn (x + p0)) + p1)) + p2))))), (.double (own_D p1)), (.double (own_D p2)), w3], rfl, N201, Kc199, Fq203, Fq204, (by rw [hv]; exact Fw198), (by rw [hv]; exact ⟨rfl, rfl⟩)⟩
        · have Fq208 : Fld Z h173 a_o "com/example/merit/merit/ExactSum" "partials" "[D" (.ref pa) := (hfp.other W173 (Or.inl hne))
          obtain ⟨T209, X209, e209, st209⟩ := getF X186 hx hZ hown (host := "") (Or.inl (hw _ (gm 10 rfl))) Via.refl e186 Fq208 (g := (mkF m 79 #[vR (a_o), vD ((own_D x)), s_, vD ((own_D (own_rn ((own_rn ((own_rn (x + p0)) + p1)) + p2)))), s_, vI (1), vI (3), vD ((own_D p2)), s_, vD ((own_D (own_rn ((own_rn ((own_rn (x + p0)) + p1)) + p2)))), s_, vD ((own_D ((own_rn ((own_rn (x + p0)) + p1)) + p2 - (own_rn ((own_rn ((own_rn (x + p0)) + p1)) + p2))))), s_] [(.ref a_o), (.int 1)])) rfl rfl (hb hby d3_79)
          obtain ⟨cl211, Ar211, -, S211, M211, -, -⟩ := id Vm174
          obtain ⟨T215, X215, e215, st215⟩ := getF X209 hx hZ hown (host := "") (Or.inl (hw _ (gm 10 rfl))) Via.refl e209 Fq208 (g := (mkF m 102 #[vR (a_o), vD ((own_D x)), s_, vD ((own_D (own_rn ((own_rn ((own_rn (x + p0)) + p1)) + p2)))), s_, vI (1), vI (3), vD ((own_D p2)), s_, vD ((own_D (own_rn ((own_rn ((own_rn (x + p0)) + p1)) + p2)))), s_, vD ((own_D ((own_rn ((own_rn (x + p0)) + p1)) + p2 - (own_rn ((own_rn ((own_rn (x + p0)) + p1)) + p2))))), s_] [(.ref a_o)])) rfl rfl (hb hby d3_102)
          obtain ⟨cl220, Ar220, q220, S220, M220, H220, G220⟩ := id Vm174
          have hin220 : ¬ ((1 : Int32) < 0 ∨ cl220.slots.size ≤ ((1 : Int32)).toNatClampNeg) := inb_of S220 ⟨by decide, by decide⟩
          obtain ⟨T221, h221, X221, e221, W221, st221⟩ := stD X215 hx hZ e215 Ar220 (j := (1 : Int32)) hin220 (g := (mkF m 111 #[vR (a_o), vD ((own_D x)), s_, vD ((own_D (own_rn ((own_rn ((own_rn (x + p0)) + p1)) + p2)))), s_, vI (2), vI (3), vD ((own_D p2)), s_, vD ((own_D (own_rn ((own_rn ((own_rn (x + p0)) + p1)) + p2)))), s_, vD ((own_D ((own_rn ((own_rn (x + p0)) + p1)) + p2 - (own_rn ((own_rn ((own_rn (x + p0)) + p1)) + p2))))), s_] [(.double (own_D (own_rn ((own_rn ((own_rn (x + p0)) + p1)) + p2)))), (.int 1), (.ref pa)])) rfl rfl (hb hby d3_111)
          have Kc223 : Keep h0 h221 [a_o, pa] := Kc175.wr W221 (Or.inl (ga 1 rfl))
          have Zs224 : n0 ≤ h221.size := Nat.le_trans Zs176 (Keep.of_wr W221).1
          have N225 := Fr.snoc X221 N177 hgp
          have Vm222 : Arv Z h221 pa k_p .double (4 : Int32) [(.double (own_D ((own_rn ((own_rn (x + p0)) + p1)) + p2 - (own_rn ((own_rn ((own_rn (x + p0)) + p1)) + p2))))), (.double (own_D (own_rn ((own_rn ((own_rn (x + p0)) + p1)) + p2)))), (.double (own_D p2)), w3] (.double FP.dconst0) := Arv.set Ar220 q220 S220 M220 H220 G220 rfl W221 1 rfl (Nat.le_of_ble_eq_true rfl)
          have Fq229 : Exa Z h221 a_o "com/example/merit/merit/ExactSum" := ((hxa.wr W173).wr W221)
          have Fq230 : Fld Z h221 a_o "com/example/merit/merit/ExactSum" "count" "I" (.int 3) := (Fq185.other W221 (Or.inl hne))
          obtain ⟨T231, h231, X231, e231, W231, st231⟩ := putF X221 hx hZ hown (host := "") (Or.inl (hw _ (gm 17 rfl))) Via.refl e221 Fq230 Fq229 (Or.inl (hw _ (gm 18 rfl))) (hw _ (gm 1 rfl)) (ty := .int) (by decide) rfl rfl (g := (mkF m 115 #[vR (a_o), vD ((own_D x)), s_, vD ((own_D (own_rn ((own_rn ((own_rn (x + p0)) + p1)) + p2)))), s_, vI (2), vI (3), vD ((own_D p2)), s_, vD ((own_D (own_rn ((own_rn ((own_rn (x + p0)) + p1)) + p2)))), s_, vD ((own_D ((own_rn ((own_rn (x + p0)) + p1)) + p2 - (own_rn ((own_rn ((own_rn (x + p0)) + p1)) + p2))))), s_] [(.int 2), (.ref a_o)])) rfl rfl (hb hby d3_115)
          have Kc232 : Keep h0 h231 [a_o, pa] := Kc223.wr W231 (Or.inl (ga 0 rfl))
          have Zs233 : n0 ≤ h231.size := Nat.le_trans Zs224 (Keep.of_wr W231).1
          have N234 := Fr.snoc X231 N225 hg
          have Fw231 : Fld Z h231 a_o "com/example/merit/merit/ExactSum" "count" "I" (.int 2) := Fq230.same W231
          obtain ⟨fs, hr, hrun, hended, hW, hsame⟩ := X231.leave (v := none) (fun _ => rfl) (hlocks := BodyLoose.notSynchronized Bd)
          refine ⟨_, _, pre192 _ ?_, hrun, hended, _, _, rfl, ?_, ⟨_, rfl⟩, hW, hsame.mono (by decide) (by decide)⟩
          · show SS p e below m T186 73 #[vR (a_o), vD ((own_D x)), s_, vD ((own_D (own_rn ((own_rn ((own_rn (x + p0)) + p1)) + p2)))), s_, vI (1), vI (3), vD ((own_D p2)), s_, vD ((own_D (own_rn ((own_rn ((own_rn (x + p0)) + p1)) + p2)))), s_, vD ((own_D ((own_rn ((own_rn (x + p0)) + p1)) + p2 - (own_rn ((own_rn ((own_rn (x + p0)) + p1)) + p2))))), s_] [(.int (own_cmp (own_rn ((own_rn ((own_rn (x + p0)) + p1)) + p2)) 0))] _
            refine XS.ifNo X186.here hx rfl (hb hby d3_73) rfl ((if0 _ _).trans (feq (fun q => hc73_193 (own_cmEq.mp q))).1) ?_
            refine XS.iload X186.here hx rfl (hb hby d3_76) rfl ?_
            refine XS.aloadN X186.here hx rfl (hb hby d3_78) rfl rfl ?_
            show SS p e below m T186 79 #[vR (a_o), vD ((own_D x)), s_, vD ((own_D (own_rn ((own_rn ((own_rn (x + p0)) + p1)) + p2)))), s_, vI (1), vI (3), vD ((own_D p2)), s_, vD ((own_D (own_rn ((own_rn ((own_rn (x + p0)) + p1)) + p2)))), s_, vD ((own_D ((own_rn ((own_rn (x + p0)) + p1)) + p2 - (own_rn ((own_rn ((own_rn (x + p0)) + p1)) + p2))))), s_] [(.ref a_o), (.int 1)] _
            refine st209 _ ?_
            show SS p e below m T209 82 #[vR (a_o), vD ((own_D x)), s_, vD ((own_D (own_rn ((own_rn ((own_rn (x + p0)) + p1)) + p2)))), s_, vI (1), vI (3), vD ((own_D p2)), s_, vD ((own_D (own_rn ((own_rn ((own_rn (x + p0)) + p1)) + p2)))), s_, vD ((own_D ((own_rn ((own_rn (x + p0)) + p1)) + p2 - (own_rn ((own_rn ((own_rn (x + p0)) + p1)) + p2))))), s_] [(.ref pa), (.int 1)] _
            refine X209.arraylength hx (by rw [e209]; exact Ar211.1) (State.isArrayOf_alike hZ.alike Ar211.2.1) (g := (mkF m 82 #[vR (a_o), vD ((own_D x)), s_, vD ((own_D (own_rn ((own_rn ((own_rn (x + p0)) + p1)) + p2)))), s_, vI (1), vI (3), vD ((own_D p2)), s_, vD ((own_D (own_rn ((own_rn ((own_rn (x + p0)) + p1)) + p2)))), s_, vD ((own_D ((own_rn ((own_rn (x + p0)) + p1)) + p2 - (own_rn ((own_rn ((own_rn (x + p0)) + p1)) + p2))))), s_] [(.ref pa), (.int 1)])) rfl rfl (hb hby d3_82) _ ?_
            rw [len_of S211 M211]
            show SS p e below m T209 83 #[vR (a_o), vD ((own_D x)), s_, vD ((own_D (own_rn ((own_rn ((own_rn (x + p0)) + p1)) + p2)))), s_, vI (1), vI (3), vD ((own_D p2)), s_, vD ((own_D (own_rn ((own_rn ((own_rn (x + p0)) + p1)) + p2)))), s_, vD ((own_D ((own_rn ((own_rn (x + p0)) + p1)) + p2 - (own_rn ((own_rn ((own_rn (x + p0)) + p1)) + p2))))), s_] [(.int 4), (.int 1)] _
            refine XS.icmpYes X209.here hx rfl (pc0 := 83) (pc' := 101) rfl (hb hby d3_83) rfl (feq ((by decide) : ¬ ((1 : Int32) = (4 : Int32)))).2 (by decide) (by decide) ?_
            refine XS.aloadN X209.here hx rfl (hb hby d3_101) rfl rfl ?_
            show SS p e below m T209 102 #[vR (a_o), vD ((own_D x)), s_, vD ((own_D (own_rn ((own_rn ((own_rn (x + p0)) + p1)) + p2)))), s_, vI (1), vI (3), vD ((own_D p2)), s_, vD ((own_D (own_rn ((own_rn ((own_rn (x + p0)) + p1)) + p2)))), s_, vD ((own_D ((own_rn ((own_rn (x + p0)) + p1)) + p2 - (own_rn ((own_rn ((own_rn (x + p0)) + p1)) + p2))))), s_] [(.ref a_o)] _
            refine st215 _ ?_
            show SS p e below m T215 105 #[vR (a_o), vD ((own_D x)), s_, vD ((own_D (own_rn ((own_rn ((own_rn (x + p0)) + p1)) + p2)))), s_, vI (1), vI (3), vD ((own_D p2)), s_, vD ((own_D (own_rn ((own_rn ((own_rn (x + p0)) + p1)) + p2)))), s_, vD ((own_D ((own_rn ((own_rn (x + p0)) + p1)) + p2 - (own_rn ((own_rn ((own_rn (x + p0)) + p1)) + p2))))), s_] [(.ref pa)] _
            refine XS.iload X215.here hx rfl (hb hby d3_105) rfl ?_
            refine XS.iinc X215.here hx rfl (hb hby d3_107) rfl (l' := #[vR (a_o), vD ((own_D x)), s_, vD ((own_D (own_rn ((own_rn ((own_rn (x + p0)) + p1)) + p2)))), s_, vI (2), vI (3), vD ((own_D p2)), s_, vD ((own_D (own_rn ((own_rn ((own_rn (x + p0)) + p1)) + p2)))), s_, vD ((own_D ((own_rn ((own_rn (x + p0)) + p1)) + p2 - (own_rn ((own_rn ((own_rn (x + p0)) + p1)) + p2))))), s_]) rfl ?_
            refine XS.dloadN X215.here hx rfl (hb hby d3_110) rfl ?_
            show SS p e below m T215 111 #[vR (a_o), vD ((own_D x)), s_, vD ((own_D (own_rn ((own_rn ((own_rn (x + p0)) + p1)) + p2)))), s_, vI (2), vI (3), vD ((own_D p2)), s_, vD ((own_D (own_rn ((own_rn ((own_rn (x + p0)) + p1)) + p2)))), s_, vD ((own_D ((own_rn ((own_rn (x + p0)) + p1)) + p2 - (own_rn ((own_rn ((own_rn (x + p0)) + p1)) + p2))))), s_] [(.double (own_D (own_rn ((own_rn ((own_rn (x + p0)) + p1)) + p2)))), (.int 1), (.ref pa)] _
            refine st221 _ ?_
            show SS p e below m T221 112 #[vR (a_o), vD ((own_D x)), s_, vD ((own_D (own_rn ((own_rn ((own_rn (x + p0)) + p1)) + p2)))), s_, vI (2), vI (3), vD ((own_D p2)), s_, vD ((own_D (own_rn ((own_rn ((own_rn (x + p0)) + p1)) + p2)))), s_, vD ((own_D ((own_rn ((own_rn (x + p0)) + p1)) + p2 - (own_rn ((own_rn ((own_rn (x + p0)) + p1)) + p2))))), s_] [] _
            refine XS.aloadN X221.here hx rfl (hb hby d3_112) rfl rfl ?_
            refine XS.iload X221.here hx rfl (hb hby d3_113) rfl ?_
            show SS p e below m T221 115 #[vR (a_o), vD ((own_D x)), s_, vD ((own_D (own_rn ((own_rn ((own_rn (x + p0)) + p1)) + p2)))), s_, vI (2), vI (3), vD ((own_D p2)), s_, vD ((own_D (own_rn ((own_rn ((own_rn (x + p0)) + p1)) + p2)))), s_, vD ((own_D ((own_rn ((own_rn (x + p0)) + p1)) + p2 - (own_rn ((own_rn ((own_rn (x + p0)) + p1)) + p2))))), s_] [(.int 2), (.ref a_o)] _
            refine st231 _ ?_
            show SS p e below m T231 118 #[vR (a_o), vD ((own_D x)), s_, vD ((own_D (own_rn ((own_rn ((own_rn (x + p0)) + p1)) + p2)))), s_, vI (2), vI (3), vD ((own_D p2)), s_, vD ((own_D (own_rn ((own_rn ((own_rn (x + p0)) + p1)) + p2)))), s_, vD ((own_D ((own_rn ((own_rn (x + p0)) + p1)) + p2 - (own_rn ((own_rn ((own_rn (x + p0)) + p1)) + p2))))), s_] [] _
            exact X231.returnOut hx Bd.returns (hb hby d3_118) hr
          · show Qown_add3 Z x a_o pa k_p p0 p1 p2 w3 h0 n0 _ T231.heap _
            rw [e231]
            have hv : (own_add3_f x p0 p1 p2) = [((own_rn ((own_rn (x + p0)) + p1)) + p2 - (own_rn ((own_rn ((own_rn (x + p0)) + p1)) + p2))), (own_rn ((own_rn ((own_rn (x + p0)) + p1)) + p2))] := by unfold own_add3_f; rw [if_pos hc46_37, if_pos hc46_72, if_neg hc46_107, if_neg hc73_193]
            have Fq236 : Fld Z h231 a_o "com/example/merit/merit/ExactSum" "partials" "[D" (.ref pa) := ((Fq208.other W221 (Or.inl hne)).other W231 (Or.inr (slot_ne (Or.inl (hw _ (gm 11 rfl))) (Or.inl (hw _ (gm 18 rfl))) (by decide) (t := (.array .double)) (t' := .int) (by decide) (by decide))))
            have Fq237 : Arv Z h231 pa k_p .double (4 : Int32) [(.double (own_D ((own_rn ((own_rn (x + p0)) + p1)) + p2 - (own_rn ((own_rn ((own_rn (x + p0)) + p1)) + p2))))), (.double (own_D (own_rn ((own_rn ((own_rn (x + p0)) + p1)) + p2)))), (.double (own_D p2)), w3] (.double FP.dconst0) := (Vm222.other W231 (Ne.symm hne))
            exact ⟨[(.double (own_D ((own_rn ((own_rn (x + p0)) + p1)) + p2 - (own_rn ((own_rn ((own_rn (x + p0)) + p1)) + p2))))), (.double (own_D (own_rn ((own_rn ((own_rn (x + p0)) + p1)) + p2)))), (.double (own_D p2)), w3], rfl, N234, Kc232, Fq236, Fq237, (by rw [hv]; exact Fw231), (by rw [hv]; exact ⟨rfl, rfl⟩)⟩
    · obtain ⟨T240, X240, e240, st240⟩ := getF X63 hx hZ hown (host := "") (Or.inl (hw _ (gm 10 rfl))) Via.refl eh63 hfp (g := (mkF m 50 #[vR (a_o), vD ((own_D x)), s_, vD ((own_D (own_rn (x + p0)))), s_, vI (0), vI (1), vD ((own_D p1)), s_, vD ((own_D (own_rn ((own_rn (x + p0)) + p1)))), s_, vD ((own_D ((own_rn (x + p0)) + p1 - (own_rn ((own_rn (x + p0)) + p1))))), s_] [(.ref a_o)])) rfl rfl (hb hby d3_50)
      obtain ⟨cl245, Ar245, q245, S245, M245, H245, G245⟩ := id hA
      have hin245 : ¬ ((0 : Int32) < 0 ∨ cl245.slots.size ≤ ((0 : Int32)).toNatClampNeg) := inb_of S245 ⟨by decide, by decide⟩
      obtain ⟨T246, h246, X246, e246, W246, st246⟩ := stD X240 hx hZ e240 Ar245 (j := (0 : Int32)) hin245 (g := (mkF m 60 #[vR (a_o), vD ((own_D x)), s_, vD ((own_D (own_rn (x + p0)))), s_, vI (1), vI (1), vD ((own_D p1)), s_, vD ((own_D (own_rn ((own_rn (x + p0)) + p1)))), s_, vD ((own_D ((own_rn (x + p0)) + p1 - (own_rn ((own_rn (x + p0)) + p1))))), s_] [(.double (own_D ((own_rn (x + p0)) + p1 - (own_rn ((own_rn (x + p0)) + p1))))), (.int 0), (.ref pa)])) rfl rfl (hb hby d3_60)
      have Kc248 : Keep h0 h246 [a_o, pa] := (Keep.refl h0 [a_o, pa]).wr W246 (Or.inl (ga 1 rfl))
      have Zs249 : n0 ≤ h246.size := Nat.le_trans Z0 (Keep.of_wr W246).1
      have N250 := Fr.snoc X246 N64 hgp
      have Vm247 : Arv Z h246 pa k_p .double (4 : Int32) [(.double (own_D ((own_rn (x + p0)) + p1 - (own_rn ((own_rn (x + p0)) + p1))))), (.double (own_D p1)), (.double (own_D p2)), w3] (.double FP.dconst0) := Arv.set Ar245 q245 S245 M245 H245 G245 rfl W246 0 rfl (Nat.le_of_ble_eq_true rfl)
      have Fq258 : Fld Z h246 a_o "com/example/merit/merit/ExactSum" "count" "I" (.int 3) := (hfc.other W246 (Or.inl hne))
      obtain ⟨T259, X259, e259, st259⟩ := getF X246 hx hZ hown (host := "") (Or.inl (hw _ (gm 17 rfl))) Via.refl e246 Fq258 (g := (mkF m 11 #[vR (a_o), vD ((own_D x)), s_, vD ((own_D (own_rn ((own_rn (x + p0)) + p1)))), s_, vI (1), vI (2), vD ((own_D p1)), s_, vD ((own_D (own_rn ((own_rn (x + p0)) + p1)))), s_, vD ((own_D ((own_rn (x + p0)) + p1 - (own_rn ((own_rn (x + p0)) + p1))))), s_] [(.ref a_o), (.int 2)])) rfl rfl (hb hby d3_11)
      have Fq263 : Fld Z h246 a_o "com/example/merit/merit/ExactSum" "partials" "[D" (.ref pa) := (hfp.other W246 (Or.inl hne))
      obtain ⟨T264, X264, e264, st264⟩ := getF X259 hx hZ hown (host := "") (Or.inl (hw _ (gm 10 rfl))) Via.refl e259 Fq263 (g := (mkF m 18 #[vR (a_o), vD ((own_D x)), s_, vD ((own_D (own_rn ((own_rn (x + p0)) + p1)))), s_, vI (1), vI (2), vD ((own_D p1)), s_, vD ((own_D (own_rn ((own_rn (x + p0)) + p1)))), s_, vD ((own_D ((own_rn (x + p0)) + p1 - (own_rn ((own_rn (x + p0)) + p1))))), s_] [(.ref a_o)])) rfl rfl (hb hby d3_18)
      obtain ⟨cl267, Ar267, q267, S267, M267, H267, G267⟩ := id Vm247
      have hin267 : ¬ ((2 : Int32) < 0 ∨ cl267.slots.size ≤ ((2 : Int32)).toNatClampNeg) := inb_of S267 ⟨by decide, by decide⟩
      have hat267 : cl267.slots[((2 : Int32)).toNatClampNeg]? = some (.double (own_D p2)) := H267.at hin267 rfl
      have hq272 : FP.dadd (own_D (own_rn ((own_rn (x + p0)) + p1))) (own_D p2) = own_D (own_rn ((own_rn ((own_rn (x + p0)) + p1)) + p2)) := own_Dadd (own_rrn _) hr2 (by omega) (by omega) (by omega) (by omega) (by omega) (by omega)
      have hq272E := own_errSm (n := (own_rn ((own_rn (x + p0)) + p1)) + p2) (by omega) (by omega)
      obtain ⟨_, _, ⟨T278, L278, k278, n278⟩, -, X278, ⟨Lc278, hQ278, l278, y278, z278⟩, st278⟩ := Jvm.LawKit.callS X264 hx (y := (⟨"com/example/merit/merit/ExactSum", "roundingError", "(DDD)D"⟩ : MethodName)) hown (mvT hZ (hw _ (gm 24 rfl))) (mvT hZ (hw _ (gm 25 rfl))) (mvT hZ (hw _ (gm 2 rfl))) (mvT hZ (hw _ (gm 26 rfl))) (by decide) (backOf (W := 0) (own_re l Z a0 hw [] (own_rn ((own_rn (x + p0)) + p1)) p2 (own_rn ((own_rn ((own_rn (x + p0)) + p1)) + p2)) h246 n0 Zs249 (own_rrn _) hr2 rfl (by omega)) hZ (hw _ (gm 26 rfl)) (hw _ (gm 2 rfl)) (by decide) (by decide)) (g := (mkF m 37 #[vR (a_o), vD ((own_D x)), s_, vD ((own_D (own_rn ((own_rn (x + p0)) + p1)))), s_, vI (1), vI (2), vD ((own_D p2)), s_, vD ((own_D (own_rn ((own_rn ((own_rn (x + p0)) + p1)) + p2)))), s_, vD ((own_D ((own_rn (x + p0)) + p1 - (own_rn ((own_rn (x + p0)) + p1))))), s_] [(.double (own_D (own_rn ((own_rn ((own_rn (x + p0)) + p1)) + p2)))), (.double (own_D p2)), (.double (own_D (own_rn ((own_rn (x + p0)) + p1))))])) rfl (by rw [hml]; rfl) (argsL := [(.double (own_D (own_rn ((own_rn (x + p0)) + p1)))), (.double (own_D p2)), (.double (own_D (own_rn ((own_rn ((own_rn (x + p0)) + p1)) + p2))))]) (rest := []) (lenOf own_pd0 rfl) rfl (by show 2 * 0 + _ ≤ _; exact Nat.le_of_eq rfl) (hb hby d3_37) (fun _ _ => ⟨rfl, e264, (by decide : 0 + 0 ≤ _), (by decide : 0 + 0 ≤ _)⟩)
      dsimp only [Pt.U, Pt.locs, Pt.cells, Pt.slots] at X278 l278 y278 z278 st278 hQ278
      rw [l278, y278, z278] at X278
      obtain ⟨rfl, Nq278, eh278⟩ := hQ278
      have N279 := Fr.app N250 Nq278
      have hRe280 : own_Rep ((own_rn ((own_rn (x + p0)) + p1)) + p2 - (own_rn ((own_rn ((own_rn (x + p0)) + p1)) + p2))) := own_repSm (by omega) (by omega)
      have pre286 : ∀ t, Steps p.tables e below (T278.setTop (mkF m 46 #[vR (a_o), vD ((own_D x)), s_, vD ((own_D (own_rn ((own_rn (x + p0)) + p1)))), s_, vI (1), vI (2), vD ((own_D p2)), s_, vD ((own_D (own_rn ((own_rn ((own_rn (x + p0)) + p1)) + p2)))), s_, vD ((own_D ((own_rn ((own_rn (x + p0)) + p1)) + p2 - (own_rn ((own_rn ((own_rn (x + p0)) + p1)) + p2))))), s_] [(.int (own_cmp ((own_rn ((own_rn (x + p0)) + p1)) + p2 - (own_rn ((own_rn ((own_rn (x + p0)) + p1)) + p2))) 0))])) t → Steps p.tables e below (s₁.setTop (entryFrame m #[(.ref a_o), (.double (own_D x))] 13)) t := by
        intro t kt
        refine pre71 _ ?_
        show SS p e below m T63 46 #[vR (a_o), vD ((own_D x)), s_, vD ((own_D (own_rn (x + p0)))), s_, vI (0), vI (1), vD ((own_D p1)), s_, vD ((own_D (own_rn ((own_rn (x + p0)) + p1)))), s_, vD ((own_D ((own_rn (x + p0)) + p1 - (own_rn ((own_rn (x + p0)) + p1))))), s_] [(.int (own_cmp ((own_rn (x + p0)) + p1 - (own_rn ((own_rn (x + p0)) + p1))) 0))] _
        refine XS.ifNo X63.here hx rfl (hb hby d3_46) rfl ((if0 _ _).trans (feq (fun q => hc46_72 (own_cmEq.mp q))).1) ?_
        refine XS.aloadN X63.here hx rfl (hb hby d3_49) rfl rfl ?_
        show SS p e below m T63 50 #[vR (a_o), vD ((own_D x)), s_, vD ((own_D (own_rn (x + p0)))), s_, vI (0), vI (1), vD ((own_D p1)), s_, vD ((own_D (own_rn ((own_rn (x + p0)) + p1)))), s_, vD ((own_D ((own_rn (x + p0)) + p1 - (own_rn ((own_rn (x + p0)) + p1))))), s_] [(.ref a_o)] _
        refine st240 _ ?_
        show SS p e below m T240 53 #[vR (a_o), vD ((own_D x)), s_, vD ((own_D (own_rn (x + p0)))), s_, vI (0), vI (1), vD ((own_D p1)), s_, vD ((own_D (own_rn ((own_rn (x + p0)) + p1)))), s_, vD ((own_D ((own_rn (x + p0)) + p1 - (own_rn ((own_rn (x + p0)) + p1))))), s_] [(.ref pa)] _
        refine XS.iload X240.here hx rfl (hb hby d3_53) rfl ?_
        refine XS.iinc X240.here hx rfl (hb hby d3_55) rfl (l' := #[vR (a_o), vD ((own_D x)), s_, vD ((own_D (own_rn (x + p0)))), s_, vI (1), vI (1), vD ((own_D p1)), s_, vD ((own_D (own_rn ((own_rn (x + p0)) + p1)))), s_, vD ((own_D ((own_rn (x + p0)) + p1 - (own_rn ((own_rn (x + p0)) + p1))))), s_]) rfl ?_
        refine XS.dload X240.here hx rfl (hb hby d3_58) rfl ?_
        show SS p e below m T240 60 #[vR (a_o), vD ((own_D x)), s_, vD ((own_D (own_rn (x + p0)))), s_, vI (1), vI (1), vD ((own_D p1)), s_, vD ((own_D (own_rn ((own_rn (x + p0)) + p1)))), s_, vD ((own_D ((own_rn (x + p0)) + p1 - (own_rn ((own_rn (x + p0)) + p1))))), s_] [(.double (own_D ((own_rn (x + p0)) + p1 - (own_rn ((own_rn (x + p0)) + p1))))), (.int 0), (.ref pa)] _
        refine st246 _ ?_
        show SS p e below m T246 61 #[vR (a_o), vD ((own_D x)), s_, vD ((own_D (own_rn (x + p0)))), s_, vI (1), vI (1), vD ((own_D p1)), s_, vD ((own_D (own_rn ((own_rn (x + p0)) + p1)))), s_, vD ((own_D ((own_rn (x + p0)) + p1 - (own_rn ((own_rn (x + p0)) + p1))))), s_] [] _
        refine XS.dload X246.here hx rfl (hb hby d3_61) rfl ?_
        refine XS.dstoreN X246.here hx rfl (hb hby d3_63) rfl (l' := #[vR (a_o), vD ((own_D x)), s_, vD ((own_D (own_rn ((own_rn (x + p0)) + p1)))), s_, vI (1), vI (1), vD ((own_D p1)), s_, vD ((own_D (own_rn ((own_rn (x + p0)) + p1)))), s_, vD ((own_D ((own_rn (x + p0)) + p1 - (own_rn ((own_rn (x + p0)) + p1))))), s_]) rfl ?_
        refine XS.iinc X246.here hx rfl (hb hby d3_64) rfl (l' := #[vR (a_o), vD ((own_D x)), s_, vD ((own_D (own_rn ((own_rn (x + p0)) + p1)))), s_, vI (1), vI (2), vD ((own_D p1)), s_, vD ((own_D (own_rn ((own_rn (x + p0)) + p1)))), s_, vD ((own_D ((own_rn (x + p0)) + p1 - (own_rn ((own_rn (x + p0)) + p1))))), s_]) rfl ?_
        show SS p e below m T246 67 #[vR (a_o), vD ((own_D x)), s_, vD ((own_D (own_rn ((own_rn (x + p0)) + p1)))), s_, vI (1), vI (2), vD ((own_D p1)), s_, vD ((own_D (own_rn ((own_rn (x + p0)) + p1)))), s_, vD ((own_D ((own_rn (x + p0)) + p1 - (own_rn ((own_rn (x + p0)) + p1))))), s_] [] _
        refine XS.goto X246.here hx rfl (pc0 := 67) (pc' := 8) rfl (hb hby d3_67) (by decide) (by decide) ?_
        refine XS.iload X246.here hx rfl (hb hby d3_8) rfl ?_
        refine XS.aloadN X246.here hx rfl (hb hby d3_10) rfl rfl ?_
        show SS p e below m T246 11 #[vR (a_o), vD ((own_D x)), s_, vD ((own_D (own_rn ((own_rn (x + p0)) + p1)))), s_, vI (1), vI (2), vD ((own_D p1)), s_, vD ((own_D (own_rn ((own_rn (x + p0)) + p1)))), s_, vD ((own_D ((own_rn (x + p0)) + p1 - (own_rn ((own_rn (x + p0)) + p1))))), s_] [(.ref a_o), (.int 2)] _
        refine st259 _ ?_
        show SS p e below m T259 14 #[vR (a_o), vD ((own_D x)), s_, vD ((own_D (own_rn ((own_rn (x + p0)) + p1)))), s_, vI (1), vI (2), vD ((own_D p1)), s_, vD ((own_D (own_rn ((own_rn (x + p0)) + p1)))), s_, vD ((own_D ((own_rn (x + p0)) + p1 - (own_rn ((own_rn (x + p0)) + p1))))), s_] [(.int 3), (.int 2)] _
        refine XS.icmpNo X259.here hx rfl (hb hby d3_14) rfl (tlt ((by decide) : (2 : Int32) < (3 : Int32))).2.1 ?_
        refine XS.aloadN X259.here hx rfl (hb hby d3_17) rfl rfl ?_
        show SS p e below m T259 18 #[vR (a_o), vD ((own_D x)), s_, vD ((own_D (own_rn ((own_rn (x + p0)) + p1)))), s_, vI (1), vI (2), vD ((own_D p1)), s_, vD ((own_D (own_rn ((own_rn (x + p0)) + p1)))), s_, vD ((own_D ((own_rn (x + p0)) + p1 - (own_rn ((own_rn (x + p0)) + p1))))), s_] [(.ref a_o)] _
        refine st264 _ ?_
        show SS p e below m T264 21 #[vR (a_o), vD ((own_D x)), s_, vD ((own_D (own_rn ((own_rn (x + p0)) + p1)))), s_, vI (1), vI (2), vD ((own_D p1)), s_, vD ((own_D (own_rn ((own_rn (x + p0)) + p1)))), s_, vD ((own_D ((own_rn (x + p0)) + p1 - (own_rn ((own_rn (x + p0)) + p1))))), s_] [(.ref pa)] _
        refine XS.iload X264.here hx rfl (hb hby d3_21) rfl ?_
        show SS p e below m T264 23 #[vR (a_o), vD ((own_D x)), s_, vD ((own_D (own_rn ((own_rn (x + p0)) + p1)))), s_, vI (1), vI (2), vD ((own_D p1)), s_, vD ((own_D (own_rn ((own_rn (x + p0)) + p1)))), s_, vD ((own_D ((own_rn (x + p0)) + p1 - (own_rn ((own_rn (x + p0)) + p1))))), s_] [(.int 2), (.ref pa)] _
        refine X264.daload hx (j := (2 : Int32)) (v := (.double (own_D p2))) (by rw [e264]; exact Ar267.1) (State.isArrayOf_alike hZ.alike Ar267.2.1) Ar267.2.2 hin267 hat267 (g := (mkF m 23 #[vR (a_o), vD ((own_D x)), s_, vD ((own_D (own_rn ((own_rn (x + p0)) + p1)))), s_, vI (1), vI (2), vD ((own_D p1)), s_, vD ((own_D (own_rn ((own_rn (x + p0)) + p1)))), s_, vD ((own_D ((own_rn (x + p0)) + p1 - (own_rn ((own_rn (x + p0)) + p1))))), s_] [(.int 2), (.ref pa)])) rfl rfl (hb hby d3_23) _ ?_
        show SS p e below m T264 24 #[vR (a_o), vD ((own_D x)), s_, vD ((own_D (own_rn ((own_rn (x + p0)) + p1)))), s_, vI (1), vI (2), vD ((own_D p1)), s_, vD ((own_D (own_rn ((own_rn (x + p0)) + p1)))), s_, vD ((own_D ((own_rn (x + p0)) + p1 - (own_rn ((own_rn (x + p0)) + p1))))), s_] [(.double (own_D p2))] _
        refine XS.dstore X264.here hx rfl (hb hby d3_24) rfl (l' := #[vR (a_o), vD ((own_D x)), s_, vD ((own_D (own_rn ((own_rn (x + p0)) + p1)))), s_, vI (1), vI (2), vD ((own_D p2)), s_, vD ((own_D (own_rn ((own_rn (x + p0)) + p1)))), s_, vD ((own_D ((own_rn (x + p0)) + p1 - (own_rn ((own_rn (x + p0)) + p1))))), s_]) rfl ?_
        refine XS.dloadN X264.here hx rfl (hb hby d3_26) rfl ?_
        refine XS.dload X264.here hx rfl (hb hby d3_27) rfl ?_
        show SS p e below m T264 29 #[vR (a_o), vD ((own_D x)), s_, vD ((own_D (own_rn ((own_rn (x + p0)) + p1)))), s_, vI (1), vI (2), vD ((own_D p2)), s_, vD ((own_D (own_rn ((own_rn (x + p0)) + p1)))), s_, vD ((own_D ((own_rn (x + p0)) + p1 - (own_rn ((own_rn (x + p0)) + p1))))), s_] [(.double (own_D p2)), (.double (own_D (own_rn ((own_rn (x + p0)) + p1))))] _
        refine XS.daddS X264.here hx rfl (hb hby d3_29) rfl (nn_w (a := Int64.ofInt (own_rn ((own_rn ((own_rn (x + p0)) + p1)) + p2))) hq272) hq272 ?_
        show SS p e below m T264 30 #[vR (a_o), vD ((own_D x)), s_, vD ((own_D (own_rn ((own_rn (x + p0)) + p1)))), s_, vI (1), vI (2), vD ((own_D p2)), s_, vD ((own_D (own_rn ((own_rn (x + p0)) + p1)))), s_, vD ((own_D ((own_rn (x + p0)) + p1 - (own_rn ((own_rn (x + p0)) + p1))))), s_] [(.double (own_D (own_rn ((own_rn ((own_rn (x + p0)) + p1)) + p2))))] _
        refine XS.dstore X264.here hx rfl (hb hby d3_30) rfl (l' := #[vR (a_o), vD ((own_D x)), s_, vD ((own_D (own_rn ((own_rn (x + p0)) + p1)))), s_, vI (1), vI (2), vD ((own_D p2)), s_, vD ((own_D (own_rn ((own_rn ((own_rn (x + p0)) + p1)) + p2)))), s_, vD ((own_D ((own_rn (x + p0)) + p1 - (own_rn ((own_rn (x + p0)) + p1))))), s_]) rfl ?_
        refine XS.dloadN X264.here hx rfl (hb hby d3_32) rfl ?_
        refine XS.dload X264.here hx rfl (hb hby d3_33) rfl ?_
        show SS p e below m T264 35 #[vR (a_o), vD ((own_D x)), s_, vD ((own_D (own_rn ((own_rn (x + p0)) + p1)))), s_, vI (1), vI (2), vD ((own_D p2)), s_, vD ((own_D (own_rn ((own_rn ((own_rn (x + p0)) + p1)) + p2)))), s_, vD ((own_D ((own_rn (x + p0)) + p1 - (own_rn ((own_rn (x + p0)) + p1))))), s_] [(.double (own_D p2)), (.double (own_D (own_rn ((own_rn (x + p0)) + p1))))] _
        refine XS.dload X264.here hx rfl (hb hby d3_35) rfl ?_
        show SS p e below m T264 37 #[vR (a_o), vD ((own_D x)), s_, vD ((own_D (own_rn ((own_rn (x + p0)) + p1)))), s_, vI (1), vI (2), vD ((own_D p2)), s_, vD ((own_D (own_rn ((own_rn ((own_rn (x + p0)) + p1)) + p2)))), s_, vD ((own_D ((own_rn (x + p0)) + p1 - (own_rn ((own_rn (x + p0)) + p1))))), s_] [(.double (own_D (own_rn ((own_rn ((own_rn (x + p0)) + p1)) + p2)))), (.double (own_D p2)), (.double (own_D (own_rn ((own_rn (x + p0)) + p1))))] _
        refine st278 _ ?_
        show SS p e below m T278 40 #[vR (a_o), vD ((own_D x)), s_, vD ((own_D (own_rn ((own_rn (x + p0)) + p1)))), s_, vI (1), vI (2), vD ((own_D p2)), s_, vD ((own_D (own_rn ((own_rn ((own_rn (x + p0)) + p1)) + p2)))), s_, vD ((own_D ((own_rn (x + p0)) + p1 - (own_rn ((own_rn (x + p0)) + p1))))), s_] [(.double (own_D ((own_rn ((own_rn (x + p0)) + p1)) + p2 - (own_rn ((own_rn ((own_rn (x + p0)) + p1)) + p2)))))] _
        refine XS.dstore X278.here hx rfl (hb hby d3_40) rfl (l' := #[vR (a_o), vD ((own_D x)), s_, vD ((own_D (own_rn ((own_rn (x + p0)) + p1)))), s_, vI (1), vI (2), vD ((own_D p2)), s_, vD ((own_D (own_rn ((own_rn ((own_rn (x + p0)) + p1)) + p2)))), s_, vD ((own_D ((own_rn ((own_rn (x + p0)) + p1)) + p2 - (own_rn ((own_rn ((own_rn (x + p0)) + p1)) + p2))))), s_]) rfl ?_
        refine XS.dload X278.here hx rfl (hb hby d3_42) rfl ?_
        refine XS.dconst0 X278.here hx rfl (hb hby d3_44) own_c0 ?_
        show SS p e below m T278 45 #[vR (a_o), vD ((own_D x)), s_, vD ((own_D (own_rn ((own_rn (x + p0)) + p1)))), s_, vI (1), vI (2), vD ((own_D p2)), s_, vD ((own_D (own_rn ((own_rn ((own_rn (x + p0)) + p1)) + p2)))), s_, vD ((own_D ((own_rn ((own_rn (x + p0)) + p1)) + p2 - (own_rn ((own_rn ((own_rn (x + p0)) + p1)) + p2))))), s_] [(.double (own_D 0)), (.double (own_D ((own_rn ((own_rn (x + p0)) + p1)) + p2 - (own_rn ((own_rn ((own_rn (x + p0)) + p1)) + p2)))))] _
        refine XS.dcmpS X278.here hx rfl (hb hby d3_45) rfl (own_DcmpV hRe280 own_rep0 (by omega) (by omega) (by omega) (by omega) _) ?_
        exact kt
      by_cases hc46_287 : ((own_rn ((own_rn (x + p0)) + p1)) + p2 - (own_rn ((own_rn ((own_rn (x + p0)) + p1)) + p2))) = 0
      · obtain ⟨T295, X295, e295, st295⟩ := getF X278 hx hZ hown (host := "") (Or.inl (hw _ (gm 17 rfl))) Via.refl eh278 Fq258 (g := (mkF m 11 #[vR (a_o), vD ((own_D x)), s_, vD ((own_D (own_rn ((own_rn ((own_rn (x + p0)) + p1)) + p2)))), s_, vI (1), vI (3), vD ((own_D p2)), s_, vD ((own_D (own_rn ((own_rn ((own_rn (x + p0)) + p1)) + p2)))), s_, vD ((own_D ((own_rn ((own_rn (x + p0)) + p1)) + p2 - (own_rn ((own_rn ((own_rn (x + p0)) + p1)) + p2))))), s_] [(.ref a_o), (.int 3)])) rfl rfl (hb hby d3_11)
        have pre301 : ∀ t, Steps p.tables e below (T295.setTop (mkF m 73 #[vR (a_o), vD ((own_D x)), s_, vD ((own_D (own_rn ((own_rn ((own_rn (x + p0)) + p1)) + p2)))), s_, vI (1), vI (3), vD ((own_D p2)), s_, vD ((own_D (own_rn ((own_rn ((own_rn (x + p0)) + p1)) + p2)))), s_, vD ((own_D ((own_rn ((own_rn (x + p0)) + p1)) + p2 - (own_rn ((own_rn ((own_rn (x + p0)) + p1)) + p2))))), s_] [(.int (own_cmp (own_rn ((own_rn ((own_rn (x + p0)) + p1)) + p2)) 0))])) t → Steps p.tables e below (s₁.setTop (entryFrame m #[(.ref a_o), (.double (own_D x))] 13)) t := by
          intro t kt
          refine pre286 _ ?_
          show SS p e below m T278 46 #[vR (a_o), vD ((own_D x)), s_, vD ((own_D (own_rn ((own_rn (x + p0)) + p1)))), s_, vI (1), vI (2), vD ((own_D p2)), s_, vD ((own_D (own_rn ((own_rn ((own_rn (x + p0)) + p1)) + p2)))), s_, vD ((own_D ((own_rn ((own_rn (x + p0)) + p1)) + p2 - (own_rn ((own_rn ((own_rn (x + p0)) + p1)) + p2))))), s_] [(.int (own_cmp ((own_rn ((own_rn (x + p0)) + p1)) + p2 - (own_rn ((own_rn ((own_rn (x + p0)) + p1)) + p2))) 0))] _
          refine XS.ifYes X278.here hx rfl (pc0 := 46) (pc' := 61) rfl (hb hby d3_46) rfl ((if0 _ _).trans (teq (own_cmEq.mpr hc46_287)).1) (by decide) (by decide) ?_
          refine XS.dload X278.here hx rfl (hb hby d3_61) rfl ?_
          refine XS.dstoreN X278.here hx rfl (hb hby d3_63) rfl (l' := #[vR (a_o), vD ((own_D x)), s_, vD ((own_D (own_rn ((own_rn ((own_rn (x + p0)) + p1)) + p2)))), s_, vI (1), vI (2), vD ((own_D p2)), s_, vD ((own_D (own_rn ((own_rn ((own_rn (x + p0)) + p1)) + p2)))), s_, vD ((own_D ((own_rn ((own_rn (x + p0)) + p1)) + p2 - (own_rn ((own_rn ((own_rn (x + p0)) + p1)) + p2))))), s_]) rfl ?_
          show SS p e below m T278 64 #[vR (a_o), vD ((own_D x)), s_, vD ((own_D (own_rn ((own_rn ((own_rn (x + p0)) + p1)) + p2)))), s_, vI (1), vI (2), vD ((own_D p2)), s_, vD ((own_D (own_rn ((own_rn ((own_rn (x + p0)) + p1)) + p2)))), s_, vD ((own_D ((own_rn ((own_rn (x + p0)) + p1)) + p2 - (own_rn ((own_rn ((own_rn (x + p0)) + p1)) + p2))))), s_] [] _
          refine XS.iinc X278.here hx rfl (hb hby d3_64) rfl (l' := #[vR (a_o), vD ((own_D x)), s_, vD ((own_D (own_rn ((own_rn ((own_rn (x + p0)) + p1)) + p2)))), s_, vI (1), vI (3), vD ((own_D p2)), s_, vD ((own_D (own_rn ((own_rn ((own_rn (x + p0)) + p1)) + p2)))), s_, vD ((own_D ((own_rn ((own_rn (x + p0)) + p1)) + p2 - (own_rn ((own_rn ((own_rn (x + p0)) + p1)) + p2))))), s_]) rfl ?_
          refine XS.goto X278.here hx rfl (pc0 := 67) (pc' := 8) rfl (hb hby d3_67) (by decide) (by decide) ?_
          refine XS.iload X278.here hx rfl (hb hby d3_8) rfl ?_
          show SS p e below m T278 10 #[vR (a_o), vD ((own_D x)), s_, vD ((own_D (own_rn ((own_rn ((own_rn (x + p0)) + p1)) + p2)))), s_, vI (1), vI (3), vD ((own_D p2)), s_, vD ((own_D (own_rn ((own_rn ((own_rn (x + p0)) + p1)) + p2)))), s_, vD ((own_D ((own_rn ((own_rn (x + p0)) + p1)) + p2 - (own_rn ((own_rn ((own_rn (x + p0)) + p1)) + p2))))), s_] [(.int 3)] _
          refine XS.aloadN X278.here hx rfl (hb hby d3_10) rfl rfl ?_
          show SS p e below m T278 11 #[vR (a_o), vD ((own_D x)), s_, vD ((own_D (own_rn ((own_rn ((own_rn (x + p0)) + p1)) + p2)))), s_, vI (1), vI (3), vD ((own_D p2)), s_, vD ((own_D (own_rn ((own_rn ((own_rn (x + p0)) + p1)) + p2)))), s_, vD ((own_D ((own_rn ((own_rn (x + p0)) + p1)) + p2 - (own_rn ((own_rn ((own_rn (x + p0)) + p1)) + p2))))), s_] [(.ref a_o), (.int 3)] _
          refine st295 _ ?_
          show SS p e below m T295 14 #[vR (a_o), vD ((own_D x)), s_, vD ((own_D (own_rn ((own_rn ((own_rn (x + p0)) + p1)) + p2)))), s_, vI (1), vI (3), vD ((own_D p2)), s_, vD ((own_D (own_rn ((own_rn ((own_rn (x + p0)) + p1)) + p2)))), s_, vD ((own_D ((own_rn ((own_rn (x + p0)) + p1)) + p2 - (own_rn ((own_rn ((own_rn (x + p0)) + p1)) + p2))))), s_] [(.int 3), (.int 3)] _
          refine XS.icmpYes X295.here hx rfl (pc0 := 14) (pc' := 70) rfl (hb hby d3_14) rfl (flt ((by decide) : ¬ ((3 : Int32) < (3 : Int32)))).2.1 (by decide) (by decide) ?_
          refine XS.dloadN X295.here hx rfl (hb hby d3_70) rfl ?_
          refine XS.dconst0 X295.here hx rfl (hb hby d3_71) own_c0 ?_
          show SS p e below m T295 72 #[vR (a_o), vD ((own_D x)), s_, vD ((own_D (own_rn ((own_rn ((own_rn (x + p0)) + p1)) + p2)))), s_, vI (1), vI (3), vD ((own_D p2)), s_, vD ((own_D (own_rn ((own_rn ((own_rn (x + p0)) + p1)) + p2)))), s_, vD ((own_D ((own_rn ((own_rn (x + p0)) + p1)) + p2 - (own_rn ((own_rn ((own_rn (x + p0)) + p1)) + p2))))), s_] [(.double (own_D 0)), (.double (own_D (own_rn ((own_rn ((own_rn (x + p0)) + p1)) + p2))))] _
          refine XS.dcmpS X295.here hx rfl (hb hby d3_72) rfl (own_DcmpV (own_rrn _) own_rep0 (by omega) (by omega) (by omega) (by omega) _) ?_
          exact kt
        by_cases hc73_302 : (own_rn ((own_rn ((own_rn (x + p0)) + p1)) + p2)) = 0
        · have Fq306 : Exa Z h246 a_o "com/example/merit/merit/ExactSum" := (hxa.wr W246)
          obtain ⟨T307, h307, X307, e307, W307, st307⟩ := putF X295 hx hZ hown (host := "") (Or.inl (hw _ (gm 17 rfl))) Via.refl e295 Fq258 Fq306 (Or.inl (hw _ (gm 18 rfl))) (hw _ (gm 1 rfl)) (ty := .int) (by decide) rfl rfl (g := (mkF m 115 #[vR (a_o), vD ((own_D x)), s_, vD ((own_D (own_rn ((own_rn ((own_rn (x + p0)) + p1)) + p2)))), s_, vI (1), vI (3), vD ((own_D p2)), s_, vD ((own_D (own_rn ((own_rn ((own_rn (x + p0)) + p1)) + p2)))), s_, vD ((own_D ((own_rn ((own_rn (x + p0)) + p1)) + p2 - (own_rn ((own_rn ((own_rn (x + p0)) + p1)) + p2))))), s_] [(.int 1), (.ref a_o)])) rfl rfl (hb hby d3_115)
          have Kc308 : Keep h0 h307 [a_o, pa] := Kc248.wr W307 (Or.inl (ga 0 rfl))
          have Zs309 : n0 ≤ h307.size := Nat.le_trans Zs249 (Keep.of_wr W307).1
          have N310 := Fr.snoc X307 N279 hg
          have Fw307 : Fld Z h307 a_o "com/example/merit/merit/ExactSum" "count" "I" (.int 1) := Fq258.same W307
          obtain ⟨fs, hr, hrun, hended, hW, hsame⟩ := X307.leave (v := none) (fun _ => rfl) (hlocks := BodyLoose.notSynchronized Bd)
          refine ⟨_, _, pre301 _ ?_, hrun, hended, _, _, rfl, ?_, ⟨_, rfl⟩, hW, hsame.mono (by decide) (by decide)⟩
          · show SS p e below m T295 73 #[vR (a_o), vD ((own_D x)), s_, vD ((own_D (own_rn ((own_rn ((own_rn (x + p0)) + p1)) + p2)))), s_, vI (1), vI (3), vD ((own_D p2)), s_, vD ((own_D (own_rn ((own_rn ((own_rn (x + p0)) + p1)) + p2)))), s_, vD ((own_D ((own_rn ((own_rn (x + p0)) + p1)) + p2 - (own_rn ((own_rn ((own_rn (x + p0)) + p1)) + p2))))), s_] [(.int (own_cmp (own_rn ((own_rn ((own_rn (x + p0)) + p1)) + p2)) 0))] _
            refine XS.ifYes X295.here hx rfl (pc0 := 73) (pc' := 112) rfl (hb hby d3_73) rfl ((if0 _ _).trans (teq (own_cmEq.mpr hc73_302)).1) (by decide) (by decide) ?_
            refine XS.aloadN X295.here hx rfl (hb hby d3_112) rfl rfl ?_
            refine XS.iload X295.here hx rfl (hb hby d3_113) rfl ?_
            show SS p e below m T295 115 #[vR (a_o), vD ((own_D x)), s_, vD ((own_D (own_rn ((own_rn ((own_rn (x + p0)) + p1)) + p2)))), s_, vI (1), vI (3), vD ((own_D p2)), s_, vD ((own_D (own_rn ((own_rn ((own_rn (x + p0)) + p1)) + p2)))), s_, vD ((own_D ((own_rn ((own_rn (x + p0)) + p1)) + p2 - (own_rn ((own_rn ((own_rn (x + p0)) + p1)) + p2))))), s_] [(.int 1), (.ref a_o)] _
            refine st307 _ ?_
            show SS p e below m T307 118 #[vR (a_o), vD ((own_D x)), s_, vD ((own_D (own_rn ((own_rn ((own_rn (x + p0)) + p1)) + p2)))), s_, vI (1), vI (3), vD ((own_D p2)), s_, vD ((own_D (own_rn ((own_rn ((own_rn (x + p0)) + p1)) + p2)))), s_, vD ((own_D ((own_rn ((own_rn (x + p0)) + p1)) + p2 - (own_rn ((own_rn ((own_rn (x + p0)) + p1)) + p2))))), s_] [] _
            exact X307.returnOut hx Bd.returns (hb hby d3_118) hr
          · show Qown_add3 Z x a_o pa k_p p0 p1 p2 w3 h0 n0 _ T307.heap _
            rw [e307]
            have hv : (own_add3_f x p0 p1 p2) = [((own_rn (x + p0)) + p1 - (own_rn ((own_rn (x + p0)) + p1)))] := by unfold own_add3_f; rw [if_pos hc46_37, if_neg hc46_72, if_pos hc46_287, if_pos hc73_302]
            have Fq312 : Fld Z h307 a_o "com/example/merit/merit/ExactSum" "partials" "[D" (.ref pa) := (Fq263.other W307 (Or.inr (slot_ne (Or.inl (hw _ (gm 11 rfl))) (Or.inl (hw _ (gm 18 rfl))) (by decide) (t := (.array .double)) (t' := .int) (by decide) (by decide))))
            have Fq313 : Arv Z h307 pa k_p .double (4 : Int32) [(.double (own_D ((own_rn (x + p0)) + p1 - (own_rn ((own_rn (x + p0)) + p1))))), (.double (own_D p1)), (.double (own_D p2)), w3] (.double FP.dconst0) := (Vm247.other W307 (Ne.symm hne))
            exact ⟨[(.double (own_D ((own_rn (x + p0)) + p1 - (own_rn ((own_rn (x + p0)) + p1))))), (.double (own_D p1)), (.double (own_D p2)), w3], rfl, N310, Kc308, Fq312, Fq313, (by rw [hv]; exact Fw307), (by rw [hv]; exact ⟨rfl, rfl⟩)⟩
        · obtain ⟨T317, X317, e317, st317⟩ := getF X295 hx hZ hown (host := "") (Or.inl (hw _ (gm 10 rfl))) Via.refl e295 Fq263 (g := (mkF m 79 #[vR (a_o), vD ((own_D x)), s_, vD ((own_D (own_rn ((own_rn ((own_rn (x + p0)) + p1)) + p2)))), s_, vI (1), vI (3), vD ((own_D p2)), s_, vD ((own_D (own_rn ((own_rn ((own_rn (x + p0)) + p1)) + p2)))), s_, vD ((own_D ((own_rn ((own_rn (x + p0)) + p1)) + p2 - (own_rn ((own_rn ((own_rn (x + p0)) + p1)) + p2))))), s_] [(.ref a_o), (.int 1)])) rfl rfl (hb hby d3_79)
          obtain ⟨cl319, Ar319, -, S319, M319, -, -⟩ := id Vm247
          obtain ⟨T323, X323, e323, st323⟩ := getF X317 hx hZ hown (host := "") (Or.inl (hw _ (gm 10 rfl))) Via.refl e317 Fq263 (g := (mkF m 102 #[vR (a_o), vD ((own_D x)), s_, vD ((own_D (own_rn ((own_rn ((own_rn (x + p0)) + p1)) + p2)))), s_, vI (1), vI (3), vD ((own_D p2)), s_, vD ((own_D (own_rn ((own_rn ((own_rn (x + p0)) + p1)) + p2)))), s_, vD ((own_D ((own_rn ((own_rn (x + p0)) + p1)) + p2 - (own_rn ((own_rn ((own_rn (x + p0)) + p1)) + p2))))), s_] [(.ref a_o)])) rfl rfl (hb hby d3_102)
          obtain ⟨cl328, Ar328, q328, S328, M328, H328, G328⟩ := id Vm247
          have hin328 : ¬ ((1 : Int32) < 0 ∨ cl328.slots.size ≤ ((1 : Int32)).toNatClampNeg) := inb_of S328 ⟨by decide, by decide⟩
          obtain ⟨T329, h329, X329, e329, W329, st329⟩ := stD X323 hx hZ e323 Ar328 (j := (1 : Int32)) hin328 (g := (mkF m 111 #[vR (a_o), vD ((own_D x)), s_, vD ((own_D (own_rn ((own_rn ((own_rn (x + p0)) + p1)) + p2)))), s_, vI (2), vI (3), vD ((own_D p2)), s_, vD ((own_D (own_rn ((own_rn ((own_rn (x + p0)) + p1)) + p2)))), s_, vD ((own_D ((own_rn ((own_rn (x + p0)) + p1)) + p2 - (own_rn ((own_rn ((own_rn (x + p0)) + p1)) + p2))))), s_] [(.double (own_D (own_rn ((own_rn ((own_rn (x + p0)) + p1)) + p2)))), (.int 1), (.ref pa)])) rfl rfl (hb hby d3_111)
          have Kc331 : Keep h0 h329 [a_o, pa] := Kc248.wr W329 (Or.inl (ga 1 rfl))
          have Zs332 : n0 ≤ h329.size := Nat.le_trans Zs249 (Keep.of_wr W329).1
          have N333 := Fr.snoc X329 N279 hgp
          have Vm330 : Arv Z h329 pa k_p .double (4 : Int32) [(.double (own_D ((own_rn (x + p0)) + p1 - (own_rn ((own_rn (x + p0)) + p1))))), (.double (own_D (own_rn ((own_rn ((own_rn (x + p0)) + p1)) + p2)))), (.double (own_D p2)), w3] (.double FP.dconst0) := Arv.set Ar328 q328 S328 M328 H328 G328 rfl W329 1 rfl (Nat.le_of_ble_eq_true rfl)
          have Fq337 : Exa Z h329 a_o "com/example/merit/merit/ExactSum" := ((hxa.wr W246).wr W329)
          have Fq338 : Fld Z h329 a_o "com/example/merit/merit/ExactSum" "count" "I" (.int 3) := (Fq258.other W329 (Or.inl hne))
          obtain ⟨T339, h339, X339, e339, W339, st339⟩ := putF X329 hx hZ hown (host := "") (Or.inl (hw _ (gm 17 rfl))) Via.refl e329 Fq338 Fq337 (Or.inl (hw _ (gm 18 rfl))) (hw _ (gm 1 rfl)) (ty := .int) (by decide) rfl rfl (g := (mkF m 115 #[vR (a_o), vD ((own_D x)), s_, vD ((own_D (own_rn ((own_rn ((own_rn (x + p0)) + p1)) + p2)))), s_, vI (2), vI (3), vD ((own_D p2)), s_, vD ((own_D (own_rn ((own_rn ((own_rn (x + p0)) + p1)) + p2)))), s_, vD ((own_D ((own_rn ((own_rn (x + p0)) + p1)) + p2 - (own_rn ((own_rn ((own_rn (x + p0)) + p1)) + p2))))), s_] [(.int 2), (.ref a_o)])) rfl rfl (hb hby d3_115)
          have Kc340 : Keep h0 h339 [a_o, pa] := Kc331.wr W339 (Or.inl (ga 0 rfl))
          have Zs341 : n0 ≤ h339.size := Nat.le_trans Zs332 (Keep.of_wr W339).1
          have N342 := Fr.snoc X339 N333 hg
          have Fw339 : Fld Z h339 a_o "com/example/merit/merit/ExactSum" "count" "I" (.int 2) := Fq338.same W339
          obtain ⟨fs, hr, hrun, hended, hW, hsame⟩ := X339.leave (v := none) (fun _ => rfl) (hlocks := BodyLoose.notSynchronized Bd)
          refine ⟨_, _, pre301 _ ?_, hrun, hended, _, _, rfl, ?_, ⟨_, rfl⟩, hW, hsame.mono (by decide) (by decide)⟩
          · show SS p e below m T295 73 #[vR (a_o), vD ((own_D x)), s_, vD ((own_D (own_rn ((own_rn ((own_rn (x + p0)) + p1)) + p2)))), s_, vI (1), vI (3), vD ((own_D p2)), s_, vD ((own_D (own_rn ((own_rn ((own_rn (x + p0)) + p1)) + p2)))), s_, vD ((own_D ((own_rn ((own_rn (x + p0)) + p1)) + p2 - (own_rn ((own_rn ((own_rn (x + p0)) + p1)) + p2))))), s_] [(.int (own_cmp (own_rn ((own_rn ((own_rn (x + p0)) + p1)) + p2)) 0))] _
            refine XS.ifNo X295.here hx rfl (hb hby d3_73) rfl ((if0 _ _).trans (feq (fun q => hc73_302 (own_cmEq.mp q))).1) ?_
            refine XS.iload X295.here hx rfl (hb hby d3_76) rfl ?_
            refine XS.aloadN X295.here hx rfl (hb hby d3_78) rfl rfl ?_
            show SS p e below m T295 79 #[vR (a_o), vD ((own_D x)), s_, vD ((own_D (own_rn ((own_rn ((own_rn (x + p0)) + p1)) + p2)))), s_, vI (1), vI (3), vD ((own_D p2)), s_, vD ((own_D (own_rn ((own_rn ((own_rn (x + p0)) + p1)) + p2)))), s_, vD ((own_D ((own_rn ((own_rn (x + p0)) + p1)) + p2 - (own_rn ((own_rn ((own_rn (x + p0)) + p1)) + p2))))), s_] [(.ref a_o), (.int 1)] _
            refine st317 _ ?_
            show SS p e below m T317 82 #[vR (a_o), vD ((own_D x)), s_, vD ((own_D (own_rn ((own_rn ((own_rn (x + p0)) + p1)) + p2)))), s_, vI (1), vI (3), vD ((own_D p2)), s_, vD ((own_D (own_rn ((own_rn ((own_rn (x + p0)) + p1)) + p2)))), s_, vD ((own_D ((own_rn ((own_rn (x + p0)) + p1)) + p2 - (own_rn ((own_rn ((own_rn (x + p0)) + p1)) + p2))))), s_] [(.ref pa), (.int 1)] _
            refine X317.arraylength hx (by rw [e317]; exact Ar319.1) (State.isArrayOf_alike hZ.alike Ar319.2.1) (g := (mkF m 82 #[vR (a_o), vD ((own_D x)), s_, vD ((own_D (own_rn ((own_rn ((own_rn (x + p0)) + p1)) + p2)))), s_, vI (1), vI (3), vD ((own_D p2)), s_, vD ((own_D (own_rn ((own_rn ((own_rn (x + p0)) + p1)) + p2)))), s_, vD ((own_D ((own_rn ((own_rn (x + p0)) + p1)) + p2 - (own_rn ((own_rn ((own_rn (x + p0)) + p1)) + p2))))), s_] [(.ref pa), (.int 1)])) rfl rfl (hb hby d3_82) _ ?_
            rw [len_of S319 M319]
            show SS p e below m T317 83 #[vR (a_o), vD ((own_D x)), s_, vD ((own_D (own_rn ((own_rn ((own_rn (x + p0)) + p1)) + p2)))), s_, vI (1), vI (3), vD ((own_D p2)), s_, vD ((own_D (own_rn ((own_rn ((own_rn (x + p0)) + p1)) + p2)))), s_, vD ((own_D ((own_rn ((own_rn (x + p0)) + p1)) + p2 - (own_rn ((own_rn ((own_rn (x + p0)) + p1)) + p2))))), s_] [(.int 4), (.int 1)] _
            refine XS.icmpYes X317.here hx rfl (pc0 := 83) (pc' := 101) rfl (hb hby d3_83) rfl (feq ((by decide) : ¬ ((1 : Int32) = (4 : Int32)))).2 (by decide) (by decide) ?_
            refine XS.aloadN X317.here hx rfl (hb hby d3_101) rfl rfl ?_
            show SS p e below m T317 102 #[vR (a_o), vD ((own_D x)), s_, vD ((own_D (own_rn ((own_rn ((own_rn (x + p0)) + p1)) + p2)))), s_, vI (1), vI (3), vD ((own_D p2)), s_, vD ((own_D (own_rn ((own_rn ((own_rn (x + p0)) + p1)) + p2)))), s_, vD ((own_D ((own_rn ((own_rn (x + p0)) + p1)) + p2 - (own_rn ((own_rn ((own_rn (x + p0)) + p1)) + p2))))), s_] [(.ref a_o)] _
            refine st323 _ ?_
            show SS p e below m T323 105 #[vR (a_o), vD ((own_D x)), s_, vD ((own_D (own_rn ((own_rn ((own_rn (x + p0)) + p1)) + p2)))), s_, vI (1), vI (3), vD ((own_D p2)), s_, vD ((own_D (own_rn ((own_rn ((own_rn (x + p0)) + p1)) + p2)))), s_, vD ((own_D ((own_rn ((own_rn (x + p0)) + p1)) + p2 - (own_rn ((own_rn ((own_rn (x + p0)) + p1)) + p2))))), s_] [(.ref pa)] _
            refine XS.iload X323.here hx rfl (hb hby d3_105) rfl ?_
            refine XS.iinc X323.here hx rfl (hb hby d3_107) rfl (l' := #[vR (a_o), vD ((own_D x)), s_, vD ((own_D (own_rn ((own_rn ((own_rn (x + p0)) + p1)) + p2)))), s_, vI (2), vI (3), vD ((own_D p2)), s_, vD ((own_D (own_rn ((own_rn ((own_rn (x + p0)) + p1)) + p2)))), s_, vD ((own_D ((own_rn ((own_rn (x + p0)) + p1)) + p2 - (own_rn ((own_rn ((own_rn (x + p0)) + p1)) + p2))))), s_]) rfl ?_
            refine XS.dloadN X323.here hx rfl (hb hby d3_110) rfl ?_
            show SS p e below m T323 111 #[vR (a_o), vD ((own_D x)), s_, vD ((own_D (own_rn ((own_rn ((own_rn (x + p0)) + p1)) + p2)))), s_, vI (2), vI (3), vD ((own_D p2)), s_, vD ((own_D (own_rn ((own_rn ((own_rn (x + p0)) + p1)) + p2)))), s_, vD ((own_D ((own_rn ((own_rn (x + p0)) + p1)) + p2 - (own_rn ((own_rn ((own_rn (x + p0)) + p1)) + p2))))), s_] [(.double (own_D (own_rn ((own_rn ((own_rn (x + p0)) + p1)) + p2)))), (.int 1), (.ref pa)] _
            refine st329 _ ?_
            show SS p e below m T329 112 #[vR (a_o), vD ((own_D x)), s_, vD ((own_D (own_rn ((own_rn ((own_rn (x + p0)) + p1)) + p2)))), s_, vI (2), vI (3), vD ((own_D p2)), s_, vD ((own_D (own_rn ((own_rn ((own_rn (x + p0)) + p1)) + p2)))), s_, vD ((own_D ((own_rn ((own_rn (x + p0)) + p1)) + p2 - (own_rn ((own_rn ((own_rn (x + p0)) + p1)) + p2))))), s_] [] _
            refine XS.aloadN X329.here hx rfl (hb hby d3_112) rfl rfl ?_
            refine XS.iload X329.here hx rfl (hb hby d3_113) rfl ?_
            show SS p e below m T329 115 #[vR (a_o), vD ((own_D x)), s_, vD ((own_D (own_rn ((own_rn ((own_rn (x + p0)) + p1)) + p2)))), s_, vI (2), vI (3), vD ((own_D p2)), s_, vD ((own_D (own_rn ((own_rn ((own_rn (x + p0)) + p1)) + p2)))), s_, vD ((own_D ((own_rn ((own_rn (x + p0)) + p1)) + p2 - (own_rn ((own_rn ((own_rn (x + p0)) + p1)) + p2))))), s_] [(.int 2), (.ref a_o)] _
            refine st339 _ ?_
            show SS p e below m T339 118 #[vR (a_o), vD ((own_D x)), s_, vD ((own_D (own_rn ((own_rn ((own_rn (x + p0)) + p1)) + p2)))), s_, vI (2), vI (3), vD ((own_D p2)), s_, vD ((own_D (own_rn ((own_rn ((own_rn (x + p0)) + p1)) + p2)))), s_, vD ((own_D ((own_rn ((own_rn (x + p0)) + p1)) + p2 - (own_rn ((own_rn ((own_rn (x + p0)) + p1)) + p2))))), s_] [] _
            exact X339.returnOut hx Bd.returns (hb hby d3_118) hr
          · show Qown_add3 Z x a_o pa k_p p0 p1 p2 w3 h0 n0 _ T339.heap _
            rw [e339]
            have hv : (own_add3_f x p0 p1 p2) = [((own_rn (x + p0)) + p1 - (own_rn ((own_rn (x + p0)) + p1))), (own_rn ((own_rn ((own_rn (x + p0)) + p1)) + p2))] := by unfold own_add3_f; rw [if_pos hc46_37, if_neg hc46_72, if_pos hc46_287, if_neg hc73_302]
            have Fq344 : Fld Z h339 a_o "com/example/merit/merit/ExactSum" "partials" "[D" (.ref pa) := ((Fq263.other W329 (Or.inl hne)).other W339 (Or.inr (slot_ne (Or.inl (hw _ (gm 11 rfl))) (Or.inl (hw _ (gm 18 rfl))) (by decide) (t := (.array .double)) (t' := .int) (by decide) (by decide))))
            have Fq345 : Arv Z h339 pa k_p .double (4 : Int32) [(.double (own_D ((own_rn (x + p0)) + p1 - (own_rn ((own_rn (x + p0)) + p1))))), (.double (own_D (own_rn ((own_rn ((own_rn (x + p0)) + p1)) + p2)))), (.double (own_D p2)), w3] (.double FP.dconst0) := (Vm330.other W339 (Ne.symm hne))
            exact ⟨[(.double (own_D ((own_rn (x + p0)) + p1 - (own_rn ((own_rn (x + p0)) + p1))))), (.double (own_D (own_rn ((own_rn ((own_rn (x + p0)) + p1)) + p2)))), (.double (own_D p2)), w3], rfl, N342, Kc340, Fq344, Fq345, (by rw [hv]; exact Fw339), (by rw [hv]; exact ⟨rfl, rfl⟩)⟩
      · obtain ⟨T348, X348, e348, st348⟩ := getF X278 hx hZ hown (host := "") (Or.inl (hw _ (gm 10 rfl))) Via.refl eh278 Fq263 (g := (mkF m 50 #[vR (a_o), vD ((own_D x)), s_, vD ((own_D (own_rn ((own_rn (x + p0)) + p1)))), s_, vI (1), vI (2), vD ((own_D p2)), s_, vD ((own_D (own_rn ((own_rn ((own_rn (x + p0)) + p1)) + p2)))), s_, vD ((own_D ((own_rn ((own_rn (x + p0)) + p1)) + p2 - (own_rn ((own_rn ((own_rn (x + p0)) + p1)) + p2))))), s_] [(.ref a_o)])) rfl rfl (hb hby d3_50)
        obtain ⟨cl353, Ar353, q353, S353, M353, H353, G353⟩ := id Vm247
        have hin353 : ¬ ((1 : Int32) < 0 ∨ cl353.slots.size ≤ ((1 : Int32)).toNatClampNeg) := inb_of S353 ⟨by decide, by decide⟩
        obtain ⟨T354, h354, X354, e354, W354, st354⟩ := stD X348 hx hZ e348 Ar353 (j := (1 : Int32)) hin353 (g := (mkF m 60 #[vR (a_o), vD ((own_D x)), s_, vD ((own_D (own_rn ((own_rn (x + p0)) + p1)))), s_, vI (2), vI (2), vD ((own_D p2)), s_, vD ((own_D (own_rn ((own_rn ((own_rn (x + p0)) + p1)) + p2)))), s_, vD ((own_D ((own_rn ((own_rn (x + p0)) + p1)) + p2 - (own_rn ((own_rn ((own_rn (x + p0)) + p1)) + p2))))), s_] [(.double (own_D ((own_rn ((own_rn (x + p0)) + p1)) + p2 - (own_rn ((own_rn ((own_rn (x + p0)) + p1)) + p2))))), (.int 1), (.ref pa)])) rfl rfl (hb hby d3_60)
        have Kc356 : Keep h0 h354 [a_o, pa] := Kc248.wr W354 (Or.inl (ga 1 rfl))
        have Zs357 : n0 ≤ h354.size := Nat.le_trans Zs249 (Keep.of_wr W354).1
        have N358 := Fr.snoc X354 N279 hgp
        have Vm355 : Arv Z h354 pa k_p .double (4 : Int32) [(.double (own_D ((own_rn (x + p0)) + p1 - (own_rn ((own_rn (x + p0)) + p1))))), (.double (own_D ((own_rn ((own_rn (x + p0)) + p1)) + p2 - (own_rn ((own_rn ((own_rn (x + p0)) + p1)) + p2))))), (.double (own_D p2)), w3] (.double FP.dconst0) := Arv.set Ar353 q353 S353 M353 H353 G353 rfl W354 1 rfl (Nat.le_of_ble_eq_true rfl)
        have Fq366 : Fld Z h354 a_o "com/example/merit/merit/ExactSum" "count" "I" (.int 3) := (Fq258.other W354 (Or.inl hne))
        obtain ⟨T367, X367, e367, st367⟩ := getF X354 hx hZ hown (host := "") (Or.inl (hw _ (gm 17 rfl))) Via.refl e354 Fq366 (g := (mkF m 11 #[vR (a_o), vD ((own_D x)), s_, vD ((own_D (own_rn ((own_rn ((own_rn (x + p0)) + p1)) + p2)))), s_, vI (2), vI (3), vD ((own_D p2)), s_, vD ((own_D (own_rn ((own_rn ((own_rn (x + p0)) + p1)) + p2)))), s_, vD ((own_D ((own_rn ((own_rn (x + p0)) + p1)) + p2 - (own_rn ((own_rn ((own_rn (x + p0)) + p1)) + p2))))), s_] [(.ref a_o), (.int 3)])) rfl rfl (hb hby d3_11)
        have pre373 : ∀ t, Steps p.tables e below (T367.setTop (mkF m 73 #[vR (a_o), vD ((own_D x)), s_, vD ((own_D (own_rn ((own_rn ((own_rn (x + p0)) + p1)) + p2)))), s_, vI (2), vI (3), vD ((own_D p2)), s_, vD ((own_D (own_rn ((own_rn ((own_rn (x + p0)) + p1)) + p2)))), s_, vD ((own_D ((own_rn ((own_rn (x + p0)) + p1)) + p2 - (own_rn ((own_rn ((own_rn (x + p0)) + p1)) + p2))))), s_] [(.int (own_cmp (own_rn ((own_rn ((own_rn (x + p0)) + p1)) + p2)) 0))])) t → Steps p.tables e below (s₁.setTop (entryFrame m #[(.ref a_o), (.double (own_D x))] 13)) t := by
          intro t kt
          refine pre286 _ ?_
          show SS p e below m T278 46 #[vR (a_o), vD ((own_D x)), s_, vD ((own_D (own_rn ((own_rn (x + p0)) + p1)))), s_, vI (1), vI (2), vD ((own_D p2)), s_, vD ((own_D (own_rn ((own_rn ((own_rn (x + p0)) + p1)) + p2)))), s_, vD ((own_D ((own_rn ((own_rn (x + p0)) + p1)) + p2 - (own_rn ((own_rn ((own_rn (x + p0)) + p1)) + p2))))), s_] [(.int (own_cmp ((own_rn ((own_rn (x + p0)) + p1)) + p2 - (own_rn ((own_rn ((own_rn (x + p0)) + p1)) + p2))) 0))] _
          refine XS.ifNo X278.here hx rfl (hb hby d3_46) rfl ((if0 _ _).trans (feq (fun q => hc46_287 (own_cmEq.mp q))).1) ?_
          refine XS.aloadN X278.here hx rfl (hb hby d3_49) rfl rfl ?_
          show SS p e below m T278 50 #[vR (a_o), vD ((own_D x)), s_, vD ((own_D (own_rn ((own_rn (x + p0)) + p1)))), s_, vI (1), vI (2), vD ((own_D p2)), s_, vD ((own_D (own_rn ((own_rn ((own_rn (x + p0)) + p1)) + p2)))), s_, vD ((own_D ((own_rn ((own_rn (x + p0)) + p1)) + p2 - (own_rn ((own_rn ((own_rn (x + p0)) + p1)) + p2))))), s_] [(.ref a_o)] _
          refine st348 _ ?_
          show SS p e below m T348 53 #[vR (a_o), vD ((own_D x)), s_, vD ((own_D (own_rn ((own_rn (x + p0)) + p1)))), s_, vI (1), vI (2), vD ((own_D p2)), s_, vD ((own_D (own_rn ((own_rn ((own_rn (x + p0)) + p1)) + p2)))), s_, vD ((own_D ((own_rn ((own_rn (x + p0)) + p1)) + p2 - (own_rn ((own_rn ((own_rn (x + p0)) + p1)) + p2))))), s_] [(.ref pa)] _
          refine XS.iload X348.here hx rfl (hb hby d3_53) rfl ?_
          refine XS.iinc X348.here hx rfl (hb hby d3_55) rfl (l' := #[vR (a_o), vD ((own_D x)), s_, vD ((own_D (own_rn ((own_rn (x + p0)) + p1)))), s_, vI (2), vI (2), vD ((own_D p2)), s_, vD ((own_D (own_rn ((own_rn ((own_rn (x + p0)) + p1)) + p2)))), s_, vD ((own_D ((own_rn ((own_rn (x + p0)) + p1)) + p2 - (own_rn ((own_rn ((own_rn (x + p0)) + p1)) + p2))))), s_]) rfl ?_
          refine XS.dload X348.here hx rfl (hb hby d3_58) rfl ?_
          show SS p e below m T348 60 #[vR (a_o), vD ((own_D x)), s_, vD ((own_D (own_rn ((own_rn (x + p0)) + p1)))), s_, vI (2), vI (2), vD ((own_D p2)), s_, vD ((own_D (own_rn ((own_rn ((own_rn (x + p0)) + p1)) + p2)))), s_, vD ((own_D ((own_rn ((own_rn (x + p0)) + p1)) + p2 - (own_rn ((own_rn ((own_rn (x + p0)) + p1)) + p2))))), s_] [(.double (own_D ((own_rn ((own_rn (x + p0)) + p1)) + p2 - (own_rn ((own_rn ((own_rn (x + p0)) + p1)) + p2))))), (.int 1), (.ref pa)] _
          refine st354 _ ?_
          show SS p e below m T354 61 #[vR (a_o), vD ((own_D x)), s_, vD ((own_D (own_rn ((own_rn (x + p0)) + p1)))), s_, vI (2), vI (2), vD ((own_D p2)), s_, vD ((own_D (own_rn ((own_rn ((own_rn (x + p0)) + p1)) + p2)))), s_, vD ((own_D ((own_rn ((own_rn (x + p0)) + p1)) + p2 - (own_rn ((own_rn ((own_rn (x + p0)) + p1)) + p2))))), s_] [] _
          refine XS.dload X354.here hx rfl (hb hby d3_61) rfl ?_
          refine XS.dstoreN X354.here hx rfl (hb hby d3_63) rfl (l' := #[vR (a_o), vD ((own_D x)), s_, vD ((own_D (own_rn ((own_rn ((own_rn (x + p0)) + p1)) + p2)))), s_, vI (2), vI (2), vD ((own_D p2)), s_, vD ((own_D (own_rn ((own_rn ((own_rn (x + p0)) + p1)) + p2)))), s_, vD ((own_D ((own_rn ((own_rn (x + p0)) + p1)) + p2 - (own_rn ((own_rn ((own_rn (x + p0)) + p1)) + p2))))), s_]) rfl ?_
          refine XS.iinc X354.here hx rfl (hb hby d3_64) rfl (l' := #[vR (a_o), vD ((own_D x)), s_, vD ((own_D (own_rn ((own_rn ((own_rn (x + p0)) + p1)) + p2)))), s_, vI (2), vI (3), vD ((own_D p2)), s_, vD ((own_D (own_rn ((own_rn ((own_rn (x + p0)) + p1)) + p2)))), s_, vD ((own_D ((own_rn ((own_rn (x + p0)) + p1)) + p2 - (own_rn ((own_rn ((own_rn (x + p0)) + p1)) + p2))))), s_]) rfl ?_
          show SS p e below m T354 67 #[vR (a_o), vD ((own_D x)), s_, vD ((own_D (own_rn ((own_rn ((own_rn (x + p0)) + p1)) + p2)))), s_, vI (2), vI (3), vD ((own_D p2)), s_, vD ((own_D (own_rn ((own_rn ((own_rn (x + p0)) + p1)) + p2)))), s_, vD ((own_D ((own_rn ((own_rn (x + p0)) + p1)) + p2 - (own_rn ((own_rn ((own_rn (x + p0)) + p1)) + p2))))), s_] [] _
          refine XS.goto X354.here hx rfl (pc0 := 67) (pc' := 8) rfl (hb hby d3_67) (by decide) (by decide) ?_
          refine XS.iload X354.here hx rfl (hb hby d3_8) rfl ?_
          refine XS.aloadN X354.here hx rfl (hb hby d3_10) rfl rfl ?_
          show SS p e below m T354 11 #[vR (a_o), vD ((own_D x)), s_, vD ((own_D (own_rn ((own_rn ((own_rn (x + p0)) + p1)) + p2)))), s_, vI (2), vI (3), vD ((own_D p2)), s_, vD ((own_D (own_rn ((own_rn ((own_rn (x + p0)) + p1)) + p2)))), s_, vD ((own_D ((own_rn ((own_rn (x + p0)) + p1)) + p2 - (own_rn ((own_rn ((own_rn (x + p0)) + p1)) + p2))))), s_] [(.ref a_o), (.int 3)] _
          refine st367 _ ?_
          show SS p e below m T367 14 #[vR (a_o), vD ((own_D x)), s_, vD ((own_D (own_rn ((own_rn ((own_rn (x + p0)) + p1)) + p2)))), s_, vI (2), vI (3), vD ((own_D p2)), s_, vD ((own_D (own_rn ((own_rn ((own_rn (x + p0)) + p1)) + p2)))), s_, vD ((own_D ((own_rn ((own_rn (x + p0)) + p1)) + p2 - (own_rn ((own_rn ((own_rn (x + p0)) + p1)) + p2))))), s_] [(.int 3), (.int 3)] _
          refine XS.icmpYes X367.here hx rfl (pc0 := 14) (pc' := 70) rfl (hb hby d3_14) rfl (flt ((by decide) : ¬ ((3 : Int32) < (3 : Int32)))).2.1 (by decide) (by decide) ?_
          refine XS.dloadN X367.here hx rfl (hb hby d3_70) rfl ?_
          refine XS.dconst0 X367.here hx rfl (hb hby d3_71) own_c0 ?_
          show SS p e below m T367 72 #[vR (a_o), vD ((own_D x)), s_, vD ((own_D (own_rn ((own_rn ((own_rn (x + p0)) + p1)) + p2)))), s_, vI (2), vI (3), vD ((own_D p2)), s_, vD ((own_D (own_rn ((own_rn ((own_rn (x + p0)) + p1)) + p2)))), s_, vD ((own_D ((own_rn ((own_rn (x + p0)) + p1)) + p2 - (own_rn ((own_rn ((own_rn (x + p0)) + p1)) + p2))))), s_] [(.double (own_D 0)), (.double (own_D (own_rn ((own_rn ((own_rn (x + p0)) + p1)) + p2))))] _
          refine XS.dcmpS X367.here hx rfl (hb hby d3_72) rfl (own_DcmpV (own_rrn _) own_rep0 (by omega) (by omega) (by omega) (by omega) _) ?_
          exact kt
        by_cases hc73_374 : (own_rn ((own_rn ((own_rn (x + p0)) + p1)) + p2)) = 0
        · have Fq378 : Exa Z h354 a_o "com/example/merit/merit/ExactSum" := ((hxa.wr W246).wr W354)
          obtain ⟨T379, h379, X379, e379, W379, st379⟩ := putF X367 hx hZ hown (host := "") (Or.inl (hw _ (gm 17 rfl))) Via.refl e367 Fq366 Fq378 (Or.inl (hw _ (gm 18 rfl))) (hw _ (gm 1 rfl)) (ty := .int) (by decide) rfl rfl (g := (mkF m 115 #[vR (a_o), vD ((own_D x)), s_, vD ((own_D (own_rn ((own_rn ((own_rn (x + p0)) + p1)) + p2)))), s_, vI (2), vI (3), vD ((own_D p2)), s_, vD ((own_D (own_rn ((own_rn ((own_rn (x + p0)) + p1)) + p2)))), s_, vD ((own_D ((own_rn ((own_rn (x + p0)) + p1)) + p2 - (own_rn ((own_rn ((own_rn (x + p0)) + p1)) + p2))))), s_] [(.int 2), (.ref a_o)])) rfl rfl (hb hby d3_115)
          have Kc380 : Keep h0 h379 [a_o, pa] := Kc356.wr W379 (Or.inl (ga 0 rfl))
          have Zs381 : n0 ≤ h379.size := Nat.le_trans Zs357 (Keep.of_wr W379).1
          have N382 := Fr.snoc X379 N358 hg
          have Fw379 : Fld Z h379 a_o "com/example/merit/merit/ExactSum" "count" "I" (.int 2) := Fq366.same W379
          obtain ⟨fs, hr, hrun, hended, hW, hsame⟩ := X379.leave (v := none) (fun _ => rfl) (hlocks := BodyLoose.notSynchronized Bd)
          refine ⟨_, _, pre373 _ ?_, hrun, hended, _, _, rfl, ?_, ⟨_, rfl⟩, hW, hsame.mono (by decide) (by decide)⟩
          · show SS p e below m T367 73 #[vR (a_o), vD ((own_D x)), s_, vD ((own_D (own_rn ((own_rn ((own_rn (x + p0)) + p1)) + p2)))), s_, vI (2), vI (3), vD ((own_D p2)), s_, vD ((own_D (own_rn ((own_rn ((own_rn (x + p0)) + p1)) + p2)))), s_, vD ((own_D ((own_rn ((own_rn (x + p0)) + p1)) + p2 - (own_rn ((own_rn ((own_rn (x + p0)) + p1)) + p2))))), s_] [(.int (own_cmp (own_rn ((own_rn ((own_rn (x + p0)) + p1)) + p2)) 0))] _
            refine XS.ifYes X367.here hx rfl (pc0 := 73) (pc' := 112) rfl (hb hby d3_73) rfl ((if0 _ _).trans (teq (own_cmEq.mpr hc73_374)).1) (by decide) (by decide) ?_
            refine XS.aloadN X367.here hx rfl (hb hby d3_112) rfl rfl ?_
            refine XS.iload X367.here hx rfl (hb hby d3_113) rfl ?_
            show SS p e below m T367 115 #[vR (a_o), vD ((own_D x)), s_, vD ((own_D (own_rn ((own_rn ((own_rn (x + p0)) + p1)) + p2)))), s_, vI (2), vI (3), vD ((own_D p2)), s_, vD ((own_D (own_rn ((own_rn ((own_rn (x + p0)) + p1)) + p2)))), s_, vD ((own_D ((own_rn ((own_rn (x + p0)) + p1)) + p2 - (own_rn ((own_rn ((own_rn (x + p0)) + p1)) + p2))))), s_] [(.int 2), (.ref a_o)] _
            refine st379 _ ?_
            show SS p e below m T379 118 #[vR (a_o), vD ((own_D x)), s_, vD ((own_D (own_rn ((own_rn ((own_rn (x + p0)) + p1)) + p2)))), s_, vI (2), vI (3), vD ((own_D p2)), s_, vD ((own_D (own_rn ((own_rn ((own_rn (x + p0)) + p1)) + p2)))), s_, vD ((own_D ((own_rn ((own_rn (x + p0)) + p1)) + p2 - (own_rn ((own_rn ((own_rn (x + p0)) + p1)) + p2))))), s_] [] _
            exact X379.returnOut hx Bd.returns (hb hby d3_118) hr
          · show Qown_add3 Z x a_o pa k_p p0 p1 p2 w3 h0 n0 _ T379.heap _
            rw [e379]
            have hv : (own_add3_f x p0 p1 p2) = [((own_rn (x + p0)) + p1 - (own_rn ((own_rn (x + p0)) + p1))), ((own_rn ((own_rn (x + p0)) + p1)) + p2 - (own_rn ((own_rn ((own_rn (x + p0)) + p1)) + p2)))] := by unfold own_add3_f; rw [if_pos hc46_37, if_neg hc46_72, if_neg hc46_287, if_pos hc73_374]
            have Fq384 : Fld Z h379 a_o "com/example/merit/merit/ExactSum" "partials" "[D" (.ref pa) := ((Fq263.other W354 (Or.inl hne)).other W379 (Or.inr (slot_ne (Or.inl (hw _ (gm 11 rfl))) (Or.inl (hw _ (gm 18 rfl))) (by decide) (t := (.array .double)) (t' := .int) (by decide) (by decide))))
            have Fq385 : Arv Z h379 pa k_p .double (4 : Int32) [(.double (own_D ((own_rn (x + p0)) + p1 - (own_rn ((own_rn (x + p0)) + p1))))), (.double (own_D ((own_rn ((own_rn (x + p0)) + p1)) + p2 - (own_rn ((own_rn ((own_rn (x + p0)) + p1)) + p2))))), (.double (own_D p2)), w3] (.double FP.dconst0) := (Vm355.other W379 (Ne.symm hne))
            exact ⟨[(.double (own_D ((own_rn (x + p0)) + p1 - (own_rn ((own_rn (x + p0)) + p1))))), (.double (own_D ((own_rn ((own_rn (x + p0)) + p1)) + p2 - (own_rn ((own_rn ((own_rn (x + p0)) + p1)) + p2))))), (.double (own_D p2)), w3], rfl, N382, Kc380, Fq384, Fq385, (by rw [hv]; exact Fw379), (by rw [hv]; exact ⟨rfl, rfl⟩)⟩
        · have Fq389 : Fld Z h354 a_o "com/example/merit/merit/ExactSum" "partials" "[D" (.ref pa) := (Fq263.other W354 (Or.inl hne))
          obtain ⟨T390, X390, e390, st390⟩ := getF X367 hx hZ hown (host := "") (Or.inl (hw _ (gm 10 rfl))) Via.refl e367 Fq389 (g := (mkF m 79 #[vR (a_o), vD ((own_D x)), s_, vD ((own_D (own_rn ((own_rn ((own_rn (x + p0)) + p1)) + p2)))), s_, vI (2), vI (3), vD ((own_D p2)), s_, vD ((own_D (own_rn ((own_rn ((own_rn (x + p0)) + p1)) + p2)))), s_, vD ((own_D ((own_rn ((own_rn (x + p0)) + p1)) + p2 - (own_rn ((own_rn ((own_rn (x + p0)) + p1)) + p2))))), s_] [(.ref a_o), (.int 2)])) rfl rfl (hb hby d3_79)
          obtain ⟨cl392, Ar392, -, S392, M392, -, -⟩ := id Vm355
          obtain ⟨T396, X396, e396, st396⟩ := getF X390 hx hZ hown (host := "") (Or.inl (hw _ (gm 10 rfl))) Via.refl e390 Fq389 (g := (mkF m 102 #[vR (a_o), vD ((own_D x)), s_, vD ((own_D (own_rn ((own_rn ((own_rn (x + p0)) + p1)) + p2)))), s_, vI (2), vI (3), vD ((own_D p2)), s_, vD ((own_D (own_rn ((own_rn ((own_rn (x + p0)) + p1)) + p2)))), s_, vD ((own_D ((own_rn ((own_rn (x + p0)) + p1)) + p2 - (own_rn ((own_rn ((own_rn (x + p0)) + p1)) + p2))))), s_] [(.ref a_o)])) rfl rfl (hb hby d3_102)
          obtain ⟨cl401, Ar401, q401, S401, M401, H401, G401⟩ := id Vm355
          have hin401 : ¬ ((2 : Int32) < 0 ∨ cl401.slots.size ≤ ((2 : Int32)).toNatClampNeg) := inb_of S401 ⟨by decide, by decide⟩
          obtain ⟨T402, h402, X402, e402, W402, st402⟩ := stD X396 hx hZ e396 Ar401 (j := (2 : Int32)) hin401 (g := (mkF m 111 #[vR (a_o), vD ((own_D x)), s_, vD ((own_D (own_rn ((own_rn ((own_rn (x + p0)) + p1)) + p2)))), s_, vI (3), vI (3), vD ((own_D p2)), s_, vD ((own_D (own_rn ((own_rn ((own_rn (x + p0)) + p1)) + p2)))), s_, vD ((own_D ((own_rn ((own_rn (x + p0)) + p1)) + p2 - (own_rn ((own_rn ((own_rn (x + p0)) + p1)) + p2))))), s_] [(.double (own_D (own_rn ((own_rn ((own_rn (x + p0)) + p1)) + p2)))), (.int 2), (.ref pa)])) rfl rfl (hb hby d3_111)
          have Kc404 : Keep h0 h402 [a_o, pa] := Kc356.wr W402 (Or.inl (ga 1 rfl))
          have Zs405 : n0 ≤ h402.size := Nat.le_trans Zs357 (Keep.of_wr W402).1
          have N406 := Fr.snoc X402 N358 hgp
          have Vm403 : Arv Z h402 pa k_p .double (4 : Int32) [(.double (own_D ((own_rn (x + p0)) + p1 - (own_rn ((own_rn (x + p0)) + p1))))), (.double (own_D ((own_rn ((own_rn (x + p0)) + p1)) + p2 - (own_rn ((own_rn ((own_rn (x + p0)) + p1)) + p2))))), (.double (own_D (own_rn ((own_rn ((own_rn (x + p0)) + p1)) + p2)))), w3] (.double FP.dconst0) := Arv.set Ar401 q401 S401 M401 H401 G401 rfl W402 2 rfl (Nat.le_of_ble_eq_true rfl)
          have Fq410 : Exa Z h402 a_o "com/example/merit/merit/ExactSum" := (((hxa.wr W246).wr W354).wr W402)
          have Fq411 : Fld Z h402 a_o "com/example/merit/merit/ExactSum" "count" "I" (.int 3) := (Fq366.other W402 (Or.inl hne))
          obtain ⟨T412, h412, X412, e412, W412, st412⟩ := putF X402 hx hZ hown (host := "") (Or.inl (hw _ (gm 17 rfl))) Via.refl e402 Fq411 Fq410 (Or.inl (hw _ (gm 18 rfl))) (hw _ (gm 1 rfl)) (ty := .int) (by decide) rfl rfl (g := (mkF m 115 #[vR (a_o), vD ((own_D x)), s_, vD ((own_D (own_rn ((own_rn ((own_rn (x + p0)) + p1)) + p2)))), s_, vI (3), vI (3), vD ((own_D p2)), s_, vD ((own_D (own_rn ((own_rn ((own_rn (x + p0)) + p1)) + p2)))), s_, vD ((own_D ((own_rn ((own_rn (x + p0)) + p1)) + p2 - (own_rn ((own_rn ((own_rn (x + p0)) + p1)) + p2))))), s_] [(.int 3), (.ref a_o)])) rfl rfl (hb hby d3_115)
          have Kc413 : Keep h0 h412 [a_o, pa] := Kc404.wr W412 (Or.inl (ga 0 rfl))
          have Zs414 : n0 ≤ h412.size := Nat.le_trans Zs405 (Keep.of_wr W412).1
          have N415 := Fr.snoc X412 N406 hg
          have Fw412 : Fld Z h412 a_o "com/example/merit/merit/ExactSum" "count" "I" (.int 3) := Fq411.same W412
          obtain ⟨fs, hr, hrun, hended, hW, hsame⟩ := X412.leave (v := none) (fun _ => rfl) (hlocks := BodyLoose.notSynchronized Bd)
          refine ⟨_, _, pre373 _ ?_, hrun, hended, _, _, rfl, ?_, ⟨_, rfl⟩, hW, hsame.mono (by decide) (by decide)⟩
          · show SS p e below m T367 73 #[vR (a_o), vD ((own_D x)), s_, vD ((own_D (own_rn ((own_rn ((own_rn (x + p0)) + p1)) + p2)))), s_, vI (2), vI (3), vD ((own_D p2)), s_, vD ((own_D (own_rn ((own_rn ((own_rn (x + p0)) + p1)) + p2)))), s_, vD ((own_D ((own_rn ((own_rn (x + p0)) + p1)) + p2 - (own_rn ((own_rn ((own_rn (x + p0)) + p1)) + p2))))), s_] [(.int (own_cmp (own_rn ((own_rn ((own_rn (x + p0)) + p1)) + p2)) 0))] _
            refine XS.ifNo X367.here hx rfl (hb hby d3_73) rfl ((if0 _ _).trans (feq (fun q => hc73_374 (own_cmEq.mp q))).1) ?_
            refine XS.iload X367.here hx rfl (hb hby d3_76) rfl ?_
            refine XS.aloadN X367.here hx rfl (hb hby d3_78) rfl rfl ?_
            show SS p e below m T367 79 #[vR (a_o), vD ((own_D x)), s_, vD ((own_D (own_rn ((own_rn ((own_rn (x + p0)) + p1)) + p2)))), s_, vI (2), vI (3), vD ((own_D p2)), s_, vD ((own_D (own_rn ((own_rn ((own_rn (x + p0)) + p1)) + p2)))), s_, vD ((own_D ((own_rn ((own_rn (x + p0)) + p1)) + p2 - (own_rn ((own_rn ((own_rn (x + p0)) + p1)) + p2))))), s_] [(.ref a_o), (.int 2)] _
            refine st390 _ ?_
            show SS p e below m T390 82 #[vR (a_o), vD ((own_D x)), s_, vD ((own_D (own_rn ((own_rn ((own_rn (x + p0)) + p1)) + p2)))), s_, vI (2), vI (3), vD ((own_D p2)), s_, vD ((own_D (own_rn ((own_rn ((own_rn (x + p0)) + p1)) + p2)))), s_, vD ((own_D ((own_rn ((own_rn (x + p0)) + p1)) + p2 - (own_rn ((own_rn ((own_rn (x + p0)) + p1)) + p2))))), s_] [(.ref pa), (.int 2)] _
            refine X390.arraylength hx (by rw [e390]; exact Ar392.1) (State.isArrayOf_alike hZ.alike Ar392.2.1) (g := (mkF m 82 #[vR (a_o), vD ((own_D x)), s_, vD ((own_D (own_rn ((own_rn ((own_rn (x + p0)) + p1)) + p2)))), s_, vI (2), vI (3), vD ((own_D p2)), s_, vD ((own_D (own_rn ((own_rn ((own_rn (x + p0)) + p1)) + p2)))), s_, vD ((own_D ((own_rn ((own_rn (x + p0)) + p1)) + p2 - (own_rn ((own_rn ((own_rn (x + p0)) + p1)) + p2))))), s_] [(.ref pa), (.int 2)])) rfl rfl (hb hby d3_82) _ ?_
            rw [len_of S392 M392]
            show SS p e below m T390 83 #[vR (a_o), vD ((own_D x)), s_, vD ((own_D (own_rn ((own_rn ((own_rn (x + p0)) + p1)) + p2)))), s_, vI (2), vI (3), vD ((own_D p2)), s_, vD ((own_D (own_rn ((own_rn ((own_rn (x + p0)) + p1)) + p2)))), s_, vD ((own_D ((own_rn ((own_rn (x + p0)) + p1)) + p2 - (own_rn ((own_rn ((own_rn (x + p0)) + p1)) + p2))))), s_] [(.int 4), (.int 2)] _
            refine XS.icmpYes X390.here hx rfl (pc0 := 83) (pc' := 101) rfl (hb hby d3_83) rfl (feq ((by decide) : ¬ ((2 : Int32) = (4 : Int32)))).2 (by decide) (by decide) ?_
            refine XS.aloadN X390.here hx rfl (hb hby d3_101) rfl rfl ?_
            show SS p e below m T390 102 #[vR (a_o), vD ((own_D x)), s_, vD ((own_D (own_rn ((own_rn ((own_rn (x + p0)) + p1)) + p2)))), s_, vI (2), vI (3), vD ((own_D p2)), s_, vD ((own_D (own_rn ((own_rn ((own_rn (x + p0)) + p1)) + p2)))), s_, vD ((own_D ((own_rn ((own_rn (x + p0)) + p1)) + p2 - (own_rn ((own_rn ((own_rn (x + p0)) + p1)) + p2))))), s_] [(.ref a_o)] _
            refine st396 _ ?_
            show SS p e below m T396 105 #[vR (a_o), vD ((own_D x)), s_, vD ((own_D (own_rn ((own_rn ((own_rn (x + p0)) + p1)) + p2)))), s_, vI (2), vI (3), vD ((own_D p2)), s_, vD ((own_D (own_rn ((own_rn ((own_rn (x + p0)) + p1)) + p2)))), s_, vD ((own_D ((own_rn ((own_rn (x + p0)) + p1)) + p2 - (own_rn ((own_rn ((own_rn (x + p0)) + p1)) + p2))))), s_] [(.ref pa)] _
            refine XS.iload X396.here hx rfl (hb hby d3_105) rfl ?_
            refine XS.iinc X396.here hx rfl (hb hby d3_107) rfl (l' := #[vR (a_o), vD ((own_D x)), s_, vD ((own_D (own_rn ((own_rn ((own_rn (x + p0)) + p1)) + p2)))), s_, vI (3), vI (3), vD ((own_D p2)), s_, vD ((own_D (own_rn ((own_rn ((own_rn (x + p0)) + p1)) + p2)))), s_, vD ((own_D ((own_rn ((own_rn (x + p0)) + p1)) + p2 - (own_rn ((own_rn ((own_rn (x + p0)) + p1)) + p2))))), s_]) rfl ?_
            refine XS.dloadN X396.here hx rfl (hb hby d3_110) rfl ?_
            show SS p e below m T396 111 #[vR (a_o), vD ((own_D x)), s_, vD ((own_D (own_rn ((own_rn ((own_rn (x + p0)) + p1)) + p2)))), s_, vI (3), vI (3), vD ((own_D p2)), s_, vD ((own_D (own_rn ((own_rn ((own_rn (x + p0)) + p1)) + p2)))), s_, vD ((own_D ((own_rn ((own_rn (x + p0)) + p1)) + p2 - (own_rn ((own_rn ((own_rn (x + p0)) + p1)) + p2))))), s_] [(.double (own_D (own_rn ((own_rn ((own_rn (x + p0)) + p1)) + p2)))), (.int 2), (.ref pa)] _
            refine st402 _ ?_
            show SS p e below m T402 112 #[vR (a_o), vD ((own_D x)), s_, vD ((own_D (own_rn ((own_rn ((own_rn (x + p0)) + p1)) + p2)))), s_, vI (3), vI (3), vD ((own_D p2)), s_, vD ((own_D (own_rn ((own_rn ((own_rn (x + p0)) + p1)) + p2)))), s_, vD ((own_D ((own_rn ((own_rn (x + p0)) + p1)) + p2 - (own_rn ((own_rn ((own_rn (x + p0)) + p1)) + p2))))), s_] [] _
            refine XS.aloadN X402.here hx rfl (hb hby d3_112) rfl rfl ?_
            refine XS.iload X402.here hx rfl (hb hby d3_113) rfl ?_
            show SS p e below m T402 115 #[vR (a_o), vD ((own_D x)), s_, vD ((own_D (own_rn ((own_rn ((own_rn (x + p0)) + p1)) + p2)))), s_, vI (3), vI (3), vD ((own_D p2)), s_, vD ((own_D (own_rn ((own_rn ((own_rn (x + p0)) + p1)) + p2)))), s_, vD ((own_D ((own_rn ((own_rn (x + p0)) + p1)) + p2 - (own_rn ((own_rn ((own_rn (x + p0)) + p1)) + p2))))), s_] [(.int 3), (.ref a_o)] _
            refine st412 _ ?_
            show SS p e below m T412 118 #[vR (a_o), vD ((own_D x)), s_, vD ((own_D (own_rn ((own_rn ((own_rn (x + p0)) + p1)) + p2)))), s_, vI (3), vI (3), vD ((own_D p2)), s_, vD ((own_D (own_rn ((own_rn ((own_rn (x + p0)) + p1)) + p2)))), s_, vD ((own_D ((own_rn ((own_rn (x + p0)) + p1)) + p2 - (own_rn ((own_rn ((own_rn (x + p0)) + p1)) + p2))))), s_] [] _
            exact X412.returnOut hx Bd.returns (hb hby d3_118) hr
          · show Qown_add3 Z x a_o pa k_p p0 p1 p2 w3 h0 n0 _ T412.heap _
            rw [e412]
            have hv : (own_add3_f x p0 p1 p2) = [((own_rn (x + p0)) + p1 - (own_rn ((own_rn (x + p0)) + p1))), ((own_rn ((own_rn (x + p0)) + p1)) + p2 - (own_rn ((own_rn ((own_rn (x + p0)) + p1)) + p2))), (own_rn ((own_rn ((own_rn (x + p0)) + p1)) + p2))] := by unfold own_add3_f; rw [if_pos hc46_37, if_neg hc46_72, if_neg hc46_287, if_neg hc73_374]
            have Fq417 : Fld Z h412 a_o "com/example/merit/merit/ExactSum" "partials" "[D" (.ref pa) := ((Fq389.other W402 (Or.inl hne)).other W412 (Or.inr (slot_ne (Or.inl (hw _ (gm 11 rfl))) (Or.inl (hw _ (gm 18 rfl))) (by decide) (t := (.array .double)) (t' := .int) (by decide) (by decide))))
            have Fq418 : Arv Z h412 pa k_p .double (4 : Int32) [(.double (own_D ((own_rn (x + p0)) + p1 - (own_rn ((own_rn (x + p0)) + p1))))), (.double (own_D ((own_rn ((own_rn (x + p0)) + p1)) + p2 - (own_rn ((own_rn ((own_rn (x + p0)) + p1)) + p2))))), (.double (own_D (own_rn ((own_rn ((own_rn (x + p0)) + p1)) + p2)))), w3] (.double FP.dconst0) := (Vm403.other W412 (Ne.symm hne))
            exact ⟨[(.double (own_D ((own_rn (x + p0)) + p1 - (own_rn ((own_rn (x + p0)) + p1))))), (.double (own_D ((own_rn ((own_rn (x + p0)) + p1)) + p2 - (own_rn ((own_rn ((own_rn (x + p0)) + p1)) + p2))))), (.double (own_D (own_rn ((own_rn ((own_rn (x + p0)) + p1)) + p2)))), w3], rfl, N415, Kc413, Fq417, Fq418, (by rw [hv]; exact Fw412), (by rw [hv]; exact ⟨rfl, rfl⟩)⟩
  · obtain ⟨T421, X421, e421, st421⟩ := getF X28 hx hZ hown (host := "") (Or.inl (hw _ (gm 10 rfl))) Via.refl eh28 hfp (g := (mkF m 50 #[vR (a_o), vD ((own_D x)), s_, vD ((own_D x)), s_, vI (0), vI (0), vD ((own_D p0)), s_, vD ((own_D (own_rn (x + p0)))), s_, vD ((own_D (x + p0 - (own_rn (x + p0))))), s_] [(.ref a_o)])) rfl rfl (hb hby d3_50)
    obtain ⟨cl426, Ar426, q426, S426, M426, H426, G426⟩ := id hA
    have hin426 : ¬ ((0 : Int32) < 0 ∨ cl426.slots.size ≤ ((0 : Int32)).toNatClampNeg) := inb_of S426 ⟨by decide, by decide⟩
    obtain ⟨T427, h427, X427, e427, W427, st427⟩ := stD X421 hx hZ e421 Ar426 (j := (0 : Int32)) hin426 (g := (mkF m 60 #[vR (a_o), vD ((own_D x)), s_, vD ((own_D x)), s_, vI (1), vI (0), vD ((own_D p0)), s_, vD ((own_D (own_rn (x + p0)))), s_, vD ((own_D (x + p0 - (own_rn (x + p0))))), s_] [(.double (own_D (x + p0 - (own_rn (x + p0))))), (.int 0), (.ref pa)])) rfl rfl (hb hby d3_60)
    have Kc429 : Keep h0 h427 [a_o, pa] := (Keep.refl h0 [a_o, pa]).wr W427 (Or.inl (ga 1 rfl))
    have Zs430 : n0 ≤ h427.size := Nat.le_trans Z0 (Keep.of_wr W427).1
    have N431 := Fr.snoc X427 N29 hgp
    have Vm428 : Arv Z h427 pa k_p .double (4 : Int32) [(.double (own_D (x + p0 - (own_rn (x + p0))))), (.double (own_D p1)), (.double (own_D p2)), w3] (.double FP.dconst0) := Arv.set Ar426 q426 S426 M426 H426 G426 rfl W427 0 rfl (Nat.le_of_ble_eq_true rfl)
    have Fq439 : Fld Z h427 a_o "com/example/merit/merit/ExactSum" "count" "I" (.int 3) := (hfc.other W427 (Or.inl hne))
    obtain ⟨T440, X440, e440, st440⟩ := getF X427 hx hZ hown (host := "") (Or.inl (hw _ (gm 17 rfl))) Via.refl e427 Fq439 (g := (mkF m 11 #[vR (a_o), vD ((own_D x)), s_, vD ((own_D (own_rn (x + p0)))), s_, vI (1), vI (1), vD ((own_D p0)), s_, vD ((own_D (own_rn (x + p0)))), s_, vD ((own_D (x + p0 - (own_rn (x + p0))))), s_] [(.ref a_o), (.int 1)])) rfl rfl (hb hby d3_11)
    have Fq444 : Fld Z h427 a_o "com/example/merit/merit/ExactSum" "partials" "[D" (.ref pa) := (hfp.other W427 (Or.inl hne))
    obtain ⟨T445, X445, e445, st445⟩ := getF X440 hx hZ hown (host := "") (Or.inl (hw _ (gm 10 rfl))) Via.refl e440 Fq444 (g := (mkF m 18 #[vR (a_o), vD ((own_D x)), s_, vD ((own_D (own_rn (x + p0)))), s_, vI (1), vI (1), vD ((own_D p0)), s_, vD ((own_D (own_rn (x + p0)))), s_, vD ((own_D (x + p0 - (own_rn (x + p0))))), s_] [(.ref a_o)])) rfl rfl (hb hby d3_18)
    obtain ⟨cl448, Ar448, q448, S448, M448, H448, G448⟩ := id Vm428
    have hin448 : ¬ ((1 : Int32) < 0 ∨ cl448.slots.size ≤ ((1 : Int32)).toNatClampNeg) := inb_of S448 ⟨by decide, by decide⟩
    have hat448 : cl448.slots[((1 : Int32)).toNatClampNeg]? = some (.double (own_D p1)) := H448.at hin448 rfl
    have hq453 : FP.dadd (own_D (own_rn (x + p0))) (own_D p1) = own_D (own_rn ((own_rn (x + p0)) + p1)) := own_Dadd (own_rrn _) hr1 (by omega) (by omega) (by omega) (by omega) (by omega) (by omega)
    have hq453E := own_errSm (n := (own_rn (x + p0)) + p1) (by omega) (by omega)
    obtain ⟨_, _, ⟨T459, L459, k459, n459⟩, -, X459, ⟨Lc459, hQ459, l459, y459, z459⟩, st459⟩ := Jvm.LawKit.callS X445 hx (y := (⟨"com/example/merit/merit/ExactSum", "roundingError", "(DDD)D"⟩ : MethodName)) hown (mvT hZ (hw _ (gm 24 rfl))) (mvT hZ (hw _ (gm 25 rfl))) (mvT hZ (hw _ (gm 2 rfl))) (mvT hZ (hw _ (gm 26 rfl))) (by decide) (backOf (W := 0) (own_re l Z a0 hw [] (own_rn (x + p0)) p1 (own_rn ((own_rn (x + p0)) + p1)) h427 n0 Zs430 (own_rrn _) hr1 rfl (by omega)) hZ (hw _ (gm 26 rfl)) (hw _ (gm 2 rfl)) (by decide) (by decide)) (g := (mkF m 37 #[vR (a_o), vD ((own_D x)), s_, vD ((own_D (own_rn (x + p0)))), s_, vI (1), vI (1), vD ((own_D p1)), s_, vD ((own_D (own_rn ((own_rn (x + p0)) + p1)))), s_, vD ((own_D (x + p0 - (own_rn (x + p0))))), s_] [(.double (own_D (own_rn ((own_rn (x + p0)) + p1)))), (.double (own_D p1)), (.double (own_D (own_rn (x + p0))))])) rfl (by rw [hml]; rfl) (argsL := [(.double (own_D (own_rn (x + p0)))), (.double (own_D p1)), (.double (own_D (own_rn ((own_rn (x + p0)) + p1))))]) (rest := []) (lenOf own_pd0 rfl) rfl (by show 2 * 0 + _ ≤ _; exact Nat.le_of_eq rfl) (hb hby d3_37) (fun _ _ => ⟨rfl, e445, (by decide : 0 + 0 ≤ _), (by decide : 0 + 0 ≤ _)⟩)
    dsimp only [Pt.U, Pt.locs, Pt.cells, Pt.slots] at X459 l459 y459 z459 st459 hQ459
    rw [l459, y459, z459] at X459
    obtain ⟨rfl, Nq459, eh459⟩ := hQ459
    have N460 := Fr.app N431 Nq459
    have hRe461 : own_Rep ((own_rn (x + p0)) + p1 - (own_rn ((own_rn (x + p0)) + p1))) := own_repSm (by omega) (by omega)
    have pre467 : ∀ t, Steps p.tables e below (T459.setTop (mkF m 46 #[vR (a_o), vD ((own_D x)), s_, vD ((own_D (own_rn (x + p0)))), s_, vI (1), vI (1), vD ((own_D p1)), s_, vD ((own_D (own_rn ((own_rn (x + p0)) + p1)))), s_, vD ((own_D ((own_rn (x + p0)) + p1 - (own_rn ((own_rn (x + p0)) + p1))))), s_] [(.int (own_cmp ((own_rn (x + p0)) + p1 - (own_rn ((own_rn (x + p0)) + p1))) 0))])) t → Steps p.tables e below (s₁.setTop (entryFrame m #[(.ref a_o), (.double (own_D x))] 13)) t := by
      intro t kt
      refine pre36 _ ?_
      show SS p e below m T28 46 #[vR (a_o), vD ((own_D x)), s_, vD ((own_D x)), s_, vI (0), vI (0), vD ((own_D p0)), s_, vD ((own_D (own_rn (x + p0)))), s_, vD ((own_D (x + p0 - (own_rn (x + p0))))), s_] [(.int (own_cmp (x + p0 - (own_rn (x + p0))) 0))] _
      refine XS.ifNo X28.here hx rfl (hb hby d3_46) rfl ((if0 _ _).trans (feq (fun q => hc46_37 (own_cmEq.mp q))).1) ?_
      refine XS.aloadN X28.here hx rfl (hb hby d3_49) rfl rfl ?_
      show SS p e below m T28 50 #[vR (a_o), vD ((own_D x)), s_, vD ((own_D x)), s_, vI (0), vI (0), vD ((own_D p0)), s_, vD ((own_D (own_rn (x + p0)))), s_, vD ((own_D (x + p0 - (own_rn (x + p0))))), s_] [(.ref a_o)] _
      refine st421 _ ?_
      show SS p e below m T421 53 #[vR (a_o), vD ((own_D x)), s_, vD ((own_D x)), s_, vI (0), vI (0), vD ((own_D p0)), s_, vD ((own_D (own_rn (x + p0)))), s_, vD ((own_D (x + p0 - (own_rn (x + p0))))), s_] [(.ref pa)] _
      refine XS.iload X421.here hx rfl (hb hby d3_53) rfl ?_
      refine XS.iinc X421.here hx rfl (hb hby d3_55) rfl (l' := #[vR (a_o), vD ((own_D x)), s_, vD ((own_D x)), s_, vI (1), vI (0), vD ((own_D p0)), s_, vD ((own_D (own_rn (x + p0)))), s_, vD ((own_D (x + p0 - (own_rn (x + p0))))), s_]) rfl ?_
      refine XS.dload X421.here hx rfl (hb hby d3_58) rfl ?_
      show SS p e below m T421 60 #[vR (a_o), vD ((own_D x)), s_, vD ((own_D x)), s_, vI (1), vI (0), vD ((own_D p0)), s_, vD ((own_D (own_rn (x + p0)))), s_, vD ((own_D (x + p0 - (own_rn (x + p0))))), s_] [(.double (own_D (x + p0 - (own_rn (x + p0))))), (.int 0), (.ref pa)] _
      refine st427 _ ?_
      show SS p e below m T427 61 #[vR (a_o), vD ((own_D x)), s_, vD ((own_D x)), s_, vI (1), vI (0), vD ((own_D p0)), s_, vD ((own_D (own_rn (x + p0)))), s_, vD ((own_D (x + p0 - (own_rn (x + p0))))), s_] [] _
      refine XS.dload X427.here hx rfl (hb hby d3_61) rfl ?_
      refine XS.dstoreN X427.here hx rfl (hb hby d3_63) rfl (l' := #[vR (a_o), vD ((own_D x)), s_, vD ((own_D (own_rn (x + p0)))), s_, vI (1), vI (0), vD ((own_D p0)), s_, vD ((own_D (own_rn (x + p0)))), s_, vD ((own_D (x + p0 - (own_rn (x + p0))))), s_]) rfl ?_
      refine XS.iinc X427.here hx rfl (hb hby d3_64) rfl (l' := #[vR (a_o), vD ((own_D x)), s_, vD ((own_D (own_rn (x + p0)))), s_, vI (1), vI (1), vD ((own_D p0)), s_, vD ((own_D (own_rn (x + p0)))), s_, vD ((own_D (x + p0 - (own_rn (x + p0))))), s_]) rfl ?_
      show SS p e below m T427 67 #[vR (a_o), vD ((own_D x)), s_, vD ((own_D (own_rn (x + p0)))), s_, vI (1), vI (1), vD ((own_D p0)), s_, vD ((own_D (own_rn (x + p0)))), s_, vD ((own_D (x + p0 - (own_rn (x + p0))))), s_] [] _
      refine XS.goto X427.here hx rfl (pc0 := 67) (pc' := 8) rfl (hb hby d3_67) (by decide) (by decide) ?_
      refine XS.iload X427.here hx rfl (hb hby d3_8) rfl ?_
      refine XS.aloadN X427.here hx rfl (hb hby d3_10) rfl rfl ?_
      show SS p e below m T427 11 #[vR (a_o), vD ((own_D x)), s_, vD ((own_D (own_rn (x + p0)))), s_, vI (1), vI (1), vD ((own_D p0)), s_, vD ((own_D (own_rn (x + p0)))), s_, vD ((own_D (x + p0 - (own_rn (x + p0))))), s_] [(.ref a_o), (.int 1)] _
      refine st440 _ ?_
      show SS p e below m T440 14 #[vR (a_o), vD ((own_D x)), s_, vD ((own_D (own_rn (x + p0)))), s_, vI (1), vI (1), vD ((own_D p0)), s_, vD ((own_D (own_rn (x + p0)))), s_, vD ((own_D (x + p0 - (own_rn (x + p0))))), s_] [(.int 3), (.int 1)] _
      refine XS.icmpNo X440.here hx rfl (hb hby d3_14) rfl (tlt ((by decide) : (1 : Int32) < (3 : Int32))).2.1 ?_
      refine XS.aloadN X440.here hx rfl (hb hby d3_17) rfl rfl ?_
      show SS p e below m T440 18 #[vR (a_o), vD ((own_D x)), s_, vD ((own_D (own_rn (x + p0)))), s_, vI (1), vI (1), vD ((own_D p0)), s_, vD ((own_D (own_rn (x + p0)))), s_, vD ((own_D (x + p0 - (own_rn (x + p0))))), s_] [(.ref a_o)] _
      refine st445 _ ?_
      show SS p e below m T445 21 #[vR (a_o), vD ((own_D x)), s_, vD ((own_D (own_rn (x + p0)))), s_, vI (1), vI (1), vD ((own_D p0)), s_, vD ((own_D (own_rn (x + p0)))), s_, vD ((own_D (x + p0 - (own_rn (x + p0))))), s_] [(.ref pa)] _
      refine XS.iload X445.here hx rfl (hb hby d3_21) rfl ?_
      show SS p e below m T445 23 #[vR (a_o), vD ((own_D x)), s_, vD ((own_D (own_rn (x + p0)))), s_, vI (1), vI (1), vD ((own_D p0)), s_, vD ((own_D (own_rn (x + p0)))), s_, vD ((own_D (x + p0 - (own_rn (x + p0))))), s_] [(.int 1), (.ref pa)] _
      refine X445.daload hx (j := (1 : Int32)) (v := (.double (own_D p1))) (by rw [e445]; exact Ar448.1) (State.isArrayOf_alike hZ.alike Ar448.2.1) Ar448.2.2 hin448 hat448 (g := (mkF m 23 #[vR (a_o), vD ((own_D x)), s_, vD ((own_D (own_rn (x + p0)))), s_, vI (1), vI (1), vD ((own_D p0)), s_, vD ((own_D (own_rn (x + p0)))), s_, vD ((own_D (x + p0 - (own_rn (x + p0))))), s_] [(.int 1), (.ref pa)])) rfl rfl (hb hby d3_23) _ ?_
      show SS p e below m T445 24 #[vR (a_o), vD ((own_D x)), s_, vD ((own_D (own_rn (x + p0)))), s_, vI (1), vI (1), vD ((own_D p0)), s_, vD ((own_D (own_rn (x + p0)))), s_, vD ((own_D (x + p0 - (own_rn (x + p0))))), s_] [(.double (own_D p1))] _
      refine XS.dstore X445.here hx rfl (hb hby d3_24) rfl (l' := #[vR (a_o), vD ((own_D x)), s_, vD ((own_D (own_rn (x + p0)))), s_, vI (1), vI (1), vD ((own_D p1)), s_, vD ((own_D (own_rn (x + p0)))), s_, vD ((own_D (x + p0 - (own_rn (x + p0))))), s_]) rfl ?_
      refine XS.dloadN X445.here hx rfl (hb hby d3_26) rfl ?_
      refine XS.dload X445.here hx rfl (hb hby d3_27) rfl ?_
      show SS p e below m T445 29 #[vR (a_o), vD ((own_D x)), s_, vD ((own_D (own_rn (x + p0)))), s_, vI (1), vI (1), vD ((own_D p1)), s_, vD ((own_D (own_rn (x + p0)))), s_, vD ((own_D (x + p0 - (own_rn (x + p0))))), s_] [(.double (own_D p1)), (.double (own_D (own_rn (x + p0))))] _
      refine XS.daddS X445.here hx rfl (hb hby d3_29) rfl (nn_w (a := Int64.ofInt (own_rn ((own_rn (x + p0)) + p1))) hq453) hq453 ?_
      show SS p e below m T445 30 #[vR (a_o), vD ((own_D x)), s_, vD ((own_D (own_rn (x + p0)))), s_, vI (1), vI (1), vD ((own_D p1)), s_, vD ((own_D (own_rn (x + p0)))), s_, vD ((own_D (x + p0 - (own_rn (x + p0))))), s_] [(.double (own_D (own_rn ((own_rn (x + p0)) + p1))))] _
      refine XS.dstore X445.here hx rfl (hb hby d3_30) rfl (l' := #[vR (a_o), vD ((own_D x)), s_, vD ((own_D (own_rn (x + p0)))), s_, vI (1), vI (1), vD ((own_D p1)), s_, vD ((own_D (own_rn ((own_rn (x + p0)) + p1)))), s_, vD ((own_D (x + p0 - (own_rn (x + p0))))), s_]) rfl ?_
      refine XS.dloadN X445.here hx rfl (hb hby d3_32) rfl ?_
      refine XS.dload X445.here hx rfl (hb hby d3_33) rfl ?_
      show SS p e below m T445 35 #[vR (a_o), vD ((own_D x)), s_, vD ((own_D (own_rn (x + p0)))), s_, vI (1), vI (1), vD ((own_D p1)), s_, vD ((own_D (own_rn ((own_rn (x + p0)) + p1)))), s_, vD ((own_D (x + p0 - (own_rn (x + p0))))), s_] [(.double (own_D p1)), (.double (own_D (own_rn (x + p0))))] _
      refine XS.dload X445.here hx rfl (hb hby d3_35) rfl ?_
      show SS p e below m T445 37 #[vR (a_o), vD ((own_D x)), s_, vD ((own_D (own_rn (x + p0)))), s_, vI (1), vI (1), vD ((own_D p1)), s_, vD ((own_D (own_rn ((own_rn (x + p0)) + p1)))), s_, vD ((own_D (x + p0 - (own_rn (x + p0))))), s_] [(.double (own_D (own_rn ((own_rn (x + p0)) + p1)))), (.double (own_D p1)), (.double (own_D (own_rn (x + p0))))] _
      refine st459 _ ?_
      show SS p e below m T459 40 #[vR (a_o), vD ((own_D x)), s_, vD ((own_D (own_rn (x + p0)))), s_, vI (1), vI (1), vD ((own_D p1)), s_, vD ((own_D (own_rn ((own_rn (x + p0)) + p1)))), s_, vD ((own_D (x + p0 - (own_rn (x + p0))))), s_] [(.double (own_D ((own_rn (x + p0)) + p1 - (own_rn ((own_rn (x + p0)) + p1)))))] _
      refine XS.dstore X459.here hx rfl (hb hby d3_40) rfl (l' := #[vR (a_o), vD ((own_D x)), s_, vD ((own_D (own_rn (x + p0)))), s_, vI (1), vI (1), vD ((own_D p1)), s_, vD ((own_D (own_rn ((own_rn (x + p0)) + p1)))), s_, vD ((own_D ((own_rn (x + p0)) + p1 - (own_rn ((own_rn (x + p0)) + p1))))), s_]) rfl ?_
      refine XS.dload X459.here hx rfl (hb hby d3_42) rfl ?_
      refine XS.dconst0 X459.here hx rfl (hb hby d3_44) own_c0 ?_
      show SS p e below m T459 45 #[vR (a_o), vD ((own_D x)), s_, vD ((own_D (own_rn (x + p0)))), s_, vI (1), vI (1), vD ((own_D p1)), s_, vD ((own_D (own_rn ((own_rn (x + p0)) + p1)))), s_, vD ((own_D ((own_rn (x + p0)) + p1 - (own_rn ((own_rn (x + p0)) + p1))))), s_] [(.double (own_D 0)), (.double (own_D ((own_rn (x + p0)) + p1 - (own_rn ((own_rn (x + p0)) + p1)))))] _
      refine XS.dcmpS X459.here hx rfl (hb hby d3_45) rfl (own_DcmpV hRe461 own_rep0 (by omega) (by omega) (by omega) (by omega) _) ?_
      exact kt
    by_cases hc46_468 : ((own_rn (x + p0)) + p1 - (own_rn ((own_rn (x + p0)) + p1))) = 0
    · obtain ⟨T476, X476, e476, st476⟩ := getF X459 hx hZ hown (host := "") (Or.inl (hw _ (gm 17 rfl))) Via.refl eh459 Fq439 (g := (mkF m 11 #[vR (a_o), vD ((own_D x)), s_, vD ((own_D (own_rn ((own_rn (x + p0)) + p1)))), s_, vI (1), vI (2), vD ((own_D p1)), s_, vD ((own_D (own_rn ((own_rn (x + p0)) + p1)))), s_, vD ((own_D ((own_rn (x + p0)) + p1 - (own_rn ((own_rn (x + p0)) + p1))))), s_] [(.ref a_o), (.int 2)])) rfl rfl (hb hby d3_11)
      obtain ⟨T480, X480, e480, st480⟩ := getF X476 hx hZ hown (host := "") (Or.inl (hw _ (gm 10 rfl))) Via.refl e476 Fq444 (g := (mkF m 18 #[vR (a_o), vD ((own_D x)), s_, vD ((own_D (own_rn ((own_rn (x + p0)) + p1)))), s_, vI (1), vI (2), vD ((own_D p1)), s_, vD ((own_D (own_rn ((own_rn (x + p0)) + p1)))), s_, vD ((own_D ((own_rn (x + p0)) + p1 - (own_rn ((own_rn (x + p0)) + p1))))), s_] [(.ref a_o)])) rfl rfl (hb hby d3_18)
      obtain ⟨cl483, Ar483, q483, S483, M483, H483, G483⟩ := id Vm428
      have hin483 : ¬ ((2 : Int32) < 0 ∨ cl483.slots.size ≤ ((2 : Int32)).toNatClampNeg) := inb_of S483 ⟨by decide, by decide⟩
      have hat483 : cl483.slots[((2 : Int32)).toNatClampNeg]? = some (.double (own_D p2)) := H483.at hin483 rfl
      have hq488 : FP.dadd (own_D (own_rn ((own_rn (x + p0)) + p1))) (own_D p2) = own_D (own_rn ((own_rn ((own_rn (x + p0)) + p1)) + p2)) := own_Dadd (own_rrn _) hr2 (by omega) (by omega) (by omega) (by omega) (by omega) (by omega)
      have hq488E := own_errSm (n := (own_rn ((own_rn (x + p0)) + p1)) + p2) (by omega) (by omega)
      obtain ⟨_, _, ⟨T494, L494, k494, n494⟩, -, X494, ⟨Lc494, hQ494, l494, y494, z494⟩, st494⟩ := Jvm.LawKit.callS X480 hx (y := (⟨"com/example/merit/merit/ExactSum", "roundingError", "(DDD)D"⟩ : MethodName)) hown (mvT hZ (hw _ (gm 24 rfl))) (mvT hZ (hw _ (gm 25 rfl))) (mvT hZ (hw _ (gm 2 rfl))) (mvT hZ (hw _ (gm 26 rfl))) (by decide) (backOf (W := 0) (own_re l Z a0 hw [] (own_rn ((own_rn (x + p0)) + p1)) p2 (own_rn ((own_rn ((own_rn (x + p0)) + p1)) + p2)) h427 n0 Zs430 (own_rrn _) hr2 rfl (by omega)) hZ (hw _ (gm 26 rfl)) (hw _ (gm 2 rfl)) (by decide) (by decide)) (g := (mkF m 37 #[vR (a_o), vD ((own_D x)), s_, vD ((own_D (own_rn ((own_rn (x + p0)) + p1)))), s_, vI (1), vI (2), vD ((own_D p2)), s_, vD ((own_D (own_rn ((own_rn ((own_rn (x + p0)) + p1)) + p2)))), s_, vD ((own_D ((own_rn (x + p0)) + p1 - (own_rn ((own_rn (x + p0)) + p1))))), s_] [(.double (own_D (own_rn ((own_rn ((own_rn (x + p0)) + p1)) + p2)))), (.double (own_D p2)), (.double (own_D (own_rn ((own_rn (x + p0)) + p1))))])) rfl (by rw [hml]; rfl) (argsL := [(.double (own_D (own_rn ((own_rn (x + p0)) + p1)))), (.double (own_D p2)), (.double (own_D (own_rn ((own_rn ((own_rn (x + p0)) + p1)) + p2))))]) (rest := []) (lenOf own_pd0 rfl) rfl (by show 2 * 0 + _ ≤ _; exact Nat.le_of_eq rfl) (hb hby d3_37) (fun _ _ => ⟨rfl, e480, (by decide : 0 + 0 ≤ _), (by decide : 0 + 0 ≤ _)⟩)
      dsimp only [Pt.U, Pt.locs, Pt.cells, Pt.slots] at X494 l494 y494 z494 st494 hQ494
      rw [l494, y494, z494] at X494
      obtain ⟨rfl, Nq494, eh494⟩ := hQ494
      have N495 := Fr.app N460 Nq494
      have hRe496 : own_Rep ((own_rn ((own_rn (x + p0)) + p1)) + p2 - (own_rn ((own_rn ((own_rn (x + p0)) + p1)) + p2))) := own_repSm (by omega) (by omega)
      have pre502 : ∀ t, Steps p.tables e below (T494.setTop (mkF m 46 #[vR (a_o), vD ((own_D x)), s_, vD ((own_D (own_rn ((own_rn (x + p0)) + p1)))), s_, vI (1), vI (2), vD ((own_D p2)), s_, vD ((own_D (own_rn ((own_rn ((own_rn (x + p0)) + p1)) + p2)))), s_, vD ((own_D ((own_rn ((own_rn (x + p0)) + p1)) + p2 - (own_rn ((own_rn ((own_rn (x + p0)) + p1)) + p2))))), s_] [(.int (own_cmp ((own_rn ((own_rn (x + p0)) + p1)) + p2 - (own_rn ((own_rn ((own_rn (x + p0)) + p1)) + p2))) 0))])) t → Steps p.tables e below (s₁.setTop (entryFrame m #[(.ref a_o), (.double (own_D x))] 13)) t := by
        intro t kt
        refine pre467 _ ?_
        show SS p e below m T459 46 #[vR (a_o), vD ((own_D x)), s_, vD ((own_D (own_rn (x + p0)))), s_, vI (1), vI (1), vD ((own_D p1)), s_, vD ((own_D (own_rn ((own_rn (x + p0)) + p1)))), s_, vD ((own_D ((own_rn (x + p0)) + p1 - (own_rn ((own_rn (x + p0)) + p1))))), s_] [(.int (own_cmp ((own_rn (x + p0)) + p1 - (own_rn ((own_rn (x + p0)) + p1))) 0))] _
        refine XS.ifYes X459.here hx rfl (pc0 := 46) (pc' := 61) rfl (hb hby d3_46) rfl ((if0 _ _).trans (teq (own_cmEq.mpr hc46_468)).1) (by decide) (by decide) ?_
        refine XS.dload X459.here hx rfl (hb hby d3_61) rfl ?_
        refine XS.dstoreN X459.here hx rfl (hb hby d3_63) rfl (l' := #[vR (a_o), vD ((own_D x)), s_, vD ((own_D (own_rn ((own_rn (x + p0)) + p1)))), s_, vI (1), vI (1), vD ((own_D p1)), s_, vD ((own_D (own_rn ((own_rn (x + p0)) + p1)))), s_, vD ((own_D ((own_rn (x + p0)) + p1 - (own_rn ((own_rn (x + p0)) + p1))))), s_]) rfl ?_
        show SS p e below m T459 64 #[vR (a_o), vD ((own_D x)), s_, vD ((own_D (own_rn ((own_rn (x + p0)) + p1)))), s_, vI (1), vI (1), vD ((own_D p1)), s_, vD ((own_D (own_rn ((own_rn (x + p0)) + p1)))), s_, vD ((own_D ((own_rn (x + p0)) + p1 - (own_rn ((own_rn (x + p0)) + p1))))), s_] [] _
        refine XS.iinc X459.here hx rfl (hb hby d3_64) rfl (l' := #[vR (a_o), vD ((own_D x)), s_, vD ((own_D (own_rn ((own_rn (x + p0)) + p1)))), s_, vI (1), vI (2), vD ((own_D p1)), s_, vD ((own_D (own_rn ((own_rn (x + p0)) + p1)))), s_, vD ((own_D ((own_rn (x + p0)) + p1 - (own_rn ((own_rn (x + p0)) + p1))))), s_]) rfl ?_
        refine XS.goto X459.here hx rfl (pc0 := 67) (pc' := 8) rfl (hb hby d3_67) (by decide) (by decide) ?_
        refine XS.iload X459.here hx rfl (hb hby d3_8) rfl ?_
        show SS p e below m T459 10 #[vR (a_o), vD ((own_D x)), s_, vD ((own_D (own_rn ((own_rn (x + p0)) + p1)))), s_, vI (1), vI (2), vD ((own_D p1)), s_, vD ((own_D (own_rn ((own_rn (x + p0)) + p1)))), s_, vD ((own_D ((own_rn (x + p0)) + p1 - (own_rn ((own_rn (x + p0)) + p1))))), s_] [(.int 2)] _
        refine XS.aloadN X459.here hx rfl (hb hby d3_10) rfl rfl ?_
        show SS p e below m T459 11 #[vR (a_o), vD ((own_D x)), s_, vD ((own_D (own_rn ((own_rn (x + p0)) + p1)))), s_, vI (1), vI (2), vD ((own_D p1)), s_, vD ((own_D (own_rn ((own_rn (x + p0)) + p1)))), s_, vD ((own_D ((own_rn (x + p0)) + p1 - (own_rn ((own_rn (x + p0)) + p1))))), s_] [(.ref a_o), (.int 2)] _
        refine st476 _ ?_
        show SS p e below m T476 14 #[vR (a_o), vD ((own_D x)), s_, vD ((own_D (own_rn ((own_rn (x + p0)) + p1)))), s_, vI (1), vI (2), vD ((own_D p1)), s_, vD ((own_D (own_rn ((own_rn (x + p0)) + p1)))), s_, vD ((own_D ((own_rn (x + p0)) + p1 - (own_rn ((own_rn (x + p0)) + p1))))), s_] [(.int 3), (.int 2)] _
        refine XS.icmpNo X476.here hx rfl (hb hby d3_14) rfl (tlt ((by decide) : (2 : Int32) < (3 : Int32))).2.1 ?_
        refine XS.aloadN X476.here hx rfl (hb hby d3_17) rfl rfl ?_
        show SS p e below m T476 18 #[vR (a_o), vD ((own_D x)), s_, vD ((own_D (own_rn ((own_rn (x + p0)) + p1)))), s_, vI (1), vI (2), vD ((own_D p1)), s_, vD ((own_D (own_rn ((own_rn (x + p0)) + p1)))), s_, vD ((own_D ((own_rn (x + p0)) + p1 - (own_rn ((own_rn (x + p0)) + p1))))), s_] [(.ref a_o)] _
        refine st480 _ ?_
        show SS p e below m T480 21 #[vR (a_o), vD ((own_D x)), s_, vD ((own_D (own_rn ((own_rn (x + p0)) + p1)))), s_, vI (1), vI (2), vD ((own_D p1)), s_, vD ((own_D (own_rn ((own_rn (x + p0)) + p1)))), s_, vD ((own_D ((own_rn (x + p0)) + p1 - (own_rn ((own_rn (x + p0)) + p1))))), s_] [(.ref pa)] _
        refine XS.iload X480.here hx rfl (hb hby d3_21) rfl ?_
        show SS p e below m T480 23 #[vR (a_o), vD ((own_D x)), s_, vD ((own_D (own_rn ((own_rn (x + p0)) + p1)))), s_, vI (1), vI (2), vD ((own_D p1)), s_, vD ((own_D (own_rn ((own_rn (x + p0)) + p1)))), s_, vD ((own_D ((own_rn (x + p0)) + p1 - (own_rn ((own_rn (x + p0)) + p1))))), s_] [(.int 2), (.ref pa)] _
        refine X480.daload hx (j := (2 : Int32)) (v := (.double (own_D p2))) (by rw [e480]; exact Ar483.1) (State.isArrayOf_alike hZ.alike Ar483.2.1) Ar483.2.2 hin483 hat483 (g := (mkF m 23 #[vR (a_o), vD ((own_D x)), s_, vD ((own_D (own_rn ((own_rn (x + p0)) + p1)))), s_, vI (1), vI (2), vD ((own_D p1)), s_, vD ((own_D (own_rn ((own_rn (x + p0)) + p1)))), s_, vD ((own_D ((own_rn (x + p0)) + p1 - (own_rn ((own_rn (x + p0)) + p1))))), s_] [(.int 2), (.ref pa)])) rfl rfl (hb hby d3_23) _ ?_
        show SS p e below m T480 24 #[vR (a_o), vD ((own_D x)), s_, vD ((own_D (own_rn ((own_rn (x + p0)) + p1)))), s_, vI (1), vI (2), vD ((own_D p1)), s_, vD ((own_D (own_rn ((own_rn (x + p0)) + p1)))), s_, vD ((own_D ((own_rn (x + p0)) + p1 - (own_rn ((own_rn (x + p0)) + p1))))), s_] [(.double (own_D p2))] _
        refine XS.dstore X480.here hx rfl (hb hby d3_24) rfl (l' := #[vR (a_o), vD ((own_D x)), s_, vD ((own_D (own_rn ((own_rn (x + p0)) + p1)))), s_, vI (1), vI (2), vD ((own_D p2)), s_, vD ((own_D (own_rn ((own_rn (x + p0)) + p1)))), s_, vD ((own_D ((own_rn (x + p0)) + p1 - (own_rn ((own_rn (x + p0)) + p1))))), s_]) rfl ?_
        refine XS.dloadN X480.here hx rfl (hb hby d3_26) rfl ?_
        refine XS.dload X480.here hx rfl (hb hby d3_27) rfl ?_
        show SS p e below m T480 29 #[vR (a_o), vD ((own_D x)), s_, vD ((own_D (own_rn ((own_rn (x + p0)) + p1)))), s_, vI (1), vI (2), vD ((own_D p2)), s_, vD ((own_D (own_rn ((own_rn (x + p0)) + p1)))), s_, vD ((own_D ((own_rn (x + p0)) + p1 - (own_rn ((own_rn (x + p0)) + p1))))), s_] [(.double (own_D p2)), (.double (own_D (own_rn ((own_rn (x + p0)) + p1))))] _
        refine XS.daddS X480.here hx rfl (hb hby d3_29) rfl (nn_w (a := Int64.ofInt (own_rn ((own_rn ((own_rn (x + p0)) + p1)) + p2))) hq488) hq488 ?_
        show SS p e below m T480 30 #[vR (a_o), vD ((own_D x)), s_, vD ((own_D (own_rn ((own_rn (x + p0)) + p1)))), s_, vI (1), vI (2), vD ((own_D p2)), s_, vD ((own_D (own_rn ((own_rn (x + p0)) + p1)))), s_, vD ((own_D ((own_rn (x + p0)) + p1 - (own_rn ((own_rn (x + p0)) + p1))))), s_] [(.double (own_D (own_rn ((own_rn ((own_rn (x + p0)) + p1)) + p2))))] _
        refine XS.dstore X480.here hx rfl (hb hby d3_30) rfl (l' := #[vR (a_o), vD ((own_D x)), s_, vD ((own_D (own_rn ((own_rn (x + p0)) + p1)))), s_, vI (1), vI (2), vD ((own_D p2)), s_, vD ((own_D (own_rn ((own_rn ((own_rn (x + p0)) + p1)) + p2)))), s_, vD ((own_D ((own_rn (x + p0)) + p1 - (own_rn ((own_rn (x + p0)) + p1))))), s_]) rfl ?_
        refine XS.dloadN X480.here hx rfl (hb hby d3_32) rfl ?_
        refine XS.dload X480.here hx rfl (hb hby d3_33) rfl ?_
        show SS p e below m T480 35 #[vR (a_o), vD ((own_D x)), s_, vD ((own_D (own_rn ((own_rn (x + p0)) + p1)))), s_, vI (1), vI (2), vD ((own_D p2)), s_, vD ((own_D (own_rn ((own_rn ((own_rn (x + p0)) + p1)) + p2)))), s_, vD ((own_D ((own_rn (x + p0)) + p1 - (own_rn ((own_rn (x + p0)) + p1))))), s_] [(.double (own_D p2)), (.double (own_D (own_rn ((own_rn (x + p0)) + p1))))] _
        refine XS.dload X480.here hx rfl (hb hby d3_35) rfl ?_
        show SS p e below m T480 37 #[vR (a_o), vD ((own_D x)), s_, vD ((own_D (own_rn ((own_rn (x + p0)) + p1)))), s_, vI (1), vI (2), vD ((own_D p2)), s_, vD ((own_D (own_rn ((own_rn ((own_rn (x + p0)) + p1)) + p2)))), s_, vD ((own_D ((own_rn (x + p0)) + p1 - (own_rn ((own_rn (x + p0)) + p1))))), s_] [(.double (own_D (own_rn ((own_rn ((own_rn (x + p0)) + p1)) + p2)))), (.double (own_D p2)), (.double (own_D (own_rn ((own_rn (x + p0)) + p1))))] _
        refine st494 _ ?_
        show SS p e below m T494 40 #[vR (a_o), vD ((own_D x)), s_, vD ((own_D (own_rn ((own_rn (x + p0)) + p1)))), s_, vI (1), vI (2), vD ((own_D p2)), s_, vD ((own_D (own_rn ((own_rn ((own_rn (x + p0)) + p1)) + p2)))), s_, vD ((own_D ((own_rn (x + p0)) + p1 - (own_rn ((own_rn (x + p0)) + p1))))), s_] [(.double (own_D ((own_rn ((own_rn (x + p0)) + p1)) + p2 - (own_rn ((own_rn ((own_rn (x + p0)) + p1)) + p2)))))] _
        refine XS.dstore X494.here hx rfl (hb hby d3_40) rfl (l' := #[vR (a_o), vD ((own_D x)), s_, vD ((own_D (own_rn ((own_rn (x + p0)) + p1)))), s_, vI (1), vI (2), vD ((own_D p2)), s_, vD ((own_D (own_rn ((own_rn ((own_rn (x + p0)) + p1)) + p2)))), s_, vD ((own_D ((own_rn ((own_rn (x + p0)) + p1)) + p2 - (own_rn ((own_rn ((own_rn (x + p0)) + p1)) + p2))))), s_]) rfl ?_
        refine XS.dload X494.here hx rfl (hb hby d3_42) rfl ?_
        refine XS.dconst0 X494.here hx rfl (hb hby d3_44) own_c0 ?_
        show SS p e below m T494 45 #[vR (a_o), vD ((own_D x)), s_, vD ((own_D (own_rn ((own_rn (x + p0)) + p1)))), s_, vI (1), vI (2), vD ((own_D p2)), s_, vD ((own_D (own_rn ((own_rn ((own_rn (x + p0)) + p1)) + p2)))), s_, vD ((own_D ((own_rn ((own_rn (x + p0)) + p1)) + p2 - (own_rn ((own_rn ((own_rn (x + p0)) + p1)) + p2))))), s_] [(.double (own_D 0)), (.double (own_D ((own_rn ((own_rn (x + p0)) + p1)) + p2 - (own_rn ((own_rn ((own_rn (x + p0)) + p1)) + p2)))))] _
        refine XS.dcmpS X494.here hx rfl (hb hby d3_45) rfl (own_DcmpV hRe496 own_rep0 (by omega) (by omega) (by omega) (by omega) _) ?_
        exact kt
      by_cases hc46_503 : ((own_rn ((own_rn (x + p0)) + p1)) + p2 - (own_rn ((own_rn ((own_rn (x + p0)) + p1)) + p2))) = 0
      · obtain ⟨T511, X511, e511, st511⟩ := getF X494 hx hZ hown (host := "") (Or.inl (hw _ (gm 17 rfl))) Via.refl eh494 Fq439 (g := (mkF m 11 #[vR (a_o), vD ((own_D x)), s_, vD ((own_D (own_rn ((own_rn ((own_rn (x + p0)) + p1)) + p2)))), s_, vI (1), vI (3), vD ((own_D p2)), s_, vD ((own_D (own_rn ((own_rn ((own_rn (x + p0)) + p1)) + p2)))), s_, vD ((own_D ((own_rn ((own_rn (x + p0)) + p1)) + p2 - (own_rn ((own_rn ((own_rn (x + p0)) + p1)) + p2))))), s_] [(.ref a_o), (.int 3)])) rfl rfl (hb hby d3_11)
        have pre517 : ∀ t, Steps p.tables e below (T511.setTop (mkF m 73 #[vR (a_o), vD ((own_D x)), s_, vD ((own_D (own_rn ((own_rn ((own_rn (x + p0)) + p1)) + p2)))), s_, vI (1), vI (3), vD ((own_D p2)), s_, vD ((own_D (own_rn ((own_rn ((own_rn (x + p0)) + p1)) + p2)))), s_, vD ((own_D ((own_rn ((own_rn (x + p0)) + p1)) + p2 - (own_rn ((own_rn ((own_rn (x + p0)) + p1)) + p2))))), s_] [(.int (own_cmp (own_rn ((own_rn ((own_rn (x + p0)) + p1)) + p2)) 0))])) t → Steps p.tables e below (s₁.setTop (entryFrame m #[(.ref a_o), (.double (own_D x))] 13)) t := by
          intro t kt
          refine pre502 _ ?_
          show SS p e below m T494 46 #[vR (a_o), vD ((own_D x)), s_, vD ((own_D (own_rn ((own_rn (x + p0)) + p1)))), s_, vI (1), vI (2), vD ((own_D p2)), s_, vD ((own_D (own_rn ((own_rn ((own_rn (x + p0)) + p1)) + p2)))), s_, vD ((own_D ((own_rn ((own_rn (x + p0)) + p1)) + p2 - (own_rn ((own_rn ((own_rn (x + p0)) + p1)) + p2))))), s_] [(.int (own_cmp ((own_rn ((own_rn (x + p0)) + p1)) + p2 - (own_rn ((own_rn ((own_rn (x + p0)) + p1)) + p2))) 0))] _
          refine XS.ifYes X494.here hx rfl (pc0 := 46) (pc' := 61) rfl (hb hby d3_46) rfl ((if0 _ _).trans (teq (own_cmEq.mpr hc46_503)).1) (by decide) (by decide) ?_
          refine XS.dload X494.here hx rfl (hb hby d3_61) rfl ?_
          refine XS.dstoreN X494.here hx rfl (hb hby d3_63) rfl (l' := #[vR (a_o), vD ((own_D x)), s_, vD ((own_D (own_rn ((own_rn ((own_rn (x + p0)) + p1)) + p2)))), s_, vI (1), vI (2), vD ((own_D p2)), s_, vD ((own_D (own_rn ((own_rn ((own_rn (x + p0)) + p1)) + p2)))), s_, vD ((own_D ((own_rn ((own_rn (x + p0)) + p1)) + p2 - (own_rn ((own_rn ((own_rn (x + p0)) + p1)) + p2))))), s_]) rfl ?_
          show SS p e below m T494 64 #[vR (a_o), vD ((own_D x)), s_, vD ((own_D (own_rn ((own_rn ((own_rn (x + p0)) + p1)) + p2)))), s_, vI (1), vI (2), vD ((own_D p2)), s_, vD ((own_D (own_rn ((own_rn ((own_rn (x + p0)) + p1)) + p2)))), s_, vD ((own_D ((own_rn ((own_rn (x + p0)) + p1)) + p2 - (own_rn ((own_rn ((own_rn (x + p0)) + p1)) + p2))))), s_] [] _
          refine XS.iinc X494.here hx rfl (hb hby d3_64) rfl (l' := #[vR (a_o), vD ((own_D x)), s_, vD ((own_D (own_rn ((own_rn ((own_rn (x + p0)) + p1)) + p2)))), s_, vI (1), vI (3), vD ((own_D p2)), s_, vD ((own_D (own_rn ((own_rn ((own_rn (x + p0)) + p1)) + p2)))), s_, vD ((own_D ((own_rn ((own_rn (x + p0)) + p1)) + p2 - (own_rn ((own_rn ((own_rn (x + p0)) + p1)) + p2))))), s_]) rfl ?_
          refine XS.goto X494.here hx rfl (pc0 := 67) (pc' := 8) rfl (hb hby d3_67) (by decide) (by decide) ?_
          refine XS.iload X494.here hx rfl (hb hby d3_8) rfl ?_
          show SS p e below m T494 10 #[vR (a_o), vD ((own_D x)), s_, vD ((own_D (own_rn ((own_rn ((own_rn (x + p0)) + p1)) + p2)))), s_, vI (1), vI (3), vD ((own_D p2)), s_, vD ((own_D (own_rn ((own_rn ((own_rn (x + p0)) + p1)) + p2)))), s_, vD ((own_D ((own_rn ((own_rn (x + p0)) + p1)) + p2 - (own_rn ((own_rn ((own_rn (x + p0)) + p1)) + p2))))), s_] [(.int 3)] _
          refine XS.aloadN X494.here hx rfl (hb hby d3_10) rfl rfl ?_
          show SS p e below m T494 11 #[vR (a_o), vD ((own_D x)), s_, vD ((own_D (own_rn ((own_rn ((own_rn (x + p0)) + p1)) + p2)))), s_, vI (1), vI (3), vD ((own_D p2)), s_, vD ((own_D (own_rn ((own_rn ((own_rn (x + p0)) + p1)) + p2)))), s_, vD ((own_D ((own_rn ((own_rn (x + p0)) + p1)) + p2 - (own_rn ((own_rn ((own_rn (x + p0)) + p1)) + p2))))), s_] [(.ref a_o), (.int 3)] _
          refine st511 _ ?_
          show SS p e below m T511 14 #[vR (a_o), vD ((own_D x)), s_, vD ((own_D (own_rn ((own_rn ((own_rn (x + p0)) + p1)) + p2)))), s_, vI (1), vI (3), vD ((own_D p2)), s_, vD ((own_D (own_rn ((own_rn ((own_rn (x + p0)) + p1)) + p2)))), s_, vD ((own_D ((own_rn ((own_rn (x + p0)) + p1)) + p2 - (own_rn ((own_rn ((own_rn (x + p0)) + p1)) + p2))))), s_] [(.int 3), (.int 3)] _
          refine XS.icmpYes X511.here hx rfl (pc0 := 14) (pc' := 70) rfl (hb hby d3_14) rfl (flt ((by decide) : ¬ ((3 : Int32) < (3 : Int32)))).2.1 (by decide) (by decide) ?_
          refine XS.dloadN X511.here hx rfl (hb hby d3_70) rfl ?_
          refine XS.dconst0 X511.here hx rfl (hb hby d3_71) own_c0 ?_
          show SS p e below m T511 72 #[vR (a_o), vD ((own_D x)), s_, vD ((own_D (own_rn ((own_rn ((own_rn (x + p0)) + p1)) + p2)))), s_, vI (1), vI (3), vD ((own_D p2)), s_, vD ((own_D (own_rn ((own_rn ((own_rn (x + p0)) + p1)) + p2)))), s_, vD ((own_D ((own_rn ((own_rn (x + p0)) + p1)) + p2 - (own_rn ((own_rn ((own_rn (x + p0)) + p1)) + p2))))), s_] [(.double (own_D 0)), (.double (own_D (own_rn ((own_rn ((own_rn (x + p0)) + p1)) + p2))))] _
          refine XS.dcmpS X511.here hx rfl (hb hby d3_72) rfl (own_DcmpV (own_rrn _) own_rep0 (by omega) (by omega) (by omega) (by omega) _) ?_
          exact kt
        by_cases hc73_518 : (own_rn ((own_rn ((own_rn (x + p0)) + p1)) + p2)) = 0
        · have Fq522 : Exa Z h427 a_o "com/example/merit/merit/ExactSum" := (hxa.wr W427)
          obtain ⟨T523, h523, X523, e523, W523, st523⟩ := putF X511 hx hZ hown (host := "") (Or.inl (hw _ (gm 17 rfl))) Via.refl e511 Fq439 Fq522 (Or.inl (hw _ (gm 18 rfl))) (hw _ (gm 1 rfl)) (ty := .int) (by decide) rfl rfl (g := (mkF m 115 #[vR (a_o), vD ((own_D x)), s_, vD ((own_D (own_rn ((own_rn ((own_rn (x + p0)) + p1)) + p2)))), s_, vI (1), vI (3), vD ((own_D p2)), s_, vD ((own_D (own_rn ((own_rn ((own_rn (x + p0)) + p1)) + p2)))), s_, vD ((own_D ((own_rn ((own_rn (x + p0)) + p1)) + p2 - (own_rn ((own_rn ((own_rn (x + p0)) + p1)) + p2))))), s_] [(.int 1), (.ref a_o)])) rfl rfl (hb hby d3_115)
          have Kc524 : Keep h0 h523 [a_o, pa] := Kc429.wr W523 (Or.inl (ga 0 rfl))
          have Zs525 : n0 ≤ h523.size := Nat.le_trans Zs430 (Keep.of_wr W523).1
          have N526 := Fr.snoc X523 N495 hg
          have Fw523 : Fld Z h523 a_o "com/example/merit/merit/ExactSum" "count" "I" (.int 1) := Fq439.same W523
          obtain ⟨fs, hr, hrun, hended, hW, hsame⟩ := X523.leave (v := none) (fun _ => rfl) (hlocks := BodyLoose.notSynchronized Bd)
          refine ⟨_, _, pre517 _ ?_, hrun, hended, _, _, rfl, ?_, ⟨_, rfl⟩, hW, hsame.mono (by decide) (by decide)⟩
          · show SS p e below m T511 73 #[vR (a_o), vD ((own_D x)), s_, vD ((own_D (own_rn ((own_rn ((own_rn (x + p0)) + p1)) + p2)))), s_, vI (1), vI (3), vD ((own_D p2)), s_, vD ((own_D (own_rn ((own_rn ((own_rn (x + p0)) + p1)) + p2)))), s_, vD ((own_D ((own_rn ((own_rn (x + p0)) + p1)) + p2 - (own_rn ((own_rn ((own_rn (x + p0)) + p1)) + p2))))), s_] [(.int (own_cmp (own_rn ((own_rn ((own_rn (x + p0)) + p1)) + p2)) 0))] _
            refine XS.ifYes X511.here hx rfl (pc0 := 73) (pc' := 112) rfl (hb hby d3_73) rfl ((if0 _ _).trans (teq (own_cmEq.mpr hc73_518)).1) (by decide) (by decide) ?_
            refine XS.aloadN X511.here hx rfl (hb hby d3_112) rfl rfl ?_
            refine XS.iload X511.here hx rfl (hb hby d3_113) rfl ?_
            show SS p e below m T511 115 #[vR (a_o), vD ((own_D x)), s_, vD ((own_D (own_rn ((own_rn ((own_rn (x + p0)) + p1)) + p2)))), s_, vI (1), vI (3), vD ((own_D p2)), s_, vD ((own_D (own_rn ((own_rn ((own_rn (x + p0)) + p1)) + p2)))), s_, vD ((own_D ((own_rn ((own_rn (x + p0)) + p1)) + p2 - (own_rn ((own_rn ((own_rn (x + p0)) + p1)) + p2))))), s_] [(.int 1), (.ref a_o)] _
            refine st523 _ ?_
            show SS p e below m T523 118 #[vR (a_o), vD ((own_D x)), s_, vD ((own_D (own_rn ((own_rn ((own_rn (x + p0)) + p1)) + p2)))), s_, vI (1), vI (3), vD ((own_D p2)), s_, vD ((own_D (own_rn ((own_rn ((own_rn (x + p0)) + p1)) + p2)))), s_, vD ((own_D ((own_rn ((own_rn (x + p0)) + p1)) + p2 - (own_rn ((own_rn ((own_rn (x + p0)) + p1)) + p2))))), s_] [] _
            exact X523.returnOut hx Bd.returns (hb hby d3_118) hr
          · show Qown_add3 Z x a_o pa k_p p0 p1 p2 w3 h0 n0 _ T523.heap _
            rw [e523]
            have hv : (own_add3_f x p0 p1 p2) = [(x + p0 - (own_rn (x + p0)))] := by unfold own_add3_f; rw [if_neg hc46_37, if_pos hc46_468, if_pos hc46_503, if_pos hc73_518]
            have Fq528 : Fld Z h523 a_o "com/example/merit/merit/ExactSum" "partials" "[D" (.ref pa) := (Fq444.other W523 (Or.inr (slot_ne (Or.inl (hw _ (gm 11 rfl))) (Or.inl (hw _ (gm 18 rfl))) (by decide) (t := (.array .double)) (t' := .int) (by decide) (by decide))))
            have Fq529 : Arv Z h523 pa k_p .double (4 : Int32) [(.double (own_D (x + p0 - (own_rn (x + p0))))), (.double (own_D p1)), (.double (own_D p2)), w3] (.double FP.dconst0) := (Vm428.other W523 (Ne.symm hne))
            exact ⟨[(.double (own_D (x + p0 - (own_rn (x + p0))))), (.double (own_D p1)), (.double (own_D p2)), w3], rfl, N526, Kc524, Fq528, Fq529, (by rw [hv]; exact Fw523), (by rw [hv]; exact ⟨rfl, rfl⟩)⟩
        · obtain ⟨T533, X533, e533, st533⟩ := getF X511 hx hZ hown (host := "") (Or.inl (hw _ (gm 10 rfl))) Via.refl e511 Fq444 (g := (mkF m 79 #[vR (a_o), vD ((own_D x)), s_, vD ((own_D (own_rn ((own_rn ((own_rn (x + p0)) + p1)) + p2)))), s_, vI (1), vI (3), vD ((own_D p2)), s_, vD ((own_D (own_rn ((own_rn ((own_rn (x + p0)) + p1)) + p2)))), s_, vD ((own_D ((own_rn ((own_rn (x + p0)) + p1)) + p2 - (own_rn ((own_rn ((own_rn (x + p0)) + p1)) + p2))))), s_] [(.ref a_o), (.int 1)])) rfl rfl (hb hby d3_79)
          obtain ⟨cl535, Ar535, -, S535, M535, -, -⟩ := id Vm428
          obtain ⟨T539, X539, e539, st539⟩ := getF X533 hx hZ hown (host := "") (Or.inl (hw _ (gm 10 rfl))) Via.refl e533 Fq444 (g := (mkF m 102 #[vR (a_o), vD ((own_D x)), s_, vD ((own_D (own_rn ((own_rn ((own_rn (x + p0)) + p1)) + p2)))), s_, vI (1), vI (3), vD ((own_D p2)), s_, vD ((own_D (own_rn ((own_rn ((own_rn (x + p0)) + p1)) + p2)))), s_, vD ((own_D ((own_rn ((own_rn (x + p0)) + p1)) + p2 - (own_rn ((own_rn ((own_rn (x + p0)) + p1)) + p2))))), s_] [(.ref a_o)])) rfl rfl (hb hby d3_102)
          obtain ⟨cl544, Ar544, q544, S544, M544, H544, G544⟩ := id Vm428
          have hin544 : ¬ ((1 : Int32) < 0 ∨ cl544.slots.size ≤ ((1 : Int32)).toNatClampNeg) := inb_of S544 ⟨by decide, by decide⟩
          obtain ⟨T545, h545, X545, e545, W545, st545⟩ := stD X539 hx hZ e539 Ar544 (j := (1 : Int32)) hin544 (g := (mkF m 111 #[vR (a_o), vD ((own_D x)), s_, vD ((own_D (own_rn ((own_rn ((own_rn (x + p0)) + p1)) + p2)))), s_, vI (2), vI (3), vD ((own_D p2)), s_, vD ((own_D (own_rn ((own_rn ((own_rn (x + p0)) + p1)) + p2)))), s_, vD ((own_D ((own_rn ((own_rn (x + p0)) + p1)) + p2 - (own_rn ((own_rn ((own_rn (x + p0)) + p1)) + p2))))), s_] [(.double (own_D (own_rn ((own_rn ((own_rn (x + p0)) + p1)) + p2)))), (.int 1), (.ref pa)])) rfl rfl (hb hby d3_111)
          have Kc547 : Keep h0 h545 [a_o, pa] := Kc429.wr W545 (Or.inl (ga 1 rfl))
          have Zs548 : n0 ≤ h545.size := Nat.le_trans Zs430 (Keep.of_wr W545).1
          have N549 := Fr.snoc X545 N495 hgp
          have Vm546 : Arv Z h545 pa k_p .double (4 : Int32) [(.double (own_D (x + p0 - (own_rn (x + p0))))), (.double (own_D (own_rn ((own_rn ((own_rn (x + p0)) + p1)) + p2)))), (.double (own_D p2)), w3] (.double FP.dconst0) := Arv.set Ar544 q544 S544 M544 H544 G544 rfl W545 1 rfl (Nat.le_of_ble_eq_true rfl)
          have Fq553 : Exa Z h545 a_o "com/example/merit/merit/ExactSum" := ((hxa.wr W427).wr W545)
          have Fq554 : Fld Z h545 a_o "com/example/merit/merit/ExactSum" "count" "I" (.int 3) := (Fq439.other W545 (Or.inl hne))
          obtain ⟨T555, h555, X555, e555, W555, st555⟩ := putF X545 hx hZ hown (host := "") (Or.inl (hw _ (gm 17 rfl))) Via.refl e545 Fq554 Fq553 (Or.inl (hw _ (gm 18 rfl))) (hw _ (gm 1 rfl)) (ty := .int) (by decide) rfl rfl (g := (mkF m 115 #[vR (a_o), vD ((own_D x)), s_, vD ((own_D (own_rn ((own_rn ((own_rn (x + p0)) + p1)) + p2)))), s_, vI (2), vI (3), vD ((own_D p2)), s_, vD ((own_D (own_rn ((own_rn ((own_rn (x + p0)) + p1)) + p2)))), s_, vD ((own_D ((own_rn ((own_rn (x + p0)) + p1)) + p2 - (own_rn ((own_rn ((own_rn (x + p0)) + p1)) + p2))))), s_] [(.int 2), (.ref a_o)])) rfl rfl (hb hby d3_115)
          have Kc556 : Keep h0 h555 [a_o, pa] := Kc547.wr W555 (Or.inl (ga 0 rfl))
          have Zs557 : n0 ≤ h555.size := Nat.le_trans Zs548 (Keep.of_wr W555).1
          have N558 := Fr.snoc X555 N549 hg
          have Fw555 : Fld Z h555 a_o "com/example/merit/merit/ExactSum" "count" "I" (.int 2) := Fq554.same W555
          obtain ⟨fs, hr, hrun, hended, hW, hsame⟩ := X555.leave (v := none) (fun _ => rfl) (hlocks := BodyLoose.notSynchronized Bd)
          refine ⟨_, _, pre517 _ ?_, hrun, hended, _, _, rfl, ?_, ⟨_, rfl⟩, hW, hsame.mono (by decide) (by decide)⟩
          · show SS p e below m T511 73 #[vR (a_o), vD ((own_D x)), s_, vD ((own_D (own_rn ((own_rn ((own_rn (x + p0)) + p1)) + p2)))), s_, vI (1), vI (3), vD ((own_D p2)), s_, vD ((own_D (own_rn ((own_rn ((own_rn (x + p0)) + p1)) + p2)))), s_, vD ((own_D ((own_rn ((own_rn (x + p0)) + p1)) + p2 - (own_rn ((own_rn ((own_rn (x + p0)) + p1)) + p2))))), s_] [(.int (own_cmp (own_rn ((own_rn ((own_rn (x + p0)) + p1)) + p2)) 0))] _
            refine XS.ifNo X511.here hx rfl (hb hby d3_73) rfl ((if0 _ _).trans (feq (fun q => hc73_518 (own_cmEq.mp q))).1) ?_
            refine XS.iload X511.here hx rfl (hb hby d3_76) rfl ?_
            refine XS.aloadN X511.here hx rfl (hb hby d3_78) rfl rfl ?_
            show SS p e below m T511 79 #[vR (a_o), vD ((own_D x)), s_, vD ((own_D (own_rn ((own_rn ((own_rn (x + p0)) + p1)) + p2)))), s_, vI (1), vI (3), vD ((own_D p2)), s_, vD ((own_D (own_rn ((own_rn ((own_rn (x + p0)) + p1)) + p2)))), s_, vD ((own_D ((own_rn ((own_rn (x + p0)) + p1)) + p2 - (own_rn ((own_rn ((own_rn (x + p0)) + p1)) + p2))))), s_] [(.ref a_o), (.int 1)] _
            refine st533 _ ?_
            show SS p e below m T533 82 #[vR (a_o), vD ((own_D x)), s_, vD ((own_D (own_rn ((own_rn ((own_rn (x + p0)) + p1)) + p2)))), s_, vI (1), vI (3), vD ((own_D p2)), s_, vD ((own_D (own_rn ((own_rn ((own_rn (x + p0)) + p1)) + p2)))), s_, vD ((own_D ((own_rn ((own_rn (x + p0)) + p1)) + p2 - (own_rn ((own_rn ((own_rn (x + p0)) + p1)) + p2))))), s_] [(.ref pa), (.int 1)] _
            refine X533.arraylength hx (by rw [e533]; exact Ar535.1) (State.isArrayOf_alike hZ.alike Ar535.2.1) (g := (mkF m 82 #[vR (a_o), vD ((own_D x)), s_, vD ((own_D (own_rn ((own_rn ((own_rn (x + p0)) + p1)) + p2)))), s_, vI (1), vI (3), vD ((own_D p2)), s_, vD ((own_D (own_rn ((own_rn ((own_rn (x + p0)) + p1)) + p2)))), s_, vD ((own_D ((own_rn ((own_rn (x + p0)) + p1)) + p2 - (own_rn ((own_rn ((own_rn (x + p0)) + p1)) + p2))))), s_] [(.ref pa), (.int 1)])) rfl rfl (hb hby d3_82) _ ?_
            rw [len_of S535 M535]
            show SS p e below m T533 83 #[vR (a_o), vD ((own_D x)), s_, vD ((own_D (own_rn ((own_rn ((own_rn (x + p0)) + p1)) + p2)))), s_, vI (1), vI (3), vD ((own_D p2)), s_, vD ((own_D (own_rn ((own_rn ((own_rn (x + p0)) + p1)) + p2)))), s_, vD ((own_D ((own_rn ((own_rn (x + p0)) + p1)) + p2 - (own_rn ((own_rn ((own_rn (x + p0)) + p1)) + p2))))), s_] [(.int 4), (.int 1)] _
            refine XS.icmpYes X533.here hx rfl (pc0 := 83) (pc' := 101) rfl (hb hby d3_83) rfl (feq ((by decide) : ¬ ((1 : Int32) = (4 : Int32)))).2 (by decide) (by decide) ?_
            refine XS.aloadN X533.here hx rfl (hb hby d3_101) rfl rfl ?_
            show SS p e below m T533 102 #[vR (a_o), vD ((own_D x)), s_, vD ((own_D (own_rn ((own_rn ((own_rn (x + p0)) + p1)) + p2)))), s_, vI (1), vI (3), vD ((own_D p2)), s_, vD ((own_D (own_rn ((own_rn ((own_rn (x + p0)) + p1)) + p2)))), s_, vD ((own_D ((own_rn ((own_rn (x + p0)) + p1)) + p2 - (own_rn ((own_rn ((own_rn (x + p0)) + p1)) + p2))))), s_] [(.ref a_o)] _
            refine st539 _ ?_
            show SS p e below m T539 105 #[vR (a_o), vD ((own_D x)), s_, vD ((own_D (own_rn ((own_rn ((own_rn (x + p0)) + p1)) + p2)))), s_, vI (1), vI (3), vD ((own_D p2)), s_, vD ((own_D (own_rn ((own_rn ((own_rn (x + p0)) + p1)) + p2)))), s_, vD ((own_D ((own_rn ((own_rn (x + p0)) + p1)) + p2 - (own_rn ((own_rn ((own_rn (x + p0)) + p1)) + p2))))), s_] [(.ref pa)] _
            refine XS.iload X539.here hx rfl (hb hby d3_105) rfl ?_
            refine XS.iinc X539.here hx rfl (hb hby d3_107) rfl (l' := #[vR (a_o), vD ((own_D x)), s_, vD ((own_D (own_rn ((own_rn ((own_rn (x + p0)) + p1)) + p2)))), s_, vI (2), vI (3), vD ((own_D p2)), s_, vD ((own_D (own_rn ((own_rn ((own_rn (x + p0)) + p1)) + p2)))), s_, vD ((own_D ((own_rn ((own_rn (x + p0)) + p1)) + p2 - (own_rn ((own_rn ((own_rn (x + p0)) + p1)) + p2))))), s_]) rfl ?_
            refine XS.dloadN X539.here hx rfl (hb hby d3_110) rfl ?_
            show SS p e below m T539 111 #[vR (a_o), vD ((own_D x)), s_, vD ((own_D (own_rn ((own_rn ((own_rn (x + p0)) + p1)) + p2)))), s_, vI (2), vI (3), vD ((own_D p2)), s_, vD ((own_D (own_rn ((own_rn ((own_rn (x + p0)) + p1)) + p2)))), s_, vD ((own_D ((own_rn ((own_rn (x + p0)) + p1)) + p2 - (own_rn ((own_rn ((own_rn (x + p0)) + p1)) + p2))))), s_] [(.double (own_D (own_rn ((own_rn ((own_rn (x + p0)) + p1)) + p2)))), (.int 1), (.ref pa)] _
            refine st545 _ ?_
            show SS p e below m T545 112 #[vR (a_o), vD ((own_D x)), s_, vD ((own_D (own_rn ((own_rn ((own_rn (x + p0)) + p1)) + p2)))), s_, vI (2), vI (3), vD ((own_D p2)), s_, vD ((own_D (own_rn ((own_rn ((own_rn (x + p0)) + p1)) + p2)))), s_, vD ((own_D ((own_rn ((own_rn (x + p0)) + p1)) + p2 - (own_rn ((own_rn ((own_rn (x + p0)) + p1)) + p2))))), s_] [] _
            refine XS.aloadN X545.here hx rfl (hb hby d3_112) rfl rfl ?_
            refine XS.iload X545.here hx rfl (hb hby d3_113) rfl ?_
            show SS p e below m T545 115 #[vR (a_o), vD ((own_D x)), s_, vD ((own_D (own_rn ((own_rn ((own_rn (x + p0)) + p1)) + p2)))), s_, vI (2), vI (3), vD ((own_D p2)), s_, vD ((own_D (own_rn ((own_rn ((own_rn (x + p0)) + p1)) + p2)))), s_, vD ((own_D ((own_rn ((own_rn (x + p0)) + p1)) + p2 - (own_rn ((own_rn ((own_rn (x + p0)) + p1)) + p2))))), s_] [(.int 2), (.ref a_o)] _
            refine st555 _ ?_
            show SS p e below m T555 118 #[vR (a_o), vD ((own_D x)), s_, vD ((own_D (own_rn ((own_rn ((own_rn (x + p0)) + p1)) + p2)))), s_, vI (2), vI (3), vD ((own_D p2)), s_, vD ((own_D (own_rn ((own_rn ((own_rn (x + p0)) + p1)) + p2)))), s_, vD ((own_D ((own_rn ((own_rn (x + p0)) + p1)) + p2 - (own_rn ((own_rn ((own_rn (x + p0)) + p1)) + p2))))), s_] [] _
            exact X555.returnOut hx Bd.returns (hb hby d3_118) hr
          · show Qown_add3 Z x a_o pa k_p p0 p1 p2 w3 h0 n0 _ T555.heap _
            rw [e555]
            have hv : (own_add3_f x p0 p1 p2) = [(x + p0 - (own_rn (x + p0))), (own_rn ((own_rn ((own_rn (x + p0)) + p1)) + p2))] := by unfold own_add3_f; rw [if_neg hc46_37, if_pos hc46_468, if_pos hc46_503, if_neg hc73_518]
            have Fq560 : Fld Z h555 a_o "com/example/merit/merit/ExactSum" "partials" "[D" (.ref pa) := ((Fq444.other W545 (Or.inl hne)).other W555 (Or.inr (slot_ne (Or.inl (hw _ (gm 11 rfl))) (Or.inl (hw _ (gm 18 rfl))) (by decide) (t := (.array .double)) (t' := .int) (by decide) (by decide))))
            have Fq561 : Arv Z h555 pa k_p .double (4 : Int32) [(.double (own_D (x + p0 - (own_rn (x + p0))))), (.double (own_D (own_rn ((own_rn ((own_rn (x + p0)) + p1)) + p2)))), (.double (own_D p2)), w3] (.double FP.dconst0) := (Vm546.other W555 (Ne.symm hne))
            exact ⟨[(.double (own_D (x + p0 - (own_rn (x + p0))))), (.double (own_D (own_rn ((own_rn ((own_rn (x + p0)) + p1)) + p2)))), (.double (own_D p2)), w3], rfl, N558, Kc556, Fq560, Fq561, (by rw [hv]; exact Fw555), (by rw [hv]; exact ⟨rfl, rfl⟩)⟩
      · obtain ⟨T564, X564, e564, st564⟩ := getF X494 hx hZ hown (host := "") (Or.inl (hw _ (gm 10 rfl))) Via.refl eh494 Fq444 (g := (mkF m 50 #[vR (a_o), vD ((own_D x)), s_, vD ((own_D (own_rn ((own_rn (x + p0)) + p1)))), s_, vI (1), vI (2), vD ((own_D p2)), s_, vD ((own_D (own_rn ((own_rn ((own_rn (x + p0)) + p1)) + p2)))), s_, vD ((own_D ((own_rn ((own_rn (x + p0)) + p1)) + p2 - (own_rn ((own_rn ((own_rn (x + p0)) + p1)) + p2))))), s_] [(.ref a_o)])) rfl rfl (hb hby d3_50)
        obtain ⟨cl569, Ar569, q569, S569, M569, H569, G569⟩ := id Vm428
        have hin569 : ¬ ((1 : Int32) < 0 ∨ cl569.slots.size ≤ ((1 : Int32)).toNatClampNeg) := inb_of S569 ⟨by decide, by decide⟩
        obtain ⟨T570, h570, X570, e570, W570, st570⟩ := stD X564 hx hZ e564 Ar569 (j := (1 : Int32)) hin569 (g := (mkF m 60 #[vR (a_o), vD ((own_D x)), s_, vD ((own_D (own_rn ((own_rn (x + p0)) + p1)))), s_, vI (2), vI (2), vD ((own_D p2)), s_, vD ((own_D (own_rn ((own_rn ((own_rn (x + p0)) + p1)) + p2)))), s_, vD ((own_D ((own_rn ((own_rn (x + p0)) + p1)) + p2 - (own_rn ((own_rn ((own_rn (x + p0)) + p1)) + p2))))), s_] [(.double (own_D ((own_rn ((own_rn (x + p0)) + p1)) + p2 - (own_rn ((own_rn ((own_rn (x + p0)) + p1)) + p2))))), (.int 1), (.ref pa)])) rfl rfl (hb hby d3_60)
        have Kc572 : Keep h0 h570 [a_o, pa] := Kc429.wr W570 (Or.inl (ga 1 rfl))
        have Zs573 : n0 ≤ h570.size := Nat.le_trans Zs430 (Keep.of_wr W570).1
        have N574 := Fr.snoc X570 N495 hgp
        have Vm571 : Arv Z h570 pa k_p .double (4 : Int32) [(.double (own_D (x + p0 - (own_rn (x + p0))))), (.double (own_D ((own_rn ((own_rn (x + p0)) + p1)) + p2 - (own_rn ((own_rn ((own_rn (x + p0)) + p1)) + p2))))), (.double (own_D p2)), w3] (.double FP.dconst0) := Arv.set Ar569 q569 S569 M569 H569 G569 rfl W570 1 rfl (Nat.le_of_ble_eq_true rfl)
        have Fq582 : Fld Z h570 a_o "com/example/merit/merit/ExactSum" "count" "I" (.int 3) := (Fq439.other W570 (Or.inl hne))
        obtain ⟨T583, X583, e583, st583⟩ := getF X570 hx hZ hown (host := "") (Or.inl (hw _ (gm 17 rfl))) Via.refl e570 Fq582 (g := (mkF m 11 #[vR (a_o), vD ((own_D x)), s_, vD ((own_D (own_rn ((own_rn ((own_rn (x + p0)) + p1)) + p2)))), s_, vI (2), vI (3), vD ((own_D p2)), s_, vD ((own_D (own_rn ((own_rn ((own_rn (x + p0)) + p1)) + p2)))), s_, vD ((own_D ((own_rn ((own_rn (x + p0)) + p1)) + p2 - (own_rn ((own_rn ((own_rn (x + p0)) + p1)) + p2))))), s_] [(.ref a_o), (.int 3)])) rfl rfl (hb hby d3_11)
        have pre589 : ∀ t, Steps p.tables e below (T583.setTop (mkF m 73 #[vR (a_o), vD ((own_D x)), s_, vD ((own_D (own_rn ((own_rn ((own_rn (x + p0)) + p1)) + p2)))), s_, vI (2), vI (3), vD ((own_D p2)), s_, vD ((own_D (own_rn ((own_rn ((own_rn (x + p0)) + p1)) + p2)))), s_, vD ((own_D ((own_rn ((own_rn (x + p0)) + p1)) + p2 - (own_rn ((own_rn ((own_rn (x + p0)) + p1)) + p2))))), s_] [(.int (own_cmp (own_rn ((own_rn ((own_rn (x + p0)) + p1)) + p2)) 0))])) t → Steps p.tables e below (s₁.setTop (entryFrame m #[(.ref a_o), (.double (own_D x))] 13)) t := by
          intro t kt
          refine pre502 _ ?_
          show SS p e below m T494 46 #[vR (a_o), vD ((own_D x)), s_, vD ((own_D (own_rn ((own_rn (x + p0)) + p1)))), s_, vI (1), vI (2), vD ((own_D p2)), s_, vD ((own_D (own_rn ((own_rn ((own_rn (x + p0)) + p1)) + p2)))), s_, vD ((own_D ((own_rn ((own_rn (x + p0)) + p1)) + p2 - (own_rn ((own_rn ((own_rn (x + p0)) + p1)) + p2))))), s_] [(.int (own_cmp ((own_rn ((own_rn (x + p0)) + p1)) + p2 - (own_rn ((own_rn ((own_rn (x + p0)) + p1)) + p2))) 0))] _
          refine XS.ifNo X494.here hx rfl (hb hby d3_46) rfl ((if0 _ _).trans (feq (fun q => hc46_503 (own_cmEq.mp q))).1) ?_
          refine XS.aloadN X494.here hx rfl (hb hby d3_49) rfl rfl ?_
          show SS p e below m T494 50 #[vR (a_o), vD ((own_D x)), s_, vD ((own_D (own_rn ((own_rn (x + p0)) + p1)))), s_, vI (1), vI (2), vD ((own_D p2)), s_, vD ((own_D (own_rn ((own_rn ((own_rn (x + p0)) + p1)) + p2)))), s_, vD ((own_D ((own_rn ((own_rn (x + p0)) + p1)) + p2 - (own_rn ((own_rn ((own_rn (x + p0)) + p1)) + p2))))), s_] [(.ref a_o)] _
          refine st564 _ ?_
          show SS p e below m T564 53 #[vR (a_o), vD ((own_D x)), s_, vD ((own_D (own_rn ((own_rn (x + p0)) + p1)))), s_, vI (1), vI (2), vD ((own_D p2)), s_, vD ((own_D (own_rn ((own_rn ((own_rn (x + p0)) + p1)) + p2)))), s_, vD ((own_D ((own_rn ((own_rn (x + p0)) + p1)) + p2 - (own_rn ((own_rn ((own_rn (x + p0)) + p1)) + p2))))), s_] [(.ref pa)] _
          refine XS.iload X564.here hx rfl (hb hby d3_53) rfl ?_
          refine XS.iinc X564.here hx rfl (hb hby d3_55) rfl (l' := #[vR (a_o), vD ((own_D x)), s_, vD ((own_D (own_rn ((own_rn (x + p0)) + p1)))), s_, vI (2), vI (2), vD ((own_D p2)), s_, vD ((own_D (own_rn ((own_rn ((own_rn (x + p0)) + p1)) + p2)))), s_, vD ((own_D ((own_rn ((own_rn (x + p0)) + p1)) + p2 - (own_rn ((own_rn ((own_rn (x + p0)) + p1)) + p2))))), s_]) rfl ?_
          refine XS.dload X564.here hx rfl (hb hby d3_58) rfl ?_
          show SS p e below m T564 60 #[vR (a_o), vD ((own_D x)), s_, vD ((own_D (own_rn ((own_rn (x + p0)) + p1)))), s_, vI (2), vI (2), vD ((own_D p2)), s_, vD ((own_D (own_rn ((own_rn ((own_rn (x + p0)) + p1)) + p2)))), s_, vD ((own_D ((own_rn ((own_rn (x + p0)) + p1)) + p2 - (own_rn ((own_rn ((own_rn (x + p0)) + p1)) + p2))))), s_] [(.double (own_D ((own_rn ((own_rn (x + p0)) + p1)) + p2 - (own_rn ((own_rn ((own_rn (x + p0)) + p1)) + p2))))), (.int 1), (.ref pa)] _
          refine st570 _ ?_
          show SS p e below m T570 61 #[vR (a_o), vD ((own_D x)), s_, vD ((own_D (own_rn ((own_rn (x + p0)) + p1)))), s_, vI (2), vI (2), vD ((own_D p2)), s_, vD ((own_D (own_rn ((own_rn ((own_rn (x + p0)) + p1)) + p2)))), s_, vD ((own_D ((own_rn ((own_rn (x + p0)) + p1)) + p2 - (own_rn ((own_rn ((own_rn (x + p0)) + p1)) + p2))))), s_] [] _
          refine XS.dload X570.here hx rfl (hb hby d3_61) rfl ?_
          refine XS.dstoreN X570.here hx rfl (hb hby d3_63) rfl (l' := #[vR (a_o), vD ((own_D x)), s_, vD ((own_D (own_rn ((own_rn ((own_rn (x + p0)) + p1)) + p2)))), s_, vI (2), vI (2), vD ((own_D p2)), s_, vD ((own_D (own_rn ((own_rn ((own_rn (x + p0)) + p1)) + p2)))), s_, vD ((own_D ((own_rn ((own_rn (x + p0)) + p1)) + p2 - (own_rn ((own_rn ((own_rn (x + p0)) + p1)) + p2))))), s_]) rfl ?_
          refine XS.iinc X570.here hx rfl (hb hby d3_64) rfl (l' := #[vR (a_o), vD ((own_D x)), s_, vD ((own_D (own_rn ((own_rn ((own_rn (x + p0)) + p1)) + p2)))), s_, vI (2), vI (3), vD ((own_D p2)), s_, vD ((own_D (own_rn ((own_rn ((own_rn (x + p0)) + p1)) + p2)))), s_, vD ((own_D ((own_rn ((own_rn (x + p0)) + p1)) + p2 - (own_rn ((own_rn ((own_rn (x + p0)) + p1)) + p2))))), s_]) rfl ?_
          show SS p e below m T570 67 #[vR (a_o), vD ((own_D x)), s_, vD ((own_D (own_rn ((own_rn ((own_rn (x + p0)) + p1)) + p2)))), s_, vI (2), vI (3), vD ((own_D p2)), s_, vD ((own_D (own_rn ((own_rn ((own_rn (x + p0)) + p1)) + p2)))), s_, vD ((own_D ((own_rn ((own_rn (x + p0)) + p1)) + p2 - (own_rn ((own_rn ((own_rn (x + p0)) + p1)) + p2))))), s_] [] _
          refine XS.goto X570.here hx rfl (pc0 := 67) (pc' := 8) rfl (hb hby d3_67) (by decide) (by decide) ?_
          refine XS.iload X570.here hx rfl (hb hby d3_8) rfl ?_
          refine XS.aloadN X570.here hx rfl (hb hby d3_10) rfl rfl ?_
          show SS p e below m T570 11 #[vR (a_o), vD ((own_D x)), s_, vD ((own_D (own_rn ((own_rn ((own_rn (x + p0)) + p1)) + p2)))), s_, vI (2), vI (3), vD ((own_D p2)), s_, vD ((own_D (own_rn ((own_rn ((own_rn (x + p0)) + p1)) + p2)))), s_, vD ((own_D ((own_rn ((own_rn (x + p0)) + p1)) + p2 - (own_rn ((own_rn ((own_rn (x + p0)) + p1)) + p2))))), s_] [(.ref a_o), (.int 3)] _
          refine st583 _ ?_
          show SS p e below m T583 14 #[vR (a_o), vD ((own_D x)), s_, vD ((own_D (own_rn ((own_rn ((own_rn (x + p0)) + p1)) + p2)))), s_, vI (2), vI (3), vD ((own_D p2)), s_, vD ((own_D (own_rn ((own_rn ((own_rn (x + p0)) + p1)) + p2)))), s_, vD ((own_D ((own_rn ((own_rn (x + p0)) + p1)) + p2 - (own_rn ((own_rn ((own_rn (x + p0)) + p1)) + p2))))), s_] [(.int 3), (.int 3)] _
          refine XS.icmpYes X583.here hx rfl (pc0 := 14) (pc' := 70) rfl (hb hby d3_14) rfl (flt ((by decide) : ¬ ((3 : Int32) < (3 : Int32)))).2.1 (by decide) (by decide) ?_
          refine XS.dloadN X583.here hx rfl (hb hby d3_70) rfl ?_
          refine XS.dconst0 X583.here hx rfl (hb hby d3_71) own_c0 ?_
          show SS p e below m T583 72 #[vR (a_o), vD ((own_D x)), s_, vD ((own_D (own_rn ((own_rn ((own_rn (x + p0)) + p1)) + p2)))), s_, vI (2), vI (3), vD ((own_D p2)), s_, vD ((own_D (own_rn ((own_rn ((own_rn (x + p0)) + p1)) + p2)))), s_, vD ((own_D ((own_rn ((own_rn (x + p0)) + p1)) + p2 - (own_rn ((own_rn ((own_rn (x + p0)) + p1)) + p2))))), s_] [(.double (own_D 0)), (.double (own_D (own_rn ((own_rn ((own_rn (x + p0)) + p1)) + p2))))] _
          refine XS.dcmpS X583.here hx rfl (hb hby d3_72) rfl (own_DcmpV (own_rrn _) own_rep0 (by omega) (by omega) (by omega) (by omega) _) ?_
          exact kt
        by_cases hc73_590 : (own_rn ((own_rn ((own_rn (x + p0)) + p1)) + p2)) = 0
        · have Fq594 : Exa Z h570 a_o "com/example/merit/merit/ExactSum" := ((hxa.wr W427).wr W570)
          obtain ⟨T595, h595, X595, e595, W595, st595⟩ := putF X583 hx hZ hown (host := "") (Or.inl (hw _ (gm 17 rfl))) Via.refl e583 Fq582 Fq594 (Or.inl (hw _ (gm 18 rfl))) (hw _ (gm 1 rfl)) (ty := .int) (by decide) rfl rfl (g := (mkF m 115 #[vR (a_o), vD ((own_D x)), s_, vD ((own_D (own_rn ((own_rn ((own_rn (x + p0)) + p1)) + p2)))), s_, vI (2), vI (3), vD ((own_D p2)), s_, vD ((own_D (own_rn ((own_rn ((own_rn (x + p0)) + p1)) + p2)))), s_, vD ((own_D ((own_rn ((own_rn (x + p0)) + p1)) + p2 - (own_rn ((own_rn ((own_rn (x + p0)) + p1)) + p2))))), s_] [(.int 2), (.ref a_o)])) rfl rfl (hb hby d3_115)
          have Kc596 : Keep h0 h595 [a_o, pa] := Kc572.wr W595 (Or.inl (ga 0 rfl))
          have Zs597 : n0 ≤ h595.size := Nat.le_trans Zs573 (Keep.of_wr W595).1
          have N598 := Fr.snoc X595 N574 hg
          have Fw595 : Fld Z h595 a_o "com/example/merit/merit/ExactSum" "count" "I" (.int 2) := Fq582.same W595
          obtain ⟨fs, hr, hrun, hended, hW, hsame⟩ := X595.leave (v := none) (fun _ => rfl) (hlocks := BodyLoose.notSynchronized Bd)
          refine ⟨_, _, pre589 _ ?_, hrun, hended, _, _, rfl, ?_, ⟨_, rfl⟩, hW, hsame.mono (by decide) (by decide)⟩
          · show SS p e below m T583 73 #[vR (a_o), vD ((own_D x)), s_, vD ((own_D (own_rn ((own_rn ((own_rn (x + p0)) + p1)) + p2)))), s_, vI (2), vI (3), vD ((own_D p2)), s_, vD ((own_D (own_rn ((own_rn ((own_rn (x + p0)) + p1)) + p2)))), s_, vD ((own_D ((own_rn ((own_rn (x + p0)) + p1)) + p2 - (own_rn ((own_rn ((own_rn (x + p0)) + p1)) + p2))))), s_] [(.int (own_cmp (own_rn ((own_rn ((own_rn (x + p0)) + p1)) + p2)) 0))] _
            refine XS.ifYes X583.here hx rfl (pc0 := 73) (pc' := 112) rfl (hb hby d3_73) rfl ((if0 _ _).trans (teq (own_cmEq.mpr hc73_590)).1) (by decide) (by decide) ?_
            refine XS.aloadN X583.here hx rfl (hb hby d3_112) rfl rfl ?_
            refine XS.iload X583.here hx rfl (hb hby d3_113) rfl ?_
            show SS p e below m T583 115 #[vR (a_o), vD ((own_D x)), s_, vD ((own_D (own_rn ((own_rn ((own_rn (x + p0)) + p1)) + p2)))), s_, vI (2), vI (3), vD ((own_D p2)), s_, vD ((own_D (own_rn ((own_rn ((own_rn (x + p0)) + p1)) + p2)))), s_, vD ((own_D ((own_rn ((own_rn (x + p0)) + p1)) + p2 - (own_rn ((own_rn ((own_rn (x + p0)) + p1)) + p2))))), s_] [(.int 2), (.ref a_o)] _
            refine st595 _ ?_
            show SS p e below m T595 118 #[vR (a_o), vD ((own_D x)), s_, vD ((own_D (own_rn ((own_rn ((own_rn (x + p0)) + p1)) + p2)))), s_, vI (2), vI (3), vD ((own_D p2)), s_, vD ((own_D (own_rn ((own_rn ((own_rn (x + p0)) + p1)) + p2)))), s_, vD ((own_D ((own_rn ((own_rn (x + p0)) + p1)) + p2 - (own_rn ((own_rn ((own_rn (x + p0)) + p1)) + p2))))), s_] [] _
            exact X595.returnOut hx Bd.returns (hb hby d3_118) hr
          · show Qown_add3 Z x a_o pa k_p p0 p1 p2 w3 h0 n0 _ T595.heap _
            rw [e595]
            have hv : (own_add3_f x p0 p1 p2) = [(x + p0 - (own_rn (x + p0))), ((own_rn ((own_rn (x + p0)) + p1)) + p2 - (own_rn ((own_rn ((own_rn (x + p0)) + p1)) + p2)))] := by unfold own_add3_f; rw [if_neg hc46_37, if_pos hc46_468, if_neg hc46_503, if_pos hc73_590]
            have Fq600 : Fld Z h595 a_o "com/example/merit/merit/ExactSum" "partials" "[D" (.ref pa) := ((Fq444.other W570 (Or.inl hne)).other W595 (Or.inr (slot_ne (Or.inl (hw _ (gm 11 rfl))) (Or.inl (hw _ (gm 18 rfl))) (by decide) (t := (.array .double)) (t' := .int) (by decide) (by decide))))
            have Fq601 : Arv Z h595 pa k_p .double (4 : Int32) [(.double (own_D (x + p0 - (own_rn (x + p0))))), (.double (own_D ((own_rn ((own_rn (x + p0)) + p1)) + p2 - (own_rn ((own_rn ((own_rn (x + p0)) + p1)) + p2))))), (.double (own_D p2)), w3] (.double FP.dconst0) := (Vm571.other W595 (Ne.symm hne))
            exact ⟨[(.double (own_D (x + p0 - (own_rn (x + p0))))), (.double (own_D ((own_rn ((own_rn (x + p0)) + p1)) + p2 - (own_rn ((own_rn ((own_rn (x + p0)) + p1)) + p2))))), (.double (own_D p2)), w3], rfl, N598, Kc596, Fq600, Fq601, (by rw [hv]; exact Fw595), (by rw [hv]; exact ⟨rfl, rfl⟩)⟩
        · have Fq605 : Fld Z h570 a_o "com/example/merit/merit/ExactSum" "partials" "[D" (.ref pa) := (Fq444.other W570 (Or.inl hne))
          obtain ⟨T606, X606, e606, st606⟩ := getF X583 hx hZ hown (host := "") (Or.inl (hw _ (gm 10 rfl))) Via.refl e583 Fq605 (g := (mkF m 79 #[vR (a_o), vD ((own_D x)), s_, vD ((own_D (own_rn ((own_rn ((own_rn (x + p0)) + p1)) + p2)))), s_, vI (2), vI (3), vD ((own_D p2)), s_, vD ((own_D (own_rn ((own_rn ((own_rn (x + p0)) + p1)) + p2)))), s_, vD ((own_D ((own_rn ((own_rn (x + p0)) + p1)) + p2 - (own_rn ((own_rn ((own_rn (x + p0)) + p1)) + p2))))), s_] [(.ref a_o), (.int 2)])) rfl rfl (hb hby d3_79)
          obtain ⟨cl608, Ar608, -, S608, M608, -, -⟩ := id Vm571
          obtain ⟨T612, X612, e612, st612⟩ := getF X606 hx hZ hown (host := "") (Or.inl (hw _ (gm 10 rfl))) Via.refl e606 Fq605 (g := (mkF m 102 #[vR (a_o), vD ((own_D x)), s_, vD ((own_D (own_rn ((own_rn ((own_rn (x + p0)) + p1)) + p2)))), s_, vI (2), vI (3), vD ((own_D p2)), s_, vD ((own_D (own_rn ((own_rn ((own_rn (x + p0)) + p1)) + p2)))), s_, vD ((own_D ((own_rn ((own_rn (x + p0)) + p1)) + p2 - (own_rn ((own_rn ((own_rn (x + p0)) + p1)) + p2))))), s_] [(.ref a_o)])) rfl rfl (hb hby d3_102)
          obtain ⟨cl617, Ar617, q617, S617, M617, H617, G617⟩ := id Vm571
          have hin617 : ¬ ((2 : Int32) < 0 ∨ cl617.slots.size ≤ ((2 : Int32)).toNatClampNeg) := inb_of S617 ⟨by decide, by decide⟩
          obtain ⟨T618, h618, X618, e618, W618, st618⟩ := stD X612 hx hZ e612 Ar617 (j := (2 : Int32)) hin617 (g := (mkF m 111 #[vR (a_o), vD ((own_D x)), s_, vD ((own_D (own_rn ((own_rn ((own_rn (x + p0)) + p1)) + p2)))), s_, vI (3), vI (3), vD ((own_D p2)), s_, vD ((own_D (own_rn ((own_rn ((own_rn (x + p0)) + p1)) + p2)))), s_, vD ((own_D ((own_rn ((own_rn (x + p0)) + p1)) + p2 - (own_rn ((own_rn ((own_rn (x + p0)) + p1)) + p2))))), s_] [(.double (own_D (own_rn ((own_rn ((own_rn (x + p0)) + p1)) + p2)))), (.int 2), (.ref pa)])) rfl rfl (hb hby d3_111)
          have Kc620 : Keep h0 h618 [a_o, pa] := Kc572.wr W618 (Or.inl (ga 1 rfl))
          have Zs621 : n0 ≤ h618.size := Nat.le_trans Zs573 (Keep.of_wr W618).1
          have N622 := Fr.snoc X618 N574 hgp
          have Vm619 : Arv Z h618 pa k_p .double (4 : Int32) [(.double (own_D (x + p0 - (own_rn (x + p0))))), (.double (own_D ((own_rn ((own_rn (x + p0)) + p1)) + p2 - (own_rn ((own_rn ((own_rn (x + p0)) + p1)) + p2))))), (.double (own_D (own_rn ((own_rn ((own_rn (x + p0)) + p1)) + p2)))), w3] (.double FP.dconst0) := Arv.set Ar617 q617 S617 M617 H617 G617 rfl W618 2 rfl (Nat.le_of_ble_eq_true rfl)
          have Fq626 : Exa Z h618 a_o "com/example/merit/merit/ExactSum" := (((hxa.wr W427).wr W570).wr W618)
          have Fq627 : Fld Z h618 a_o "com/example/merit/merit/ExactSum" "count" "I" (.int 3) := (Fq582.other W618 (Or.inl hne))
          obtain ⟨T628, h628, X628, e628, W628, st628⟩ := putF X618 hx hZ hown (host := "") (Or.inl (hw _ (gm 17 rfl))) Via.refl e618 Fq627 Fq626 (Or.inl (hw _ (gm 18 rfl))) (hw _ (gm 1 rfl)) (ty := .int) (by decide) rfl rfl (g := (mkF m 115 #[vR (a_o), vD ((own_D x)), s_, vD ((own_D (own_rn ((own_rn ((own_rn (x + p0)) + p1)) + p2)))), s_, vI (3), vI (3), vD ((own_D p2)), s_, vD ((own_D (own_rn ((own_rn ((own_rn (x + p0)) + p1)) + p2)))), s_, vD ((own_D ((own_rn ((own_rn (x + p0)) + p1)) + p2 - (own_rn ((own_rn ((own_rn (x + p0)) + p1)) + p2))))), s_] [(.int 3), (.ref a_o)])) rfl rfl (hb hby d3_115)
          have Kc629 : Keep h0 h628 [a_o, pa] := Kc620.wr W628 (Or.inl (ga 0 rfl))
          have Zs630 : n0 ≤ h628.size := Nat.le_trans Zs621 (Keep.of_wr W628).1
          have N631 := Fr.snoc X628 N622 hg
          have Fw628 : Fld Z h628 a_o "com/example/merit/merit/ExactSum" "count" "I" (.int 3) := Fq627.same W628
          obtain ⟨fs, hr, hrun, hended, hW, hsame⟩ := X628.leave (v := none) (fun _ => rfl) (hlocks := BodyLoose.notSynchronized Bd)
          refine ⟨_, _, pre589 _ ?_, hrun, hended, _, _, rfl, ?_, ⟨_, rfl⟩, hW, hsame.mono (by decide) (by decide)⟩
          · show SS p e below m T583 73 #[vR (a_o), vD ((own_D x)), s_, vD ((own_D (own_rn ((own_rn ((own_rn (x + p0)) + p1)) + p2)))), s_, vI (2), vI (3), vD ((own_D p2)), s_, vD ((own_D (own_rn ((own_rn ((own_rn (x + p0)) + p1)) + p2)))), s_, vD ((own_D ((own_rn ((own_rn (x + p0)) + p1)) + p2 - (own_rn ((own_rn ((own_rn (x + p0)) + p1)) + p2))))), s_] [(.int (own_cmp (own_rn ((own_rn ((own_rn (x + p0)) + p1)) + p2)) 0))] _
            refine XS.ifNo X583.here hx rfl (hb hby d3_73) rfl ((if0 _ _).trans (feq (fun q => hc73_590 (own_cmEq.mp q))).1) ?_
            refine XS.iload X583.here hx rfl (hb hby d3_76) rfl ?_
            refine XS.aloadN X583.here hx rfl (hb hby d3_78) rfl rfl ?_
            show SS p e below m T583 79 #[vR (a_o), vD ((own_D x)), s_, vD ((own_D (own_rn ((own_rn ((own_rn (x + p0)) + p1)) + p2)))), s_, vI (2), vI (3), vD ((own_D p2)), s_, vD ((own_D (own_rn ((own_rn ((own_rn (x + p0)) + p1)) + p2)))), s_, vD ((own_D ((own_rn ((own_rn (x + p0)) + p1)) + p2 - (own_rn ((own_rn ((own_rn (x + p0)) + p1)) + p2))))), s_] [(.ref a_o), (.int 2)] _
            refine st606 _ ?_
            show SS p e below m T606 82 #[vR (a_o), vD ((own_D x)), s_, vD ((own_D (own_rn ((own_rn ((own_rn (x + p0)) + p1)) + p2)))), s_, vI (2), vI (3), vD ((own_D p2)), s_, vD ((own_D (own_rn ((own_rn ((own_rn (x + p0)) + p1)) + p2)))), s_, vD ((own_D ((own_rn ((own_rn (x + p0)) + p1)) + p2 - (own_rn ((own_rn ((own_rn (x + p0)) + p1)) + p2))))), s_] [(.ref pa), (.int 2)] _
            refine X606.arraylength hx (by rw [e606]; exact Ar608.1) (State.isArrayOf_alike hZ.alike Ar608.2.1) (g := (mkF m 82 #[vR (a_o), vD ((own_D x)), s_, vD ((own_D (own_rn ((own_rn ((own_rn (x + p0)) + p1)) + p2)))), s_, vI (2), vI (3), vD ((own_D p2)), s_, vD ((own_D (own_rn ((own_rn ((own_rn (x + p0)) + p1)) + p2)))), s_, vD ((own_D ((own_rn ((own_rn (x + p0)) + p1)) + p2 - (own_rn ((own_rn ((own_rn (x + p0)) + p1)) + p2))))), s_] [(.ref pa), (.int 2)])) rfl rfl (hb hby d3_82) _ ?_
            rw [len_of S608 M608]
            show SS p e below m T606 83 #[vR (a_o), vD ((own_D x)), s_, vD ((own_D (own_rn ((own_rn ((own_rn (x + p0)) + p1)) + p2)))), s_, vI (2), vI (3), vD ((own_D p2)), s_, vD ((own_D (own_rn ((own_rn ((own_rn (x + p0)) + p1)) + p2)))), s_, vD ((own_D ((own_rn ((own_rn (x + p0)) + p1)) + p2 - (own_rn ((own_rn ((own_rn (x + p0)) + p1)) + p2))))), s_] [(.int 4), (.int 2)] _
            refine XS.icmpYes X606.here hx rfl (pc0 := 83) (pc' := 101) rfl (hb hby d3_83) rfl (feq ((by decide) : ¬ ((2 : Int32) = (4 : Int32)))).2 (by decide) (by decide) ?_
            refine XS.aloadN X606.here hx rfl (hb hby d3_101) rfl rfl ?_
            show SS p e below m T606 102 #[vR (a_o), vD ((own_D x)), s_, vD ((own_D (own_rn ((own_rn ((own_rn (x + p0)) + p1)) + p2)))), s_, vI (2), vI (3), vD ((own_D p2)), s_, vD ((own_D (own_rn ((own_rn ((own_rn (x + p0)) + p1)) + p2)))), s_, vD ((own_D ((own_rn ((own_rn (x + p0)) + p1)) + p2 - (own_rn ((own_rn ((own_rn (x + p0)) + p1)) + p2))))), s_] [(.ref a_o)] _
            refine st612 _ ?_
            show SS p e below m T612 105 #[vR (a_o), vD ((own_D x)), s_, vD ((own_D (own_rn ((own_rn ((own_rn (x + p0)) + p1)) + p2)))), s_, vI (2), vI (3), vD ((own_D p2)), s_, vD ((own_D (own_rn ((own_rn ((own_rn (x + p0)) + p1)) + p2)))), s_, vD ((own_D ((own_rn ((own_rn (x + p0)) + p1)) + p2 - (own_rn ((own_rn ((own_rn (x + p0)) + p1)) + p2))))), s_] [(.ref pa)] _
            refine XS.iload X612.here hx rfl (hb hby d3_105) rfl ?_
            refine XS.iinc X612.here hx rfl (hb hby d3_107) rfl (l' := #[vR (a_o), vD ((own_D x)), s_, vD ((own_D (own_rn ((own_rn ((own_rn (x + p0)) + p1)) + p2)))), s_, vI (3), vI (3), vD ((own_D p2)), s_, vD ((own_D (own_rn ((own_rn ((own_rn (x + p0)) + p1)) + p2)))), s_, vD ((own_D ((own_rn ((own_rn (x + p0)) + p1)) + p2 - (own_rn ((own_rn ((own_rn (x + p0)) + p1)) + p2))))), s_]) rfl ?_
            refine XS.dloadN X612.here hx rfl (hb hby d3_110) rfl ?_
            show SS p e below m T612 111 #[vR (a_o), vD ((own_D x)), s_, vD ((own_D (own_rn ((own_rn ((own_rn (x + p0)) + p1)) + p2)))), s_, vI (3), vI (3), vD ((own_D p2)), s_, vD ((own_D (own_rn ((own_rn ((own_rn (x + p0)) + p1)) + p2)))), s_, vD ((own_D ((own_rn ((own_rn (x + p0)) + p1)) + p2 - (own_rn ((own_rn ((own_rn (x + p0)) + p1)) + p2))))), s_] [(.double (own_D (own_rn ((own_rn ((own_rn (x + p0)) + p1)) + p2)))), (.int 2), (.ref pa)] _
            refine st618 _ ?_
            show SS p e below m T618 112 #[vR (a_o), vD ((own_D x)), s_, vD ((own_D (own_rn ((own_rn ((own_rn (x + p0)) + p1)) + p2)))), s_, vI (3), vI (3), vD ((own_D p2)), s_, vD ((own_D (own_rn ((own_rn ((own_rn (x + p0)) + p1)) + p2)))), s_, vD ((own_D ((own_rn ((own_rn (x + p0)) + p1)) + p2 - (own_rn ((own_rn ((own_rn (x + p0)) + p1)) + p2))))), s_] [] _
            refine XS.aloadN X618.here hx rfl (hb hby d3_112) rfl rfl ?_
            refine XS.iload X618.here hx rfl (hb hby d3_113) rfl ?_
            show SS p e below m T618 115 #[vR (a_o), vD ((own_D x)), s_, vD ((own_D (own_rn ((own_rn ((own_rn (x + p0)) + p1)) + p2)))), s_, vI (3), vI (3), vD ((own_D p2)), s_, vD ((own_D (own_rn ((own_rn ((own_rn (x + p0)) + p1)) + p2)))), s_, vD ((own_D ((own_rn ((own_rn (x + p0)) + p1)) + p2 - (own_rn ((own_rn ((own_rn (x + p0)) + p1)) + p2))))), s_] [(.int 3), (.ref a_o)] _
            refine st628 _ ?_
            show SS p e below m T628 118 #[vR (a_o), vD ((own_D x)), s_, vD ((own_D (own_rn ((own_rn ((own_rn (x + p0)) + p1)) + p2)))), s_, vI (3), vI (3), vD ((own_D p2)), s_, vD ((own_D (own_rn ((own_rn ((own_rn (x + p0)) + p1)) + p2)))), s_, vD ((own_D ((own_rn ((own_rn (x + p0)) + p1)) + p2 - (own_rn ((own_rn ((own_rn (x + p0)) + p1)) + p2))))), s_] [] _
            exact X628.returnOut hx Bd.returns (hb hby d3_118) hr
          · show Qown_add3 Z x a_o pa k_p p0 p1 p2 w3 h0 n0 _ T628.heap _
            rw [e628]
            have hv : (own_add3_f x p0 p1 p2) = [(x + p0 - (own_rn (x + p0))), ((own_rn ((own_rn (x + p0)) + p1)) + p2 - (own_rn ((own_rn ((own_rn (x + p0)) + p1)) + p2))), (own_rn ((own_rn ((own_rn (x + p0)) + p1)) + p2))] := by unfold own_add3_f; rw [if_neg hc46_37, if_pos hc46_468, if_neg hc46_503, if_neg hc73_590]
            have Fq633 : Fld Z h628 a_o "com/example/merit/merit/ExactSum" "partials" "[D" (.ref pa) := ((Fq605.other W618 (Or.inl hne)).other W628 (Or.inr (slot_ne (Or.inl (hw _ (gm 11 rfl))) (Or.inl (hw _ (gm 18 rfl))) (by decide) (t := (.array .double)) (t' := .int) (by decide) (by decide))))
            have Fq634 : Arv Z h628 pa k_p .double (4 : Int32) [(.double (own_D (x + p0 - (own_rn (x + p0))))), (.double (own_D ((own_rn ((own_rn (x + p0)) + p1)) + p2 - (own_rn ((own_rn ((own_rn (x + p0)) + p1)) + p2))))), (.double (own_D (own_rn ((own_rn ((own_rn (x + p0)) + p1)) + p2)))), w3] (.double FP.dconst0) := (Vm619.other W628 (Ne.symm hne))
            exact ⟨[(.double (own_D (x + p0 - (own_rn (x + p0))))), (.double (own_D ((own_rn ((own_rn (x + p0)) + p1)) + p2 - (own_rn ((own_rn ((own_rn (x + p0)) + p1)) + p2))))), (.double (own_D (own_rn ((own_rn ((own_rn (x + p0)) + p1)) + p2)))), w3], rfl, N631, Kc629, Fq633, Fq634, (by rw [hv]; exact Fw628), (by rw [hv]; exact ⟨rfl, rfl⟩)⟩
    · obtain ⟨T637, X637, e637, st637⟩ := getF X459 hx hZ hown (host := "") (Or.inl (hw _ (gm 10 rfl))) Via.refl eh459 Fq444 (g := (mkF m 50 #[vR (a_o), vD ((own_D x)), s_, vD ((own_D (own_rn (x + p0)))), s_, vI (1), vI (1), vD ((own_D p1)), s_, vD ((own_D (own_rn ((own_rn (x + p0)) + p1)))), s_, vD ((own_D ((own_rn (x + p0)) + p1 - (own_rn ((own_rn (x + p0)) + p1))))), s_] [(.ref a_o)])) rfl rfl (hb hby d3_50)
      obtain ⟨cl642, Ar642, q642, S642, M642, H642, G642⟩ := id Vm428
      have hin642 : ¬ ((1 : Int32) < 0 ∨ cl642.slots.size ≤ ((1 : Int32)).toNatClampNeg) := inb_of S642 ⟨by decide, by decide⟩
      obtain ⟨T643, h643, X643, e643, W643, st643⟩ := stD X637 hx hZ e637 Ar642 (j := (1 : Int32)) hin642 (g := (mkF m 60 #[vR (a_o), vD ((own_D x)), s_, vD ((own_D (own_rn (x + p0)))), s_, vI (2), vI (1), vD ((own_D p1)), s_, vD ((own_D (own_rn ((own_rn (x + p0)) + p1)))), s_, vD ((own_D ((own_rn (x + p0)) + p1 - (own_rn ((own_rn (x + p0)) + p1))))), s_] [(.double (own_D ((own_rn (x + p0)) + p1 - (own_rn ((own_rn (x + p0)) + p1))))), (.int 1), (.ref pa)])) rfl rfl (hb hby d3_60)
      have Kc645 : Keep h0 h643 [a_o, pa] := Kc429.wr W643 (Or.inl (ga 1 rfl))
      have Zs646 : n0 ≤ h643.size := Nat.le_trans Zs430 (Keep.of_wr W643).1
      have N647 := Fr.snoc X643 N460 hgp
      have Vm644 : Arv Z h643 pa k_p .double (4 : Int32) [(.double (own_D (x + p0 - (own_rn (x + p0))))), (.double (own_D ((own_rn (x + p0)) + p1 - (own_rn ((own_rn (x + p0)) + p1))))), (.double (own_D p2)), w3] (.double FP.dconst0) := Arv.set Ar642 q642 S642 M642 H642 G642 rfl W643 1 rfl (Nat.le_of_ble_eq_true rfl)
      have Fq655 : Fld Z h643 a_o "com/example/merit/merit/ExactSum" "count" "I" (.int 3) := (Fq439.other W643 (Or.inl hne))
      obtain ⟨T656, X656, e656, st656⟩ := getF X643 hx hZ hown (host := "") (Or.inl (hw _ (gm 17 rfl))) Via.refl e643 Fq655 (g := (mkF m 11 #[vR (a_o), vD ((own_D x)), s_, vD ((own_D (own_rn ((own_rn (x + p0)) + p1)))), s_, vI (2), vI (2), vD ((own_D p1)), s_, vD ((own_D (own_rn ((own_rn (x + p0)) + p1)))), s_, vD ((own_D ((own_rn (x + p0)) + p1 - (own_rn ((own_rn (x + p0)) + p1))))), s_] [(.ref a_o), (.int 2)])) rfl rfl (hb hby d3_11)
      have Fq660 : Fld Z h643 a_o "com/example/merit/merit/ExactSum" "partials" "[D" (.ref pa) := (Fq444.other W643 (Or.inl hne))
      obtain ⟨T661, X661, e661, st661⟩ := getF X656 hx hZ hown (host := "") (Or.inl (hw _ (gm 10 rfl))) Via.refl e656 Fq660 (g := (mkF m 18 #[vR (a_o), vD ((own_D x)), s_, vD ((own_D (own_rn ((own_rn (x + p0)) + p1)))), s_, vI (2), vI (2), vD ((own_D p1)), s_, vD ((own_D (own_rn ((own_rn (x + p0)) + p1)))), s_, vD ((own_D ((own_rn (x + p0)) + p1 - (own_rn ((own_rn (x + p0)) + p1))))), s_] [(.ref a_o)])) rfl rfl (hb hby d3_18)
      obtain ⟨cl664, Ar664, q664, S664, M664, H664, G664⟩ := id Vm644
      have hin664 : ¬ ((2 : Int32) < 0 ∨ cl664.slots.size ≤ ((2 : Int32)).toNatClampNeg) := inb_of S664 ⟨by decide, by decide⟩
      have hat664 : cl664.slots[((2 : Int32)).toNatClampNeg]? = some (.double (own_D p2)) := H664.at hin664 rfl
      have hq669 : FP.dadd (own_D (own_rn ((own_rn (x + p0)) + p1))) (own_D p2) = own_D (own_rn ((own_rn ((own_rn (x + p0)) + p1)) + p2)) := own_Dadd (own_rrn _) hr2 (by omega) (by omega) (by omega) (by omega) (by omega) (by omega)
      have hq669E := own_errSm (n := (own_rn ((own_rn (x + p0)) + p1)) + p2) (by omega) (by omega)
      obtain ⟨_, _, ⟨T675, L675, k675, n675⟩, -, X675, ⟨Lc675, hQ675, l675, y675, z675⟩, st675⟩ := Jvm.LawKit.callS X661 hx (y := (⟨"com/example/merit/merit/ExactSum", "roundingError", "(DDD)D"⟩ : MethodName)) hown (mvT hZ (hw _ (gm 24 rfl))) (mvT hZ (hw _ (gm 25 rfl))) (mvT hZ (hw _ (gm 2 rfl))) (mvT hZ (hw _ (gm 26 rfl))) (by decide) (backOf (W := 0) (own_re l Z a0 hw [] (own_rn ((own_rn (x + p0)) + p1)) p2 (own_rn ((own_rn ((own_rn (x + p0)) + p1)) + p2)) h643 n0 Zs646 (own_rrn _) hr2 rfl (by omega)) hZ (hw _ (gm 26 rfl)) (hw _ (gm 2 rfl)) (by decide) (by decide)) (g := (mkF m 37 #[vR (a_o), vD ((own_D x)), s_, vD ((own_D (own_rn ((own_rn (x + p0)) + p1)))), s_, vI (2), vI (2), vD ((own_D p2)), s_, vD ((own_D (own_rn ((own_rn ((own_rn (x + p0)) + p1)) + p2)))), s_, vD ((own_D ((own_rn (x + p0)) + p1 - (own_rn ((own_rn (x + p0)) + p1))))), s_] [(.double (own_D (own_rn ((own_rn ((own_rn (x + p0)) + p1)) + p2)))), (.double (own_D p2)), (.double (own_D (own_rn ((own_rn (x + p0)) + p1))))])) rfl (by rw [hml]; rfl) (argsL := [(.double (own_D (own_rn ((own_rn (x + p0)) + p1)))), (.double (own_D p2)), (.double (own_D (own_rn ((own_rn ((own_rn (x + p0)) + p1)) + p2))))]) (rest := []) (lenOf own_pd0 rfl) rfl (by show 2 * 0 + _ ≤ _; exact Nat.le_of_eq rfl) (hb hby d3_37) (fun _ _ => ⟨rfl, e661, (by decide : 0 + 0 ≤ _), (by decide : 0 + 0 ≤ _)⟩)
      dsimp only [Pt.U, Pt.locs, Pt.cells, Pt.slots] at X675 l675 y675 z675 st675 hQ675
      rw [l675, y675, z675] at X675
      obtain ⟨rfl, Nq675, eh675⟩ := hQ675
      have N676 := Fr.app N647 Nq675
      have hRe677 : own_Rep ((own_rn ((own_rn (x + p0)) + p1)) + p2 - (own_rn ((own_rn ((own_rn (x + p0)) + p1)) + p2))) := own_repSm (by omega) (by omega)
      have pre683 : ∀ t, Steps p.tables e below (T675.setTop (mkF m 46 #[vR (a_o), vD ((own_D x)), s_, vD ((own_D (own_rn ((own_rn (x + p0)) + p1)))), s_, vI (2), vI (2), vD ((own_D p2)), s_, vD ((own_D (own_rn ((own_rn ((own_rn (x + p0)) + p1)) + p2)))), s_, vD ((own_D ((own_rn ((own_rn (x + p0)) + p1)) + p2 - (own_rn ((own_rn ((own_rn (x + p0)) + p1)) + p2))))), s_] [(.int (own_cmp ((own_rn ((own_rn (x + p0)) + p1)) + p2 - (own_rn ((own_rn ((own_rn (x + p0)) + p1)) + p2))) 0))])) t → Steps p.tables e below (s₁.setTop (entryFrame m #[(.ref a_o), (.double (own_D x))] 13)) t := by
        intro t kt
        refine pre467 _ ?_
        show SS p e below m T459 46 #[vR (a_o), vD ((own_D x)), s_, vD ((own_D (own_rn (x + p0)))), s_, vI (1), vI (1), vD ((own_D p1)), s_, vD ((own_D (own_rn ((own_rn (x + p0)) + p1)))), s_, vD ((own_D ((own_rn (x + p0)) + p1 - (own_rn ((own_rn (x + p0)) + p1))))), s_] [(.int (own_cmp ((own_rn (x + p0)) + p1 - (own_rn ((own_rn (x + p0)) + p1))) 0))] _
        refine XS.ifNo X459.here hx rfl (hb hby d3_46) rfl ((if0 _ _).trans (feq (fun q => hc46_468 (own_cmEq.mp q))).1) ?_
        refine XS.aloadN X459.here hx rfl (hb hby d3_49) rfl rfl ?_
        show SS p e below m T459 50 #[vR (a_o), vD ((own_D x)), s_, vD ((own_D (own_rn (x + p0)))), s_, vI (1), vI (1), vD ((own_D p1)), s_, vD ((own_D (own_rn ((own_rn (x + p0)) + p1)))), s_, vD ((own_D ((own_rn (x + p0)) + p1 - (own_rn ((own_rn (x + p0)) + p1))))), s_] [(.ref a_o)] _
        refine st637 _ ?_
        show SS p e below m T637 53 #[vR (a_o), vD ((own_D x)), s_, vD ((own_D (own_rn (x + p0)))), s_, vI (1), vI (1), vD ((own_D p1)), s_, vD ((own_D (own_rn ((own_rn (x + p0)) + p1)))), s_, vD ((own_D ((own_rn (x + p0)) + p1 - (own_rn ((own_rn (x + p0)) + p1))))), s_] [(.ref pa)] _
        refine XS.iload X637.here hx rfl (hb hby d3_53) rfl ?_
        refine XS.iinc X637.here hx rfl (hb hby d3_55) rfl (l' := #[vR (a_o), vD ((own_D x)), s_, vD ((own_D (own_rn (x + p0)))), s_, vI (2), vI (1), vD ((own_D p1)), s_, vD ((own_D (own_rn ((own_rn (x + p0)) + p1)))), s_, vD ((own_D ((own_rn (x + p0)) + p1 - (own_rn ((own_rn (x + p0)) + p1))))), s_]) rfl ?_
        refine XS.dload X637.here hx rfl (hb hby d3_58) rfl ?_
        show SS p e below m T637 60 #[vR (a_o), vD ((own_D x)), s_, vD ((own_D (own_rn (x + p0)))), s_, vI (2), vI (1), vD ((own_D p1)), s_, vD ((own_D (own_rn ((own_rn (x + p0)) + p1)))), s_, vD ((own_D ((own_rn (x + p0)) + p1 - (own_rn ((own_rn (x + p0)) + p1))))), s_] [(.double (own_D ((own_rn (x + p0)) + p1 - (own_rn ((own_rn (x + p0)) + p1))))), (.int 1), (.ref pa)] _
        refine st643 _ ?_
        show SS p e below m T643 61 #[vR (a_o), vD ((own_D x)), s_, vD ((own_D (own_rn (x + p0)))), s_, vI (2), vI (1), vD ((own_D p1)), s_, vD ((own_D (own_rn ((own_rn (x + p0)) + p1)))), s_, vD ((own_D ((own_rn (x + p0)) + p1 - (own_rn ((own_rn (x + p0)) + p1))))), s_] [] _
        refine XS.dload X643.here hx rfl (hb hby d3_61) rfl ?_
        refine XS.dstoreN X643.here hx rfl (hb hby d3_63) rfl (l' := #[vR (a_o), vD ((own_D x)), s_, vD ((own_D (own_rn ((own_rn (x + p0)) + p1)))), s_, vI (2), vI (1), vD ((own_D p1)), s_, vD ((own_D (own_rn ((own_rn (x + p0)) + p1)))), s_, vD ((own_D ((own_rn (x + p0)) + p1 - (own_rn ((own_rn (x + p0)) + p1))))), s_]) rfl ?_
        refine XS.iinc X643.here hx rfl (hb hby d3_64) rfl (l' := #[vR (a_o), vD ((own_D x)), s_, vD ((own_D (own_rn ((own_rn (x + p0)) + p1)))), s_, vI (2), vI (2), vD ((own_D p1)), s_, vD ((own_D (own_rn ((own_rn (x + p0)) + p1)))), s_, vD ((own_D ((own_rn (x + p0)) + p1 - (own_rn ((own_rn (x + p0)) + p1))))), s_]) rfl ?_
        show SS p e below m T643 67 #[vR (a_o), vD ((own_D x)), s_, vD ((own_D (own_rn ((own_rn (x + p0)) + p1)))), s_, vI (2), vI (2), vD ((own_D p1)), s_, vD ((own_D (own_rn ((own_rn (x + p0)) + p1)))), s_, vD ((own_D ((own_rn (x + p0)) + p1 - (own_rn ((own_rn (x + p0)) + p1))))), s_] [] _
        refine XS.goto X643.here hx rfl (pc0 := 67) (pc' := 8) rfl (hb hby d3_67) (by decide) (by decide) ?_
        refine XS.iload X643.here hx rfl (hb hby d3_8) rfl ?_
        refine XS.aloadN X643.here hx rfl (hb hby d3_10) rfl rfl ?_
        show SS p e below m T643 11 #[vR (a_o), vD ((own_D x)), s_, vD ((own_D (own_rn ((own_rn (x + p0)) + p1)))), s_, vI (2), vI (2), vD ((own_D p1)), s_, vD ((own_D (own_rn ((own_rn (x + p0)) + p1)))), s_, vD ((own_D ((own_rn (x + p0)) + p1 - (own_rn ((own_rn (x + p0)) + p1))))), s_] [(.ref a_o), (.int 2)] _
        refine st656 _ ?_
        show SS p e below m T656 14 #[vR (a_o), vD ((own_D x)), s_, vD ((own_D (own_rn ((own_rn (x + p0)) + p1)))), s_, vI (2), vI (2), vD ((own_D p1)), s_, vD ((own_D (own_rn ((own_rn (x + p0)) + p1)))), s_, vD ((own_D ((own_rn (x + p0)) + p1 - (own_rn ((own_rn (x + p0)) + p1))))), s_] [(.int 3), (.int 2)] _
        refine XS.icmpNo X656.here hx rfl (hb hby d3_14) rfl (tlt ((by decide) : (2 : Int32) < (3 : Int32))).2.1 ?_
        refine XS.aloadN X656.here hx rfl (hb hby d3_17) rfl rfl ?_
        show SS p e below m T656 18 #[vR (a_o), vD ((own_D x)), s_, vD ((own_D (own_rn ((own_rn (x + p0)) + p1)))), s_, vI (2), vI (2), vD ((own_D p1)), s_, vD ((own_D (own_rn ((own_rn (x + p0)) + p1)))), s_, vD ((own_D ((own_rn (x + p0)) + p1 - (own_rn ((own_rn (x + p0)) + p1))))), s_] [(.ref a_o)] _
        refine st661 _ ?_
        show SS p e below m T661 21 #[vR (a_o), vD ((own_D x)), s_, vD ((own_D (own_rn ((own_rn (x + p0)) + p1)))), s_, vI (2), vI (2), vD ((own_D p1)), s_, vD ((own_D (own_rn ((own_rn (x + p0)) + p1)))), s_, vD ((own_D ((own_rn (x + p0)) + p1 - (own_rn ((own_rn (x + p0)) + p1))))), s_] [(.ref pa)] _
        refine XS.iload X661.here hx rfl (hb hby d3_21) rfl ?_
        show SS p e below m T661 23 #[vR (a_o), vD ((own_D x)), s_, vD ((own_D (own_rn ((own_rn (x + p0)) + p1)))), s_, vI (2), vI (2), vD ((own_D p1)), s_, vD ((own_D (own_rn ((own_rn (x + p0)) + p1)))), s_, vD ((own_D ((own_rn (x + p0)) + p1 - (own_rn ((own_rn (x + p0)) + p1))))), s_] [(.int 2), (.ref pa)] _
        refine X661.daload hx (j := (2 : Int32)) (v := (.double (own_D p2))) (by rw [e661]; exact Ar664.1) (State.isArrayOf_alike hZ.alike Ar664.2.1) Ar664.2.2 hin664 hat664 (g := (mkF m 23 #[vR (a_o), vD ((own_D x)), s_, vD ((own_D (own_rn ((own_rn (x + p0)) + p1)))), s_, vI (2), vI (2), vD ((own_D p1)), s_, vD ((own_D (own_rn ((own_rn (x + p0)) + p1)))), s_, vD ((own_D ((own_rn (x + p0)) + p1 - (own_rn ((own_rn (x + p0)) + p1))))), s_] [(.int 2), (.ref pa)])) rfl rfl (hb hby d3_23) _ ?_
        show SS p e below m T661 24 #[vR (a_o), vD ((own_D x)), s_, vD ((own_D (own_rn ((own_rn (x + p0)) + p1)))), s_, vI (2), vI (2), vD ((own_D p1)), s_, vD ((own_D (own_rn ((own_rn (x + p0)) + p1)))), s_, vD ((own_D ((own_rn (x + p0)) + p1 - (own_rn ((own_rn (x + p0)) + p1))))), s_] [(.double (own_D p2))] _
        refine XS.dstore X661.here hx rfl (hb hby d3_24) rfl (l' := #[vR (a_o), vD ((own_D x)), s_, vD ((own_D (own_rn ((own_rn (x + p0)) + p1)))), s_, vI (2), vI (2), vD ((own_D p2)), s_, vD ((own_D (own_rn ((own_rn (x + p0)) + p1)))), s_, vD ((own_D ((own_rn (x + p0)) + p1 - (own_rn ((own_rn (x + p0)) + p1))))), s_]) rfl ?_
        refine XS.dloadN X661.here hx rfl (hb hby d3_26) rfl ?_
        refine XS.dload X661.here hx rfl (hb hby d3_27) rfl ?_
        show SS p e below m T661 29 #[vR (a_o), vD ((own_D x)), s_, vD ((own_D (own_rn ((own_rn (x + p0)) + p1)))), s_, vI (2), vI (2), vD ((own_D p2)), s_, vD ((own_D (own_rn ((own_rn (x + p0)) + p1)))), s_, vD ((own_D ((own_rn (x + p0)) + p1 - (own_rn ((own_rn (x + p0)) + p1))))), s_] [(.double (own_D p2)), (.double (own_D (own_rn ((own_rn (x + p0)) + p1))))] _
        refine XS.daddS X661.here hx rfl (hb hby d3_29) rfl (nn_w (a := Int64.ofInt (own_rn ((own_rn ((own_rn (x + p0)) + p1)) + p2))) hq669) hq669 ?_
        show SS p e below m T661 30 #[vR (a_o), vD ((own_D x)), s_, vD ((own_D (own_rn ((own_rn (x + p0)) + p1)))), s_, vI (2), vI (2), vD ((own_D p2)), s_, vD ((own_D (own_rn ((own_rn (x + p0)) + p1)))), s_, vD ((own_D ((own_rn (x + p0)) + p1 - (own_rn ((own_rn (x + p0)) + p1))))), s_] [(.double (own_D (own_rn ((own_rn ((own_rn (x + p0)) + p1)) + p2))))] _
        refine XS.dstore X661.here hx rfl (hb hby d3_30) rfl (l' := #[vR (a_o), vD ((own_D x)), s_, vD ((own_D (own_rn ((own_rn (x + p0)) + p1)))), s_, vI (2), vI (2), vD ((own_D p2)), s_, vD ((own_D (own_rn ((own_rn ((own_rn (x + p0)) + p1)) + p2)))), s_, vD ((own_D ((own_rn (x + p0)) + p1 - (own_rn ((own_rn (x + p0)) + p1))))), s_]) rfl ?_
        refine XS.dloadN X661.here hx rfl (hb hby d3_32) rfl ?_
        refine XS.dload X661.here hx rfl (hb hby d3_33) rfl ?_
        show SS p e below m T661 35 #[vR (a_o), vD ((own_D x)), s_, vD ((own_D (own_rn ((own_rn (x + p0)) + p1)))), s_, vI (2), vI (2), vD ((own_D p2)), s_, vD ((own_D (own_rn ((own_rn ((own_rn (x + p0)) + p1)) + p2)))), s_, vD ((own_D ((own_rn (x + p0)) + p1 - (own_rn ((own_rn (x + p0)) + p1))))), s_] [(.double (own_D p2)), (.double (own_D (own_rn ((own_rn (x + p0)) + p1))))] _
        refine XS.dload X661.here hx rfl (hb hby d3_35) rfl ?_
        show SS p e below m T661 37 #[vR (a_o), vD ((own_D x)), s_, vD ((own_D (own_rn ((own_rn (x + p0)) + p1)))), s_, vI (2), vI (2), vD ((own_D p2)), s_, vD ((own_D (own_rn ((own_rn ((own_rn (x + p0)) + p1)) + p2)))), s_, vD ((own_D ((own_rn (x + p0)) + p1 - (own_rn ((own_rn (x + p0)) + p1))))), s_] [(.double (own_D (own_rn ((own_rn ((own_rn (x + p0)) + p1)) + p2)))), (.double (own_D p2)), (.double (own_D (own_rn ((own_rn (x + p0)) + p1))))] _
        refine st675 _ ?_
        show SS p e below m T675 40 #[vR (a_o), vD ((own_D x)), s_, vD ((own_D (own_rn ((own_rn (x + p0)) + p1)))), s_, vI (2), vI (2), vD ((own_D p2)), s_, vD ((own_D (own_rn ((own_rn ((own_rn (x + p0)) + p1)) + p2)))), s_, vD ((own_D ((own_rn (x + p0)) + p1 - (own_rn ((own_rn (x + p0)) + p1))))), s_] [(.double (own_D ((own_rn ((own_rn (x + p0)) + p1)) + p2 - (own_rn ((own_rn ((own_rn (x + p0)) + p1)) + p2)))))] _
        refine XS.dstore X675.here hx rfl (hb hby d3_40) rfl (l' := #[vR (a_o), vD ((own_D x)), s_, vD ((own_D (own_rn ((own_rn (x + p0)) + p1)))), s_, vI (2), vI (2), vD ((own_D p2)), s_, vD ((own_D (own_rn ((own_rn ((own_rn (x + p0)) + p1)) + p2)))), s_, vD ((own_D ((own_rn ((own_rn (x + p0)) + p1)) + p2 - (own_rn ((own_rn ((own_rn (x + p0)) + p1)) + p2))))), s_]) rfl ?_
        refine XS.dload X675.here hx rfl (hb hby d3_42) rfl ?_
        refine XS.dconst0 X675.here hx rfl (hb hby d3_44) own_c0 ?_
        show SS p e below m T675 45 #[vR (a_o), vD ((own_D x)), s_, vD ((own_D (own_rn ((own_rn (x + p0)) + p1)))), s_, vI (2), vI (2), vD ((own_D p2)), s_, vD ((own_D (own_rn ((own_rn ((own_rn (x + p0)) + p1)) + p2)))), s_, vD ((own_D ((own_rn ((own_rn (x + p0)) + p1)) + p2 - (own_rn ((own_rn ((own_rn (x + p0)) + p1)) + p2))))), s_] [(.double (own_D 0)), (.double (own_D ((own_rn ((own_rn (x + p0)) + p1)) + p2 - (own_rn ((own_rn ((own_rn (x + p0)) + p1)) + p2)))))] _
        refine XS.dcmpS X675.here hx rfl (hb hby d3_45) rfl (own_DcmpV hRe677 own_rep0 (by omega) (by omega) (by omega) (by omega) _) ?_
        exact kt
      by_cases hc46_684 : ((own_rn ((own_rn (x + p0)) + p1)) + p2 - (own_rn ((own_rn ((own_rn (x + p0)) + p1)) + p2))) = 0
      · obtain ⟨T692, X692, e692, st692⟩ := getF X675 hx hZ hown (host := "") (Or.inl (hw _ (gm 17 rfl))) Via.refl eh675 Fq655 (g := (mkF m 11 #[vR (a_o), vD ((own_D x)), s_, vD ((own_D (own_rn ((own_rn ((own_rn (x + p0)) + p1)) + p2)))), s_, vI (2), vI (3), vD ((own_D p2)), s_, vD ((own_D (own_rn ((own_rn ((own_rn (x + p0)) + p1)) + p2)))), s_, vD ((own_D ((own_rn ((own_rn (x + p0)) + p1)) + p2 - (own_rn ((own_rn ((own_rn (x + p0)) + p1)) + p2))))), s_] [(.ref a_o), (.int 3)])) rfl rfl (hb hby d3_11)
        have pre698 : ∀ t, Steps p.tables e below (T692.setTop (mkF m 73 #[vR (a_o), vD ((own_D x)), s_, vD ((own_D (own_rn ((own_rn ((own_rn (x + p0)) + p1)) + p2)))), s_, vI (2), vI (3), vD ((own_D p2)), s_, vD ((own_D (own_rn ((own_rn ((own_rn (x + p0)) + p1)) + p2)))), s_, vD ((own_D ((own_rn ((own_rn (x + p0)) + p1)) + p2 - (own_rn ((own_rn ((own_rn (x + p0)) + p1)) + p2))))), s_] [(.int (own_cmp (own_rn ((own_rn ((own_rn (x + p0)) + p1)) + p2)) 0))])) t → Steps p.tables e below (s₁.setTop (entryFrame m #[(.ref a_o), (.double (own_D x))] 13)) t := by
          intro t kt
          refine pre683 _ ?_
          show SS p e below m T675 46 #[vR (a_o), vD ((own_D x)), s_, vD ((own_D (own_rn ((own_rn (x + p0)) + p1)))), s_, vI (2), vI (2), vD ((own_D p2)), s_, vD ((own_D (own_rn ((own_rn ((own_rn (x + p0)) + p1)) + p2)))), s_, vD ((own_D ((own_rn ((own_rn (x + p0)) + p1)) + p2 - (own_rn ((own_rn ((own_rn (x + p0)) + p1)) + p2))))), s_] [(.int (own_cmp ((own_rn ((own_rn (x + p0)) + p1)) + p2 - (own_rn ((own_rn ((own_rn (x + p0)) + p1)) + p2))) 0))] _
          refine XS.ifYes X675.here hx rfl (pc0 := 46) (pc' := 61) rfl (hb hby d3_46) rfl ((if0 _ _).trans (teq (own_cmEq.mpr hc46_684)).1) (by decide) (by decide) ?_
          refine XS.dload X675.here hx rfl (hb hby d3_61) rfl ?_
          refine XS.dstoreN X675.here hx rfl (hb hby d3_63) rfl (l' := #[vR (a_o), vD ((own_D x)), s_, vD ((own_D (own_rn ((own_rn ((own_rn (x + p0)) + p1)) + p2)))), s_, vI (2), vI (2), vD ((own_D p2)), s_, vD ((own_D (own_rn ((own_rn ((own_rn (x + p0)) + p1)) + p2)))), s_, vD ((own_D ((own_rn ((own_rn (x + p0)) + p1)) + p2 - (own_rn ((own_rn ((own_rn (x + p0)) + p1)) + p2))))), s_]) rfl ?_
          show SS p e below m T675 64 #[vR (a_o), vD ((own_D x)), s_, vD ((own_D (own_rn ((own_rn ((own_rn (x + p0)) + p1)) + p2)))), s_, vI (2), vI (2), vD ((own_D p2)), s_, vD ((own_D (own_rn ((own_rn ((own_rn (x + p0)) + p1)) + p2)))), s_, vD ((own_D ((own_rn ((own_rn (x + p0)) + p1)) + p2 - (own_rn ((own_rn ((own_rn (x + p0)) + p1)) + p2))))), s_] [] _
          refine XS.iinc X675.here hx rfl (hb hby d3_64) rfl (l' := #[vR (a_o), vD ((own_D x)), s_, vD ((own_D (own_rn ((own_rn ((own_rn (x + p0)) + p1)) + p2)))), s_, vI (2), vI (3), vD ((own_D p2)), s_, vD ((own_D (own_rn ((own_rn ((own_rn (x + p0)) + p1)) + p2)))), s_, vD ((own_D ((own_rn ((own_rn (x + p0)) + p1)) + p2 - (own_rn ((own_rn ((own_rn (x + p0)) + p1)) + p2))))), s_]) rfl ?_
          refine XS.goto X675.here hx rfl (pc0 := 67) (pc' := 8) rfl (hb hby d3_67) (by decide) (by decide) ?_
          refine XS.iload X675.here hx rfl (hb hby d3_8) rfl ?_
          show SS p e below m T675 10 #[vR (a_o), vD ((own_D x)), s_, vD ((own_D (own_rn ((own_rn ((own_rn (x + p0)) + p1)) + p2)))), s_, vI (2), vI (3), vD ((own_D p2)), s_, vD ((own_D (own_rn ((own_rn ((own_rn (x + p0)) + p1)) + p2)))), s_, vD ((own_D ((own_rn ((own_rn (x + p0)) + p1)) + p2 - (own_rn ((own_rn ((own_rn (x + p0)) + p1)) + p2))))), s_] [(.int 3)] _
          refine XS.aloadN X675.here hx rfl (hb hby d3_10) rfl rfl ?_
          show SS p e below m T675 11 #[vR (a_o), vD ((own_D x)), s_, vD ((own_D (own_rn ((own_rn ((own_rn (x + p0)) + p1)) + p2)))), s_, vI (2), vI (3), vD ((own_D p2)), s_, vD ((own_D (own_rn ((own_rn ((own_rn (x + p0)) + p1)) + p2)))), s_, vD ((own_D ((own_rn ((own_rn (x + p0)) + p1)) + p2 - (own_rn ((own_rn ((own_rn (x + p0)) + p1)) + p2))))), s_] [(.ref a_o), (.int 3)] _
          refine st692 _ ?_
          show SS p e below m T692 14 #[vR (a_o), vD ((own_D x)), s_, vD ((own_D (own_rn ((own_rn ((own_rn (x + p0)) + p1)) + p2)))), s_, vI (2), vI (3), vD ((own_D p2)), s_, vD ((own_D (own_rn ((own_rn ((own_rn (x + p0)) + p1)) + p2)))), s_, vD ((own_D ((own_rn ((own_rn (x + p0)) + p1)) + p2 - (own_rn ((own_rn ((own_rn (x + p0)) + p1)) + p2))))), s_] [(.int 3), (.int 3)] _
          refine XS.icmpYes X692.here hx rfl (pc0 := 14) (pc' := 70) rfl (hb hby d3_14) rfl (flt ((by decide) : ¬ ((3 : Int32) < (3 : Int32)))).2.1 (by decide) (by decide) ?_
          refine XS.dloadN X692.here hx rfl (hb hby d3_70) rfl ?_
          refine XS.dconst0 X692.here hx rfl (hb hby d3_71) own_c0 ?_
          show SS p e below m T692 72 #[vR (a_o), vD ((own_D x)), s_, vD ((own_D (own_rn ((own_rn ((own_rn (x + p0)) + p1)) + p2)))), s_, vI (2), vI (3), vD ((own_D p2)), s_, vD ((own_D (own_rn ((own_rn ((own_rn (x + p0)) + p1)) + p2)))), s_, vD ((own_D ((own_rn ((own_rn (x + p0)) + p1)) + p2 - (own_rn ((own_rn ((own_rn (x + p0)) + p1)) + p2))))), s_] [(.double (own_D 0)), (.double (own_D (own_rn ((own_rn ((own_rn (x + p0)) + p1)) + p2))))] _
          refine XS.dcmpS X692.here hx rfl (hb hby d3_72) rfl (own_DcmpV (own_rrn _) own_rep0 (by omega) (by omega) (by omega) (by omega) _) ?_
          exact kt
        by_cases hc73_699 : (own_rn ((own_rn ((own_rn (x + p0)) + p1)) + p2)) = 0
        · have Fq703 : Exa Z h643 a_o "com/example/merit/merit/ExactSum" := ((hxa.wr W427).wr W643)
          obtain ⟨T704, h704, X704, e704, W704, st704⟩ := putF X692 hx hZ hown (host := "") (Or.inl (hw _ (gm 17 rfl))) Via.refl e692 Fq655 Fq703 (Or.inl (hw _ (gm 18 rfl))) (hw _ (gm 1 rfl)) (ty := .int) (by decide) rfl rfl (g := (mkF m 115 #[vR (a_o), vD ((own_D x)), s_, vD ((own_D (own_rn ((own_rn ((own_rn (x + p0)) + p1)) + p2)))), s_, vI (2), vI (3), vD ((own_D p2)), s_, vD ((own_D (own_rn ((own_rn ((own_rn (x + p0)) + p1)) + p2)))), s_, vD ((own_D ((own_rn ((own_rn (x + p0)) + p1)) + p2 - (own_rn ((own_rn ((own_rn (x + p0)) + p1)) + p2))))), s_] [(.int 2), (.ref a_o)])) rfl rfl (hb hby d3_115)
          have Kc705 : Keep h0 h704 [a_o, pa] := Kc645.wr W704 (Or.inl (ga 0 rfl))
          have Zs706 : n0 ≤ h704.size := Nat.le_trans Zs646 (Keep.of_wr W704).1
          have N707 := Fr.snoc X704 N676 hg
          have Fw704 : Fld Z h704 a_o "com/example/merit/merit/ExactSum" "count" "I" (.int 2) := Fq655.same W704
          obtain ⟨fs, hr, hrun, hended, hW, hsame⟩ := X704.leave (v := none) (fun _ => rfl) (hlocks := BodyLoose.notSynchronized Bd)
          refine ⟨_, _, pre698 _ ?_, hrun, hended, _, _, rfl, ?_, ⟨_, rfl⟩, hW, hsame.mono (by decide) (by decide)⟩
          · show SS p e below m T692 73 #[vR (a_o), vD ((own_D x)), s_, vD ((own_D (own_rn ((own_rn ((own_rn (x + p0)) + p1)) + p2)))), s_, vI (2), vI (3), vD ((own_D p2)), s_, vD ((own_D (own_rn ((own_rn ((own_rn (x + p0)) + p1)) + p2)))), s_, vD ((own_D ((own_rn ((own_rn (x + p0)) + p1)) + p2 - (own_rn ((own_rn ((own_rn (x + p0)) + p1)) + p2))))), s_] [(.int (own_cmp (own_rn ((own_rn ((own_rn (x + p0)) + p1)) + p2)) 0))] _
            refine XS.ifYes X692.here hx rfl (pc0 := 73) (pc' := 112) rfl (hb hby d3_73) rfl ((if0 _ _).trans (teq (own_cmEq.mpr hc73_699)).1) (by decide) (by decide) ?_
            refine XS.aloadN X692.here hx rfl (hb hby d3_112) rfl rfl ?_
            refine XS.iload X692.here hx rfl (hb hby d3_113) rfl ?_
            show SS p e below m T692 115 #[vR (a_o), vD ((own_D x)), s_, vD ((own_D (own_rn ((own_rn ((own_rn (x + p0)) + p1)) + p2)))), s_, vI (2), vI (3), vD ((own_D p2)), s_, vD ((own_D (own_rn ((own_rn ((own_rn (x + p0)) + p1)) + p2)))), s_, vD ((own_D ((own_rn ((own_rn (x + p0)) + p1)) + p2 - (own_rn ((own_rn ((own_rn (x + p0)) + p1)) + p2))))), s_] [(.int 2), (.ref a_o)] _
            refine st704 _ ?_
            show SS p e below m T704 118 #[vR (a_o), vD ((own_D x)), s_, vD ((own_D (own_rn ((own_rn ((own_rn (x + p0)) + p1)) + p2)))), s_, vI (2), vI (3), vD ((own_D p2)), s_, vD ((own_D (own_rn ((own_rn ((own_rn (x + p0)) + p1)) + p2)))), s_, vD ((own_D ((own_rn ((own_rn (x + p0)) + p1)) + p2 - (own_rn ((own_rn ((own_rn (x + p0)) + p1)) + p2))))), s_] [] _
            exact X704.returnOut hx Bd.returns (hb hby d3_118) hr
          · show Qown_add3 Z x a_o pa k_p p0 p1 p2 w3 h0 n0 _ T704.heap _
            rw [e704]
            have hv : (own_add3_f x p0 p1 p2) = [(x + p0 - (own_rn (x + p0))), ((own_rn (x + p0)) + p1 - (own_rn ((own_rn (x + p0)) + p1)))] := by unfold own_add3_f; rw [if_neg hc46_37, if_neg hc46_468, if_pos hc46_684, if_pos hc73_699]
            have Fq709 : Fld Z h704 a_o "com/example/merit/merit/ExactSum" "partials" "[D" (.ref pa) := (Fq660.other W704 (Or.inr (slot_ne (Or.inl (hw _ (gm 11 rfl))) (Or.inl (hw _ (gm 18 rfl))) (by decide) (t := (.array .double)) (t' := .int) (by decide) (by decide))))
            have Fq710 : Arv Z h704 pa k_p .double (4 : Int32) [(.double (own_D (x + p0 - (own_rn (x + p0))))), (.double (own_D ((own_rn (x + p0)) + p1 - (own_rn ((own_rn (x + p0)) + p1))))), (.double (own_D p2)), w3] (.double FP.dconst0) := (Vm644.other W704 (Ne.symm hne))
            exact ⟨[(.double (own_D (x + p0 - (own_rn (x + p0))))), (.double (own_D ((own_rn (x + p0)) + p1 - (own_rn ((own_rn (x + p0)) + p1))))), (.double (own_D p2)), w3], rfl, N707, Kc705, Fq709, Fq710, (by rw [hv]; exact Fw704), (by rw [hv]; exact ⟨rfl, rfl⟩)⟩
        · obtain ⟨T714, X714, e714, st714⟩ := getF X692 hx hZ hown (host := "") (Or.inl (hw _ (gm 10 rfl))) Via.refl e692 Fq660 (g := (mkF m 79 #[vR (a_o), vD ((own_D x)), s_, vD ((own_D (own_rn ((own_rn ((own_rn (x + p0)) + p1)) + p2)))), s_, vI (2), vI (3), vD ((own_D p2)), s_, vD ((own_D (own_rn ((own_rn ((own_rn (x + p0)) + p1)) + p2)))), s_, vD ((own_D ((own_rn ((own_rn (x + p0)) + p1)) + p2 - (own_rn ((own_rn ((own_rn (x + p0)) + p1)) + p2))))), s_] [(.ref a_o), (.int 2)])) rfl rfl (hb hby d3_79)
          obtain ⟨cl716, Ar716, -, S716, M716, -, -⟩ := id Vm644
          obtain ⟨T720, X720, e720, st720⟩ := getF X714 hx hZ hown (host := "") (Or.inl (hw _ (gm 10 rfl))) Via.refl e714 Fq660 (g := (mkF m 102 #[vR (a_o), vD ((own_D x)), s_, vD ((own_D (own_rn ((own_rn ((own_rn (x + p0)) + p1)) + p2)))), s_, vI (2), vI (3), vD ((own_D p2)), s_, vD ((own_D (own_rn ((own_rn ((own_rn (x + p0)) + p1)) + p2)))), s_, vD ((own_D ((own_rn ((own_rn (x + p0)) + p1)) + p2 - (own_rn ((own_rn ((own_rn (x + p0)) + p1)) + p2))))), s_] [(.ref a_o)])) rfl rfl (hb hby d3_102)
          obtain ⟨cl725, Ar725, q725, S725, M725, H725, G725⟩ := id Vm644
          have hin725 : ¬ ((2 : Int32) < 0 ∨ cl725.slots.size ≤ ((2 : Int32)).toNatClampNeg) := inb_of S725 ⟨by decide, by decide⟩
          obtain ⟨T726, h726, X726, e726, W726, st726⟩ := stD X720 hx hZ e720 Ar725 (j := (2 : Int32)) hin725 (g := (mkF m 111 #[vR (a_o), vD ((own_D x)), s_, vD ((own_D (own_rn ((own_rn ((own_rn (x + p0)) + p1)) + p2)))), s_, vI (3), vI (3), vD ((own_D p2)), s_, vD ((own_D (own_rn ((own_rn ((own_rn (x + p0)) + p1)) + p2)))), s_, vD ((own_D ((own_rn ((own_rn (x + p0)) + p1)) + p2 - (own_rn ((own_rn ((own_rn (x + p0)) + p1)) + p2))))), s_] [(.double (own_D (own_rn ((own_rn ((own_rn (x + p0)) + p1)) + p2)))), (.int 2), (.ref pa)])) rfl rfl (hb hby d3_111)
          have Kc728 : Keep h0 h726 [a_o, pa] := Kc645.wr W726 (Or.inl (ga 1 rfl))
          have Zs729 : n0 ≤ h726.size := Nat.le_trans Zs646 (Keep.of_wr W726).1
          have N730 := Fr.snoc X726 N676 hgp
          have Vm727 : Arv Z h726 pa k_p .double (4 : Int32) [(.double (own_D (x + p0 - (own_rn (x + p0))))), (.double (own_D ((own_rn (x + p0)) + p1 - (own_rn ((own_rn (x + p0)) + p1))))), (.double (own_D (own_rn ((own_rn ((own_rn (x + p0)) + p1)) + p2)))), w3] (.double FP.dconst0) := Arv.set Ar725 q725 S725 M725 H725 G725 rfl W726 2 rfl (Nat.le_of_ble_eq_true rfl)
          have Fq734 : Exa Z h726 a_o "com/example/merit/merit/ExactSum" := (((hxa.wr W427).wr W643).wr W726)
          have Fq735 : Fld Z h726 a_o "com/example/merit/merit/ExactSum" "count" "I" (.int 3) := (Fq655.other W726 (Or.inl hne))
          obtain ⟨T736, h736, X736, e736, W736, st736⟩ := putF X726 hx hZ hown (host := "") (Or.inl (hw _ (gm 17 rfl))) Via.refl e726 Fq735 Fq734 (Or.inl (hw _ (gm 18 rfl))) (hw _ (gm 1 rfl)) (ty := .int) (by decide) rfl rfl (g := (mkF m 115 #[vR (a_o), vD ((own_D x)), s_, vD ((own_D (own_rn ((own_rn ((own_rn (x + p0)) + p1)) + p2)))), s_, vI (3), vI (3), vD ((own_D p2)), s_, vD ((own_D (own_rn ((own_rn ((own_rn (x + p0)) + p1)) + p2)))), s_, vD ((own_D ((own_rn ((own_rn (x + p0)) + p1)) + p2 - (own_rn ((own_rn ((own_rn (x + p0)) + p1)) + p2))))), s_] [(.int 3), (.ref a_o)])) rfl rfl (hb hby d3_115)
          have Kc737 : Keep h0 h736 [a_o, pa] := Kc728.wr W736 (Or.inl (ga 0 rfl))
          have Zs738 : n0 ≤ h736.size := Nat.le_trans Zs729 (Keep.of_wr W736).1
          have N739 := Fr.snoc X736 N730 hg
          have Fw736 : Fld Z h736 a_o "com/example/merit/merit/ExactSum" "count" "I" (.int 3) := Fq735.same W736
          obtain ⟨fs, hr, hrun, hended, hW, hsame⟩ := X736.leave (v := none) (fun _ => rfl) (hlocks := BodyLoose.notSynchronized Bd)
          refine ⟨_, _, pre698 _ ?_, hrun, hended, _, _, rfl, ?_, ⟨_, rfl⟩, hW, hsame.mono (by decide) (by decide)⟩
          · show SS p e below m T692 73 #[vR (a_o), vD ((own_D x)), s_, vD ((own_D (own_rn ((own_rn ((own_rn (x + p0)) + p1)) + p2)))), s_, vI (2), vI (3), vD ((own_D p2)), s_, vD ((own_D (own_rn ((own_rn ((own_rn (x + p0)) + p1)) + p2)))), s_, vD ((own_D ((own_rn ((own_rn (x + p0)) + p1)) + p2 - (own_rn ((own_rn ((own_rn (x + p0)) + p1)) + p2))))), s_] [(.int (own_cmp (own_rn ((own_rn ((own_rn (x + p0)) + p1)) + p2)) 0))] _
            refine XS.ifNo X692.here hx rfl (hb hby d3_73) rfl ((if0 _ _).trans (feq (fun q => hc73_699 (own_cmEq.mp q))).1) ?_
            refine XS.iload X692.here hx rfl (hb hby d3_76) rfl ?_
            refine XS.aloadN X692.here hx rfl (hb hby d3_78) rfl rfl ?_
            show SS p e below m T692 79 #[vR (a_o), vD ((own_D x)), s_, vD ((own_D (own_rn ((own_rn ((own_rn (x + p0)) + p1)) + p2)))), s_, vI (2), vI (3), vD ((own_D p2)), s_, vD ((own_D (own_rn ((own_rn ((own_rn (x + p0)) + p1)) + p2)))), s_, vD ((own_D ((own_rn ((own_rn (x + p0)) + p1)) + p2 - (own_rn ((own_rn ((own_rn (x + p0)) + p1)) + p2))))), s_] [(.ref a_o), (.int 2)] _
            refine st714 _ ?_
            show SS p e below m T714 82 #[vR (a_o), vD ((own_D x)), s_, vD ((own_D (own_rn ((own_rn ((own_rn (x + p0)) + p1)) + p2)))), s_, vI (2), vI (3), vD ((own_D p2)), s_, vD ((own_D (own_rn ((own_rn ((own_rn (x + p0)) + p1)) + p2)))), s_, vD ((own_D ((own_rn ((own_rn (x + p0)) + p1)) + p2 - (own_rn ((own_rn ((own_rn (x + p0)) + p1)) + p2))))), s_] [(.ref pa), (.int 2)] _
            refine X714.arraylength hx (by rw [e714]; exact Ar716.1) (State.isArrayOf_alike hZ.alike Ar716.2.1) (g := (mkF m 82 #[vR (a_o), vD ((own_D x)), s_, vD ((own_D (own_rn ((own_rn ((own_rn (x + p0)) + p1)) + p2)))), s_, vI (2), vI (3), vD ((own_D p2)), s_, vD ((own_D (own_rn ((own_rn ((own_rn (x + p0)) + p1)) + p2)))), s_, vD ((own_D ((own_rn ((own_rn (x + p0)) + p1)) + p2 - (own_rn ((own_rn ((own_rn (x + p0)) + p1)) + p2))))), s_] [(.ref pa), (.int 2)])) rfl rfl (hb hby d3_82) _ ?_
            rw [len_of S716 M716]
            show SS p e below m T714 83 #[vR (a_o), vD ((own_D x)), s_, vD ((own_D (own_rn ((own_rn ((own_rn (x + p0)) + p1)) + p2)))), s_, vI (2), vI (3), vD ((own_D p2)), s_, vD ((own_D (own_rn ((own_rn ((own_rn (x + p0)) + p1)) + p2)))), s_, vD ((own_D ((own_rn ((own_rn (x + p0)) + p1)) + p2 - (own_rn ((own_rn ((own_rn (x + p0)) + p1)) + p2))))), s_] [(.int 4), (.int 2)] _
            refine XS.icmpYes X714.here hx rfl (pc0 := 83) (pc' := 101) rfl (hb hby d3_83) rfl (feq ((by decide) : ¬ ((2 : Int32) = (4 : Int32)))).2 (by decide) (by decide) ?_
            refine XS.aloadN X714.here hx rfl (hb hby d3_101) rfl rfl ?_
            show SS p e below m T714 102 #[vR (a_o), vD ((own_D x)), s_, vD ((own_D (own_rn ((own_rn ((own_rn (x + p0)) + p1)) + p2)))), s_, vI (2), vI (3), vD ((own_D p2)), s_, vD ((own_D (own_rn ((own_rn ((own_rn (x + p0)) + p1)) + p2)))), s_, vD ((own_D ((own_rn ((own_rn (x + p0)) + p1)) + p2 - (own_rn ((own_rn ((own_rn (x + p0)) + p1)) + p2))))), s_] [(.ref a_o)] _
            refine st720 _ ?_
            show SS p e below m T720 105 #[vR (a_o), vD ((own_D x)), s_, vD ((own_D (own_rn ((own_rn ((own_rn (x + p0)) + p1)) + p2)))), s_, vI (2), vI (3), vD ((own_D p2)), s_, vD ((own_D (own_rn ((own_rn ((own_rn (x + p0)) + p1)) + p2)))), s_, vD ((own_D ((own_rn ((own_rn (x + p0)) + p1)) + p2 - (own_rn ((own_rn ((own_rn (x + p0)) + p1)) + p2))))), s_] [(.ref pa)] _
            refine XS.iload X720.here hx rfl (hb hby d3_105) rfl ?_
            refine XS.iinc X720.here hx rfl (hb hby d3_107) rfl (l' := #[vR (a_o), vD ((own_D x)), s_, vD ((own_D (own_rn ((own_rn ((own_rn (x + p0)) + p1)) + p2)))), s_, vI (3), vI (3), vD ((own_D p2)), s_, vD ((own_D (own_rn ((own_rn ((own_rn (x + p0)) + p1)) + p2)))), s_, vD ((own_D ((own_rn ((own_rn (x + p0)) + p1)) + p2 - (own_rn ((own_rn ((own_rn (x + p0)) + p1)) + p2))))), s_]) rfl ?_
            refine XS.dloadN X720.here hx rfl (hb hby d3_110) rfl ?_
            show SS p e below m T720 111 #[vR (a_o), vD ((own_D x)), s_, vD ((own_D (own_rn ((own_rn ((own_rn (x + p0)) + p1)) + p2)))), s_, vI (3), vI (3), vD ((own_D p2)), s_, vD ((own_D (own_rn ((own_rn ((own_rn (x + p0)) + p1)) + p2)))), s_, vD ((own_D ((own_rn ((own_rn (x + p0)) + p1)) + p2 - (own_rn ((own_rn ((own_rn (x + p0)) + p1)) + p2))))), s_] [(.double (own_D (own_rn ((own_rn ((own_rn (x + p0)) + p1)) + p2)))), (.int 2), (.ref pa)] _
            refine st726 _ ?_
            show SS p e below m T726 112 #[vR (a_o), vD ((own_D x)), s_, vD ((own_D (own_rn ((own_rn ((own_rn (x + p0)) + p1)) + p2)))), s_, vI (3), vI (3), vD ((own_D p2)), s_, vD ((own_D (own_rn ((own_rn ((own_rn (x + p0)) + p1)) + p2)))), s_, vD ((own_D ((own_rn ((own_rn (x + p0)) + p1)) + p2 - (own_rn ((own_rn ((own_rn (x + p0)) + p1)) + p2))))), s_] [] _
            refine XS.aloadN X726.here hx rfl (hb hby d3_112) rfl rfl ?_
            refine XS.iload X726.here hx rfl (hb hby d3_113) rfl ?_
            show SS p e below m T726 115 #[vR (a_o), vD ((own_D x)), s_, vD ((own_D (own_rn ((own_rn ((own_rn (x + p0)) + p1)) + p2)))), s_, vI (3), vI (3), vD ((own_D p2)), s_, vD ((own_D (own_rn ((own_rn ((own_rn (x + p0)) + p1)) + p2)))), s_, vD ((own_D ((own_rn ((own_rn (x + p0)) + p1)) + p2 - (own_rn ((own_rn ((own_rn (x + p0)) + p1)) + p2))))), s_] [(.int 3), (.ref a_o)] _
            refine st736 _ ?_
            show SS p e below m T736 118 #[vR (a_o), vD ((own_D x)), s_, vD ((own_D (own_rn ((own_rn ((own_rn (x + p0)) + p1)) + p2)))), s_, vI (3), vI (3), vD ((own_D p2)), s_, vD ((own_D (own_rn ((own_rn ((own_rn (x + p0)) + p1)) + p2)))), s_, vD ((own_D ((own_rn ((own_rn (x + p0)) + p1)) + p2 - (own_rn ((own_rn ((own_rn (x + p0)) + p1)) + p2))))), s_] [] _
            exact X736.returnOut hx Bd.returns (hb hby d3_118) hr
          · show Qown_add3 Z x a_o pa k_p p0 p1 p2 w3 h0 n0 _ T736.heap _
            rw [e736]
            have hv : (own_add3_f x p0 p1 p2) = [(x + p0 - (own_rn (x + p0))), ((own_rn (x + p0)) + p1 - (own_rn ((own_rn (x + p0)) + p1))), (own_rn ((own_rn ((own_rn (x + p0)) + p1)) + p2))] := by unfold own_add3_f; rw [if_neg hc46_37, if_neg hc46_468, if_pos hc46_684, if_neg hc73_699]
            have Fq741 : Fld Z h736 a_o "com/example/merit/merit/ExactSum" "partials" "[D" (.ref pa) := ((Fq660.other W726 (Or.inl hne)).other W736 (Or.inr (slot_ne (Or.inl (hw _ (gm 11 rfl))) (Or.inl (hw _ (gm 18 rfl))) (by decide) (t := (.array .double)) (t' := .int) (by decide) (by decide))))
            have Fq742 : Arv Z h736 pa k_p .double (4 : Int32) [(.double (own_D (x + p0 - (own_rn (x + p0))))), (.double (own_D ((own_rn (x + p0)) + p1 - (own_rn ((own_rn (x + p0)) + p1))))), (.double (own_D (own_rn ((own_rn ((own_rn (x + p0)) + p1)) + p2)))), w3] (.double FP.dconst0) := (Vm727.other W736 (Ne.symm hne))
            exact ⟨[(.double (own_D (x + p0 - (own_rn (x + p0))))), (.double (own_D ((own_rn (x + p0)) + p1 - (own_rn ((own_rn (x + p0)) + p1))))), (.double (own_D (own_rn ((own_rn ((own_rn (x + p0)) + p1)) + p2)))), w3], rfl, N739, Kc737, Fq741, Fq742, (by rw [hv]; exact Fw736), (by rw [hv]; exact ⟨rfl, rfl⟩)⟩
      · obtain ⟨T745, X745, e745, st745⟩ := getF X675 hx hZ hown (host := "") (Or.inl (hw _ (gm 10 rfl))) Via.refl eh675 Fq660 (g := (mkF m 50 #[vR (a_o), vD ((own_D x)), s_, vD ((own_D (own_rn ((own_rn (x + p0)) + p1)))), s_, vI (2), vI (2), vD ((own_D p2)), s_, vD ((own_D (own_rn ((own_rn ((own_rn (x + p0)) + p1)) + p2)))), s_, vD ((own_D ((own_rn ((own_rn (x + p0)) + p1)) + p2 - (own_rn ((own_rn ((own_rn (x + p0)) + p1)) + p2))))), s_] [(.ref a_o)])) rfl rfl (hb hby d3_50)
        obtain ⟨cl750, Ar750, q750, S750, M750, H750, G750⟩ := id Vm644
        have hin750 : ¬ ((2 : Int32) < 0 ∨ cl750.slots.size ≤ ((2 : Int32)).toNatClampNeg) := inb_of S750 ⟨by decide, by decide⟩
        obtain ⟨T751, h751, X751, e751, W751, st751⟩ := stD X745 hx hZ e745 Ar750 (j := (2 : Int32)) hin750 (g := (mkF m 60 #[vR (a_o), vD ((own_D x)), s_, vD ((own_D (own_rn ((own_rn (x + p0)) + p1)))), s_, vI (3), vI (2), vD ((own_D p2)), s_, vD ((own_D (own_rn ((own_rn ((own_rn (x + p0)) + p1)) + p2)))), s_, vD ((own_D ((own_rn ((own_rn (x + p0)) + p1)) + p2 - (own_rn ((own_rn ((own_rn (x + p0)) + p1)) + p2))))), s_] [(.double (own_D ((own_rn ((own_rn (x + p0)) + p1)) + p2 - (own_rn ((own_rn ((own_rn (x + p0)) + p1)) + p2))))), (.int 2), (.ref pa)])) rfl rfl (hb hby d3_60)
        have Kc753 : Keep h0 h751 [a_o, pa] := Kc645.wr W751 (Or.inl (ga 1 rfl))
        have Zs754 : n0 ≤ h751.size := Nat.le_trans Zs646 (Keep.of_wr W751).1
        have N755 := Fr.snoc X751 N676 hgp
        have Vm752 : Arv Z h751 pa k_p .double (4 : Int32) [(.double (own_D (x + p0 - (own_rn (x + p0))))), (.double (own_D ((own_rn (x + p0)) + p1 - (own_rn ((own_rn (x + p0)) + p1))))), (.double (own_D ((own_rn ((own_rn (x + p0)) + p1)) + p2 - (own_rn ((own_rn ((own_rn (x + p0)) + p1)) + p2))))), w3] (.double FP.dconst0) := Arv.set Ar750 q750 S750 M750 H750 G750 rfl W751 2 rfl (Nat.le_of_ble_eq_true rfl)
        have Fq763 : Fld Z h751 a_o "com/example/merit/merit/ExactSum" "count" "I" (.int 3) := (Fq655.other W751 (Or.inl hne))
        obtain ⟨T764, X764, e764, st764⟩ := getF X751 hx hZ hown (host := "") (Or.inl (hw _ (gm 17 rfl))) Via.refl e751 Fq763 (g := (mkF m 11 #[vR (a_o), vD ((own_D x)), s_, vD ((own_D (own_rn ((own_rn ((own_rn (x + p0)) + p1)) + p2)))), s_, vI (3), vI (3), vD ((own_D p2)), s_, vD ((own_D (own_rn ((own_rn ((own_rn (x + p0)) + p1)) + p2)))), s_, vD ((own_D ((own_rn ((own_rn (x + p0)) + p1)) + p2 - (own_rn ((own_rn ((own_rn (x + p0)) + p1)) + p2))))), s_] [(.ref a_o), (.int 3)])) rfl rfl (hb hby d3_11)
        have pre770 : ∀ t, Steps p.tables e below (T764.setTop (mkF m 73 #[vR (a_o), vD ((own_D x)), s_, vD ((own_D (own_rn ((own_rn ((own_rn (x + p0)) + p1)) + p2)))), s_, vI (3), vI (3), vD ((own_D p2)), s_, vD ((own_D (own_rn ((own_rn ((own_rn (x + p0)) + p1)) + p2)))), s_, vD ((own_D ((own_rn ((own_rn (x + p0)) + p1)) + p2 - (own_rn ((own_rn ((own_rn (x + p0)) + p1)) + p2))))), s_] [(.int (own_cmp (own_rn ((own_rn ((own_rn (x + p0)) + p1)) + p2)) 0))])) t → Steps p.tables e below (s₁.setTop (entryFrame m #[(.ref a_o), (.double (own_D x))] 13)) t := by
          intro t kt
          refine pre683 _ ?_
          show SS p e below m T675 46 #[vR (a_o), vD ((own_D x)), s_, vD ((own_D (own_rn ((own_rn (x + p0)) + p1)))), s_, vI (2), vI (2), vD ((own_D p2)), s_, vD ((own_D (own_rn ((own_rn ((own_rn (x + p0)) + p1)) + p2)))), s_, vD ((own_D ((own_rn ((own_rn (x + p0)) + p1)) + p2 - (own_rn ((own_rn ((own_rn (x + p0)) + p1)) + p2))))), s_] [(.int (own_cmp ((own_rn ((own_rn (x + p0)) + p1)) + p2 - (own_rn ((own_rn ((own_rn (x + p0)) + p1)) + p2))) 0))] _
          refine XS.ifNo X675.here hx rfl (hb hby d3_46) rfl ((if0 _ _).trans (feq (fun q => hc46_684 (own_cmEq.mp q))).1) ?_
          refine XS.aloadN X675.here hx rfl (hb hby d3_49) rfl rfl ?_
          show SS p e below m T675 50 #[vR (a_o), vD ((own_D x)), s_, vD ((own_D (own_rn ((own_rn (x + p0)) + p1)))), s_, vI (2), vI (2), vD ((own_D p2)), s_, vD ((own_D (own_rn ((own_rn ((own_rn (x + p0)) + p1)) + p2)))), s_, vD ((own_D ((own_rn ((own_rn (x + p0)) + p1)) + p2 - (own_rn ((own_rn ((own_rn (x + p0)) + p1)) + p2))))), s_] [(.ref a_o)] _
          refine st745 _ ?_
          show SS p e below m T745 53 #[vR (a_o), vD ((own_D x)), s_, vD ((own_D (own_rn ((own_rn (x + p0)) + p1)))), s_, vI (2), vI (2), vD ((own_D p2)), s_, vD ((own_D (own_rn ((own_rn ((own_rn (x + p0)) + p1)) + p2)))), s_, vD ((own_D ((own_rn ((own_rn (x + p0)) + p1)) + p2 - (own_rn ((own_rn ((own_rn (x + p0)) + p1)) + p2))))), s_] [(.ref pa)] _
          refine XS.iload X745.here hx rfl (hb hby d3_53) rfl ?_
          refine XS.iinc X745.here hx rfl (hb hby d3_55) rfl (l' := #[vR (a_o), vD ((own_D x)), s_, vD ((own_D (own_rn ((own_rn (x + p0)) + p1)))), s_, vI (3), vI (2), vD ((own_D p2)), s_, vD ((own_D (own_rn ((own_rn ((own_rn (x + p0)) + p1)) + p2)))), s_, vD ((own_D ((own_rn ((own_rn (x + p0)) + p1)) + p2 - (own_rn ((own_rn ((own_rn (x + p0)) + p1)) + p2))))), s_]) rfl ?_
          refine XS.dload X745.here hx rfl (hb hby d3_58) rfl ?_
          show SS p e below m T745 60 #[vR (a_o), vD ((own_D x)), s_, vD ((own_D (own_rn ((own_rn (x + p0)) + p1)))), s_, vI (3), vI (2), vD ((own_D p2)), s_, vD ((own_D (own_rn ((own_rn ((own_rn (x + p0)) + p1)) + p2)))), s_, vD ((own_D ((own_rn ((own_rn (x + p0)) + p1)) + p2 - (own_rn ((own_rn ((own_rn (x + p0)) + p1)) + p2))))), s_] [(.double (own_D ((own_rn ((own_rn (x + p0)) + p1)) + p2 - (own_rn ((own_rn ((own_rn (x + p0)) + p1)) + p2))))), (.int 2), (.ref pa)] _
          refine st751 _ ?_
          show SS p e below m T751 61 #[vR (a_o), vD ((own_D x)), s_, vD ((own_D (own_rn ((own_rn (x + p0)) + p1)))), s_, vI (3), vI (2), vD ((own_D p2)), s_, vD ((own_D (own_rn ((own_rn ((own_rn (x + p0)) + p1)) + p2)))), s_, vD ((own_D ((own_rn ((own_rn (x + p0)) + p1)) + p2 - (own_rn ((own_rn ((own_rn (x + p0)) + p1)) + p2))))), s_] [] _
          refine XS.dload X751.here hx rfl (hb hby d3_61) rfl ?_
          refine XS.dstoreN X751.here hx rfl (hb hby d3_63) rfl (l' := #[vR (a_o), vD ((own_D x)), s_, vD ((own_D (own_rn ((own_rn ((own_rn (x + p0)) + p1)) + p2)))), s_, vI (3), vI (2), vD ((own_D p2)), s_, vD ((own_D (own_rn ((own_rn ((own_rn (x + p0)) + p1)) + p2)))), s_, vD ((own_D ((own_rn ((own_rn (x + p0)) + p1)) + p2 - (own_rn ((own_rn ((own_rn (x + p0)) + p1)) + p2))))), s_]) rfl ?_
          refine XS.iinc X751.here hx rfl (hb hby d3_64) rfl (l' := #[vR (a_o), vD ((own_D x)), s_, vD ((own_D (own_rn ((own_rn ((own_rn (x + p0)) + p1)) + p2)))), s_, vI (3), vI (3), vD ((own_D p2)), s_, vD ((own_D (own_rn ((own_rn ((own_rn (x + p0)) + p1)) + p2)))), s_, vD ((own_D ((own_rn ((own_rn (x + p0)) + p1)) + p2 - (own_rn ((own_rn ((own_rn (x + p0)) + p1)) + p2))))), s_]) rfl ?_
          show SS p e below m T751 67 #[vR (a_o), vD ((own_D x)), s_, vD ((own_D (own_rn ((own_rn ((own_rn (x + p0)) + p1)) + p2)))), s_, vI (3), vI (3), vD ((own_D p2)), s_, vD ((own_D (own_rn ((own_rn ((own_rn (x + p0)) + p1)) + p2)))), s_, vD ((own_D ((own_rn ((own_rn (x + p0)) + p1)) + p2 - (own_rn ((own_rn ((own_rn (x + p0)) + p1)) + p2))))), s_] [] _
          refine XS.goto X751.here hx rfl (pc0 := 67) (pc' := 8) rfl (hb hby d3_67) (by decide) (by decide) ?_
          refine XS.iload X751.here hx rfl (hb hby d3_8) rfl ?_
          refine XS.aloadN X751.here hx rfl (hb hby d3_10) rfl rfl ?_
          show SS p e below m T751 11 #[vR (a_o), vD ((own_D x)), s_, vD ((own_D (own_rn ((own_rn ((own_rn (x + p0)) + p1)) + p2)))), s_, vI (3), vI (3), vD ((own_D p2)), s_, vD ((own_D (own_rn ((own_rn ((own_rn (x + p0)) + p1)) + p2)))), s_, vD ((own_D ((own_rn ((own_rn (x + p0)) + p1)) + p2 - (own_rn ((own_rn ((own_rn (x + p0)) + p1)) + p2))))), s_] [(.ref a_o), (.int 3)] _
          refine st764 _ ?_
          show SS p e below m T764 14 #[vR (a_o), vD ((own_D x)), s_, vD ((own_D (own_rn ((own_rn ((own_rn (x + p0)) + p1)) + p2)))), s_, vI (3), vI (3), vD ((own_D p2)), s_, vD ((own_D (own_rn ((own_rn ((own_rn (x + p0)) + p1)) + p2)))), s_, vD ((own_D ((own_rn ((own_rn (x + p0)) + p1)) + p2 - (own_rn ((own_rn ((own_rn (x + p0)) + p1)) + p2))))), s_] [(.int 3), (.int 3)] _
          refine XS.icmpYes X764.here hx rfl (pc0 := 14) (pc' := 70) rfl (hb hby d3_14) rfl (flt ((by decide) : ¬ ((3 : Int32) < (3 : Int32)))).2.1 (by decide) (by decide) ?_
          refine XS.dloadN X764.here hx rfl (hb hby d3_70) rfl ?_
          refine XS.dconst0 X764.here hx rfl (hb hby d3_71) own_c0 ?_
          show SS p e below m T764 72 #[vR (a_o), vD ((own_D x)), s_, vD ((own_D (own_rn ((own_rn ((own_rn (x + p0)) + p1)) + p2)))), s_, vI (3), vI (3), vD ((own_D p2)), s_, vD ((own_D (own_rn ((own_rn ((own_rn (x + p0)) + p1)) + p2)))), s_, vD ((own_D ((own_rn ((own_rn (x + p0)) + p1)) + p2 - (own_rn ((own_rn ((own_rn (x + p0)) + p1)) + p2))))), s_] [(.double (own_D 0)), (.double (own_D (own_rn ((own_rn ((own_rn (x + p0)) + p1)) + p2))))] _
          refine XS.dcmpS X764.here hx rfl (hb hby d3_72) rfl (own_DcmpV (own_rrn _) own_rep0 (by omega) (by omega) (by omega) (by omega) _) ?_
          exact kt
        by_cases hc73_771 : (own_rn ((own_rn ((own_rn (x + p0)) + p1)) + p2)) = 0
        · have Fq775 : Exa Z h751 a_o "com/example/merit/merit/ExactSum" := (((hxa.wr W427).wr W643).wr W751)
          obtain ⟨T776, h776, X776, e776, W776, st776⟩ := putF X764 hx hZ hown (host := "") (Or.inl (hw _ (gm 17 rfl))) Via.refl e764 Fq763 Fq775 (Or.inl (hw _ (gm 18 rfl))) (hw _ (gm 1 rfl)) (ty := .int) (by decide) rfl rfl (g := (mkF m 115 #[vR (a_o), vD ((own_D x)), s_, vD ((own_D (own_rn ((own_rn ((own_rn (x + p0)) + p1)) + p2)))), s_, vI (3), vI (3), vD ((own_D p2)), s_, vD ((own_D (own_rn ((own_rn ((own_rn (x + p0)) + p1)) + p2)))), s_, vD ((own_D ((own_rn ((own_rn (x + p0)) + p1)) + p2 - (own_rn ((own_rn ((own_rn (x + p0)) + p1)) + p2))))), s_] [(.int 3), (.ref a_o)])) rfl rfl (hb hby d3_115)
          have Kc777 : Keep h0 h776 [a_o, pa] := Kc753.wr W776 (Or.inl (ga 0 rfl))
          have Zs778 : n0 ≤ h776.size := Nat.le_trans Zs754 (Keep.of_wr W776).1
          have N779 := Fr.snoc X776 N755 hg
          have Fw776 : Fld Z h776 a_o "com/example/merit/merit/ExactSum" "count" "I" (.int 3) := Fq763.same W776
          obtain ⟨fs, hr, hrun, hended, hW, hsame⟩ := X776.leave (v := none) (fun _ => rfl) (hlocks := BodyLoose.notSynchronized Bd)
          refine ⟨_, _, pre770 _ ?_, hrun, hended, _, _, rfl, ?_, ⟨_, rfl⟩, hW, hsame.mono (by decide) (by decide)⟩
          · show SS p e below m T764 73 #[vR (a_o), vD ((own_D x)), s_, vD ((own_D (own_rn ((own_rn ((own_rn (x + p0)) + p1)) + p2)))), s_, vI (3), vI (3), vD ((own_D p2)), s_, vD ((own_D (own_rn ((own_rn ((own_rn (x + p0)) + p1)) + p2)))), s_, vD ((own_D ((own_rn ((own_rn (x + p0)) + p1)) + p2 - (own_rn ((own_rn ((own_rn (x + p0)) + p1)) + p2))))), s_] [(.int (own_cmp (own_rn ((own_rn ((own_rn (x + p0)) + p1)) + p2)) 0))] _
            refine XS.ifYes X764.here hx rfl (pc0 := 73) (pc' := 112) rfl (hb hby d3_73) rfl ((if0 _ _).trans (teq (own_cmEq.mpr hc73_771)).1) (by decide) (by decide) ?_
            refine XS.aloadN X764.here hx rfl (hb hby d3_112) rfl rfl ?_
            refine XS.iload X764.here hx rfl (hb hby d3_113) rfl ?_
            show SS p e below m T764 115 #[vR (a_o), vD ((own_D x)), s_, vD ((own_D (own_rn ((own_rn ((own_rn (x + p0)) + p1)) + p2)))), s_, vI (3), vI (3), vD ((own_D p2)), s_, vD ((own_D (own_rn ((own_rn ((own_rn (x + p0)) + p1)) + p2)))), s_, vD ((own_D ((own_rn ((own_rn (x + p0)) + p1)) + p2 - (own_rn ((own_rn ((own_rn (x + p0)) + p1)) + p2))))), s_] [(.int 3), (.ref a_o)] _
            refine st776 _ ?_
            show SS p e below m T776 118 #[vR (a_o), vD ((own_D x)), s_, vD ((own_D (own_rn ((own_rn ((own_rn (x + p0)) + p1)) + p2)))), s_, vI (3), vI (3), vD ((own_D p2)), s_, vD ((own_D (own_rn ((own_rn ((own_rn (x + p0)) + p1)) + p2)))), s_, vD ((own_D ((own_rn ((own_rn (x + p0)) + p1)) + p2 - (own_rn ((own_rn ((own_rn (x + p0)) + p1)) + p2))))), s_] [] _
            exact X776.returnOut hx Bd.returns (hb hby d3_118) hr
          · show Qown_add3 Z x a_o pa k_p p0 p1 p2 w3 h0 n0 _ T776.heap _
            rw [e776]
            have hv : (own_add3_f x p0 p1 p2) = [(x + p0 - (own_rn (x + p0))), ((own_rn (x + p0)) + p1 - (own_rn ((own_rn (x + p0)) + p1))), ((own_rn ((own_rn (x + p0)) + p1)) + p2 - (own_rn ((own_rn ((own_rn (x + p0)) + p1)) + p2)))] := by unfold own_add3_f; rw [if_neg hc46_37, if_neg hc46_468, if_neg hc46_684, if_pos hc73_771]
            have Fq781 : Fld Z h776 a_o "com/example/merit/merit/ExactSum" "partials" "[D" (.ref pa) := ((Fq660.other W751 (Or.inl hne)).other W776 (Or.inr (slot_ne (Or.inl (hw _ (gm 11 rfl))) (Or.inl (hw _ (gm 18 rfl))) (by decide) (t := (.array .double)) (t' := .int) (by decide) (by decide))))
            have Fq782 : Arv Z h776 pa k_p .double (4 : Int32) [(.double (own_D (x + p0 - (own_rn (x + p0))))), (.double (own_D ((own_rn (x + p0)) + p1 - (own_rn ((own_rn (x + p0)) + p1))))), (.double (own_D ((own_rn ((own_rn (x + p0)) + p1)) + p2 - (own_rn ((own_rn ((own_rn (x + p0)) + p1)) + p2))))), w3] (.double FP.dconst0) := (Vm752.other W776 (Ne.symm hne))
            exact ⟨[(.double (own_D (x + p0 - (own_rn (x + p0))))), (.double (own_D ((own_rn (x + p0)) + p1 - (own_rn ((own_rn (x + p0)) + p1))))), (.double (own_D ((own_rn ((own_rn (x + p0)) + p1)) + p2 - (own_rn ((own_rn ((own_rn (x + p0)) + p1)) + p2))))), w3], rfl, N779, Kc777, Fq781, Fq782, (by rw [hv]; exact Fw776), (by rw [hv]; exact ⟨rfl, rfl⟩)⟩
        · have Fq786 : Fld Z h751 a_o "com/example/merit/merit/ExactSum" "partials" "[D" (.ref pa) := (Fq660.other W751 (Or.inl hne))
          obtain ⟨T787, X787, e787, st787⟩ := getF X764 hx hZ hown (host := "") (Or.inl (hw _ (gm 10 rfl))) Via.refl e764 Fq786 (g := (mkF m 79 #[vR (a_o), vD ((own_D x)), s_, vD ((own_D (own_rn ((own_rn ((own_rn (x + p0)) + p1)) + p2)))), s_, vI (3), vI (3), vD ((own_D p2)), s_, vD ((own_D (own_rn ((own_rn ((own_rn (x + p0)) + p1)) + p2)))), s_, vD ((own_D ((own_rn ((own_rn (x + p0)) + p1)) + p2 - (own_rn ((own_rn ((own_rn (x + p0)) + p1)) + p2))))), s_] [(.ref a_o), (.int 3)])) rfl rfl (hb hby d3_79)
          obtain ⟨cl789, Ar789, -, S789, M789, -, -⟩ := id Vm752
          obtain ⟨T793, X793, e793, st793⟩ := getF X787 hx hZ hown (host := "") (Or.inl (hw _ (gm 10 rfl))) Via.refl e787 Fq786 (g := (mkF m 102 #[vR (a_o), vD ((own_D x)), s_, vD ((own_D (own_rn ((own_rn ((own_rn (x + p0)) + p1)) + p2)))), s_, vI (3), vI (3), vD ((own_D p2)), s_, vD ((own_D (own_rn ((own_rn ((own_rn (x + p0)) + p1)) + p2)))), s_, vD ((own_D ((own_rn ((own_rn (x + p0)) + p1)) + p2 - (own_rn ((own_rn ((own_rn (x + p0)) + p1)) + p2))))), s_] [(.ref a_o)])) rfl rfl (hb hby d3_102)
          obtain ⟨cl798, Ar798, q798, S798, M798, H798, G798⟩ := id Vm752
          have hin798 : ¬ ((3 : Int32) < 0 ∨ cl798.slots.size ≤ ((3 : Int32)).toNatClampNeg) := inb_of S798 ⟨by decide, by decide⟩
          obtain ⟨T799, h799, X799, e799, W799, st799⟩ := stD X793 hx hZ e793 Ar798 (j := (3 : Int32)) hin798 (g := (mkF m 111 #[vR (a_o), vD ((own_D x)), s_, vD ((own_D (own_rn ((own_rn ((own_rn (x + p0)) + p1)) + p2)))), s_, vI (4), vI (3), vD ((own_D p2)), s_, vD ((own_D (own_rn ((own_rn ((own_rn (x + p0)) + p1)) + p2)))), s_, vD ((own_D ((own_rn ((own_rn (x + p0)) + p1)) + p2 - (own_rn ((own_rn ((own_rn (x + p0)) + p1)) + p2))))), s_] [(.double (own_D (own_rn ((own_rn ((own_rn (x + p0)) + p1)) + p2)))), (.int 3), (.ref pa)])) rfl rfl (hb hby d3_111)
          have Kc801 : Keep h0 h799 [a_o, pa] := Kc753.wr W799 (Or.inl (ga 1 rfl))
          have Zs802 : n0 ≤ h799.size := Nat.le_trans Zs754 (Keep.of_wr W799).1
          have N803 := Fr.snoc X799 N755 hgp
          have Vm800 : Arv Z h799 pa k_p .double (4 : Int32) [(.double (own_D (x + p0 - (own_rn (x + p0))))), (.double (own_D ((own_rn (x + p0)) + p1 - (own_rn ((own_rn (x + p0)) + p1))))), (.double (own_D ((own_rn ((own_rn (x + p0)) + p1)) + p2 - (own_rn ((own_rn ((own_rn (x + p0)) + p1)) + p2))))), (.double (own_D (own_rn ((own_rn ((own_rn (x + p0)) + p1)) + p2))))] (.double FP.dconst0) := Arv.set Ar798 q798 S798 M798 H798 G798 rfl W799 3 rfl (Nat.le_of_ble_eq_true rfl)
          have Fq807 : Exa Z h799 a_o "com/example/merit/merit/ExactSum" := ((((hxa.wr W427).wr W643).wr W751).wr W799)
          have Fq808 : Fld Z h799 a_o "com/example/merit/merit/ExactSum" "count" "I" (.int 3) := (Fq763.other W799 (Or.inl hne))
          obtain ⟨T809, h809, X809, e809, W809, st809⟩ := putF X799 hx hZ hown (host := "") (Or.inl (hw _ (gm 17 rfl))) Via.refl e799 Fq808 Fq807 (Or.inl (hw _ (gm 18 rfl))) (hw _ (gm 1 rfl)) (ty := .int) (by decide) rfl rfl (g := (mkF m 115 #[vR (a_o), vD ((own_D x)), s_, vD ((own_D (own_rn ((own_rn ((own_rn (x + p0)) + p1)) + p2)))), s_, vI (4), vI (3), vD ((own_D p2)), s_, vD ((own_D (own_rn ((own_rn ((own_rn (x + p0)) + p1)) + p2)))), s_, vD ((own_D ((own_rn ((own_rn (x + p0)) + p1)) + p2 - (own_rn ((own_rn ((own_rn (x + p0)) + p1)) + p2))))), s_] [(.int 4), (.ref a_o)])) rfl rfl (hb hby d3_115)
          have Kc810 : Keep h0 h809 [a_o, pa] := Kc801.wr W809 (Or.inl (ga 0 rfl))
          have Zs811 : n0 ≤ h809.size := Nat.le_trans Zs802 (Keep.of_wr W809).1
          have N812 := Fr.snoc X809 N803 hg
          have Fw809 : Fld Z h809 a_o "com/example/merit/merit/ExactSum" "count" "I" (.int 4) := Fq808.same W809
          obtain ⟨fs, hr, hrun, hended, hW, hsame⟩ := X809.leave (v := none) (fun _ => rfl) (hlocks := BodyLoose.notSynchronized Bd)
          refine ⟨_, _, pre770 _ ?_, hrun, hended, _, _, rfl, ?_, ⟨_, rfl⟩, hW, hsame.mono (by decide) (by decide)⟩
          · show SS p e below m T764 73 #[vR (a_o), vD ((own_D x)), s_, vD ((own_D (own_rn ((own_rn ((own_rn (x + p0)) + p1)) + p2)))), s_, vI (3), vI (3), vD ((own_D p2)), s_, vD ((own_D (own_rn ((own_rn ((own_rn (x + p0)) + p1)) + p2)))), s_, vD ((own_D ((own_rn ((own_rn (x + p0)) + p1)) + p2 - (own_rn ((own_rn ((own_rn (x + p0)) + p1)) + p2))))), s_] [(.int (own_cmp (own_rn ((own_rn ((own_rn (x + p0)) + p1)) + p2)) 0))] _
            refine XS.ifNo X764.here hx rfl (hb hby d3_73) rfl ((if0 _ _).trans (feq (fun q => hc73_771 (own_cmEq.mp q))).1) ?_
            refine XS.iload X764.here hx rfl (hb hby d3_76) rfl ?_
            refine XS.aloadN X764.here hx rfl (hb hby d3_78) rfl rfl ?_
            show SS p e below m T764 79 #[vR (a_o), vD ((own_D x)), s_, vD ((own_D (own_rn ((own_rn ((own_rn (x + p0)) + p1)) + p2)))), s_, vI (3), vI (3), vD ((own_D p2)), s_, vD ((own_D (own_rn ((own_rn ((own_rn (x + p0)) + p1)) + p2)))), s_, vD ((own_D ((own_rn ((own_rn (x + p0)) + p1)) + p2 - (own_rn ((own_rn ((own_rn (x + p0)) + p1)) + p2))))), s_] [(.ref a_o), (.int 3)] _
            refine st787 _ ?_
            show SS p e below m T787 82 #[vR (a_o), vD ((own_D x)), s_, vD ((own_D (own_rn ((own_rn ((own_rn (x + p0)) + p1)) + p2)))), s_, vI (3), vI (3), vD ((own_D p2)), s_, vD ((own_D (own_rn ((own_rn ((own_rn (x + p0)) + p1)) + p2)))), s_, vD ((own_D ((own_rn ((own_rn (x + p0)) + p1)) + p2 - (own_rn ((own_rn ((own_rn (x + p0)) + p1)) + p2))))), s_] [(.ref pa), (.int 3)] _
            refine X787.arraylength hx (by rw [e787]; exact Ar789.1) (State.isArrayOf_alike hZ.alike Ar789.2.1) (g := (mkF m 82 #[vR (a_o), vD ((own_D x)), s_, vD ((own_D (own_rn ((own_rn ((own_rn (x + p0)) + p1)) + p2)))), s_, vI (3), vI (3), vD ((own_D p2)), s_, vD ((own_D (own_rn ((own_rn ((own_rn (x + p0)) + p1)) + p2)))), s_, vD ((own_D ((own_rn ((own_rn (x + p0)) + p1)) + p2 - (own_rn ((own_rn ((own_rn (x + p0)) + p1)) + p2))))), s_] [(.ref pa), (.int 3)])) rfl rfl (hb hby d3_82) _ ?_
            rw [len_of S789 M789]
            show SS p e below m T787 83 #[vR (a_o), vD ((own_D x)), s_, vD ((own_D (own_rn ((own_rn ((own_rn (x + p0)) + p1)) + p2)))), s_, vI (3), vI (3), vD ((own_D p2)), s_, vD ((own_D (own_rn ((own_rn ((own_rn (x + p0)) + p1)) + p2)))), s_, vD ((own_D ((own_rn ((own_rn (x + p0)) + p1)) + p2 - (own_rn ((own_rn ((own_rn (x + p0)) + p1)) + p2))))), s_] [(.int 4), (.int 3)] _
            refine XS.icmpYes X787.here hx rfl (pc0 := 83) (pc' := 101) rfl (hb hby d3_83) rfl (feq ((by decide) : ¬ ((3 : Int32) = (4 : Int32)))).2 (by decide) (by decide) ?_
            refine XS.aloadN X787.here hx rfl (hb hby d3_101) rfl rfl ?_
            show SS p e below m T787 102 #[vR (a_o), vD ((own_D x)), s_, vD ((own_D (own_rn ((own_rn ((own_rn (x + p0)) + p1)) + p2)))), s_, vI (3), vI (3), vD ((own_D p2)), s_, vD ((own_D (own_rn ((own_rn ((own_rn (x + p0)) + p1)) + p2)))), s_, vD ((own_D ((own_rn ((own_rn (x + p0)) + p1)) + p2 - (own_rn ((own_rn ((own_rn (x + p0)) + p1)) + p2))))), s_] [(.ref a_o)] _
            refine st793 _ ?_
            show SS p e below m T793 105 #[vR (a_o), vD ((own_D x)), s_, vD ((own_D (own_rn ((own_rn ((own_rn (x + p0)) + p1)) + p2)))), s_, vI (3), vI (3), vD ((own_D p2)), s_, vD ((own_D (own_rn ((own_rn ((own_rn (x + p0)) + p1)) + p2)))), s_, vD ((own_D ((own_rn ((own_rn (x + p0)) + p1)) + p2 - (own_rn ((own_rn ((own_rn (x + p0)) + p1)) + p2))))), s_] [(.ref pa)] _
            refine XS.iload X793.here hx rfl (hb hby d3_105) rfl ?_
            refine XS.iinc X793.here hx rfl (hb hby d3_107) rfl (l' := #[vR (a_o), vD ((own_D x)), s_, vD ((own_D (own_rn ((own_rn ((own_rn (x + p0)) + p1)) + p2)))), s_, vI (4), vI (3), vD ((own_D p2)), s_, vD ((own_D (own_rn ((own_rn ((own_rn (x + p0)) + p1)) + p2)))), s_, vD ((own_D ((own_rn ((own_rn (x + p0)) + p1)) + p2 - (own_rn ((own_rn ((own_rn (x + p0)) + p1)) + p2))))), s_]) rfl ?_
            refine XS.dloadN X793.here hx rfl (hb hby d3_110) rfl ?_
            show SS p e below m T793 111 #[vR (a_o), vD ((own_D x)), s_, vD ((own_D (own_rn ((own_rn ((own_rn (x + p0)) + p1)) + p2)))), s_, vI (4), vI (3), vD ((own_D p2)), s_, vD ((own_D (own_rn ((own_rn ((own_rn (x + p0)) + p1)) + p2)))), s_, vD ((own_D ((own_rn ((own_rn (x + p0)) + p1)) + p2 - (own_rn ((own_rn ((own_rn (x + p0)) + p1)) + p2))))), s_] [(.double (own_D (own_rn ((own_rn ((own_rn (x + p0)) + p1)) + p2)))), (.int 3), (.ref pa)] _
            refine st799 _ ?_
            show SS p e below m T799 112 #[vR (a_o), vD ((own_D x)), s_, vD ((own_D (own_rn ((own_rn ((own_rn (x + p0)) + p1)) + p2)))), s_, vI (4), vI (3), vD ((own_D p2)), s_, vD ((own_D (own_rn ((own_rn ((own_rn (x + p0)) + p1)) + p2)))), s_, vD ((own_D ((own_rn ((own_rn (x + p0)) + p1)) + p2 - (own_rn ((own_rn ((own_rn (x + p0)) + p1)) + p2))))), s_] [] _
            refine XS.aloadN X799.here hx rfl (hb hby d3_112) rfl rfl ?_
            refine XS.iload X799.here hx rfl (hb hby d3_113) rfl ?_
            show SS p e below m T799 115 #[vR (a_o), vD ((own_D x)), s_, vD ((own_D (own_rn ((own_rn ((own_rn (x + p0)) + p1)) + p2)))), s_, vI (4), vI (3), vD ((own_D p2)), s_, vD ((own_D (own_rn ((own_rn ((own_rn (x + p0)) + p1)) + p2)))), s_, vD ((own_D ((own_rn ((own_rn (x + p0)) + p1)) + p2 - (own_rn ((own_rn ((own_rn (x + p0)) + p1)) + p2))))), s_] [(.int 4), (.ref a_o)] _
            refine st809 _ ?_
            show SS p e below m T809 118 #[vR (a_o), vD ((own_D x)), s_, vD ((own_D (own_rn ((own_rn ((own_rn (x + p0)) + p1)) + p2)))), s_, vI (4), vI (3), vD ((own_D p2)), s_, vD ((own_D (own_rn ((own_rn ((own_rn (x + p0)) + p1)) + p2)))), s_, vD ((own_D ((own_rn ((own_rn (x + p0)) + p1)) + p2 - (own_rn ((own_rn ((own_rn (x + p0)) + p1)) + p2))))), s_] [] _
            exact X809.returnOut hx Bd.returns (hb hby d3_118) hr
          · show Qown_add3 Z x a_o pa k_p p0 p1 p2 w3 h0 n0 _ T809.heap _
            rw [e809]
            have hv : (own_add3_f x p0 p1 p2) = [(x + p0 - (own_rn (x + p0))), ((own_rn (x + p0)) + p1 - (own_rn ((own_rn (x + p0)) + p1))), ((own_rn ((own_rn (x + p0)) + p1)) + p2 - (own_rn ((own_rn ((own_rn (x + p0)) + p1)) + p2))), (own_rn ((own_rn ((own_rn (x + p0)) + p1)) + p2))] := by unfold own_add3_f; rw [if_neg hc46_37, if_neg hc46_468, if_neg hc46_684, if_neg hc73_771]
            have Fq814 : Fld Z h809 a_o "com/example/merit/merit/ExactSum" "partials" "[D" (.ref pa) := ((Fq786.other W799 (Or.inl hne)).other W809 (Or.inr (slot_ne (Or.inl (hw _ (gm 11 rfl))) (Or.inl (hw _ (gm 18 rfl))) (by decide) (t := (.array .double)) (t' := .int) (by decide) (by decide))))
            have Fq815 : Arv Z h809 pa k_p .double (4 : Int32) [(.double (own_D (x + p0 - (own_rn (x + p0))))), (.double (own_D ((own_rn (x + p0)) + p1 - (own_rn ((own_rn (x + p0)) + p1))))), (.double (own_D ((own_rn ((own_rn (x + p0)) + p1)) + p2 - (own_rn ((own_rn ((own_rn (x + p0)) + p1)) + p2))))), (.double (own_D (own_rn ((own_rn ((own_rn (x + p0)) + p1)) + p2))))] (.double FP.dconst0) := (Vm800.other W809 (Ne.symm hne))
            exact ⟨[(.double (own_D (x + p0 - (own_rn (x + p0))))), (.double (own_D ((own_rn (x + p0)) + p1 - (own_rn ((own_rn (x + p0)) + p1))))), (.double (own_D ((own_rn ((own_rn (x + p0)) + p1)) + p2 - (own_rn ((own_rn ((own_rn (x + p0)) + p1)) + p2))))), (.double (own_D (own_rn ((own_rn ((own_rn (x + p0)) + p1)) + p2))))], rfl, N812, Kc810, Fq814, Fq815, (by rw [hv]; exact Fw809), (by rw [hv]; exact ⟨rfl, rfl⟩)⟩
theorem own_ef_own_add0 (m : MethodId) (a_o : Addr) (ud0 : UInt64) : entryFrame m #[(.ref a_o), (.double ud0)] 13 = mkF m 0 #[.val (.ref a_o), .val (.double ud0), .second, .unset, .unset, .unset, .unset, .unset, .unset, .unset, .unset, .unset, .unset] [] := by first | (simp [entryFrame, mkF, argsToLocals, Value.category]; done) | rfl
def own_add0_f (x : Int) : List Int := (if x = 0 then [] else [x])
def Qown_add0 (Z : State) (x : Int) (a_o : Addr) (pa : Addr) (k_p : ClassId) (w0 : Value) (w1 : Value) (w2 : Value) (w3 : Value) (h0 : Heap) (n0 : Nat) (v : Option Value) (h : Heap) (L : List Loc) : Prop := ∃ vs_r : List Value, v = none ∧ Fr n0 L ∧ Keep h0 h [a_o, pa] ∧ Fld Z h a_o "com/example/merit/merit/ExactSum" "partials" "[D" (.ref pa) ∧ Arv Z h pa k_p .double (4 : Int32) vs_r (.double FP.dconst0) ∧ Fld Z h a_o "com/example/merit/merit/ExactSum" "count" "I" (.int (Int32.ofNat (own_add0_f x).length)) ∧ own_pt vs_r (own_add0_f x)
set_option maxRecDepth 65536 in
set_option maxHeartbeats 40000000 in
theorem own_add0 (l : Launch) (Z : State) (a0 : Array Value) (hw : ∀ d ∈ tables_1, d.before a0 Z = true) (ws : List Jvm.Cond) (x : Int) (a_o : Addr) (pa : Addr) (k_p : ClassId) (w0 : Value) (w1 : Value) (w2 : Value) (w3 : Value) (h0 : Heap) (n0 : Nat) (Z0 : n0 ≤ h0.size) (hxa : Exa Z h0 a_o "com/example/merit/merit/ExactSum") (hfp : Fld Z h0 a_o "com/example/merit/merit/ExactSum" "partials" "[D" (.ref pa)) (hfc : Fld Z h0 a_o "com/example/merit/merit/ExactSum" "count" "I" (.int 0)) (hA : Arv Z h0 pa k_p .double (4 : Int32) [w0, w1, w2, w3] (.double FP.dconst0)) (hg : n0 ≤ a_o) (hgp : n0 ≤ pa) (hne : a_o ≠ pa) (hrx : own_Rep x) (hbd : x.natAbs ≤ 4611686018427400000) :
    MetFree l (⟨"com/example/merit/merit/ExactSum", "add", "(D)V"⟩ : MethodName) (head1 (Jvm.Cond.code (⟨"com/example/merit/merit/ExactSum", "add", "(D)V"⟩ : MethodName) prog_12_method_2_code 13 none :: ws) ({ frames := 1, cells := 0, slots := 0, locals := 19 } : Room)) (fun a U => a = #[(.ref a_o), (.double (own_D x))] ∧ Z.Warmed39 U.vm ∧ U.heap = h0) (fun _ _ _ _ _ => True) (fun _ U o U' => ∃ v L, o = .returned v ∧ Qown_add0 Z x a_o pa k_p w0 w1 w2 w3 h0 n0 v U'.heap L ∧ FrameEnd U o U' L ({ frames := 1, cells := 0, slots := 0, locals := 19 } : Room).cells ({ frames := 1, cells := 0, slots := 0, locals := 19 } : Room).slots) := by
  refine MetFree.of_bodySF (plainFor_of_name own_pn0) hisR ?_
  intro p e s m args below meth c s₁ Bd hml0 hP hK
  obtain ⟨rfl, hZ, hh⟩ := hP
  have hx := Bd.exec
  have hby := Bd.bytes
  have hml : c.maxLocals = 13 := hml0
  have hown : s.vm.findClass "com/example/merit/merit/ExactSum" = some m.cls := findClass_of_methodNamed Bd.named
  have hnm := (name_of_methodNamed Bd.named Bd.method).1
  have X0 : Stand p l e ({ frames := 1, cells := 0, slots := 0, locals := 19 } : Room) s m #[(.ref a_o), (.double (own_D x))] below meth c s₁ [] 0 0 := Stand.of_body Bd
  have e0 : s₁.heap = h0 := by rw [← hh, Bd.state]; rfl
  have N0 := Fr.nil n0
  have pre0 : ∀ t, Steps p.tables e below (s₁.setTop (mkF m 0 #[vR (a_o), vD ((own_D x)), s_, u_, u_, u_, u_, u_, u_, u_, u_, u_, u_] [])) t → Steps p.tables e below (s₁.setTop (entryFrame m #[(.ref a_o), (.double (own_D x))] 13)) t := fun t k => castTop (own_ef_own_add0 m a_o (own_D x)) k
  obtain ⟨T10, X10, e10, st10⟩ := getF X0 hx hZ hown (host := "") (Or.inl (hw _ (gm 17 rfl))) Via.refl e0 hfc (g := (mkF m 11 #[vR (a_o), vD ((own_D x)), s_, vD ((own_D x)), s_, vI (0), vI (0), u_, u_, u_, u_, u_, u_] [(.ref a_o), (.int 0)])) rfl rfl (hb hby d3_11)
  have pre16 : ∀ t, Steps p.tables e below (T10.setTop (mkF m 73 #[vR (a_o), vD ((own_D x)), s_, vD ((own_D x)), s_, vI (0), vI (0), u_, u_, u_, u_, u_, u_] [(.int (own_cmp x 0))])) t → Steps p.tables e below (s₁.setTop (entryFrame m #[(.ref a_o), (.double (own_D x))] 13)) t := by
    intro t kt
    refine pre0 _ ?_
    show SS p e below m s₁ 0 #[vR (a_o), vD ((own_D x)), s_, u_, u_, u_, u_, u_, u_, u_, u_, u_, u_] [] _
    refine XS.dloadN X0.here hx rfl (hb hby d3_0) rfl ?_
    refine XS.dstoreN X0.here hx rfl (hb hby d3_1) rfl (l' := #[vR (a_o), vD ((own_D x)), s_, vD ((own_D x)), s_, u_, u_, u_, u_, u_, u_, u_, u_]) rfl ?_
    refine XS.iconst X0.here hx rfl (hb hby d3_2) ?_ --lit 0
    show SS p e below m s₁ 3 #[vR (a_o), vD ((own_D x)), s_, vD ((own_D x)), s_, u_, u_, u_, u_, u_, u_, u_, u_] [(.int 0)] _
    refine XS.istore X0.here hx rfl (hb hby d3_3) rfl (l' := #[vR (a_o), vD ((own_D x)), s_, vD ((own_D x)), s_, vI (0), u_, u_, u_, u_, u_, u_, u_]) rfl ?_
    refine XS.iconst X0.here hx rfl (hb hby d3_5) ?_ --lit 0
    refine XS.istore X0.here hx rfl (hb hby d3_6) rfl (l' := #[vR (a_o), vD ((own_D x)), s_, vD ((own_D x)), s_, vI (0), vI (0), u_, u_, u_, u_, u_, u_]) rfl ?_
    show SS p e below m s₁ 8 #[vR (a_o), vD ((own_D x)), s_, vD ((own_D x)), s_, vI (0), vI (0), u_, u_, u_, u_, u_, u_] [] _
    refine XS.iload X0.here hx rfl (hb hby d3_8) rfl ?_
    refine XS.aloadN X0.here hx rfl (hb hby d3_10) rfl rfl ?_
    show SS p e below m s₁ 11 #[vR (a_o), vD ((own_D x)), s_, vD ((own_D x)), s_, vI (0), vI (0), u_, u_, u_, u_, u_, u_] [(.ref a_o), (.int 0)] _
    refine st10 _ ?_
    show SS p e below m T10 14 #[vR (a_o), vD ((own_D x)), s_, vD ((own_D x)), s_, vI (0), vI (0), u_, u_, u_, u_, u_, u_] [(.int 0), (.int 0)] _
    refine XS.icmpYes X10.here hx rfl (pc0 := 14) (pc' := 70) rfl (hb hby d3_14) rfl (flt ((by decide) : ¬ ((0 : Int32) < (0 : Int32)))).2.1 (by decide) (by decide) ?_
    refine XS.dloadN X10.here hx rfl (hb hby d3_70) rfl ?_
    refine XS.dconst0 X10.here hx rfl (hb hby d3_71) own_c0 ?_
    show SS p e below m T10 72 #[vR (a_o), vD ((own_D x)), s_, vD ((own_D x)), s_, vI (0), vI (0), u_, u_, u_, u_, u_, u_] [(.double (own_D 0)), (.double (own_D x))] _
    refine XS.dcmpS X10.here hx rfl (hb hby d3_72) rfl (own_DcmpV hrx own_rep0 (by omega) (by omega) (by omega) (by omega) _) ?_
    exact kt
  by_cases hc73_17 : x = 0
  · obtain ⟨T21, h21, X21, e21, W21, st21⟩ := putF X10 hx hZ hown (host := "") (Or.inl (hw _ (gm 17 rfl))) Via.refl e10 hfc hxa (Or.inl (hw _ (gm 18 rfl))) (hw _ (gm 1 rfl)) (ty := .int) (by decide) rfl rfl (g := (mkF m 115 #[vR (a_o), vD ((own_D x)), s_, vD ((own_D x)), s_, vI (0), vI (0), u_, u_, u_, u_, u_, u_] [(.int 0), (.ref a_o)])) rfl rfl (hb hby d3_115)
    have Kc22 : Keep h0 h21 [a_o, pa] := (Keep.refl h0 [a_o, pa]).wr W21 (Or.inl (ga 0 rfl))
    have Zs23 : n0 ≤ h21.size := Nat.le_trans Z0 (Keep.of_wr W21).1
    have N24 := Fr.snoc X21 N0 hg
    have Fw21 : Fld Z h21 a_o "com/example/merit/merit/ExactSum" "count" "I" (.int 0) := hfc.same W21
    obtain ⟨fs, hr, hrun, hended, hW, hsame⟩ := X21.leave (v := none) (fun _ => rfl) (hlocks := BodyLoose.notSynchronized Bd)
    refine ⟨_, _, pre16 _ ?_, hrun, hended, _, _, rfl, ?_, ⟨_, rfl⟩, hW, hsame.mono (by decide) (by decide)⟩
    · show SS p e below m T10 73 #[vR (a_o), vD ((own_D x)), s_, vD ((own_D x)), s_, vI (0), vI (0), u_, u_, u_, u_, u_, u_] [(.int (own_cmp x 0))] _
      refine XS.ifYes X10.here hx rfl (pc0 := 73) (pc' := 112) rfl (hb hby d3_73) rfl ((if0 _ _).trans (teq (own_cmEq.mpr hc73_17)).1) (by decide) (by decide) ?_
      refine XS.aloadN X10.here hx rfl (hb hby d3_112) rfl rfl ?_
      refine XS.iload X10.here hx rfl (hb hby d3_113) rfl ?_
      show SS p e below m T10 115 #[vR (a_o), vD ((own_D x)), s_, vD ((own_D x)), s_, vI (0), vI (0), u_, u_, u_, u_, u_, u_] [(.int 0), (.ref a_o)] _
      refine st21 _ ?_
      show SS p e below m T21 118 #[vR (a_o), vD ((own_D x)), s_, vD ((own_D x)), s_, vI (0), vI (0), u_, u_, u_, u_, u_, u_] [] _
      exact X21.returnOut hx Bd.returns (hb hby d3_118) hr
    · show Qown_add0 Z x a_o pa k_p w0 w1 w2 w3 h0 n0 _ T21.heap _
      rw [e21]
      have hv : (own_add0_f x) = [] := by unfold own_add0_f; rw [if_pos hc73_17]
      have Fq26 : Fld Z h21 a_o "com/example/merit/merit/ExactSum" "partials" "[D" (.ref pa) := (hfp.other W21 (Or.inr (slot_ne (Or.inl (hw _ (gm 11 rfl))) (Or.inl (hw _ (gm 18 rfl))) (by decide) (t := (.array .double)) (t' := .int) (by decide) (by decide))))
      have Fq27 : Arv Z h21 pa k_p .double (4 : Int32) [w0, w1, w2, w3] (.double FP.dconst0) := (hA.other W21 (Ne.symm hne))
      exact ⟨[w0, w1, w2, w3], rfl, N24, Kc22, Fq26, Fq27, (by rw [hv]; exact Fw21), (by rw [hv]; exact ⟨rfl, rfl⟩)⟩
  · obtain ⟨T31, X31, e31, st31⟩ := getF X10 hx hZ hown (host := "") (Or.inl (hw _ (gm 10 rfl))) Via.refl e10 hfp (g := (mkF m 79 #[vR (a_o), vD ((own_D x)), s_, vD ((own_D x)), s_, vI (0), vI (0), u_, u_, u_, u_, u_, u_] [(.ref a_o), (.int 0)])) rfl rfl (hb hby d3_79)
    obtain ⟨cl33, Ar33, -, S33, M33, -, -⟩ := id hA
    obtain ⟨T37, X37, e37, st37⟩ := getF X31 hx hZ hown (host := "") (Or.inl (hw _ (gm 10 rfl))) Via.refl e31 hfp (g := (mkF m 102 #[vR (a_o), vD ((own_D x)), s_, vD ((own_D x)), s_, vI (0), vI (0), u_, u_, u_, u_, u_, u_] [(.ref a_o)])) rfl rfl (hb hby d3_102)
    obtain ⟨cl42, Ar42, q42, S42, M42, H42, G42⟩ := id hA
    have hin42 : ¬ ((0 : Int32) < 0 ∨ cl42.slots.size ≤ ((0 : Int32)).toNatClampNeg) := inb_of S42 ⟨by decide, by decide⟩
    obtain ⟨T43, h43, X43, e43, W43, st43⟩ := stD X37 hx hZ e37 Ar42 (j := (0 : Int32)) hin42 (g := (mkF m 111 #[vR (a_o), vD ((own_D x)), s_, vD ((own_D x)), s_, vI (1), vI (0), u_, u_, u_, u_, u_, u_] [(.double (own_D x)), (.int 0), (.ref pa)])) rfl rfl (hb hby d3_111)
    have Kc45 : Keep h0 h43 [a_o, pa] := (Keep.refl h0 [a_o, pa]).wr W43 (Or.inl (ga 1 rfl))
    have Zs46 : n0 ≤ h43.size := Nat.le_trans Z0 (Keep.of_wr W43).1
    have N47 := Fr.snoc X43 N0 hgp
    have Vm44 : Arv Z h43 pa k_p .double (4 : Int32) [(.double (own_D x)), w1, w2, w3] (.double FP.dconst0) := Arv.set Ar42 q42 S42 M42 H42 G42 rfl W43 0 rfl (Nat.le_of_ble_eq_true rfl)
    have Fq51 : Exa Z h43 a_o "com/example/merit/merit/ExactSum" := (hxa.wr W43)
    have Fq52 : Fld Z h43 a_o "com/example/merit/merit/ExactSum" "count" "I" (.int 0) := (hfc.other W43 (Or.inl hne))
    obtain ⟨T53, h53, X53, e53, W53, st53⟩ := putF X43 hx hZ hown (host := "") (Or.inl (hw _ (gm 17 rfl))) Via.refl e43 Fq52 Fq51 (Or.inl (hw _ (gm 18 rfl))) (hw _ (gm 1 rfl)) (ty := .int) (by decide) rfl rfl (g := (mkF m 115 #[vR (a_o), vD ((own_D x)), s_, vD ((own_D x)), s_, vI (1), vI (0), u_, u_, u_, u_, u_, u_] [(.int 1), (.ref a_o)])) rfl rfl (hb hby d3_115)
    have Kc54 : Keep h0 h53 [a_o, pa] := Kc45.wr W53 (Or.inl (ga 0 rfl))
    have Zs55 : n0 ≤ h53.size := Nat.le_trans Zs46 (Keep.of_wr W53).1
    have N56 := Fr.snoc X53 N47 hg
    have Fw53 : Fld Z h53 a_o "com/example/merit/merit/ExactSum" "count" "I" (.int 1) := Fq52.same W53
    obtain ⟨fs, hr, hrun, hended, hW, hsame⟩ := X53.leave (v := none) (fun _ => rfl) (hlocks := BodyLoose.notSynchronized Bd)
    refine ⟨_, _, pre16 _ ?_, hrun, hended, _, _, rfl, ?_, ⟨_, rfl⟩, hW, hsame.mono (by decide) (by decide)⟩
    · show SS p e below m T10 73 #[vR (a_o), vD ((own_D x)), s_, vD ((own_D x)), s_, vI (0), vI (0), u_, u_, u_, u_, u_, u_] [(.int (own_cmp x 0))] _
      refine XS.ifNo X10.here hx rfl (hb hby d3_73) rfl ((if0 _ _).trans (feq (fun q => hc73_17 (own_cmEq.mp q))).1) ?_
      refine XS.iload X10.here hx rfl (hb hby d3_76) rfl ?_
      refine XS.aloadN X10.here hx rfl (hb hby d3_78) rfl rfl ?_
      show SS p e below m T10 79 #[vR (a_o), vD ((own_D x)), s_, vD ((own_D x)), s_, vI (0), vI (0), u_, u_, u_, u_, u_, u_] [(.ref a_o), (.int 0)] _
      refine st31 _ ?_
      show SS p e below m T31 82 #[vR (a_o), vD ((own_D x)), s_, vD ((own_D x)), s_, vI (0), vI (0), u_, u_, u_, u_, u_, u_] [(.ref pa), (.int 0)] _
      refine X31.arraylength hx (by rw [e31]; exact Ar33.1) (State.isArrayOf_alike hZ.alike Ar33.2.1) (g := (mkF m 82 #[vR (a_o), vD ((own_D x)), s_, vD ((own_D x)), s_, vI (0), vI (0), u_, u_, u_, u_, u_, u_] [(.ref pa), (.int 0)])) rfl rfl (hb hby d3_82) _ ?_
      rw [len_of S33 M33]
      show SS p e below m T31 83 #[vR (a_o), vD ((own_D x)), s_, vD ((own_D x)), s_, vI (0), vI (0), u_, u_, u_, u_, u_, u_] [(.int 4), (.int 0)] _
      refine XS.icmpYes X31.here hx rfl (pc0 := 83) (pc' := 101) rfl (hb hby d3_83) rfl (feq ((by decide) : ¬ ((0 : Int32) = (4 : Int32)))).2 (by decide) (by decide) ?_
      refine XS.aloadN X31.here hx rfl (hb hby d3_101) rfl rfl ?_
      show SS p e below m T31 102 #[vR (a_o), vD ((own_D x)), s_, vD ((own_D x)), s_, vI (0), vI (0), u_, u_, u_, u_, u_, u_] [(.ref a_o)] _
      refine st37 _ ?_
      show SS p e below m T37 105 #[vR (a_o), vD ((own_D x)), s_, vD ((own_D x)), s_, vI (0), vI (0), u_, u_, u_, u_, u_, u_] [(.ref pa)] _
      refine XS.iload X37.here hx rfl (hb hby d3_105) rfl ?_
      refine XS.iinc X37.here hx rfl (hb hby d3_107) rfl (l' := #[vR (a_o), vD ((own_D x)), s_, vD ((own_D x)), s_, vI (1), vI (0), u_, u_, u_, u_, u_, u_]) rfl ?_
      refine XS.dloadN X37.here hx rfl (hb hby d3_110) rfl ?_
      show SS p e below m T37 111 #[vR (a_o), vD ((own_D x)), s_, vD ((own_D x)), s_, vI (1), vI (0), u_, u_, u_, u_, u_, u_] [(.double (own_D x)), (.int 0), (.ref pa)] _
      refine st43 _ ?_
      show SS p e below m T43 112 #[vR (a_o), vD ((own_D x)), s_, vD ((own_D x)), s_, vI (1), vI (0), u_, u_, u_, u_, u_, u_] [] _
      refine XS.aloadN X43.here hx rfl (hb hby d3_112) rfl rfl ?_
      refine XS.iload X43.here hx rfl (hb hby d3_113) rfl ?_
      show SS p e below m T43 115 #[vR (a_o), vD ((own_D x)), s_, vD ((own_D x)), s_, vI (1), vI (0), u_, u_, u_, u_, u_, u_] [(.int 1), (.ref a_o)] _
      refine st53 _ ?_
      show SS p e below m T53 118 #[vR (a_o), vD ((own_D x)), s_, vD ((own_D x)), s_, vI (1), vI (0), u_, u_, u_, u_, u_, u_] [] _
      exact X53.returnOut hx Bd.returns (hb hby d3_118) hr
    · show Qown_add0 Z x a_o pa k_p w0 w1 w2 w3 h0 n0 _ T53.heap _
      rw [e53]
      have hv : (own_add0_f x) = [x] := by unfold own_add0_f; rw [if_neg hc73_17]
      have Fq58 : Fld Z h53 a_o "com/example/merit/merit/ExactSum" "partials" "[D" (.ref pa) := ((hfp.other W43 (Or.inl hne)).other W53 (Or.inr (slot_ne (Or.inl (hw _ (gm 11 rfl))) (Or.inl (hw _ (gm 18 rfl))) (by decide) (t := (.array .double)) (t' := .int) (by decide) (by decide))))
      have Fq59 : Arv Z h53 pa k_p .double (4 : Int32) [(.double (own_D x)), w1, w2, w3] (.double FP.dconst0) := (Vm44.other W53 (Ne.symm hne))
      exact ⟨[(.double (own_D x)), w1, w2, w3], rfl, N56, Kc54, Fq58, Fq59, (by rw [hv]; exact Fw53), (by rw [hv]; exact ⟨rfl, rfl⟩)⟩
theorem own_ef_own_add1 (m : MethodId) (a_o : Addr) (ud0 : UInt64) : entryFrame m #[(.ref a_o), (.double ud0)] 13 = mkF m 0 #[.val (.ref a_o), .val (.double ud0), .second, .unset, .unset, .unset, .unset, .unset, .unset, .unset, .unset, .unset, .unset] [] := by first | (simp [entryFrame, mkF, argsToLocals, Value.category]; done) | rfl
def own_add1_f (x : Int) (p0 : Int) : List Int := (if (x + p0 - (own_rn (x + p0))) = 0 then (if (own_rn (x + p0)) = 0 then [] else [(own_rn (x + p0))]) else (if (own_rn (x + p0)) = 0 then [(x + p0 - (own_rn (x + p0)))] else [(x + p0 - (own_rn (x + p0))), (own_rn (x + p0))]))
def Qown_add1 (Z : State) (x : Int) (a_o : Addr) (pa : Addr) (k_p : ClassId) (p0 : Int) (w1 : Value) (w2 : Value) (w3 : Value) (h0 : Heap) (n0 : Nat) (v : Option Value) (h : Heap) (L : List Loc) : Prop := ∃ vs_r : List Value, v = none ∧ Fr n0 L ∧ Keep h0 h [a_o, pa] ∧ Fld Z h a_o "com/example/merit/merit/ExactSum" "partials" "[D" (.ref pa) ∧ Arv Z h pa k_p .double (4 : Int32) vs_r (.double FP.dconst0) ∧ Fld Z h a_o "com/example/merit/merit/ExactSum" "count" "I" (.int (Int32.ofNat (own_add1_f x p0).length)) ∧ own_pt vs_r (own_add1_f x p0)
set_option maxRecDepth 65536 in
set_option maxHeartbeats 40000000 in
theorem own_add1 (l : Launch) (Z : State) (a0 : Array Value) (hw : ∀ d ∈ tables_1, d.before a0 Z = true) (ws : List Jvm.Cond) (x : Int) (a_o : Addr) (pa : Addr) (k_p : ClassId) (p0 : Int) (w1 : Value) (w2 : Value) (w3 : Value) (h0 : Heap) (n0 : Nat) (Z0 : n0 ≤ h0.size) (hxa : Exa Z h0 a_o "com/example/merit/merit/ExactSum") (hfp : Fld Z h0 a_o "com/example/merit/merit/ExactSum" "partials" "[D" (.ref pa)) (hfc : Fld Z h0 a_o "com/example/merit/merit/ExactSum" "count" "I" (.int 1)) (hA : Arv Z h0 pa k_p .double (4 : Int32) [(.double (own_D p0)), w1, w2, w3] (.double FP.dconst0)) (hr0 : own_Rep p0) (hg : n0 ≤ a_o) (hgp : n0 ≤ pa) (hne : a_o ≠ pa) (hrx : own_Rep x) (hbd : x.natAbs + p0.natAbs ≤ 4611686018427400000) :
    MetFree l (⟨"com/example/merit/merit/ExactSum", "add", "(D)V"⟩ : MethodName) (head1 (Jvm.Cond.code (⟨"com/example/merit/merit/ExactSum", "add", "(D)V"⟩ : MethodName) prog_12_method_2_code 13 none :: ws) ({ frames := 1, cells := 0, slots := 0, locals := 19 } : Room)) (fun a U => a = #[(.ref a_o), (.double (own_D x))] ∧ Z.Warmed39 U.vm ∧ U.heap = h0) (fun _ _ _ _ _ => True) (fun _ U o U' => ∃ v L, o = .returned v ∧ Qown_add1 Z x a_o pa k_p p0 w1 w2 w3 h0 n0 v U'.heap L ∧ FrameEnd U o U' L ({ frames := 1, cells := 0, slots := 0, locals := 19 } : Room).cells ({ frames := 1, cells := 0, slots := 0, locals := 19 } : Room).slots) := by
  refine MetFree.of_bodySF (plainFor_of_name own_pn0) hisR ?_
  intro p e s m args below meth c s₁ Bd hml0 hP hK
  obtain ⟨rfl, hZ, hh⟩ := hP
  have hx := Bd.exec
  have hby := Bd.bytes
  have hml : c.maxLocals = 13 := hml0
  have hown : s.vm.findClass "com/example/merit/merit/ExactSum" = some m.cls := findClass_of_methodNamed Bd.named
  have hnm := (name_of_methodNamed Bd.named Bd.method).1
  have X0 : Stand p l e ({ frames := 1, cells := 0, slots := 0, locals := 19 } : Room) s m #[(.ref a_o), (.double (own_D x))] below meth c s₁ [] 0 0 := Stand.of_body Bd
  have e0 : s₁.heap = h0 := by rw [← hh, Bd.state]; rfl
  have N0 := Fr.nil n0
  have pre0 : ∀ t, Steps p.tables e below (s₁.setTop (mkF m 0 #[vR (a_o), vD ((own_D x)), s_, u_, u_, u_, u_, u_, u_, u_, u_, u_, u_] [])) t → Steps p.tables e below (s₁.setTop (entryFrame m #[(.ref a_o), (.double (own_D x))] 13)) t := fun t k => castTop (own_ef_own_add1 m a_o (own_D x)) k
  obtain ⟨T10, X10, e10, st10⟩ := getF X0 hx hZ hown (host := "") (Or.inl (hw _ (gm 17 rfl))) Via.refl e0 hfc (g := (mkF m 11 #[vR (a_o), vD ((own_D x)), s_, vD ((own_D x)), s_, vI (0), vI (0), u_, u_, u_, u_, u_, u_] [(.ref a_o), (.int 0)])) rfl rfl (hb hby d3_11)
  obtain ⟨T14, X14, e14, st14⟩ := getF X10 hx hZ hown (host := "") (Or.inl (hw _ (gm 10 rfl))) Via.refl e10 hfp (g := (mkF m 18 #[vR (a_o), vD ((own_D x)), s_, vD ((own_D x)), s_, vI (0), vI (0), u_, u_, u_, u_, u_, u_] [(.ref a_o)])) rfl rfl (hb hby d3_18)
  obtain ⟨cl17, Ar17, q17, S17, M17, H17, G17⟩ := id hA
  have hin17 : ¬ ((0 : Int32) < 0 ∨ cl17.slots.size ≤ ((0 : Int32)).toNatClampNeg) := inb_of S17 ⟨by decide, by decide⟩
  have hat17 : cl17.slots[((0 : Int32)).toNatClampNeg]? = some (.double (own_D p0)) := H17.at hin17 rfl
  have hq22 : FP.dadd (own_D x) (own_D p0) = own_D (own_rn (x + p0)) := own_Dadd hrx hr0 (by omega) (by omega) (by omega) (by omega) (by omega) (by omega)
  have hq22E := own_errSm (n := x + p0) (by omega) (by omega)
  obtain ⟨_, _, ⟨T28, L28, k28, n28⟩, -, X28, ⟨Lc28, hQ28, l28, y28, z28⟩, st28⟩ := Jvm.LawKit.callS X14 hx (y := (⟨"com/example/merit/merit/ExactSum", "roundingError", "(DDD)D"⟩ : MethodName)) hown (mvT hZ (hw _ (gm 24 rfl))) (mvT hZ (hw _ (gm 25 rfl))) (mvT hZ (hw _ (gm 2 rfl))) (mvT hZ (hw _ (gm 26 rfl))) (by decide) (backOf (W := 0) (own_re l Z a0 hw [] x p0 (own_rn (x + p0)) h0 n0 Z0 hrx hr0 rfl (by omega)) hZ (hw _ (gm 26 rfl)) (hw _ (gm 2 rfl)) (by decide) (by decide)) (g := (mkF m 37 #[vR (a_o), vD ((own_D x)), s_, vD ((own_D x)), s_, vI (0), vI (0), vD ((own_D p0)), s_, vD ((own_D (own_rn (x + p0)))), s_, u_, u_] [(.double (own_D (own_rn (x + p0)))), (.double (own_D p0)), (.double (own_D x))])) rfl (by rw [hml]; rfl) (argsL := [(.double (own_D x)), (.double (own_D p0)), (.double (own_D (own_rn (x + p0))))]) (rest := []) (lenOf own_pd0 rfl) rfl (by show 2 * 0 + _ ≤ _; exact Nat.le_of_eq rfl) (hb hby d3_37) (fun _ _ => ⟨rfl, e14, (by decide : 0 + 0 ≤ _), (by decide : 0 + 0 ≤ _)⟩)
  dsimp only [Pt.U, Pt.locs, Pt.cells, Pt.slots] at X28 l28 y28 z28 st28 hQ28
  rw [l28, y28, z28] at X28
  obtain ⟨rfl, Nq28, eh28⟩ := hQ28
  have N29 := Fr.app N0 Nq28
  have hRe30 : own_Rep (x + p0 - (own_rn (x + p0))) := own_repSm (by omega) (by omega)
  have pre36 : ∀ t, Steps p.tables e below (T28.setTop (mkF m 46 #[vR (a_o), vD ((own_D x)), s_, vD ((own_D x)), s_, vI (0), vI (0), vD ((own_D p0)), s_, vD ((own_D (own_rn (x + p0)))), s_, vD ((own_D (x + p0 - (own_rn (x + p0))))), s_] [(.int (own_cmp (x + p0 - (own_rn (x + p0))) 0))])) t → Steps p.tables e below (s₁.setTop (entryFrame m #[(.ref a_o), (.double (own_D x))] 13)) t := by
    intro t kt
    refine pre0 _ ?_
    show SS p e below m s₁ 0 #[vR (a_o), vD ((own_D x)), s_, u_, u_, u_, u_, u_, u_, u_, u_, u_, u_] [] _
    refine XS.dloadN X0.here hx rfl (hb hby d3_0) rfl ?_
    refine XS.dstoreN X0.here hx rfl (hb hby d3_1) rfl (l' := #[vR (a_o), vD ((own_D x)), s_, vD ((own_D x)), s_, u_, u_, u_, u_, u_, u_, u_, u_]) rfl ?_
    refine XS.iconst X0.here hx rfl (hb hby d3_2) ?_ --lit 0
    show SS p e below m s₁ 3 #[vR (a_o), vD ((own_D x)), s_, vD ((own_D x)), s_, u_, u_, u_, u_, u_, u_, u_, u_] [(.int 0)] _
    refine XS.istore X0.here hx rfl (hb hby d3_3) rfl (l' := #[vR (a_o), vD ((own_D x)), s_, vD ((own_D x)), s_, vI (0), u_, u_, u_, u_, u_, u_, u_]) rfl ?_
    refine XS.iconst X0.here hx rfl (hb hby d3_5) ?_ --lit 0
    refine XS.istore X0.here hx rfl (hb hby d3_6) rfl (l' := #[vR (a_o), vD ((own_D x)), s_, vD ((own_D x)), s_, vI (0), vI (0), u_, u_, u_, u_, u_, u_]) rfl ?_
    show SS p e below m s₁ 8 #[vR (a_o), vD ((own_D x)), s_, vD ((own_D x)), s_, vI (0), vI (0), u_, u_, u_, u_, u_, u_] [] _
    refine XS.iload X0.here hx rfl (hb hby d3_8) rfl ?_
    refine XS.aloadN X0.here hx rfl (hb hby d3_10) rfl rfl ?_
    show SS p e below m s₁ 11 #[vR (a_o), vD ((own_D x)), s_, vD ((own_D x)), s_, vI (0), vI (0), u_, u_, u_, u_, u_, u_] [(.ref a_o), (.int 0)] _
    refine st10 _ ?_
    show SS p e below m T10 14 #[vR (a_o), vD ((own_D x)), s_, vD ((own_D x)), s_, vI (0), vI (0), u_, u_, u_, u_, u_, u_] [(.int 1), (.int 0)] _
    refine XS.icmpNo X10.here hx rfl (hb hby d3_14) rfl (tlt ((by decide) : (0 : Int32) < (1 : Int32))).2.1 ?_
    refine XS.aloadN X10.here hx rfl (hb hby d3_17) rfl rfl ?_
    show SS p e below m T10 18 #[vR (a_o), vD ((own_D x)), s_, vD ((own_D x)), s_, vI (0), vI (0), u_, u_, u_, u_, u_, u_] [(.ref a_o)] _
    refine st14 _ ?_
    show SS p e below m T14 21 #[vR (a_o), vD ((own_D x)), s_, vD ((own_D x)), s_, vI (0), vI (0), u_, u_, u_, u_, u_, u_] [(.ref pa)] _
    refine XS.iload X14.here hx rfl (hb hby d3_21) rfl ?_
    show SS p e below m T14 23 #[vR (a_o), vD ((own_D x)), s_, vD ((own_D x)), s_, vI (0), vI (0), u_, u_, u_, u_, u_, u_] [(.int 0), (.ref pa)] _
    refine X14.daload hx (j := (0 : Int32)) (v := (.double (own_D p0))) (by rw [e14]; exact Ar17.1) (State.isArrayOf_alike hZ.alike Ar17.2.1) Ar17.2.2 hin17 hat17 (g := (mkF m 23 #[vR (a_o), vD ((own_D x)), s_, vD ((own_D x)), s_, vI (0), vI (0), u_, u_, u_, u_, u_, u_] [(.int 0), (.ref pa)])) rfl rfl (hb hby d3_23) _ ?_
    show SS p e below m T14 24 #[vR (a_o), vD ((own_D x)), s_, vD ((own_D x)), s_, vI (0), vI (0), u_, u_, u_, u_, u_, u_] [(.double (own_D p0))] _
    refine XS.dstore X14.here hx rfl (hb hby d3_24) rfl (l' := #[vR (a_o), vD ((own_D x)), s_, vD ((own_D x)), s_, vI (0), vI (0), vD ((own_D p0)), s_, u_, u_, u_, u_]) rfl ?_
    refine XS.dloadN X14.here hx rfl (hb hby d3_26) rfl ?_
    refine XS.dload X14.here hx rfl (hb hby d3_27) rfl ?_
    show SS p e below m T14 29 #[vR (a_o), vD ((own_D x)), s_, vD ((own_D x)), s_, vI (0), vI (0), vD ((own_D p0)), s_, u_, u_, u_, u_] [(.double (own_D p0)), (.double (own_D x))] _
    refine XS.daddS X14.here hx rfl (hb hby d3_29) rfl (nn_w (a := Int64.ofInt (own_rn (x + p0))) hq22) hq22 ?_
    show SS p e below m T14 30 #[vR (a_o), vD ((own_D x)), s_, vD ((own_D x)), s_, vI (0), vI (0), vD ((own_D p0)), s_, u_, u_, u_, u_] [(.double (own_D (own_rn (x + p0))))] _
    refine XS.dstore X14.here hx rfl (hb hby d3_30) rfl (l' := #[vR (a_o), vD ((own_D x)), s_, vD ((own_D x)), s_, vI (0), vI (0), vD ((own_D p0)), s_, vD ((own_D (own_rn (x + p0)))), s_, u_, u_]) rfl ?_
    refine XS.dloadN X14.here hx rfl (hb hby d3_32) rfl ?_
    refine XS.dload X14.here hx rfl (hb hby d3_33) rfl ?_
    show SS p e below m T14 35 #[vR (a_o), vD ((own_D x)), s_, vD ((own_D x)), s_, vI (0), vI (0), vD ((own_D p0)), s_, vD ((own_D (own_rn (x + p0)))), s_, u_, u_] [(.double (own_D p0)), (.double (own_D x))] _
    refine XS.dload X14.here hx rfl (hb hby d3_35) rfl ?_
    show SS p e below m T14 37 #[vR (a_o), vD ((own_D x)), s_, vD ((own_D x)), s_, vI (0), vI (0), vD ((own_D p0)), s_, vD ((own_D (own_rn (x + p0)))), s_, u_, u_] [(.double (own_D (own_rn (x + p0)))), (.double (own_D p0)), (.double (own_D x))] _
    refine st28 _ ?_
    show SS p e below m T28 40 #[vR (a_o), vD ((own_D x)), s_, vD ((own_D x)), s_, vI (0), vI (0), vD ((own_D p0)), s_, vD ((own_D (own_rn (x + p0)))), s_, u_, u_] [(.double (own_D (x + p0 - (own_rn (x + p0)))))] _
    refine XS.dstore X28.here hx rfl (hb hby d3_40) rfl (l' := #[vR (a_o), vD ((own_D x)), s_, vD ((own_D x)), s_, vI (0), vI (0), vD ((own_D p0)), s_, vD ((own_D (own_rn (x + p0)))), s_, vD ((own_D (x + p0 - (own_rn (x + p0))))), s_]) rfl ?_
    refine XS.dload X28.here hx rfl (hb hby d3_42) rfl ?_
    refine XS.dconst0 X28.here hx rfl (hb hby d3_44) own_c0 ?_
    show SS p e below m T28 45 #[vR (a_o), vD ((own_D x)), s_, vD ((own_D x)), s_, vI (0), vI (0), vD ((own_D p0)), s_, vD ((own_D (own_rn (x + p0)))), s_, vD ((own_D (x + p0 - (own_rn (x + p0))))), s_] [(.double (own_D 0)), (.double (own_D (x + p0 - (own_rn (x + p0)))))] _
    refine XS.dcmpS X28.here hx rfl (hb hby d3_45) rfl (own_DcmpV hRe30 own_rep0 (by omega) (by omega) (by omega) (by omega) _) ?_
    exact kt
  by_cases hc46_37 : (x + p0 - (own_rn (x + p0))) = 0
  · obtain ⟨T45, X45, e45, st45⟩ := getF X28 hx hZ hown (host := "") (Or.inl (hw _ (gm 17 rfl))) Via.refl eh28 hfc (g := (mkF m 11 #[vR (a_o), vD ((own_D x)), s_, vD ((own_D (own_rn (x + p0)))), s_, vI (0), vI (1), vD ((own_D p0)), s_, vD ((own_D (own_rn (x + p0)))), s_, vD ((own_D (x + p0 - (own_rn (x + p0))))), s_] [(.ref a_o), (.int 1)])) rfl rfl (hb hby d3_11)
    have pre51 : ∀ t, Steps p.tables e below (T45.setTop (mkF m 73 #[vR (a_o), vD ((own_D x)), s_, vD ((own_D (own_rn (x + p0)))), s_, vI (0), vI (1), vD ((own_D p0)), s_, vD ((own_D (own_rn (x + p0)))), s_, vD ((own_D (x + p0 - (own_rn (x + p0))))), s_] [(.int (own_cmp (own_rn (x + p0)) 0))])) t → Steps p.tables e below (s₁.setTop (entryFrame m #[(.ref a_o), (.double (own_D x))] 13)) t := by
      intro t kt
      refine pre36 _ ?_
      show SS p e below m T28 46 #[vR (a_o), vD ((own_D x)), s_, vD ((own_D x)), s_, vI (0), vI (0), vD ((own_D p0)), s_, vD ((own_D (own_rn (x + p0)))), s_, vD ((own_D (x + p0 - (own_rn (x + p0))))), s_] [(.int (own_cmp (x + p0 - (own_rn (x + p0))) 0))] _
      refine XS.ifYes X28.here hx rfl (pc0 := 46) (pc' := 61) rfl (hb hby d3_46) rfl ((if0 _ _).trans (teq (own_cmEq.mpr hc46_37)).1) (by decide) (by decide) ?_
      refine XS.dload X28.here hx rfl (hb hby d3_61) rfl ?_
      refine XS.dstoreN X28.here hx rfl (hb hby d3_63) rfl (l' := #[vR (a_o), vD ((own_D x)), s_, vD ((own_D (own_rn (x + p0)))), s_, vI (0), vI (0), vD ((own_D p0)), s_, vD ((own_D (own_rn (x + p0)))), s_, vD ((own_D (x + p0 - (own_rn (x + p0))))), s_]) rfl ?_
      show SS p e below m T28 64 #[vR (a_o), vD ((own_D x)), s_, vD ((own_D (own_rn (x + p0)))), s_, vI (0), vI (0), vD ((own_D p0)), s_, vD ((own_D (own_rn (x + p0)))), s_, vD ((own_D (x + p0 - (own_rn (x + p0))))), s_] [] _
      refine XS.iinc X28.here hx rfl (hb hby d3_64) rfl (l' := #[vR (a_o), vD ((own_D x)), s_, vD ((own_D (own_rn (x + p0)))), s_, vI (0), vI (1), vD ((own_D p0)), s_, vD ((own_D (own_rn (x + p0)))), s_, vD ((own_D (x + p0 - (own_rn (x + p0))))), s_]) rfl ?_
      refine XS.goto X28.here hx rfl (pc0 := 67) (pc' := 8) rfl (hb hby d3_67) (by decide) (by decide) ?_
      refine XS.iload X28.here hx rfl (hb hby d3_8) rfl ?_
      show SS p e below m T28 10 #[vR (a_o), vD ((own_D x)), s_, vD ((own_D (own_rn (x + p0)))), s_, vI (0), vI (1), vD ((own_D p0)), s_, vD ((own_D (own_rn (x + p0)))), s_, vD ((own_D (x + p0 - (own_rn (x + p0))))), s_] [(.int 1)] _
      refine XS.aloadN X28.here hx rfl (hb hby d3_10) rfl rfl ?_
      show SS p e below m T28 11 #[vR (a_o), vD ((own_D x)), s_, vD ((own_D (own_rn (x + p0)))), s_, vI (0), vI (1), vD ((own_D p0)), s_, vD ((own_D (own_rn (x + p0)))), s_, vD ((own_D (x + p0 - (own_rn (x + p0))))), s_] [(.ref a_o), (.int 1)] _
      refine st45 _ ?_
      show SS p e below m T45 14 #[vR (a_o), vD ((own_D x)), s_, vD ((own_D (own_rn (x + p0)))), s_, vI (0), vI (1), vD ((own_D p0)), s_, vD ((own_D (own_rn (x + p0)))), s_, vD ((own_D (x + p0 - (own_rn (x + p0))))), s_] [(.int 1), (.int 1)] _
      refine XS.icmpYes X45.here hx rfl (pc0 := 14) (pc' := 70) rfl (hb hby d3_14) rfl (flt ((by decide) : ¬ ((1 : Int32) < (1 : Int32)))).2.1 (by decide) (by decide) ?_
      refine XS.dloadN X45.here hx rfl (hb hby d3_70) rfl ?_
      refine XS.dconst0 X45.here hx rfl (hb hby d3_71) own_c0 ?_
      show SS p e below m T45 72 #[vR (a_o), vD ((own_D x)), s_, vD ((own_D (own_rn (x + p0)))), s_, vI (0), vI (1), vD ((own_D p0)), s_, vD ((own_D (own_rn (x + p0)))), s_, vD ((own_D (x + p0 - (own_rn (x + p0))))), s_] [(.double (own_D 0)), (.double (own_D (own_rn (x + p0))))] _
      refine XS.dcmpS X45.here hx rfl (hb hby d3_72) rfl (own_DcmpV (own_rrn _) own_rep0 (by omega) (by omega) (by omega) (by omega) _) ?_
      exact kt
    by_cases hc73_52 : (own_rn (x + p0)) = 0
    · obtain ⟨T56, h56, X56, e56, W56, st56⟩ := putF X45 hx hZ hown (host := "") (Or.inl (hw _ (gm 17 rfl))) Via.refl e45 hfc hxa (Or.inl (hw _ (gm 18 rfl))) (hw _ (gm 1 rfl)) (ty := .int) (by decide) rfl rfl (g := (mkF m 115 #[vR (a_o), vD ((own_D x)), s_, vD ((own_D (own_rn (x + p0)))), s_, vI (0), vI (1), vD ((own_D p0)), s_, vD ((own_D (own_rn (x + p0)))), s_, vD ((own_D (x + p0 - (own_rn (x + p0))))), s_] [(.int 0), (.ref a_o)])) rfl rfl (hb hby d3_115)
      have Kc57 : Keep h0 h56 [a_o, pa] := (Keep.refl h0 [a_o, pa]).wr W56 (Or.inl (ga 0 rfl))
      have Zs58 : n0 ≤ h56.size := Nat.le_trans Z0 (Keep.of_wr W56).1
      have N59 := Fr.snoc X56 N29 hg
      have Fw56 : Fld Z h56 a_o "com/example/merit/merit/ExactSum" "count" "I" (.int 0) := hfc.same W56
      obtain ⟨fs, hr, hrun, hended, hW, hsame⟩ := X56.leave (v := none) (fun _ => rfl) (hlocks := BodyLoose.notSynchronized Bd)
      refine ⟨_, _, pre51 _ ?_, hrun, hended, _, _, rfl, ?_, ⟨_, rfl⟩, hW, hsame.mono (by decide) (by decide)⟩
      · show SS p e below m T45 73 #[vR (a_o), vD ((own_D x)), s_, vD ((own_D (own_rn (x + p0)))), s_, vI (0), vI (1), vD ((own_D p0)), s_, vD ((own_D (own_rn (x + p0)))), s_, vD ((own_D (x + p0 - (own_rn (x + p0))))), s_] [(.int (own_cmp (own_rn (x + p0)) 0))] _
        refine XS.ifYes X45.here hx rfl (pc0 := 73) (pc' := 112) rfl (hb hby d3_73) rfl ((if0 _ _).trans (teq (own_cmEq.mpr hc73_52)).1) (by decide) (by decide) ?_
        refine XS.aloadN X45.here hx rfl (hb hby d3_112) rfl rfl ?_
        refine XS.iload X45.here hx rfl (hb hby d3_113) rfl ?_
        show SS p e below m T45 115 #[vR (a_o), vD ((own_D x)), s_, vD ((own_D (own_rn (x + p0)))), s_, vI (0), vI (1), vD ((own_D p0)), s_, vD ((own_D (own_rn (x + p0)))), s_, vD ((own_D (x + p0 - (own_rn (x + p0))))), s_] [(.int 0), (.ref a_o)] _
        refine st56 _ ?_
        show SS p e below m T56 118 #[vR (a_o), vD ((own_D x)), s_, vD ((own_D (own_rn (x + p0)))), s_, vI (0), vI (1), vD ((own_D p0)), s_, vD ((own_D (own_rn (x + p0)))), s_, vD ((own_D (x + p0 - (own_rn (x + p0))))), s_] [] _
        exact X56.returnOut hx Bd.returns (hb hby d3_118) hr
      · show Qown_add1 Z x a_o pa k_p p0 w1 w2 w3 h0 n0 _ T56.heap _
        rw [e56]
        have hv : (own_add1_f x p0) = [] := by unfold own_add1_f; rw [if_pos hc46_37, if_pos hc73_52]
        have Fq61 : Fld Z h56 a_o "com/example/merit/merit/ExactSum" "partials" "[D" (.ref pa) := (hfp.other W56 (Or.inr (slot_ne (Or.inl (hw _ (gm 11 rfl))) (Or.inl (hw _ (gm 18 rfl))) (by decide) (t := (.array .double)) (t' := .int) (by decide) (by decide))))
        have Fq62 : Arv Z h56 pa k_p .double (4 : Int32) [(.double (own_D p0)), w1, w2, w3] (.double FP.dconst0) := (hA.other W56 (Ne.symm hne))
        exact ⟨[(.double (own_D p0)), w1, w2, w3], rfl, N59, Kc57, Fq61, Fq62, (by rw [hv]; exact Fw56), (by rw [hv]; exact ⟨rfl, rfl⟩)⟩
    · obtain ⟨T66, X66, e66, st66⟩ := getF X45 hx hZ hown (host := "") (Or.inl (hw _ (gm 10 rfl))) Via.refl e45 hfp (g := (mkF m 79 #[vR (a_o), vD ((own_D x)), s_, vD ((own_D (own_rn (x + p0)))), s_, vI (0), vI (1), vD ((own_D p0)), s_, vD ((own_D (own_rn (x + p0)))), s_, vD ((own_D (x + p0 - (own_rn (x + p0))))), s_] [(.ref a_o), (.int 0)])) rfl rfl (hb hby d3_79)
      obtain ⟨cl68, Ar68, -, S68, M68, -, -⟩ := id hA
      obtain ⟨T72, X72, e72, st72⟩ := getF X66 hx hZ hown (host := "") (Or.inl (hw _ (gm 10 rfl))) Via.refl e66 hfp (g := (mkF m 102 #[vR (a_o), vD ((own_D x)), s_, vD ((own_D (own_rn (x + p0)))), s_, vI (0), vI (1), vD ((own_D p0)), s_, vD ((own_D (own_rn (x + p0)))), s_, vD ((own_D (x + p0 - (own_rn (x + p0))))), s_] [(.ref a_o)])) rfl rfl (hb hby d3_102)
      obtain ⟨cl77, Ar77, q77, S77, M77, H77, G77⟩ := id hA
      have hin77 : ¬ ((0 : Int32) < 0 ∨ cl77.slots.size ≤ ((0 : Int32)).toNatClampNeg) := inb_of S77 ⟨by decide, by decide⟩
      obtain ⟨T78, h78, X78, e78, W78, st78⟩ := stD X72 hx hZ e72 Ar77 (j := (0 : Int32)) hin77 (g := (mkF m 111 #[vR (a_o), vD ((own_D x)), s_, vD ((own_D (own_rn (x + p0)))), s_, vI (1), vI (1), vD ((own_D p0)), s_, vD ((own_D (own_rn (x + p0)))), s_, vD ((own_D (x + p0 - (own_rn (x + p0))))), s_] [(.double (own_D (own_rn (x + p0)))), (.int 0), (.ref pa)])) rfl rfl (hb hby d3_111)
      have Kc80 : Keep h0 h78 [a_o, pa] := (Keep.refl h0 [a_o, pa]).wr W78 (Or.inl (ga 1 rfl))
      have Zs81 : n0 ≤ h78.size := Nat.le_trans Z0 (Keep.of_wr W78).1
      have N82 := Fr.snoc X78 N29 hgp
      have Vm79 : Arv Z h78 pa k_p .double (4 : Int32) [(.double (own_D (own_rn (x + p0)))), w1, w2, w3] (.double FP.dconst0) := Arv.set Ar77 q77 S77 M77 H77 G77 rfl W78 0 rfl (Nat.le_of_ble_eq_true rfl)
      have Fq86 : Exa Z h78 a_o "com/example/merit/merit/ExactSum" := (hxa.wr W78)
      have Fq87 : Fld Z h78 a_o "com/example/merit/merit/ExactSum" "count" "I" (.int 1) := (hfc.other W78 (Or.inl hne))
      obtain ⟨T88, h88, X88, e88, W88, st88⟩ := putF X78 hx hZ hown (host := "") (Or.inl (hw _ (gm 17 rfl))) Via.refl e78 Fq87 Fq86 (Or.inl (hw _ (gm 18 rfl))) (hw _ (gm 1 rfl)) (ty := .int) (by decide) rfl rfl (g := (mkF m 115 #[vR (a_o), vD ((own_D x)), s_, vD ((own_D (own_rn (x + p0)))), s_, vI (1), vI (1), vD ((own_D p0)), s_, vD ((own_D (own_rn (x + p0)))), s_, vD ((own_D (x + p0 - (own_rn (x + p0))))), s_] [(.int 1), (.ref a_o)])) rfl rfl (hb hby d3_115)
      have Kc89 : Keep h0 h88 [a_o, pa] := Kc80.wr W88 (Or.inl (ga 0 rfl))
      have Zs90 : n0 ≤ h88.size := Nat.le_trans Zs81 (Keep.of_wr W88).1
      have N91 := Fr.snoc X88 N82 hg
      have Fw88 : Fld Z h88 a_o "com/example/merit/merit/ExactSum" "count" "I" (.int 1) := Fq87.same W88
      obtain ⟨fs, hr, hrun, hended, hW, hsame⟩ := X88.leave (v := none) (fun _ => rfl) (hlocks := BodyLoose.notSynchronized Bd)
      refine ⟨_, _, pre51 _ ?_, hrun, hended, _, _, rfl, ?_, ⟨_, rfl⟩, hW, hsame.mono (by decide) (by decide)⟩
      · show SS p e below m T45 73 #[vR (a_o), vD ((own_D x)), s_, vD ((own_D (own_rn (x + p0)))), s_, vI (0), vI (1), vD ((own_D p0)), s_, vD ((own_D (own_rn (x + p0)))), s_, vD ((own_D (x + p0 - (own_rn (x + p0))))), s_] [(.int (own_cmp (own_rn (x + p0)) 0))] _
        refine XS.ifNo X45.here hx rfl (hb hby d3_73) rfl ((if0 _ _).trans (feq (fun q => hc73_52 (own_cmEq.mp q))).1) ?_
        refine XS.iload X45.here hx rfl (hb hby d3_76) rfl ?_
        refine XS.aloadN X45.here hx rfl (hb hby d3_78) rfl rfl ?_
        show SS p e below m T45 79 #[vR (a_o), vD ((own_D x)), s_, vD ((own_D (own_rn (x + p0)))), s_, vI (0), vI (1), vD ((own_D p0)), s_, vD ((own_D (own_rn (x + p0)))), s_, vD ((own_D (x + p0 - (own_rn (x + p0))))), s_] [(.ref a_o), (.int 0)] _
        refine st66 _ ?_
        show SS p e below m T66 82 #[vR (a_o), vD ((own_D x)), s_, vD ((own_D (own_rn (x + p0)))), s_, vI (0), vI (1), vD ((own_D p0)), s_, vD ((own_D (own_rn (x + p0)))), s_, vD ((own_D (x + p0 - (own_rn (x + p0))))), s_] [(.ref pa), (.int 0)] _
        refine X66.arraylength hx (by rw [e66]; exact Ar68.1) (State.isArrayOf_alike hZ.alike Ar68.2.1) (g := (mkF m 82 #[vR (a_o), vD ((own_D x)), s_, vD ((own_D (own_rn (x + p0)))), s_, vI (0), vI (1), vD ((own_D p0)), s_, vD ((own_D (own_rn (x + p0)))), s_, vD ((own_D (x + p0 - (own_rn (x + p0))))), s_] [(.ref pa), (.int 0)])) rfl rfl (hb hby d3_82) _ ?_
        rw [len_of S68 M68]
        show SS p e below m T66 83 #[vR (a_o), vD ((own_D x)), s_, vD ((own_D (own_rn (x + p0)))), s_, vI (0), vI (1), vD ((own_D p0)), s_, vD ((own_D (own_rn (x + p0)))), s_, vD ((own_D (x + p0 - (own_rn (x + p0))))), s_] [(.int 4), (.int 0)] _
        refine XS.icmpYes X66.here hx rfl (pc0 := 83) (pc' := 101) rfl (hb hby d3_83) rfl (feq ((by decide) : ¬ ((0 : Int32) = (4 : Int32)))).2 (by decide) (by decide) ?_
        refine XS.aloadN X66.here hx rfl (hb hby d3_101) rfl rfl ?_
        show SS p e below m T66 102 #[vR (a_o), vD ((own_D x)), s_, vD ((own_D (own_rn (x + p0)))), s_, vI (0), vI (1), vD ((own_D p0)), s_, vD ((own_D (own_rn (x + p0)))), s_, vD ((own_D (x + p0 - (own_rn (x + p0))))), s_] [(.ref a_o)] _
        refine st72 _ ?_
        show SS p e below m T72 105 #[vR (a_o), vD ((own_D x)), s_, vD ((own_D (own_rn (x + p0)))), s_, vI (0), vI (1), vD ((own_D p0)), s_, vD ((own_D (own_rn (x + p0)))), s_, vD ((own_D (x + p0 - (own_rn (x + p0))))), s_] [(.ref pa)] _
        refine XS.iload X72.here hx rfl (hb hby d3_105) rfl ?_
        refine XS.iinc X72.here hx rfl (hb hby d3_107) rfl (l' := #[vR (a_o), vD ((own_D x)), s_, vD ((own_D (own_rn (x + p0)))), s_, vI (1), vI (1), vD ((own_D p0)), s_, vD ((own_D (own_rn (x + p0)))), s_, vD ((own_D (x + p0 - (own_rn (x + p0))))), s_]) rfl ?_
        refine XS.dloadN X72.here hx rfl (hb hby d3_110) rfl ?_
        show SS p e below m T72 111 #[vR (a_o), vD ((own_D x)), s_, vD ((own_D (own_rn (x + p0)))), s_, vI (1), vI (1), vD ((own_D p0)), s_, vD ((own_D (own_rn (x + p0)))), s_, vD ((own_D (x + p0 - (own_rn (x + p0))))), s_] [(.double (own_D (own_rn (x + p0)))), (.int 0), (.ref pa)] _
        refine st78 _ ?_
        show SS p e below m T78 112 #[vR (a_o), vD ((own_D x)), s_, vD ((own_D (own_rn (x + p0)))), s_, vI (1), vI (1), vD ((own_D p0)), s_, vD ((own_D (own_rn (x + p0)))), s_, vD ((own_D (x + p0 - (own_rn (x + p0))))), s_] [] _
        refine XS.aloadN X78.here hx rfl (hb hby d3_112) rfl rfl ?_
        refine XS.iload X78.here hx rfl (hb hby d3_113) rfl ?_
        show SS p e below m T78 115 #[vR (a_o), vD ((own_D x)), s_, vD ((own_D (own_rn (x + p0)))), s_, vI (1), vI (1), vD ((own_D p0)), s_, vD ((own_D (own_rn (x + p0)))), s_, vD ((own_D (x + p0 - (own_rn (x + p0))))), s_] [(.int 1), (.ref a_o)] _
        refine st88 _ ?_
        show SS p e below m T88 118 #[vR (a_o), vD ((own_D x)), s_, vD ((own_D (own_rn (x + p0)))), s_, vI (1), vI (1), vD ((own_D p0)), s_, vD ((own_D (own_rn (x + p0)))), s_, vD ((own_D (x + p0 - (own_rn (x + p0))))), s_] [] _
        exact X88.returnOut hx Bd.returns (hb hby d3_118) hr
      · show Qown_add1 Z x a_o pa k_p p0 w1 w2 w3 h0 n0 _ T88.heap _
        rw [e88]
        have hv : (own_add1_f x p0) = [(own_rn (x + p0))] := by unfold own_add1_f; rw [if_pos hc46_37, if_neg hc73_52]
        have Fq93 : Fld Z h88 a_o "com/example/merit/merit/ExactSum" "partials" "[D" (.ref pa) := ((hfp.other W78 (Or.inl hne)).other W88 (Or.inr (slot_ne (Or.inl (hw _ (gm 11 rfl))) (Or.inl (hw _ (gm 18 rfl))) (by decide) (t := (.array .double)) (t' := .int) (by decide) (by decide))))
        have Fq94 : Arv Z h88 pa k_p .double (4 : Int32) [(.double (own_D (own_rn (x + p0)))), w1, w2, w3] (.double FP.dconst0) := (Vm79.other W88 (Ne.symm hne))
        exact ⟨[(.double (own_D (own_rn (x + p0)))), w1, w2, w3], rfl, N91, Kc89, Fq93, Fq94, (by rw [hv]; exact Fw88), (by rw [hv]; exact ⟨rfl, rfl⟩)⟩
  · obtain ⟨T97, X97, e97, st97⟩ := getF X28 hx hZ hown (host := "") (Or.inl (hw _ (gm 10 rfl))) Via.refl eh28 hfp (g := (mkF m 50 #[vR (a_o), vD ((own_D x)), s_, vD ((own_D x)), s_, vI (0), vI (0), vD ((own_D p0)), s_, vD ((own_D (own_rn (x + p0)))), s_, vD ((own_D (x + p0 - (own_rn (x + p0))))), s_] [(.ref a_o)])) rfl rfl (hb hby d3_50)
    obtain ⟨cl102, Ar102, q102, S102, M102, H102, G102⟩ := id hA
    have hin102 : ¬ ((0 : Int32) < 0 ∨ cl102.slots.size ≤ ((0 : Int32)).toNatClampNeg) := inb_of S102 ⟨by decide, by decide⟩
    obtain ⟨T103, h103, X103, e103, W103, st103⟩ := stD X97 hx hZ e97 Ar102 (j := (0 : Int32)) hin102 (g := (mkF m 60 #[vR (a_o), vD ((own_D x)), s_, vD ((own_D x)), s_, vI (1), vI (0), vD ((own_D p0)), s_, vD ((own_D (own_rn (x + p0)))), s_, vD ((own_D (x + p0 - (own_rn (x + p0))))), s_] [(.double (own_D (x + p0 - (own_rn (x + p0))))), (.int 0), (.ref pa)])) rfl rfl (hb hby d3_60)
    have Kc105 : Keep h0 h103 [a_o, pa] := (Keep.refl h0 [a_o, pa]).wr W103 (Or.inl (ga 1 rfl))
    have Zs106 : n0 ≤ h103.size := Nat.le_trans Z0 (Keep.of_wr W103).1
    have N107 := Fr.snoc X103 N29 hgp
    have Vm104 : Arv Z h103 pa k_p .double (4 : Int32) [(.double (own_D (x + p0 - (own_rn (x + p0))))), w1, w2, w3] (.double FP.dconst0) := Arv.set Ar102 q102 S102 M102 H102 G102 rfl W103 0 rfl (Nat.le_of_ble_eq_true rfl)
    have Fq115 : Fld Z h103 a_o "com/example/merit/merit/ExactSum" "count" "I" (.int 1) := (hfc.other W103 (Or.inl hne))
    obtain ⟨T116, X116, e116, st116⟩ := getF X103 hx hZ hown (host := "") (Or.inl (hw _ (gm 17 rfl))) Via.refl e103 Fq115 (g := (mkF m 11 #[vR (a_o), vD ((own_D x)), s_, vD ((own_D (own_rn (x + p0)))), s_, vI (1), vI (1), vD ((own_D p0)), s_, vD ((own_D (own_rn (x + p0)))), s_, vD ((own_D (x + p0 - (own_rn (x + p0))))), s_] [(.ref a_o), (.int 1)])) rfl rfl (hb hby d3_11)
    have pre122 : ∀ t, Steps p.tables e below (T116.setTop (mkF m 73 #[vR (a_o), vD ((own_D x)), s_, vD ((own_D (own_rn (x + p0)))), s_, vI (1), vI (1), vD ((own_D p0)), s_, vD ((own_D (own_rn (x + p0)))), s_, vD ((own_D (x + p0 - (own_rn (x + p0))))), s_] [(.int (own_cmp (own_rn (x + p0)) 0))])) t → Steps p.tables e below (s₁.setTop (entryFrame m #[(.ref a_o), (.double (own_D x))] 13)) t := by
      intro t kt
      refine pre36 _ ?_
      show SS p e below m T28 46 #[vR (a_o), vD ((own_D x)), s_, vD ((own_D x)), s_, vI (0), vI (0), vD ((own_D p0)), s_, vD ((own_D (own_rn (x + p0)))), s_, vD ((own_D (x + p0 - (own_rn (x + p0))))), s_] [(.int (own_cmp (x + p0 - (own_rn (x + p0))) 0))] _
      refine XS.ifNo X28.here hx rfl (hb hby d3_46) rfl ((if0 _ _).trans (feq (fun q => hc46_37 (own_cmEq.mp q))).1) ?_
      refine XS.aloadN X28.here hx rfl (hb hby d3_49) rfl rfl ?_
      show SS p e below m T28 50 #[vR (a_o), vD ((own_D x)), s_, vD ((own_D x)), s_, vI (0), vI (0), vD ((own_D p0)), s_, vD ((own_D (own_rn (x + p0)))), s_, vD ((own_D (x + p0 - (own_rn (x + p0))))), s_] [(.ref a_o)] _
      refine st97 _ ?_
      show SS p e below m T97 53 #[vR (a_o), vD ((own_D x)), s_, vD ((own_D x)), s_, vI (0), vI (0), vD ((own_D p0)), s_, vD ((own_D (own_rn (x + p0)))), s_, vD ((own_D (x + p0 - (own_rn (x + p0))))), s_] [(.ref pa)] _
      refine XS.iload X97.here hx rfl (hb hby d3_53) rfl ?_
      refine XS.iinc X97.here hx rfl (hb hby d3_55) rfl (l' := #[vR (a_o), vD ((own_D x)), s_, vD ((own_D x)), s_, vI (1), vI (0), vD ((own_D p0)), s_, vD ((own_D (own_rn (x + p0)))), s_, vD ((own_D (x + p0 - (own_rn (x + p0))))), s_]) rfl ?_
      refine XS.dload X97.here hx rfl (hb hby d3_58) rfl ?_
      show SS p e below m T97 60 #[vR (a_o), vD ((own_D x)), s_, vD ((own_D x)), s_, vI (1), vI (0), vD ((own_D p0)), s_, vD ((own_D (own_rn (x + p0)))), s_, vD ((own_D (x + p0 - (own_rn (x + p0))))), s_] [(.double (own_D (x + p0 - (own_rn (x + p0))))), (.int 0), (.ref pa)] _
      refine st103 _ ?_
      show SS p e below m T103 61 #[vR (a_o), vD ((own_D x)), s_, vD ((own_D x)), s_, vI (1), vI (0), vD ((own_D p0)), s_, vD ((own_D (own_rn (x + p0)))), s_, vD ((own_D (x + p0 - (own_rn (x + p0))))), s_] [] _
      refine XS.dload X103.here hx rfl (hb hby d3_61) rfl ?_
      refine XS.dstoreN X103.here hx rfl (hb hby d3_63) rfl (l' := #[vR (a_o), vD ((own_D x)), s_, vD ((own_D (own_rn (x + p0)))), s_, vI (1), vI (0), vD ((own_D p0)), s_, vD ((own_D (own_rn (x + p0)))), s_, vD ((own_D (x + p0 - (own_rn (x + p0))))), s_]) rfl ?_
      refine XS.iinc X103.here hx rfl (hb hby d3_64) rfl (l' := #[vR (a_o), vD ((own_D x)), s_, vD ((own_D (own_rn (x + p0)))), s_, vI (1), vI (1), vD ((own_D p0)), s_, vD ((own_D (own_rn (x + p0)))), s_, vD ((own_D (x + p0 - (own_rn (x + p0))))), s_]) rfl ?_
      show SS p e below m T103 67 #[vR (a_o), vD ((own_D x)), s_, vD ((own_D (own_rn (x + p0)))), s_, vI (1), vI (1), vD ((own_D p0)), s_, vD ((own_D (own_rn (x + p0)))), s_, vD ((own_D (x + p0 - (own_rn (x + p0))))), s_] [] _
      refine XS.goto X103.here hx rfl (pc0 := 67) (pc' := 8) rfl (hb hby d3_67) (by decide) (by decide) ?_
      refine XS.iload X103.here hx rfl (hb hby d3_8) rfl ?_
      refine XS.aloadN X103.here hx rfl (hb hby d3_10) rfl rfl ?_
      show SS p e below m T103 11 #[vR (a_o), vD ((own_D x)), s_, vD ((own_D (own_rn (x + p0)))), s_, vI (1), vI (1), vD ((own_D p0)), s_, vD ((own_D (own_rn (x + p0)))), s_, vD ((own_D (x + p0 - (own_rn (x + p0))))), s_] [(.ref a_o), (.int 1)] _
      refine st116 _ ?_
      show SS p e below m T116 14 #[vR (a_o), vD ((own_D x)), s_, vD ((own_D (own_rn (x + p0)))), s_, vI (1), vI (1), vD ((own_D p0)), s_, vD ((own_D (own_rn (x + p0)))), s_, vD ((own_D (x + p0 - (own_rn (x + p0))))), s_] [(.int 1), (.int 1)] _
      refine XS.icmpYes X116.here hx rfl (pc0 := 14) (pc' := 70) rfl (hb hby d3_14) rfl (flt ((by decide) : ¬ ((1 : Int32) < (1 : Int32)))).2.1 (by decide) (by decide) ?_
      refine XS.dloadN X116.here hx rfl (hb hby d3_70) rfl ?_
      refine XS.dconst0 X116.here hx rfl (hb hby d3_71) own_c0 ?_
      show SS p e below m T116 72 #[vR (a_o), vD ((own_D x)), s_, vD ((own_D (own_rn (x + p0)))), s_, vI (1), vI (1), vD ((own_D p0)), s_, vD ((own_D (own_rn (x + p0)))), s_, vD ((own_D (x + p0 - (own_rn (x + p0))))), s_] [(.double (own_D 0)), (.double (own_D (own_rn (x + p0))))] _
      refine XS.dcmpS X116.here hx rfl (hb hby d3_72) rfl (own_DcmpV (own_rrn _) own_rep0 (by omega) (by omega) (by omega) (by omega) _) ?_
      exact kt
    by_cases hc73_123 : (own_rn (x + p0)) = 0
    · have Fq127 : Exa Z h103 a_o "com/example/merit/merit/ExactSum" := (hxa.wr W103)
      obtain ⟨T128, h128, X128, e128, W128, st128⟩ := putF X116 hx hZ hown (host := "") (Or.inl (hw _ (gm 17 rfl))) Via.refl e116 Fq115 Fq127 (Or.inl (hw _ (gm 18 rfl))) (hw _ (gm 1 rfl)) (ty := .int) (by decide) rfl rfl (g := (mkF m 115 #[vR (a_o), vD ((own_D x)), s_, vD ((own_D (own_rn (x + p0)))), s_, vI (1), vI (1), vD ((own_D p0)), s_, vD ((own_D (own_rn (x + p0)))), s_, vD ((own_D (x + p0 - (own_rn (x + p0))))), s_] [(.int 1), (.ref a_o)])) rfl rfl (hb hby d3_115)
      have Kc129 : Keep h0 h128 [a_o, pa] := Kc105.wr W128 (Or.inl (ga 0 rfl))
      have Zs130 : n0 ≤ h128.size := Nat.le_trans Zs106 (Keep.of_wr W128).1
      have N131 := Fr.snoc X128 N107 hg
      have Fw128 : Fld Z h128 a_o "com/example/merit/merit/ExactSum" "count" "I" (.int 1) := Fq115.same W128
      obtain ⟨fs, hr, hrun, hended, hW, hsame⟩ := X128.leave (v := none) (fun _ => rfl) (hlocks := BodyLoose.notSynchronized Bd)
      refine ⟨_, _, pre122 _ ?_, hrun, hended, _, _, rfl, ?_, ⟨_, rfl⟩, hW, hsame.mono (by decide) (by decide)⟩
      · show SS p e below m T116 73 #[vR (a_o), vD ((own_D x)), s_, vD ((own_D (own_rn (x + p0)))), s_, vI (1), vI (1), vD ((own_D p0)), s_, vD ((own_D (own_rn (x + p0)))), s_, vD ((own_D (x + p0 - (own_rn (x + p0))))), s_] [(.int (own_cmp (own_rn (x + p0)) 0))] _
        refine XS.ifYes X116.here hx rfl (pc0 := 73) (pc' := 112) rfl (hb hby d3_73) rfl ((if0 _ _).trans (teq (own_cmEq.mpr hc73_123)).1) (by decide) (by decide) ?_
        refine XS.aloadN X116.here hx rfl (hb hby d3_112) rfl rfl ?_
        refine XS.iload X116.here hx rfl (hb hby d3_113) rfl ?_
        show SS p e below m T116 115 #[vR (a_o), vD ((own_D x)), s_, vD ((own_D (own_rn (x + p0)))), s_, vI (1), vI (1), vD ((own_D p0)), s_, vD ((own_D (own_rn (x + p0)))), s_, vD ((own_D (x + p0 - (own_rn (x + p0))))), s_] [(.int 1), (.ref a_o)] _
        refine st128 _ ?_
        show SS p e below m T128 118 #[vR (a_o), vD ((own_D x)), s_, vD ((own_D (own_rn (x + p0)))), s_, vI (1), vI (1), vD ((own_D p0)), s_, vD ((own_D (own_rn (x + p0)))), s_, vD ((own_D (x + p0 - (own_rn (x + p0))))), s_] [] _
        exact X128.returnOut hx Bd.returns (hb hby d3_118) hr
      · show Qown_add1 Z x a_o pa k_p p0 w1 w2 w3 h0 n0 _ T128.heap _
        rw [e128]
        have hv : (own_add1_f x p0) = [(x + p0 - (own_rn (x + p0)))] := by unfold own_add1_f; rw [if_neg hc46_37, if_pos hc73_123]
        have Fq133 : Fld Z h128 a_o "com/example/merit/merit/ExactSum" "partials" "[D" (.ref pa) := ((hfp.other W103 (Or.inl hne)).other W128 (Or.inr (slot_ne (Or.inl (hw _ (gm 11 rfl))) (Or.inl (hw _ (gm 18 rfl))) (by decide) (t := (.array .double)) (t' := .int) (by decide) (by decide))))
        have Fq134 : Arv Z h128 pa k_p .double (4 : Int32) [(.double (own_D (x + p0 - (own_rn (x + p0))))), w1, w2, w3] (.double FP.dconst0) := (Vm104.other W128 (Ne.symm hne))
        exact ⟨[(.double (own_D (x + p0 - (own_rn (x + p0))))), w1, w2, w3], rfl, N131, Kc129, Fq133, Fq134, (by rw [hv]; exact Fw128), (by rw [hv]; exact ⟨rfl, rfl⟩)⟩
    · have Fq138 : Fld Z h103 a_o "com/example/merit/merit/ExactSum" "partials" "[D" (.ref pa) := (hfp.other W103 (Or.inl hne))
      obtain ⟨T139, X139, e139, st139⟩ := getF X116 hx hZ hown (host := "") (Or.inl (hw _ (gm 10 rfl))) Via.refl e116 Fq138 (g := (mkF m 79 #[vR (a_o), vD ((own_D x)), s_, vD ((own_D (own_rn (x + p0)))), s_, vI (1), vI (1), vD ((own_D p0)), s_, vD ((own_D (own_rn (x + p0)))), s_, vD ((own_D (x + p0 - (own_rn (x + p0))))), s_] [(.ref a_o), (.int 1)])) rfl rfl (hb hby d3_79)
      obtain ⟨cl141, Ar141, -, S141, M141, -, -⟩ := id Vm104
      obtain ⟨T145, X145, e145, st145⟩ := getF X139 hx hZ hown (host := "") (Or.inl (hw _ (gm 10 rfl))) Via.refl e139 Fq138 (g := (mkF m 102 #[vR (a_o), vD ((own_D x)), s_, vD ((own_D (own_rn (x + p0)))), s_, vI (1), vI (1), vD ((own_D p0)), s_, vD ((own_D (own_rn (x + p0)))), s_, vD ((own_D (x + p0 - (own_rn (x + p0))))), s_] [(.ref a_o)])) rfl rfl (hb hby d3_102)
      obtain ⟨cl150, Ar150, q150, S150, M150, H150, G150⟩ := id Vm104
      have hin150 : ¬ ((1 : Int32) < 0 ∨ cl150.slots.size ≤ ((1 : Int32)).toNatClampNeg) := inb_of S150 ⟨by decide, by decide⟩
      obtain ⟨T151, h151, X151, e151, W151, st151⟩ := stD X145 hx hZ e145 Ar150 (j := (1 : Int32)) hin150 (g := (mkF m 111 #[vR (a_o), vD ((own_D x)), s_, vD ((own_D (own_rn (x + p0)))), s_, vI (2), vI (1), vD ((own_D p0)), s_, vD ((own_D (own_rn (x + p0)))), s_, vD ((own_D (x + p0 - (own_rn (x + p0))))), s_] [(.double (own_D (own_rn (x + p0)))), (.int 1), (.ref pa)])) rfl rfl (hb hby d3_111)
      have Kc153 : Keep h0 h151 [a_o, pa] := Kc105.wr W151 (Or.inl (ga 1 rfl))
      have Zs154 : n0 ≤ h151.size := Nat.le_trans Zs106 (Keep.of_wr W151).1
      have N155 := Fr.snoc X151 N107 hgp
      have Vm152 : Arv Z h151 pa k_p .double (4 : Int32) [(.double (own_D (x + p0 - (own_rn (x + p0))))), (.double (own_D (own_rn (x + p0)))), w2, w3] (.double FP.dconst0) := Arv.set Ar150 q150 S150 M150 H150 G150 rfl W151 1 rfl (Nat.le_of_ble_eq_true rfl)
      have Fq159 : Exa Z h151 a_o "com/example/merit/merit/ExactSum" := ((hxa.wr W103).wr W151)
      have Fq160 : Fld Z h151 a_o "com/example/merit/merit/ExactSum" "count" "I" (.int 1) := (Fq115.other W151 (Or.inl hne))
      obtain ⟨T161, h161, X161, e161, W161, st161⟩ := putF X151 hx hZ hown (host := "") (Or.inl (hw _ (gm 17 rfl))) Via.refl e151 Fq160 Fq159 (Or.inl (hw _ (gm 18 rfl))) (hw _ (gm 1 rfl)) (ty := .int) (by decide) rfl rfl (g := (mkF m 115 #[vR (a_o), vD ((own_D x)), s_, vD ((own_D (own_rn (x + p0)))), s_, vI (2), vI (1), vD ((own_D p0)), s_, vD ((own_D (own_rn (x + p0)))), s_, vD ((own_D (x + p0 - (own_rn (x + p0))))), s_] [(.int 2), (.ref a_o)])) rfl rfl (hb hby d3_115)
      have Kc162 : Keep h0 h161 [a_o, pa] := Kc153.wr W161 (Or.inl (ga 0 rfl))
      have Zs163 : n0 ≤ h161.size := Nat.le_trans Zs154 (Keep.of_wr W161).1
      have N164 := Fr.snoc X161 N155 hg
      have Fw161 : Fld Z h161 a_o "com/example/merit/merit/ExactSum" "count" "I" (.int 2) := Fq160.same W161
      obtain ⟨fs, hr, hrun, hended, hW, hsame⟩ := X161.leave (v := none) (fun _ => rfl) (hlocks := BodyLoose.notSynchronized Bd)
      refine ⟨_, _, pre122 _ ?_, hrun, hended, _, _, rfl, ?_, ⟨_, rfl⟩, hW, hsame.mono (by decide) (by decide)⟩
      · show SS p e below m T116 73 #[vR (a_o), vD ((own_D x)), s_, vD ((own_D (own_rn (x + p0)))), s_, vI (1), vI (1), vD ((own_D p0)), s_, vD ((own_D (own_rn (x + p0)))), s_, vD ((own_D (x + p0 - (own_rn (x + p0))))), s_] [(.int (own_cmp (own_rn (x + p0)) 0))] _
        refine XS.ifNo X116.here hx rfl (hb hby d3_73) rfl ((if0 _ _).trans (feq (fun q => hc73_123 (own_cmEq.mp q))).1) ?_
        refine XS.iload X116.here hx rfl (hb hby d3_76) rfl ?_
        refine XS.aloadN X116.here hx rfl (hb hby d3_78) rfl rfl ?_
        show SS p e below m T116 79 #[vR (a_o), vD ((own_D x)), s_, vD ((own_D (own_rn (x + p0)))), s_, vI (1), vI (1), vD ((own_D p0)), s_, vD ((own_D (own_rn (x + p0)))), s_, vD ((own_D (x + p0 - (own_rn (x + p0))))), s_] [(.ref a_o), (.int 1)] _
        refine st139 _ ?_
        show SS p e below m T139 82 #[vR (a_o), vD ((own_D x)), s_, vD ((own_D (own_rn (x + p0)))), s_, vI (1), vI (1), vD ((own_D p0)), s_, vD ((own_D (own_rn (x + p0)))), s_, vD ((own_D (x + p0 - (own_rn (x + p0))))), s_] [(.ref pa), (.int 1)] _
        refine X139.arraylength hx (by rw [e139]; exact Ar141.1) (State.isArrayOf_alike hZ.alike Ar141.2.1) (g := (mkF m 82 #[vR (a_o), vD ((own_D x)), s_, vD ((own_D (own_rn (x + p0)))), s_, vI (1), vI (1), vD ((own_D p0)), s_, vD ((own_D (own_rn (x + p0)))), s_, vD ((own_D (x + p0 - (own_rn (x + p0))))), s_] [(.ref pa), (.int 1)])) rfl rfl (hb hby d3_82) _ ?_
        rw [len_of S141 M141]
        show SS p e below m T139 83 #[vR (a_o), vD ((own_D x)), s_, vD ((own_D (own_rn (x + p0)))), s_, vI (1), vI (1), vD ((own_D p0)), s_, vD ((own_D (own_rn (x + p0)))), s_, vD ((own_D (x + p0 - (own_rn (x + p0))))), s_] [(.int 4), (.int 1)] _
        refine XS.icmpYes X139.here hx rfl (pc0 := 83) (pc' := 101) rfl (hb hby d3_83) rfl (feq ((by decide) : ¬ ((1 : Int32) = (4 : Int32)))).2 (by decide) (by decide) ?_
        refine XS.aloadN X139.here hx rfl (hb hby d3_101) rfl rfl ?_
        show SS p e below m T139 102 #[vR (a_o), vD ((own_D x)), s_, vD ((own_D (own_rn (x + p0)))), s_, vI (1), vI (1), vD ((own_D p0)), s_, vD ((own_D (own_rn (x + p0)))), s_, vD ((own_D (x + p0 - (own_rn (x + p0))))), s_] [(.ref a_o)] _
        refine st145 _ ?_
        show SS p e below m T145 105 #[vR (a_o), vD ((own_D x)), s_, vD ((own_D (own_rn (x + p0)))), s_, vI (1), vI (1), vD ((own_D p0)), s_, vD ((own_D (own_rn (x + p0)))), s_, vD ((own_D (x + p0 - (own_rn (x + p0))))), s_] [(.ref pa)] _
        refine XS.iload X145.here hx rfl (hb hby d3_105) rfl ?_
        refine XS.iinc X145.here hx rfl (hb hby d3_107) rfl (l' := #[vR (a_o), vD ((own_D x)), s_, vD ((own_D (own_rn (x + p0)))), s_, vI (2), vI (1), vD ((own_D p0)), s_, vD ((own_D (own_rn (x + p0)))), s_, vD ((own_D (x + p0 - (own_rn (x + p0))))), s_]) rfl ?_
        refine XS.dloadN X145.here hx rfl (hb hby d3_110) rfl ?_
        show SS p e below m T145 111 #[vR (a_o), vD ((own_D x)), s_, vD ((own_D (own_rn (x + p0)))), s_, vI (2), vI (1), vD ((own_D p0)), s_, vD ((own_D (own_rn (x + p0)))), s_, vD ((own_D (x + p0 - (own_rn (x + p0))))), s_] [(.double (own_D (own_rn (x + p0)))), (.int 1), (.ref pa)] _
        refine st151 _ ?_
        show SS p e below m T151 112 #[vR (a_o), vD ((own_D x)), s_, vD ((own_D (own_rn (x + p0)))), s_, vI (2), vI (1), vD ((own_D p0)), s_, vD ((own_D (own_rn (x + p0)))), s_, vD ((own_D (x + p0 - (own_rn (x + p0))))), s_] [] _
        refine XS.aloadN X151.here hx rfl (hb hby d3_112) rfl rfl ?_
        refine XS.iload X151.here hx rfl (hb hby d3_113) rfl ?_
        show SS p e below m T151 115 #[vR (a_o), vD ((own_D x)), s_, vD ((own_D (own_rn (x + p0)))), s_, vI (2), vI (1), vD ((own_D p0)), s_, vD ((own_D (own_rn (x + p0)))), s_, vD ((own_D (x + p0 - (own_rn (x + p0))))), s_] [(.int 2), (.ref a_o)] _
        refine st161 _ ?_
        show SS p e below m T161 118 #[vR (a_o), vD ((own_D x)), s_, vD ((own_D (own_rn (x + p0)))), s_, vI (2), vI (1), vD ((own_D p0)), s_, vD ((own_D (own_rn (x + p0)))), s_, vD ((own_D (x + p0 - (own_rn (x + p0))))), s_] [] _
        exact X161.returnOut hx Bd.returns (hb hby d3_118) hr
      · show Qown_add1 Z x a_o pa k_p p0 w1 w2 w3 h0 n0 _ T161.heap _
        rw [e161]
        have hv : (own_add1_f x p0) = [(x + p0 - (own_rn (x + p0))), (own_rn (x + p0))] := by unfold own_add1_f; rw [if_neg hc46_37, if_neg hc73_123]
        have Fq166 : Fld Z h161 a_o "com/example/merit/merit/ExactSum" "partials" "[D" (.ref pa) := ((Fq138.other W151 (Or.inl hne)).other W161 (Or.inr (slot_ne (Or.inl (hw _ (gm 11 rfl))) (Or.inl (hw _ (gm 18 rfl))) (by decide) (t := (.array .double)) (t' := .int) (by decide) (by decide))))
        have Fq167 : Arv Z h161 pa k_p .double (4 : Int32) [(.double (own_D (x + p0 - (own_rn (x + p0))))), (.double (own_D (own_rn (x + p0)))), w2, w3] (.double FP.dconst0) := (Vm152.other W161 (Ne.symm hne))
        exact ⟨[(.double (own_D (x + p0 - (own_rn (x + p0))))), (.double (own_D (own_rn (x + p0)))), w2, w3], rfl, N164, Kc162, Fq166, Fq167, (by rw [hv]; exact Fw161), (by rw [hv]; exact ⟨rfl, rfl⟩)⟩
theorem own_ef_own_add2 (m : MethodId) (a_o : Addr) (ud0 : UInt64) : entryFrame m #[(.ref a_o), (.double ud0)] 13 = mkF m 0 #[.val (.ref a_o), .val (.double ud0), .second, .unset, .unset, .unset, .unset, .unset, .unset, .unset, .unset, .unset, .unset] [] := by first | (simp [entryFrame, mkF, argsToLocals, Value.category]; done) | rfl
def own_add2_f (x : Int) (p0 : Int) (p1 : Int) : List Int := (if (x + p0 - (own_rn (x + p0))) = 0 then (if ((own_rn (x + p0)) + p1 - (own_rn ((own_rn (x + p0)) + p1))) = 0 then (if (own_rn ((own_rn (x + p0)) + p1)) = 0 then [] else [(own_rn ((own_rn (x + p0)) + p1))]) else (if (own_rn ((own_rn (x + p0)) + p1)) = 0 then [((own_rn (x + p0)) + p1 - (own_rn ((own_rn (x + p0)) + p1)))] else [((own_rn (x + p0)) + p1 - (own_rn ((own_rn (x + p0)) + p1))), (own_rn ((own_rn (x + p0)) + p1))])) else (if ((own_rn (x + p0)) + p1 - (own_rn ((own_rn (x + p0)) + p1))) = 0 then (if (own_rn ((own_rn (x + p0)) + p1)) = 0 then [(x + p0 - (own_rn (x + p0)))] else [(x + p0 - (own_rn (x + p0))), (own_rn ((own_rn (x + p0)) + p1))]) else (if (own_rn ((own_rn (x + p0)) + p1)) = 0 then [(x + p0 - (own_rn (x + p0))), ((own_rn (x + p0)) + p1 - (own_rn ((own_rn (x + p0)) + p1)))] else [(x + p0 - (own_rn (x + p0))), ((own_rn (x + p0)) + p1 - (own_rn ((own_rn (x + p0)) + p1))), (own_rn ((own_rn (x + p0)) + p1))])))
def Qown_add2 (Z : State) (x : Int) (a_o : Addr) (pa : Addr) (k_p : ClassId) (p0 : Int) (p1 : Int) (w2 : Value) (w3 : Value) (h0 : Heap) (n0 : Nat) (v : Option Value) (h : Heap) (L : List Loc) : Prop := ∃ vs_r : List Value, v = none ∧ Fr n0 L ∧ Keep h0 h [a_o, pa] ∧ Fld Z h a_o "com/example/merit/merit/ExactSum" "partials" "[D" (.ref pa) ∧ Arv Z h pa k_p .double (4 : Int32) vs_r (.double FP.dconst0) ∧ Fld Z h a_o "com/example/merit/merit/ExactSum" "count" "I" (.int (Int32.ofNat (own_add2_f x p0 p1).length)) ∧ own_pt vs_r (own_add2_f x p0 p1)
set_option maxRecDepth 65536 in
set_option maxHeartbeats 40000000 in
theorem own_add2 (l : Launch) (Z : State) (a0 : Array Value) (hw : ∀ d ∈ tables_1, d.before a0 Z = true) (ws : List Jvm.Cond) (x : Int) (a_o : Addr) (pa : Addr) (k_p : ClassId) (p0 : Int) (p1 : Int) (w2 : Value) (w3 : Value) (h0 : Heap) (n0 : Nat) (Z0 : n0 ≤ h0.size) (hxa : Exa Z h0 a_o "com/example/merit/merit/ExactSum") (hfp : Fld Z h0 a_o "com/example/merit/merit/ExactSum" "partials" "[D" (.ref pa)) (hfc : Fld Z h0 a_o "com/example/merit/merit/ExactSum" "count" "I" (.int 2)) (hA : Arv Z h0 pa k_p .double (4 : Int32) [(.double (own_D p0)), (.double (own_D p1)), w2, w3] (.double FP.dconst0)) (hr0 : own_Rep p0) (hr1 : own_Rep p1) (hg : n0 ≤ a_o) (hgp : n0 ≤ pa) (hne : a_o ≠ pa) (hrx : own_Rep x) (hbd : x.natAbs + p0.natAbs + p1.natAbs ≤ 4611686018427400000) :
    MetFree l (⟨"com/example/merit/merit/ExactSum", "add", "(D)V"⟩ : MethodName) (head1 (Jvm.Cond.code (⟨"com/example/merit/merit/ExactSum", "add", "(D)V"⟩ : MethodName) prog_12_method_2_code 13 none :: ws) ({ frames := 1, cells := 0, slots := 0, locals := 19 } : Room)) (fun a U => a = #[(.ref a_o), (.double (own_D x))] ∧ Z.Warmed39 U.vm ∧ U.heap = h0) (fun _ _ _ _ _ => True) (fun _ U o U' => ∃ v L, o = .returned v ∧ Qown_add2 Z x a_o pa k_p p0 p1 w2 w3 h0 n0 v U'.heap L ∧ FrameEnd U o U' L ({ frames := 1, cells := 0, slots := 0, locals := 19 } : Room).cells ({ frames := 1, cells := 0, slots := 0, locals := 19 } : Room).slots) := by
  refine MetFree.of_bodySF (plainFor_of_name own_pn0) hisR ?_
  intro p e s m args below meth c s₁ Bd hml0 hP hK
  obtain ⟨rfl, hZ, hh⟩ := hP
  have hx := Bd.exec
  have hby := Bd.bytes
  have hml : c.maxLocals = 13 := hml0
  have hown : s.vm.findClass "com/example/merit/merit/ExactSum" = some m.cls := findClass_of_methodNamed Bd.named
  have hnm := (name_of_methodNamed Bd.named Bd.method).1
  have X0 : Stand p l e ({ frames := 1, cells := 0, slots := 0, locals := 19 } : Room) s m #[(.ref a_o), (.double (own_D x))] below meth c s₁ [] 0 0 := Stand.of_body Bd
  have e0 : s₁.heap = h0 := by rw [← hh, Bd.state]; rfl
  have N0 := Fr.nil n0
  have pre0 : ∀ t, Steps p.tables e below (s₁.setTop (mkF m 0 #[vR (a_o), vD ((own_D x)), s_, u_, u_, u_, u_, u_, u_, u_, u_, u_, u_] [])) t → Steps p.tables e below (s₁.setTop (entryFrame m #[(.ref a_o), (.double (own_D x))] 13)) t := fun t k => castTop (own_ef_own_add2 m a_o (own_D x)) k
  obtain ⟨T10, X10, e10, st10⟩ := getF X0 hx hZ hown (host := "") (Or.inl (hw _ (gm 17 rfl))) Via.refl e0 hfc (g := (mkF m 11 #[vR (a_o), vD ((own_D x)), s_, vD ((own_D x)), s_, vI (0), vI (0), u_, u_, u_, u_, u_, u_] [(.ref a_o), (.int 0)])) rfl rfl (hb hby d3_11)
  obtain ⟨T14, X14, e14, st14⟩ := getF X10 hx hZ hown (host := "") (Or.inl (hw _ (gm 10 rfl))) Via.refl e10 hfp (g := (mkF m 18 #[vR (a_o), vD ((own_D x)), s_, vD ((own_D x)), s_, vI (0), vI (0), u_, u_, u_, u_, u_, u_] [(.ref a_o)])) rfl rfl (hb hby d3_18)
  obtain ⟨cl17, Ar17, q17, S17, M17, H17, G17⟩ := id hA
  have hin17 : ¬ ((0 : Int32) < 0 ∨ cl17.slots.size ≤ ((0 : Int32)).toNatClampNeg) := inb_of S17 ⟨by decide, by decide⟩
  have hat17 : cl17.slots[((0 : Int32)).toNatClampNeg]? = some (.double (own_D p0)) := H17.at hin17 rfl
  have hq22 : FP.dadd (own_D x) (own_D p0) = own_D (own_rn (x + p0)) := own_Dadd hrx hr0 (by omega) (by omega) (by omega) (by omega) (by omega) (by omega)
  have hq22E := own_errSm (n := x + p0) (by omega) (by omega)
  obtain ⟨_, _, ⟨T28, L28, k28, n28⟩, -, X28, ⟨Lc28, hQ28, l28, y28, z28⟩, st28⟩ := Jvm.LawKit.callS X14 hx (y := (⟨"com/example/merit/merit/ExactSum", "roundingError", "(DDD)D"⟩ : MethodName)) hown (mvT hZ (hw _ (gm 24 rfl))) (mvT hZ (hw _ (gm 25 rfl))) (mvT hZ (hw _ (gm 2 rfl))) (mvT hZ (hw _ (gm 26 rfl))) (by decide) (backOf (W := 0) (own_re l Z a0 hw [] x p0 (own_rn (x + p0)) h0 n0 Z0 hrx hr0 rfl (by omega)) hZ (hw _ (gm 26 rfl)) (hw _ (gm 2 rfl)) (by decide) (by decide)) (g := (mkF m 37 #[vR (a_o), vD ((own_D x)), s_, vD ((own_D x)), s_, vI (0), vI (0), vD ((own_D p0)), s_, vD ((own_D (own_rn (x + p0)))), s_, u_, u_] [(.double (own_D (own_rn (x + p0)))), (.double (own_D p0)), (.double (own_D x))])) rfl (by rw [hml]; rfl) (argsL := [(.double (own_D x)), (.double (own_D p0)), (.double (own_D (own_rn (x + p0))))]) (rest := []) (lenOf own_pd0 rfl) rfl (by show 2 * 0 + _ ≤ _; exact Nat.le_of_eq rfl) (hb hby d3_37) (fun _ _ => ⟨rfl, e14, (by decide : 0 + 0 ≤ _), (by decide : 0 + 0 ≤ _)⟩)
  dsimp only [Pt.U, Pt.locs, Pt.cells, Pt.slots] at X28 l28 y28 z28 st28 hQ28
  rw [l28, y28, z28] at X28
  obtain ⟨rfl, Nq28, eh28⟩ := hQ28
  have N29 := Fr.app N0 Nq28
  have hRe30 : own_Rep (x + p0 - (own_rn (x + p0))) := own_repSm (by omega) (by omega)
  have pre36 : ∀ t, Steps p.tables e below (T28.setTop (mkF m 46 #[vR (a_o), vD ((own_D x)), s_, vD ((own_D x)), s_, vI (0), vI (0), vD ((own_D p0)), s_, vD ((own_D (own_rn (x + p0)))), s_, vD ((own_D (x + p0 - (own_rn (x + p0))))), s_] [(.int (own_cmp (x + p0 - (own_rn (x + p0))) 0))])) t → Steps p.tables e below (s₁.setTop (entryFrame m #[(.ref a_o), (.double (own_D x))] 13)) t := by
    intro t kt
    refine pre0 _ ?_
    show SS p e below m s₁ 0 #[vR (a_o), vD ((own_D x)), s_, u_, u_, u_, u_, u_, u_, u_, u_, u_, u_] [] _
    refine XS.dloadN X0.here hx rfl (hb hby d3_0) rfl ?_
    refine XS.dstoreN X0.here hx rfl (hb hby d3_1) rfl (l' := #[vR (a_o), vD ((own_D x)), s_, vD ((own_D x)), s_, u_, u_, u_, u_, u_, u_, u_, u_]) rfl ?_
    refine XS.iconst X0.here hx rfl (hb hby d3_2) ?_ --lit 0
    show SS p e below m s₁ 3 #[vR (a_o), vD ((own_D x)), s_, vD ((own_D x)), s_, u_, u_, u_, u_, u_, u_, u_, u_] [(.int 0)] _
    refine XS.istore X0.here hx rfl (hb hby d3_3) rfl (l' := #[vR (a_o), vD ((own_D x)), s_, vD ((own_D x)), s_, vI (0), u_, u_, u_, u_, u_, u_, u_]) rfl ?_
    refine XS.iconst X0.here hx rfl (hb hby d3_5) ?_ --lit 0
    refine XS.istore X0.here hx rfl (hb hby d3_6) rfl (l' := #[vR (a_o), vD ((own_D x)), s_, vD ((own_D x)), s_, vI (0), vI (0), u_, u_, u_, u_, u_, u_]) rfl ?_
    show SS p e below m s₁ 8 #[vR (a_o), vD ((own_D x)), s_, vD ((own_D x)), s_, vI (0), vI (0), u_, u_, u_, u_, u_, u_] [] _
    refine XS.iload X0.here hx rfl (hb hby d3_8) rfl ?_
    refine XS.aloadN X0.here hx rfl (hb hby d3_10) rfl rfl ?_
    show SS p e below m s₁ 11 #[vR (a_o), vD ((own_D x)), s_, vD ((own_D x)), s_, vI (0), vI (0), u_, u_, u_, u_, u_, u_] [(.ref a_o), (.int 0)] _
    refine st10 _ ?_
    show SS p e below m T10 14 #[vR (a_o), vD ((own_D x)), s_, vD ((own_D x)), s_, vI (0), vI (0), u_, u_, u_, u_, u_, u_] [(.int 2), (.int 0)] _
    refine XS.icmpNo X10.here hx rfl (hb hby d3_14) rfl (tlt ((by decide) : (0 : Int32) < (2 : Int32))).2.1 ?_
    refine XS.aloadN X10.here hx rfl (hb hby d3_17) rfl rfl ?_
    show SS p e below m T10 18 #[vR (a_o), vD ((own_D x)), s_, vD ((own_D x)), s_, vI (0), vI (0), u_, u_, u_, u_, u_, u_] [(.ref a_o)] _
    refine st14 _ ?_
    show SS p e below m T14 21 #[vR (a_o), vD ((own_D x)), s_, vD ((own_D x)), s_, vI (0), vI (0), u_, u_, u_, u_, u_, u_] [(.ref pa)] _
    refine XS.iload X14.here hx rfl (hb hby d3_21) rfl ?_
    show SS p e below m T14 23 #[vR (a_o), vD ((own_D x)), s_, vD ((own_D x)), s_, vI (0), vI (0), u_, u_, u_, u_, u_, u_] [(.int 0), (.ref pa)] _
    refine X14.daload hx (j := (0 : Int32)) (v := (.double (own_D p0))) (by rw [e14]; exact Ar17.1) (State.isArrayOf_alike hZ.alike Ar17.2.1) Ar17.2.2 hin17 hat17 (g := (mkF m 23 #[vR (a_o), vD ((own_D x)), s_, vD ((own_D x)), s_, vI (0), vI (0), u_, u_, u_, u_, u_, u_] [(.int 0), (.ref pa)])) rfl rfl (hb hby d3_23) _ ?_
    show SS p e below m T14 24 #[vR (a_o), vD ((own_D x)), s_, vD ((own_D x)), s_, vI (0), vI (0), u_, u_, u_, u_, u_, u_] [(.double (own_D p0))] _
    refine XS.dstore X14.here hx rfl (hb hby d3_24) rfl (l' := #[vR (a_o), vD ((own_D x)), s_, vD ((own_D x)), s_, vI (0), vI (0), vD ((own_D p0)), s_, u_, u_, u_, u_]) rfl ?_
    refine XS.dloadN X14.here hx rfl (hb hby d3_26) rfl ?_
    refine XS.dload X14.here hx rfl (hb hby d3_27) rfl ?_
    show SS p e below m T14 29 #[vR (a_o), vD ((own_D x)), s_, vD ((own_D x)), s_, vI (0), vI (0), vD ((own_D p0)), s_, u_, u_, u_, u_] [(.double (own_D p0)), (.double (own_D x))] _
    refine XS.daddS X14.here hx rfl (hb hby d3_29) rfl (nn_w (a := Int64.ofInt (own_rn (x + p0))) hq22) hq22 ?_
    show SS p e below m T14 30 #[vR (a_o), vD ((own_D x)), s_, vD ((own_D x)), s_, vI (0), vI (0), vD ((own_D p0)), s_, u_, u_, u_, u_] [(.double (own_D (own_rn (x + p0))))] _
    refine XS.dstore X14.here hx rfl (hb hby d3_30) rfl (l' := #[vR (a_o), vD ((own_D x)), s_, vD ((own_D x)), s_, vI (0), vI (0), vD ((own_D p0)), s_, vD ((own_D (own_rn (x + p0)))), s_, u_, u_]) rfl ?_
    refine XS.dloadN X14.here hx rfl (hb hby d3_32) rfl ?_
    refine XS.dload X14.here hx rfl (hb hby d3_33) rfl ?_
    show SS p e below m T14 35 #[vR (a_o), vD ((own_D x)), s_, vD ((own_D x)), s_, vI (0), vI (0), vD ((own_D p0)), s_, vD ((own_D (own_rn (x + p0)))), s_, u_, u_] [(.double (own_D p0)), (.double (own_D x))] _
    refine XS.dload X14.here hx rfl (hb hby d3_35) rfl ?_
    show SS p e below m T14 37 #[vR (a_o), vD ((own_D x)), s_, vD ((own_D x)), s_, vI (0), vI (0), vD ((own_D p0)), s_, vD ((own_D (own_rn (x + p0)))), s_, u_, u_] [(.double (own_D (own_rn (x + p0)))), (.double (own_D p0)), (.double (own_D x))] _
    refine st28 _ ?_
    show SS p e below m T28 40 #[vR (a_o), vD ((own_D x)), s_, vD ((own_D x)), s_, vI (0), vI (0), vD ((own_D p0)), s_, vD ((own_D (own_rn (x + p0)))), s_, u_, u_] [(.double (own_D (x + p0 - (own_rn (x + p0)))))] _
    refine XS.dstore X28.here hx rfl (hb hby d3_40) rfl (l' := #[vR (a_o), vD ((own_D x)), s_, vD ((own_D x)), s_, vI (0), vI (0), vD ((own_D p0)), s_, vD ((own_D (own_rn (x + p0)))), s_, vD ((own_D (x + p0 - (own_rn (x + p0))))), s_]) rfl ?_
    refine XS.dload X28.here hx rfl (hb hby d3_42) rfl ?_
    refine XS.dconst0 X28.here hx rfl (hb hby d3_44) own_c0 ?_
    show SS p e below m T28 45 #[vR (a_o), vD ((own_D x)), s_, vD ((own_D x)), s_, vI (0), vI (0), vD ((own_D p0)), s_, vD ((own_D (own_rn (x + p0)))), s_, vD ((own_D (x + p0 - (own_rn (x + p0))))), s_] [(.double (own_D 0)), (.double (own_D (x + p0 - (own_rn (x + p0)))))] _
    refine XS.dcmpS X28.here hx rfl (hb hby d3_45) rfl (own_DcmpV hRe30 own_rep0 (by omega) (by omega) (by omega) (by omega) _) ?_
    exact kt
  by_cases hc46_37 : (x + p0 - (own_rn (x + p0))) = 0
  · obtain ⟨T45, X45, e45, st45⟩ := getF X28 hx hZ hown (host := "") (Or.inl (hw _ (gm 17 rfl))) Via.refl eh28 hfc (g := (mkF m 11 #[vR (a_o), vD ((own_D x)), s_, vD ((own_D (own_rn (x + p0)))), s_, vI (0), vI (1), vD ((own_D p0)), s_, vD ((own_D (own_rn (x + p0)))), s_, vD ((own_D (x + p0 - (own_rn (x + p0))))), s_] [(.ref a_o), (.int 1)])) rfl rfl (hb hby d3_11)
    obtain ⟨T49, X49, e49, st49⟩ := getF X45 hx hZ hown (host := "") (Or.inl (hw _ (gm 10 rfl))) Via.refl e45 hfp (g := (mkF m 18 #[vR (a_o), vD ((own_D x)), s_, vD ((own_D (own_rn (x + p0)))), s_, vI (0), vI (1), vD ((own_D p0)), s_, vD ((own_D (own_rn (x + p0)))), s_, vD ((own_D (x + p0 - (own_rn (x + p0))))), s_] [(.ref a_o)])) rfl rfl (hb hby d3_18)
    obtain ⟨cl52, Ar52, q52, S52, M52, H52, G52⟩ := id hA
    have hin52 : ¬ ((1 : Int32) < 0 ∨ cl52.slots.size ≤ ((1 : Int32)).toNatClampNeg) := inb_of S52 ⟨by decide, by decide⟩
    have hat52 : cl52.slots[((1 : Int32)).toNatClampNeg]? = some (.double (own_D p1)) := H52.at hin52 rfl
    have hq57 : FP.dadd (own_D (own_rn (x + p0))) (own_D p1) = own_D (own_rn ((own_rn (x + p0)) + p1)) := own_Dadd (own_rrn _) hr1 (by omega) (by omega) (by omega) (by omega) (by omega) (by omega)
    have hq57E := own_errSm (n := (own_rn (x + p0)) + p1) (by omega) (by omega)
    obtain ⟨_, _, ⟨T63, L63, k63, n63⟩, -, X63, ⟨Lc63, hQ63, l63, y63, z63⟩, st63⟩ := Jvm.LawKit.callS X49 hx (y := (⟨"com/example/merit/merit/ExactSum", "roundingError", "(DDD)D"⟩ : MethodName)) hown (mvT hZ (hw _ (gm 24 rfl))) (mvT hZ (hw _ (gm 25 rfl))) (mvT hZ (hw _ (gm 2 rfl))) (mvT hZ (hw _ (gm 26 rfl))) (by decide) (backOf (W := 0) (own_re l Z a0 hw [] (own_rn (x + p0)) p1 (own_rn ((own_rn (x + p0)) + p1)) h0 n0 Z0 (own_rrn _) hr1 rfl (by omega)) hZ (hw _ (gm 26 rfl)) (hw _ (gm 2 rfl)) (by decide) (by decide)) (g := (mkF m 37 #[vR (a_o), vD ((own_D x)), s_, vD ((own_D (own_rn (x + p0)))), s_, vI (0), vI (1), vD ((own_D p1)), s_, vD ((own_D (own_rn ((own_rn (x + p0)) + p1)))), s_, vD ((own_D (x + p0 - (own_rn (x + p0))))), s_] [(.double (own_D (own_rn ((own_rn (x + p0)) + p1)))), (.double (own_D p1)), (.double (own_D (own_rn (x + p0))))])) rfl (by rw [hml]; rfl) (argsL := [(.double (own_D (own_rn (x + p0)))), (.double (own_D p1)), (.double (own_D (own_rn ((own_rn (x + p0)) + p1))))]) (rest := []) (lenOf own_pd0 rfl) rfl (by show 2 * 0 + _ ≤ _; exact Nat.le_of_eq rfl) (hb hby d3_37) (fun _ _ => ⟨rfl, e49, (by decide : 0 + 0 ≤ _), (by decide : 0 + 0 ≤ _)⟩)
    dsimp only [Pt.U, Pt.locs, Pt.cells, Pt.slots] at X63 l63 y63 z63 st63 hQ63
    rw [l63, y63, z63] at X63
    obtain ⟨rfl, Nq63, eh63⟩ := hQ63
    have N64 := Fr.app N29 Nq63
    have hRe65 : own_Rep ((own_rn (x + p0)) + p1 - (own_rn ((own_rn (x + p0)) + p1))) := own_repSm (by omega) (by omega)
    have pre71 : ∀ t, Steps p.tables e below (T63.setTop (mkF m 46 #[vR (a_o), vD ((own_D x)), s_, vD ((own_D (own_rn (x + p0)))), s_, vI (0), vI (1), vD ((own_D p1)), s_, vD ((own_D (own_rn ((own_rn (x + p0)) + p1)))), s_, vD ((own_D ((own_rn (x + p0)) + p1 - (own_rn ((own_rn (x + p0)) + p1))))), s_] [(.int (own_cmp ((own_rn (x + p0)) + p1 - (own_rn ((own_rn (x + p0)) + p1))) 0))])) t → Steps p.tables e below (s₁.setTop (entryFrame m #[(.ref a_o), (.double (own_D x))] 13)) t := by
      intro t kt
      refine pre36 _ ?_
      show SS p e below m T28 46 #[vR (a_o), vD ((own_D x)), s_, vD ((own_D x)), s_, vI (0), vI (0), vD ((own_D p0)), s_, vD ((own_D (own_rn (x + p0)))), s_, vD ((own_D (x + p0 - (own_rn (x + p0))))), s_] [(.int (own_cmp (x + p0 - (own_rn (x + p0))) 0))] _
      refine XS.ifYes X28.here hx rfl (pc0 := 46) (pc' := 61) rfl (hb hby d3_46) rfl ((if0 _ _).trans (teq (own_cmEq.mpr hc46_37)).1) (by decide) (by decide) ?_
      refine XS.dload X28.here hx rfl (hb hby d3_61) rfl ?_
      refine XS.dstoreN X28.here hx rfl (hb hby d3_63) rfl (l' := #[vR (a_o), vD ((own_D x)), s_, vD ((own_D (own_rn (x + p0)))), s_, vI (0), vI (0), vD ((own_D p0)), s_, vD ((own_D (own_rn (x + p0)))), s_, vD ((own_D (x + p0 - (own_rn (x + p0))))), s_]) rfl ?_
      show SS p e below m T28 64 #[vR (a_o), vD ((own_D x)), s_, vD ((own_D (own_rn (x + p0)))), s_, vI (0), vI (0), vD ((own_D p0)), s_, vD ((own_D (own_rn (x + p0)))), s_, vD ((own_D (x + p0 - (own_rn (x + p0))))), s_] [] _
      refine XS.iinc X28.here hx rfl (hb hby d3_64) rfl (l' := #[vR (a_o), vD ((own_D x)), s_, vD ((own_D (own_rn (x + p0)))), s_, vI (0), vI (1), vD ((own_D p0)), s_, vD ((own_D (own_rn (x + p0)))), s_, vD ((own_D (x + p0 - (own_rn (x + p0))))), s_]) rfl ?_
      refine XS.goto X28.here hx rfl (pc0 := 67) (pc' := 8) rfl (hb hby d3_67) (by decide) (by decide) ?_
      refine XS.iload X28.here hx rfl (hb hby d3_8) rfl ?_
      show SS p e below m T28 10 #[vR (a_o), vD ((own_D x)), s_, vD ((own_D (own_rn (x + p0)))), s_, vI (0), vI (1), vD ((own_D p0)), s_, vD ((own_D (own_rn (x + p0)))), s_, vD ((own_D (x + p0 - (own_rn (x + p0))))), s_] [(.int 1)] _
      refine XS.aloadN X28.here hx rfl (hb hby d3_10) rfl rfl ?_
      show SS p e below m T28 11 #[vR (a_o), vD ((own_D x)), s_, vD ((own_D (own_rn (x + p0)))), s_, vI (0), vI (1), vD ((own_D p0)), s_, vD ((own_D (own_rn (x + p0)))), s_, vD ((own_D (x + p0 - (own_rn (x + p0))))), s_] [(.ref a_o), (.int 1)] _
      refine st45 _ ?_
      show SS p e below m T45 14 #[vR (a_o), vD ((own_D x)), s_, vD ((own_D (own_rn (x + p0)))), s_, vI (0), vI (1), vD ((own_D p0)), s_, vD ((own_D (own_rn (x + p0)))), s_, vD ((own_D (x + p0 - (own_rn (x + p0))))), s_] [(.int 2), (.int 1)] _
      refine XS.icmpNo X45.here hx rfl (hb hby d3_14) rfl (tlt ((by decide) : (1 : Int32) < (2 : Int32))).2.1 ?_
      refine XS.aloadN X45.here hx rfl (hb hby d3_17) rfl rfl ?_
      show SS p e below m T45 18 #[vR (a_o), vD ((own_D x)), s_, vD ((own_D (own_rn (x + p0)))), s_, vI (0), vI (1), vD ((own_D p0)), s_, vD ((own_D (own_rn (x + p0)))), s_, vD ((own_D (x + p0 - (own_rn (x + p0))))), s_] [(.ref a_o)] _
      refine st49 _ ?_
      show SS p e below m T49 21 #[vR (a_o), vD ((own_D x)), s_, vD ((own_D (own_rn (x + p0)))), s_, vI (0), vI (1), vD ((own_D p0)), s_, vD ((own_D (own_rn (x + p0)))), s_, vD ((own_D (x + p0 - (own_rn (x + p0))))), s_] [(.ref pa)] _
      refine XS.iload X49.here hx rfl (hb hby d3_21) rfl ?_
      show SS p e below m T49 23 #[vR (a_o), vD ((own_D x)), s_, vD ((own_D (own_rn (x + p0)))), s_, vI (0), vI (1), vD ((own_D p0)), s_, vD ((own_D (own_rn (x + p0)))), s_, vD ((own_D (x + p0 - (own_rn (x + p0))))), s_] [(.int 1), (.ref pa)] _
      refine X49.daload hx (j := (1 : Int32)) (v := (.double (own_D p1))) (by rw [e49]; exact Ar52.1) (State.isArrayOf_alike hZ.alike Ar52.2.1) Ar52.2.2 hin52 hat52 (g := (mkF m 23 #[vR (a_o), vD ((own_D x)), s_, vD ((own_D (own_rn (x + p0)))), s_, vI (0), vI (1), vD ((own_D p0)), s_, vD ((own_D (own_rn (x + p0)))), s_, vD ((own_D (x + p0 - (own_rn (x + p0))))), s_] [(.int 1), (.ref pa)])) rfl rfl (hb hby d3_23) _ ?_
      show SS p e below m T49 24 #[vR (a_o), vD ((own_D x)), s_, vD ((own_D (own_rn (x + p0)))), s_, vI (0), vI (1), vD ((own_D p0)), s_, vD ((own_D (own_rn (x + p0)))), s_, vD ((own_D (x + p0 - (own_rn (x + p0))))), s_] [(.double (own_D p1))] _
      refine XS.dstore X49.here hx rfl (hb hby d3_24) rfl (l' := #[vR (a_o), vD ((own_D x)), s_, vD ((own_D (own_rn (x + p0)))), s_, vI (0), vI (1), vD ((own_D p1)), s_, vD ((own_D (own_rn (x + p0)))), s_, vD ((own_D (x + p0 - (own_rn (x + p0))))), s_]) rfl ?_
      refine XS.dloadN X49.here hx rfl (hb hby d3_26) rfl ?_
      refine XS.dload X49.here hx rfl (hb hby d3_27) rfl ?_
      show SS p e below m T49 29 #[vR (a_o), vD ((own_D x)), s_, vD ((own_D (own_rn (x + p0)))), s_, vI (0), vI (1), vD ((own_D p1)), s_, vD ((own_D (own_rn (x + p0)))), s_, vD ((own_D (x + p0 - (own_rn (x + p0))))), s_] [(.double (own_D p1)), (.double (own_D (own_rn (x + p0))))] _
      refine XS.daddS X49.here hx rfl (hb hby d3_29) rfl (nn_w (a := Int64.ofInt (own_rn ((own_rn (x + p0)) + p1))) hq57) hq57 ?_
      show SS p e below m T49 30 #[vR (a_o), vD ((own_D x)), s_, vD ((own_D (own_rn (x + p0)))), s_, vI (0), vI (1), vD ((own_D p1)), s_, vD ((own_D (own_rn (x + p0)))), s_, vD ((own_D (x + p0 - (own_rn (x + p0))))), s_] [(.double (own_D (own_rn ((own_rn (x + p0)) + p1))))] _
      refine XS.dstore X49.here hx rfl (hb hby d3_30) rfl (l' := #[vR (a_o), vD ((own_D x)), s_, vD ((own_D (own_rn (x + p0)))), s_, vI (0), vI (1), vD ((own_D p1)), s_, vD ((own_D (own_rn ((own_rn (x + p0)) + p1)))), s_, vD ((own_D (x + p0 - (own_rn (x + p0))))), s_]) rfl ?_
      refine XS.dloadN X49.here hx rfl (hb hby d3_32) rfl ?_
      refine XS.dload X49.here hx rfl (hb hby d3_33) rfl ?_
      show SS p e below m T49 35 #[vR (a_o), vD ((own_D x)), s_, vD ((own_D (own_rn (x + p0)))), s_, vI (0), vI (1), vD ((own_D p1)), s_, vD ((own_D (own_rn ((own_rn (x + p0)) + p1)))), s_, vD ((own_D (x + p0 - (own_rn (x + p0))))), s_] [(.double (own_D p1)), (.double (own_D (own_rn (x + p0))))] _
      refine XS.dload X49.here hx rfl (hb hby d3_35) rfl ?_
      show SS p e below m T49 37 #[vR (a_o), vD ((own_D x)), s_, vD ((own_D (own_rn (x + p0)))), s_, vI (0), vI (1), vD ((own_D p1)), s_, vD ((own_D (own_rn ((own_rn (x + p0)) + p1)))), s_, vD ((own_D (x + p0 - (own_rn (x + p0))))), s_] [(.double (own_D (own_rn ((own_rn (x + p0)) + p1)))), (.double (own_D p1)), (.double (own_D (own_rn (x + p0))))] _
      refine st63 _ ?_
      show SS p e below m T63 40 #[vR (a_o), vD ((own_D x)), s_, vD ((own_D (own_rn (x + p0)))), s_, vI (0), vI (1), vD ((own_D p1)), s_, vD ((own_D (own_rn ((own_rn (x + p0)) + p1)))), s_, vD ((own_D (x + p0 - (own_rn (x + p0))))), s_] [(.double (own_D ((own_rn (x + p0)) + p1 - (own_rn ((own_rn (x + p0)) + p1)))))] _
      refine XS.dstore X63.here hx rfl (hb hby d3_40) rfl (l' := #[vR (a_o), vD ((own_D x)), s_, vD ((own_D (own_rn (x + p0)))), s_, vI (0), vI (1), vD ((own_D p1)), s_, vD ((own_D (own_rn ((own_rn (x + p0)) + p1)))), s_, vD ((own_D ((own_rn (x + p0)) + p1 - (own_rn ((own_rn (x + p0)) + p1))))), s_]) rfl ?_
      refine XS.dload X63.here hx rfl (hb hby d3_42) rfl ?_
      refine XS.dconst0 X63.here hx rfl (hb hby d3_44) own_c0 ?_
      show SS p e below m T63 45 #[vR (a_o), vD ((own_D x)), s_, vD ((own_D (own_rn (x + p0)))), s_, vI (0), vI (1), vD ((own_D p1)), s_, vD ((own_D (own_rn ((own_rn (x + p0)) + p1)))), s_, vD ((own_D ((own_rn (x + p0)) + p1 - (own_rn ((own_rn (x + p0)) + p1))))), s_] [(.double (own_D 0)), (.double (own_D ((own_rn (x + p0)) + p1 - (own_rn ((own_rn (x + p0)) + p1)))))] _
      refine XS.dcmpS X63.here hx rfl (hb hby d3_45) rfl (own_DcmpV hRe65 own_rep0 (by omega) (by omega) (by omega) (by omega) _) ?_
      exact kt
    by_cases hc46_72 : ((own_rn (x + p0)) + p1 - (own_rn ((own_rn (x + p0)) + p1))) = 0
    · obtain ⟨T80, X80, e80, st80⟩ := getF X63 hx hZ hown (host := "") (Or.inl (hw _ (gm 17 rfl))) Via.refl eh63 hfc (g := (mkF m 11 #[vR (a_o), vD ((own_D x)), s_, vD ((own_D (own_rn ((own_rn (x + p0)) + p1)))), s_, vI (0), vI (2), vD ((own_D p1)), s_, vD ((own_D (own_rn ((own_rn (x + p0)) + p1)))), s_, vD ((own_D ((own_rn (x + p0)) + p1 - (own_rn ((own_rn (x + p0)) + p1))))), s_] [(.ref a_o), (.int 2)])) rfl rfl (hb hby d3_11)
      have pre86 : ∀ t, Steps p.tables e below (T80.setTop (mkF m 73 #[vR (a_o), vD ((own_D x)), s_, vD ((own_D (own_rn ((own_rn (x + p0)) + p1)))), s_, vI (0), vI (2), vD ((own_D p1)), s_, vD ((own_D (own_rn ((own_rn (x + p0)) + p1)))), s_, vD ((own_D ((own_rn (x + p0)) + p1 - (own_rn ((own_rn (x + p0)) + p1))))), s_] [(.int (own_cmp (own_rn ((own_rn (x + p0)) + p1)) 0))])) t → Steps p.tables e below (s₁.setTop (entryFrame m #[(.ref a_o), (.double (own_D x))] 13)) t := by
        intro t kt
        refine pre71 _ ?_
        show SS p e below m T63 46 #[vR (a_o), vD ((own_D x)), s_, vD ((own_D (own_rn (x + p0)))), s_, vI (0), vI (1), vD ((own_D p1)), s_, vD ((own_D (own_rn ((own_rn (x + p0)) + p1)))), s_, vD ((own_D ((own_rn (x + p0)) + p1 - (own_rn ((own_rn (x + p0)) + p1))))), s_] [(.int (own_cmp ((own_rn (x + p0)) + p1 - (own_rn ((own_rn (x + p0)) + p1))) 0))] _
        refine XS.ifYes X63.here hx rfl (pc0 := 46) (pc' := 61) rfl (hb hby d3_46) rfl ((if0 _ _).trans (teq (own_cmEq.mpr hc46_72)).1) (by decide) (by decide) ?_
        refine XS.dload X63.here hx rfl (hb hby d3_61) rfl ?_
        refine XS.dstoreN X63.here hx rfl (hb hby d3_63) rfl (l' := #[vR (a_o), vD ((own_D x)), s_, vD ((own_D (own_rn ((own_rn (x + p0)) + p1)))), s_, vI (0), vI (1), vD ((own_D p1)), s_, vD ((own_D (own_rn ((own_rn (x + p0)) + p1)))), s_, vD ((own_D ((own_rn (x + p0)) + p1 - (own_rn ((own_rn (x + p0)) + p1))))), s_]) rfl ?_
        show SS p e below m T63 64 #[vR (a_o), vD ((own_D x)), s_, vD ((own_D (own_rn ((own_rn (x + p0)) + p1)))), s_, vI (0), vI (1), vD ((own_D p1)), s_, vD ((own_D (own_rn ((own_rn (x + p0)) + p1)))), s_, vD ((own_D ((own_rn (x + p0)) + p1 - (own_rn ((own_rn (x + p0)) + p1))))), s_] [] _
        refine XS.iinc X63.here hx rfl (hb hby d3_64) rfl (l' := #[vR (a_o), vD ((own_D x)), s_, vD ((own_D (own_rn ((own_rn (x + p0)) + p1)))), s_, vI (0), vI (2), vD ((own_D p1)), s_, vD ((own_D (own_rn ((own_rn (x + p0)) + p1)))), s_, vD ((own_D ((own_rn (x + p0)) + p1 - (own_rn ((own_rn (x + p0)) + p1))))), s_]) rfl ?_
        refine XS.goto X63.here hx rfl (pc0 := 67) (pc' := 8) rfl (hb hby d3_67) (by decide) (by decide) ?_
        refine XS.iload X63.here hx rfl (hb hby d3_8) rfl ?_
        show SS p e below m T63 10 #[vR (a_o), vD ((own_D x)), s_, vD ((own_D (own_rn ((own_rn (x + p0)) + p1)))), s_, vI (0), vI (2), vD ((own_D p1)), s_, vD ((own_D (own_rn ((own_rn (x + p0)) + p1)))), s_, vD ((own_D ((own_rn (x + p0)) + p1 - (own_rn ((own_rn (x + p0)) + p1))))), s_] [(.int 2)] _
        refine XS.aloadN X63.here hx rfl (hb hby d3_10) rfl rfl ?_
        show SS p e below m T63 11 #[vR (a_o), vD ((own_D x)), s_, vD ((own_D (own_rn ((own_rn (x + p0)) + p1)))), s_, vI (0), vI (2), vD ((own_D p1)), s_, vD ((own_D (own_rn ((own_rn (x + p0)) + p1)))), s_, vD ((own_D ((own_rn (x + p0)) + p1 - (own_rn ((own_rn (x + p0)) + p1))))), s_] [(.ref a_o), (.int 2)] _
        refine st80 _ ?_
        show SS p e below m T80 14 #[vR (a_o), vD ((own_D x)), s_, vD ((own_D (own_rn ((own_rn (x + p0)) + p1)))), s_, vI (0), vI (2), vD ((own_D p1)), s_, vD ((own_D (own_rn ((own_rn (x + p0)) + p1)))), s_, vD ((own_D ((own_rn (x + p0)) + p1 - (own_rn ((own_rn (x + p0)) + p1))))), s_] [(.int 2), (.int 2)] _
        refine XS.icmpYes X80.here hx rfl (pc0 := 14) (pc' := 70) rfl (hb hby d3_14) rfl (flt ((by decide) : ¬ ((2 : Int32) < (2 : Int32)))).2.1 (by decide) (by decide) ?_
        refine XS.dloadN X80.here hx rfl (hb hby d3_70) rfl ?_
        refine XS.dconst0 X80.here hx rfl (hb hby d3_71) own_c0 ?_
        show SS p e below m T80 72 #[vR (a_o), vD ((own_D x)), s_, vD ((own_D (own_rn ((own_rn (x + p0)) + p1)))), s_, vI (0), vI (2), vD ((own_D p1)), s_, vD ((own_D (own_rn ((own_rn (x + p0)) + p1)))), s_, vD ((own_D ((own_rn (x + p0)) + p1 - (own_rn ((own_rn (x + p0)) + p1))))), s_] [(.double (own_D 0)), (.double (own_D (own_rn ((own_rn (x + p0)) + p1))))] _
        refine XS.dcmpS X80.here hx rfl (hb hby d3_72) rfl (own_DcmpV (own_rrn _) own_rep0 (by omega) (by omega) (by omega) (by omega) _) ?_
        exact kt
      by_cases hc73_87 : (own_rn ((own_rn (x + p0)) + p1)) = 0
      · obtain ⟨T91, h91, X91, e91, W91, st91⟩ := putF X80 hx hZ hown (host := "") (Or.inl (hw _ (gm 17 rfl))) Via.refl e80 hfc hxa (Or.inl (hw _ (gm 18 rfl))) (hw _ (gm 1 rfl)) (ty := .int) (by decide) rfl rfl (g := (mkF m 115 #[vR (a_o), vD ((own_D x)), s_, vD ((own_D (own_rn ((own_rn (x + p0)) + p1)))), s_, vI (0), vI (2), vD ((own_D p1)), s_, vD ((own_D (own_rn ((own_rn (x + p0)) + p1)))), s_, vD ((own_D ((own_rn (x + p0)) + p1 - (own_rn ((own_rn (x + p0)) + p1))))), s_] [(.int 0), (.ref a_o)])) rfl rfl (hb hby d3_115)
        have Kc92 : Keep h0 h91 [a_o, pa] := (Keep.refl h0 [a_o, pa]).wr W91 (Or.inl (ga 0 rfl))
        have Zs93 : n0 ≤ h91.size := Nat.le_trans Z0 (Keep.of_wr W91).1
        have N94 := Fr.snoc X91 N64 hg
        have Fw91 : Fld Z h91 a_o "com/example/merit/merit/ExactSum" "count" "I" (.int 0) := hfc.same W91
        obtain ⟨fs, hr, hrun, hended, hW, hsame⟩ := X91.leave (v := none) (fun _ => rfl) (hlocks := BodyLoose.notSynchronized Bd)
        refine ⟨_, _, pre86 _ ?_, hrun, hended, _, _, rfl, ?_, ⟨_, rfl⟩, hW, hsame.mono (by decide) (by decide)⟩
        · show SS p e below m T80 73 #[vR (a_o), vD ((own_D x)), s_, vD ((own_D (own_rn ((own_rn (x + p0)) + p1)))), s_, vI (0), vI (2), vD ((own_D p1)), s_, vD ((own_D (own_rn ((own_rn (x + p0)) + p1)))), s_, vD ((own_D ((own_rn (x + p0)) + p1 - (own_rn ((own_rn (x + p0)) + p1))))), s_] [(.int (own_cmp (own_rn ((own_rn (x + p0)) + p1)) 0))] _
          refine XS.ifYes X80.here hx rfl (pc0 := 73) (pc' := 112) rfl (hb hby d3_73) rfl ((if0 _ _).trans (teq (own_cmEq.mpr hc73_87)).1) (by decide) (by decide) ?_
          refine XS.aloadN X80.here hx rfl (hb hby d3_112) rfl rfl ?_
          refine XS.iload X80.here hx rfl (hb hby d3_113) rfl ?_
          show SS p e below m T80 115 #[vR (a_o), vD ((own_D x)), s_, vD ((own_D (own_rn ((own_rn (x + p0)) + p1)))), s_, vI (0), vI (2), vD ((own_D p1)), s_, vD ((own_D (own_rn ((own_rn (x + p0)) + p1)))), s_, vD ((own_D ((own_rn (x + p0)) + p1 - (own_rn ((own_rn (x + p0)) + p1))))), s_] [(.int 0), (.ref a_o)] _
          refine st91 _ ?_
          show SS p e below m T91 118 #[vR (a_o), vD ((own_D x)), s_, vD ((own_D (own_rn ((own_rn (x + p0)) + p1)))), s_, vI (0), vI (2), vD ((own_D p1)), s_, vD ((own_D (own_rn ((own_rn (x + p0)) + p1)))), s_, vD ((own_D ((own_rn (x + p0)) + p1 - (own_rn ((own_rn (x + p0)) + p1))))), s_] [] _
          exact X91.returnOut hx Bd.returns (hb hby d3_118) hr
        · show Qown_add2 Z x a_o pa k_p p0 p1 w2 w3 h0 n0 _ T91.heap _
          rw [e91]
          have hv : (own_add2_f x p0 p1) = [] := by unfold own_add2_f; rw [if_pos hc46_37, if_pos hc46_72, if_pos hc73_87]
          have Fq96 : Fld Z h91 a_o "com/example/merit/merit/ExactSum" "partials" "[D" (.ref pa) := (hfp.other W91 (Or.inr (slot_ne (Or.inl (hw _ (gm 11 rfl))) (Or.inl (hw _ (gm 18 rfl))) (by decide) (t := (.array .double)) (t' := .int) (by decide) (by decide))))
          have Fq97 : Arv Z h91 pa k_p .double (4 : Int32) [(.double (own_D p0)), (.double (own_D p1)), w2, w3] (.double FP.dconst0) := (hA.other W91 (Ne.symm hne))
          exact ⟨[(.double (own_D p0)), (.double (own_D p1)), w2, w3], rfl, N94, Kc92, Fq96, Fq97, (by rw [hv]; exact Fw91), (by rw [hv]; exact ⟨rfl, rfl⟩)⟩
      · obtain ⟨T101, X101, e101, st101⟩ := getF X80 hx hZ hown (host := "") (Or.inl (hw _ (gm 10 rfl))) Via.refl e80 hfp (g := (mkF m 79 #[vR (a_o), vD ((own_D x)), s_, vD ((own_D (own_rn ((own_rn (x + p0)) + p1)))), s_, vI (0), vI (2), vD ((own_D p1)), s_, vD ((own_D (own_rn ((own_rn (x + p0)) + p1)))), s_, vD ((own_D ((own_rn (x + p0)) + p1 - (own_rn ((own_rn (x + p0)) + p1))))), s_] [(.ref a_o), (.int 0)])) rfl rfl (hb hby d3_79)
        obtain ⟨cl103, Ar103, -, S103, M103, -, -⟩ := id hA
        obtain ⟨T107, X107, e107, st107⟩ := getF X101 hx hZ hown (host := "") (Or.inl (hw _ (gm 10 rfl))) Via.refl e101 hfp (g := (mkF m 102 #[vR (a_o), vD ((own_D x)), s_, vD ((own_D (own_rn ((own_rn (x + p0)) + p1)))), s_, vI (0), vI (2), vD ((own_D p1)), s_, vD ((own_D (own_rn ((own_rn (x + p0)) + p1)))), s_, vD ((own_D ((own_rn (x + p0)) + p1 - (own_rn ((own_rn (x + p0)) + p1))))), s_] [(.ref a_o)])) rfl rfl (hb hby d3_102)
        obtain ⟨cl112, Ar112, q112, S112, M112, H112, G112⟩ := id hA
        have hin112 : ¬ ((0 : Int32) < 0 ∨ cl112.slots.size ≤ ((0 : Int32)).toNatClampNeg) := inb_of S112 ⟨by decide, by decide⟩
        obtain ⟨T113, h113, X113, e113, W113, st113⟩ := stD X107 hx hZ e107 Ar112 (j := (0 : Int32)) hin112 (g := (mkF m 111 #[vR (a_o), vD ((own_D x)), s_, vD ((own_D (own_rn ((own_rn (x + p0)) + p1)))), s_, vI (1), vI (2), vD ((own_D p1)), s_, vD ((own_D (own_rn ((own_rn (x + p0)) + p1)))), s_, vD ((own_D ((own_rn (x + p0)) + p1 - (own_rn ((own_rn (x + p0)) + p1))))), s_] [(.double (own_D (own_rn ((own_rn (x + p0)) + p1)))), (.int 0), (.ref pa)])) rfl rfl (hb hby d3_111)
        have Kc115 : Keep h0 h113 [a_o, pa] := (Keep.refl h0 [a_o, pa]).wr W113 (Or.inl (ga 1 rfl))
        have Zs116 : n0 ≤ h113.size := Nat.le_trans Z0 (Keep.of_wr W113).1
        have N117 := Fr.snoc X113 N64 hgp
        have Vm114 : Arv Z h113 pa k_p .double (4 : Int32) [(.double (own_D (own_rn ((own_rn (x + p0)) + p1)))), (.double (own_D p1)), w2, w3] (.double FP.dconst0) := Arv.set Ar112 q112 S112 M112 H112 G112 rfl W113 0 rfl (Nat.le_of_ble_eq_true rfl)
        have Fq121 : Exa Z h113 a_o "com/example/merit/merit/ExactSum" := (hxa.wr W113)
        have Fq122 : Fld Z h113 a_o "com/example/merit/merit/ExactSum" "count" "I" (.int 2) := (hfc.other W113 (Or.inl hne))
        obtain ⟨T123, h123, X123, e123, W123, st123⟩ := putF X113 hx hZ hown (host := "") (Or.inl (hw _ (gm 17 rfl))) Via.refl e113 Fq122 Fq121 (Or.inl (hw _ (gm 18 rfl))) (hw _ (gm 1 rfl)) (ty := .int) (by decide) rfl rfl (g := (mkF m 115 #[vR (a_o), vD ((own_D x)), s_, vD ((own_D (own_rn ((own_rn (x + p0)) + p1)))), s_, vI (1), vI (2), vD ((own_D p1)), s_, vD ((own_D (own_rn ((own_rn (x + p0)) + p1)))), s_, vD ((own_D ((own_rn (x + p0)) + p1 - (own_rn ((own_rn (x + p0)) + p1))))), s_] [(.int 1), (.ref a_o)])) rfl rfl (hb hby d3_115)
        have Kc124 : Keep h0 h123 [a_o, pa] := Kc115.wr W123 (Or.inl (ga 0 rfl))
        have Zs125 : n0 ≤ h123.size := Nat.le_trans Zs116 (Keep.of_wr W123).1
        have N126 := Fr.snoc X123 N117 hg
        have Fw123 : Fld Z h123 a_o "com/example/merit/merit/ExactSum" "count" "I" (.int 1) := Fq122.same W123
        obtain ⟨fs, hr, hrun, hended, hW, hsame⟩ := X123.leave (v := none) (fun _ => rfl) (hlocks := BodyLoose.notSynchronized Bd)
        refine ⟨_, _, pre86 _ ?_, hrun, hended, _, _, rfl, ?_, ⟨_, rfl⟩, hW, hsame.mono (by decide) (by decide)⟩
        · show SS p e below m T80 73 #[vR (a_o), vD ((own_D x)), s_, vD ((own_D (own_rn ((own_rn (x + p0)) + p1)))), s_, vI (0), vI (2), vD ((own_D p1)), s_, vD ((own_D (own_rn ((own_rn (x + p0)) + p1)))), s_, vD ((own_D ((own_rn (x + p0)) + p1 - (own_rn ((own_rn (x + p0)) + p1))))), s_] [(.int (own_cmp (own_rn ((own_rn (x + p0)) + p1)) 0))] _
          refine XS.ifNo X80.here hx rfl (hb hby d3_73) rfl ((if0 _ _).trans (feq (fun q => hc73_87 (own_cmEq.mp q))).1) ?_
          refine XS.iload X80.here hx rfl (hb hby d3_76) rfl ?_
          refine XS.aloadN X80.here hx rfl (hb hby d3_78) rfl rfl ?_
          show SS p e below m T80 79 #[vR (a_o), vD ((own_D x)), s_, vD ((own_D (own_rn ((own_rn (x + p0)) + p1)))), s_, vI (0), vI (2), vD ((own_D p1)), s_, vD ((own_D (own_rn ((own_rn (x + p0)) + p1)))), s_, vD ((own_D ((own_rn (x + p0)) + p1 - (own_rn ((own_rn (x + p0)) + p1))))), s_] [(.ref a_o), (.int 0)] _
          refine st101 _ ?_
          show SS p e below m T101 82 #[vR (a_o), vD ((own_D x)), s_, vD ((own_D (own_rn ((own_rn (x + p0)) + p1)))), s_, vI (0), vI (2), vD ((own_D p1)), s_, vD ((own_D (own_rn ((own_rn (x + p0)) + p1)))), s_, vD ((own_D ((own_rn (x + p0)) + p1 - (own_rn ((own_rn (x + p0)) + p1))))), s_] [(.ref pa), (.int 0)] _
          refine X101.arraylength hx (by rw [e101]; exact Ar103.1) (State.isArrayOf_alike hZ.alike Ar103.2.1) (g := (mkF m 82 #[vR (a_o), vD ((own_D x)), s_, vD ((own_D (own_rn ((own_rn (x + p0)) + p1)))), s_, vI (0), vI (2), vD ((own_D p1)), s_, vD ((own_D (own_rn ((own_rn (x + p0)) + p1)))), s_, vD ((own_D ((own_rn (x + p0)) + p1 - (own_rn ((own_rn (x + p0)) + p1))))), s_] [(.ref pa), (.int 0)])) rfl rfl (hb hby d3_82) _ ?_
          rw [len_of S103 M103]
          show SS p e below m T101 83 #[vR (a_o), vD ((own_D x)), s_, vD ((own_D (own_rn ((own_rn (x + p0)) + p1)))), s_, vI (0), vI (2), vD ((own_D p1)), s_, vD ((own_D (own_rn ((own_rn (x + p0)) + p1)))), s_, vD ((own_D ((own_rn (x + p0)) + p1 - (own_rn ((own_rn (x + p0)) + p1))))), s_] [(.int 4), (.int 0)] _
          refine XS.icmpYes X101.here hx rfl (pc0 := 83) (pc' := 101) rfl (hb hby d3_83) rfl (feq ((by decide) : ¬ ((0 : Int32) = (4 : Int32)))).2 (by decide) (by decide) ?_
          refine XS.aloadN X101.here hx rfl (hb hby d3_101) rfl rfl ?_
          show SS p e below m T101 102 #[vR (a_o), vD ((own_D x)), s_, vD ((own_D (own_rn ((own_rn (x + p0)) + p1)))), s_, vI (0), vI (2), vD ((own_D p1)), s_, vD ((own_D (own_rn ((own_rn (x + p0)) + p1)))), s_, vD ((own_D ((own_rn (x + p0)) + p1 - (own_rn ((own_rn (x + p0)) + p1))))), s_] [(.ref a_o)] _
          refine st107 _ ?_
          show SS p e below m T107 105 #[vR (a_o), vD ((own_D x)), s_, vD ((own_D (own_rn ((own_rn (x + p0)) + p1)))), s_, vI (0), vI (2), vD ((own_D p1)), s_, vD ((own_D (own_rn ((own_rn (x + p0)) + p1)))), s_, vD ((own_D ((own_rn (x + p0)) + p1 - (own_rn ((own_rn (x + p0)) + p1))))), s_] [(.ref pa)] _
          refine XS.iload X107.here hx rfl (hb hby d3_105) rfl ?_
          refine XS.iinc X107.here hx rfl (hb hby d3_107) rfl (l' := #[vR (a_o), vD ((own_D x)), s_, vD ((own_D (own_rn ((own_rn (x + p0)) + p1)))), s_, vI (1), vI (2), vD ((own_D p1)), s_, vD ((own_D (own_rn ((own_rn (x + p0)) + p1)))), s_, vD ((own_D ((own_rn (x + p0)) + p1 - (own_rn ((own_rn (x + p0)) + p1))))), s_]) rfl ?_
          refine XS.dloadN X107.here hx rfl (hb hby d3_110) rfl ?_
          show SS p e below m T107 111 #[vR (a_o), vD ((own_D x)), s_, vD ((own_D (own_rn ((own_rn (x + p0)) + p1)))), s_, vI (1), vI (2), vD ((own_D p1)), s_, vD ((own_D (own_rn ((own_rn (x + p0)) + p1)))), s_, vD ((own_D ((own_rn (x + p0)) + p1 - (own_rn ((own_rn (x + p0)) + p1))))), s_] [(.double (own_D (own_rn ((own_rn (x + p0)) + p1)))), (.int 0), (.ref pa)] _
          refine st113 _ ?_
          show SS p e below m T113 112 #[vR (a_o), vD ((own_D x)), s_, vD ((own_D (own_rn ((own_rn (x + p0)) + p1)))), s_, vI (1), vI (2), vD ((own_D p1)), s_, vD ((own_D (own_rn ((own_rn (x + p0)) + p1)))), s_, vD ((own_D ((own_rn (x + p0)) + p1 - (own_rn ((own_rn (x + p0)) + p1))))), s_] [] _
          refine XS.aloadN X113.here hx rfl (hb hby d3_112) rfl rfl ?_
          refine XS.iload X113.here hx rfl (hb hby d3_113) rfl ?_
          show SS p e below m T113 115 #[vR (a_o), vD ((own_D x)), s_, vD ((own_D (own_rn ((own_rn (x + p0)) + p1)))), s_, vI (1), vI (2), vD ((own_D p1)), s_, vD ((own_D (own_rn ((own_rn (x + p0)) + p1)))), s_, vD ((own_D ((own_rn (x + p0)) + p1 - (own_rn ((own_rn (x + p0)) + p1))))), s_] [(.int 1), (.ref a_o)] _
          refine st123 _ ?_
          show SS p e below m T123 118 #[vR (a_o), vD ((own_D x)), s_, vD ((own_D (own_rn ((own_rn (x + p0)) + p1)))), s_, vI (1), vI (2), vD ((own_D p1)), s_, vD ((own_D (own_rn ((own_rn (x + p0)) + p1)))), s_, vD ((own_D ((own_rn (x + p0)) + p1 - (own_rn ((own_rn (x + p0)) + p1))))), s_] [] _
          exact X123.returnOut hx Bd.returns (hb hby d3_118) hr
        · show Qown_add2 Z x a_o pa k_p p0 p1 w2 w3 h0 n0 _ T123.heap _
          rw [e123]
          have hv : (own_add2_f x p0 p1) = [(own_rn ((own_rn (x + p0)) + p1))] := by unfold own_add2_f; rw [if_pos hc46_37, if_pos hc46_72, if_neg hc73_87]
          have Fq128 : Fld Z h123 a_o "com/example/merit/merit/ExactSum" "partials" "[D" (.ref pa) := ((hfp.other W113 (Or.inl hne)).other W123 (Or.inr (slot_ne (Or.inl (hw _ (gm 11 rfl))) (Or.inl (hw _ (gm 18 rfl))) (by decide) (t := (.array .double)) (t' := .int) (by decide) (by decide))))
          have Fq129 : Arv Z h123 pa k_p .double (4 : Int32) [(.double (own_D (own_rn ((own_rn (x + p0)) + p1)))), (.double (own_D p1)), w2, w3] (.double FP.dconst0) := (Vm114.other W123 (Ne.symm hne))
          exact ⟨[(.double (own_D (own_rn ((own_rn (x + p0)) + p1)))), (.double (own_D p1)), w2, w3], rfl, N126, Kc124, Fq128, Fq129, (by rw [hv]; exact Fw123), (by rw [hv]; exact ⟨rfl, rfl⟩)⟩
    · obtain ⟨T132, X132, e132, st132⟩ := getF X63 hx hZ hown (host := "") (Or.inl (hw _ (gm 10 rfl))) Via.refl eh63 hfp (g := (mkF m 50 #[vR (a_o), vD ((own_D x)), s_, vD ((own_D (own_rn (x + p0)))), s_, vI (0), vI (1), vD ((own_D p1)), s_, vD ((own_D (own_rn ((own_rn (x + p0)) + p1)))), s_, vD ((own_D ((own_rn (x + p0)) + p1 - (own_rn ((own_rn (x + p0)) + p1))))), s_] [(.ref a_o)])) rfl rfl (hb hby d3_50)
      obtain ⟨cl137, Ar137, q137, S137, M137, H137, G137⟩ := id hA
      have hin137 : ¬ ((0 : Int32) < 0 ∨ cl137.slots.size ≤ ((0 : Int32)).toNatClampNeg) := inb_of S137 ⟨by decide, by decide⟩
      obtain ⟨T138, h138, X138, e138, W138, st138⟩ := stD X132 hx hZ e132 Ar137 (j := (0 : Int32)) hin137 (g := (mkF m 60 #[vR (a_o), vD ((own_D x)), s_, vD ((own_D (own_rn (x + p0)))), s_, vI (1), vI (1), vD ((own_D p1)), s_, vD ((own_D (own_rn ((own_rn (x + p0)) + p1)))), s_, vD ((own_D ((own_rn (x + p0)) + p1 - (own_rn ((own_rn (x + p0)) + p1))))), s_] [(.double (own_D ((own_rn (x + p0)) + p1 - (own_rn ((own_rn (x + p0)) + p1))))), (.int 0), (.ref pa)])) rfl rfl (hb hby d3_60)
      have Kc140 : Keep h0 h138 [a_o, pa] := (Keep.refl h0 [a_o, pa]).wr W138 (Or.inl (ga 1 rfl))
      have Zs141 : n0 ≤ h138.size := Nat.le_trans Z0 (Keep.of_wr W138).1
      have N142 := Fr.snoc X138 N64 hgp
      have Vm139 : Arv Z h138 pa k_p .double (4 : Int32) [(.double (own_D ((own_rn (x + p0)) + p1 - (own_rn ((own_rn (x + p0)) + p1))))), (.double (own_D p1)), w2, w3] (.double FP.dconst0) := Arv.set Ar137 q137 S137 M137 H137 G137 rfl W138 0 rfl (Nat.le_of_ble_eq_true rfl)
      have Fq150 : Fld Z h138 a_o "com/example/merit/merit/ExactSum" "count" "I" (.int 2) := (hfc.other W138 (Or.inl hne))
      obtain ⟨T151, X151, e151, st151⟩ := getF X138 hx hZ hown (host := "") (Or.inl (hw _ (gm 17 rfl))) Via.refl e138 Fq150 (g := (mkF m 11 #[vR (a_o), vD ((own_D x)), s_, vD ((own_D (own_rn ((own_rn (x + p0)) + p1)))), s_, vI (1), vI (2), vD ((own_D p1)), s_, vD ((own_D (own_rn ((own_rn (x + p0)) + p1)))), s_, vD ((own_D ((own_rn (x + p0)) + p1 - (own_rn ((own_rn (x + p0)) + p1))))), s_] [(.ref a_o), (.int 2)])) rfl rfl (hb hby d3_11)
      have pre157 : ∀ t, Steps p.tables e below (T151.setTop (mkF m 73 #[vR (a_o), vD ((own_D x)), s_, vD ((own_D (own_rn ((own_rn (x + p0)) + p1)))), s_, vI (1), vI (2), vD ((own_D p1)), s_, vD ((own_D (own_rn ((own_rn (x + p0)) + p1)))), s_, vD ((own_D ((own_rn (x + p0)) + p1 - (own_rn ((own_rn (x + p0)) + p1))))), s_] [(.int (own_cmp (own_rn ((own_rn (x + p0)) + p1)) 0))])) t → Steps p.tables e below (s₁.setTop (entryFrame m #[(.ref a_o), (.double (own_D x))] 13)) t := by
        intro t kt
        refine pre71 _ ?_
        show SS p e below m T63 46 #[vR (a_o), vD ((own_D x)), s_, vD ((own_D (own_rn (x + p0)))), s_, vI (0), vI (1), vD ((own_D p1)), s_, vD ((own_D (own_rn ((own_rn (x + p0)) + p1)))), s_, vD ((own_D ((own_rn (x + p0)) + p1 - (own_rn ((own_rn (x + p0)) + p1))))), s_] [(.int (own_cmp ((own_rn (x + p0)) + p1 - (own_rn ((own_rn (x + p0)) + p1))) 0))] _
        refine XS.ifNo X63.here hx rfl (hb hby d3_46) rfl ((if0 _ _).trans (feq (fun q => hc46_72 (own_cmEq.mp q))).1) ?_
        refine XS.aloadN X63.here hx rfl (hb hby d3_49) rfl rfl ?_
        show SS p e below m T63 50 #[vR (a_o), vD ((own_D x)), s_, vD ((own_D (own_rn (x + p0)))), s_, vI (0), vI (1), vD ((own_D p1)), s_, vD ((own_D (own_rn ((own_rn (x + p0)) + p1)))), s_, vD ((own_D ((own_rn (x + p0)) + p1 - (own_rn ((own_rn (x + p0)) + p1))))), s_] [(.ref a_o)] _
        refine st132 _ ?_
        show SS p e below m T132 53 #[vR (a_o), vD ((own_D x)), s_, vD ((own_D (own_rn (x + p0)))), s_, vI (0), vI (1), vD ((own_D p1)), s_, vD ((own_D (own_rn ((own_rn (x + p0)) + p1)))), s_, vD ((own_D ((own_rn (x + p0)) + p1 - (own_rn ((own_rn (x + p0)) + p1))))), s_] [(.ref pa)] _
        refine XS.iload X132.here hx rfl (hb hby d3_53) rfl ?_
        refine XS.iinc X132.here hx rfl (hb hby d3_55) rfl (l' := #[vR (a_o), vD ((own_D x)), s_, vD ((own_D (own_rn (x + p0)))), s_, vI (1), vI (1), vD ((own_D p1)), s_, vD ((own_D (own_rn ((own_rn (x + p0)) + p1)))), s_, vD ((own_D ((own_rn (x + p0)) + p1 - (own_rn ((own_rn (x + p0)) + p1))))), s_]) rfl ?_
        refine XS.dload X132.here hx rfl (hb hby d3_58) rfl ?_
        show SS p e below m T132 60 #[vR (a_o), vD ((own_D x)), s_, vD ((own_D (own_rn (x + p0)))), s_, vI (1), vI (1), vD ((own_D p1)), s_, vD ((own_D (own_rn ((own_rn (x + p0)) + p1)))), s_, vD ((own_D ((own_rn (x + p0)) + p1 - (own_rn ((own_rn (x + p0)) + p1))))), s_] [(.double (own_D ((own_rn (x + p0)) + p1 - (own_rn ((own_rn (x + p0)) + p1))))), (.int 0), (.ref pa)] _
        refine st138 _ ?_
        show SS p e below m T138 61 #[vR (a_o), vD ((own_D x)), s_, vD ((own_D (own_rn (x + p0)))), s_, vI (1), vI (1), vD ((own_D p1)), s_, vD ((own_D (own_rn ((own_rn (x + p0)) + p1)))), s_, vD ((own_D ((own_rn (x + p0)) + p1 - (own_rn ((own_rn (x + p0)) + p1))))), s_] [] _
        refine XS.dload X138.here hx rfl (hb hby d3_61) rfl ?_
        refine XS.dstoreN X138.here hx rfl (hb hby d3_63) rfl (l' := #[vR (a_o), vD ((own_D x)), s_, vD ((own_D (own_rn ((own_rn (x + p0)) + p1)))), s_, vI (1), vI (1), vD ((own_D p1)), s_, vD ((own_D (own_rn ((own_rn (x + p0)) + p1)))), s_, vD ((own_D ((own_rn (x + p0)) + p1 - (own_rn ((own_rn (x + p0)) + p1))))), s_]) rfl ?_
        refine XS.iinc X138.here hx rfl (hb hby d3_64) rfl (l' := #[vR (a_o), vD ((own_D x)), s_, vD ((own_D (own_rn ((own_rn (x + p0)) + p1)))), s_, vI (1), vI (2), vD ((own_D p1)), s_, vD ((own_D (own_rn ((own_rn (x + p0)) + p1)))), s_, vD ((own_D ((own_rn (x + p0)) + p1 - (own_rn ((own_rn (x + p0)) + p1))))), s_]) rfl ?_
        show SS p e below m T138 67 #[vR (a_o), vD ((own_D x)), s_, vD ((own_D (own_rn ((own_rn (x + p0)) + p1)))), s_, vI (1), vI (2), vD ((own_D p1)), s_, vD ((own_D (own_rn ((own_rn (x + p0)) + p1)))), s_, vD ((own_D ((own_rn (x + p0)) + p1 - (own_rn ((own_rn (x + p0)) + p1))))), s_] [] _
        refine XS.goto X138.here hx rfl (pc0 := 67) (pc' := 8) rfl (hb hby d3_67) (by decide) (by decide) ?_
        refine XS.iload X138.here hx rfl (hb hby d3_8) rfl ?_
        refine XS.aloadN X138.here hx rfl (hb hby d3_10) rfl rfl ?_
        show SS p e below m T138 11 #[vR (a_o), vD ((own_D x)), s_, vD ((own_D (own_rn ((own_rn (x + p0)) + p1)))), s_, vI (1), vI (2), vD ((own_D p1)), s_, vD ((own_D (own_rn ((own_rn (x + p0)) + p1)))), s_, vD ((own_D ((own_rn (x + p0)) + p1 - (own_rn ((own_rn (x + p0)) + p1))))), s_] [(.ref a_o), (.int 2)] _
        refine st151 _ ?_
        show SS p e below m T151 14 #[vR (a_o), vD ((own_D x)), s_, vD ((own_D (own_rn ((own_rn (x + p0)) + p1)))), s_, vI (1), vI (2), vD ((own_D p1)), s_, vD ((own_D (own_rn ((own_rn (x + p0)) + p1)))), s_, vD ((own_D ((own_rn (x + p0)) + p1 - (own_rn ((own_rn (x + p0)) + p1))))), s_] [(.int 2), (.int 2)] _
        refine XS.icmpYes X151.here hx rfl (pc0 := 14) (pc' := 70) rfl (hb hby d3_14) rfl (flt ((by decide) : ¬ ((2 : Int32) < (2 : Int32)))).2.1 (by decide) (by decide) ?_
        refine XS.dloadN X151.here hx rfl (hb hby d3_70) rfl ?_
        refine XS.dconst0 X151.here hx rfl (hb hby d3_71) own_c0 ?_
        show SS p e below m T151 72 #[vR (a_o), vD ((own_D x)), s_, vD ((own_D (own_rn ((own_rn (x + p0)) + p1)))), s_, vI (1), vI (2), vD ((own_D p1)), s_, vD ((own_D (own_rn ((own_rn (x + p0)) + p1)))), s_, vD ((own_D ((own_rn (x + p0)) + p1 - (own_rn ((own_rn (x + p0)) + p1))))), s_] [(.double (own_D 0)), (.double (own_D (own_rn ((own_rn (x + p0)) + p1))))] _
        refine XS.dcmpS X151.here hx rfl (hb hby d3_72) rfl (own_DcmpV (own_rrn _) own_rep0 (by omega) (by omega) (by omega) (by omega) _) ?_
        exact kt
      by_cases hc73_158 : (own_rn ((own_rn (x + p0)) + p1)) = 0
      · have Fq162 : Exa Z h138 a_o "com/example/merit/merit/ExactSum" := (hxa.wr W138)
        obtain ⟨T163, h163, X163, e163, W163, st163⟩ := putF X151 hx hZ hown (host := "") (Or.inl (hw _ (gm 17 rfl))) Via.refl e151 Fq150 Fq162 (Or.inl (hw _ (gm 18 rfl))) (hw _ (gm 1 rfl)) (ty := .int) (by decide) rfl rfl (g := (mkF m 115 #[vR (a_o), vD ((own_D x)), s_, vD ((own_D (own_rn ((own_rn (x + p0)) + p1)))), s_, vI (1), vI (2), vD ((own_D p1)), s_, vD ((own_D (own_rn ((own_rn (x + p0)) + p1)))), s_, vD ((own_D ((own_rn (x + p0)) + p1 - (own_rn ((own_rn (x + p0)) + p1))))), s_] [(.int 1), (.ref a_o)])) rfl rfl (hb hby d3_115)
        have Kc164 : Keep h0 h163 [a_o, pa] := Kc140.wr W163 (Or.inl (ga 0 rfl))
        have Zs165 : n0 ≤ h163.size := Nat.le_trans Zs141 (Keep.of_wr W163).1
        have N166 := Fr.snoc X163 N142 hg
        have Fw163 : Fld Z h163 a_o "com/example/merit/merit/ExactSum" "count" "I" (.int 1) := Fq150.same W163
        obtain ⟨fs, hr, hrun, hended, hW, hsame⟩ := X163.leave (v := none) (fun _ => rfl) (hlocks := BodyLoose.notSynchronized Bd)
        refine ⟨_, _, pre157 _ ?_, hrun, hended, _, _, rfl, ?_, ⟨_, rfl⟩, hW, hsame.mono (by decide) (by decide)⟩
        · show SS p e below m T151 73 #[vR (a_o), vD ((own_D x)), s_, vD ((own_D (own_rn ((own_rn (x + p0)) + p1)))), s_, vI (1), vI (2), vD ((own_D p1)), s_, vD ((own_D (own_rn ((own_rn (x + p0)) + p1)))), s_, vD ((own_D ((own_rn (x + p0)) + p1 - (own_rn ((own_rn (x + p0)) + p1))))), s_] [(.int (own_cmp (own_rn ((own_rn (x + p0)) + p1)) 0))] _
          refine XS.ifYes X151.here hx rfl (pc0 := 73) (pc' := 112) rfl (hb hby d3_73) rfl ((if0 _ _).trans (teq (own_cmEq.mpr hc73_158)).1) (by decide) (by decide) ?_
          refine XS.aloadN X151.here hx rfl (hb hby d3_112) rfl rfl ?_
          refine XS.iload X151.here hx rfl (hb hby d3_113) rfl ?_
          show SS p e below m T151 115 #[vR (a_o), vD ((own_D x)), s_, vD ((own_D (own_rn ((own_rn (x + p0)) + p1)))), s_, vI (1), vI (2), vD ((own_D p1)), s_, vD ((own_D (own_rn ((own_rn (x + p0)) + p1)))), s_, vD ((own_D ((own_rn (x + p0)) + p1 - (own_rn ((own_rn (x + p0)) + p1))))), s_] [(.int 1), (.ref a_o)] _
          refine st163 _ ?_
          show SS p e below m T163 118 #[vR (a_o), vD ((own_D x)), s_, vD ((own_D (own_rn ((own_rn (x + p0)) + p1)))), s_, vI (1), vI (2), vD ((own_D p1)), s_, vD ((own_D (own_rn ((own_rn (x + p0)) + p1)))), s_, vD ((own_D ((own_rn (x + p0)) + p1 - (own_rn ((own_rn (x + p0)) + p1))))), s_] [] _
          exact X163.returnOut hx Bd.returns (hb hby d3_118) hr
        · show Qown_add2 Z x a_o pa k_p p0 p1 w2 w3 h0 n0 _ T163.heap _
          rw [e163]
          have hv : (own_add2_f x p0 p1) = [((own_rn (x + p0)) + p1 - (own_rn ((own_rn (x + p0)) + p1)))] := by unfold own_add2_f; rw [if_pos hc46_37, if_neg hc46_72, if_pos hc73_158]
          have Fq168 : Fld Z h163 a_o "com/example/merit/merit/ExactSum" "partials" "[D" (.ref pa) := ((hfp.other W138 (Or.inl hne)).other W163 (Or.inr (slot_ne (Or.inl (hw _ (gm 11 rfl))) (Or.inl (hw _ (gm 18 rfl))) (by decide) (t := (.array .double)) (t' := .int) (by decide) (by decide))))
          have Fq169 : Arv Z h163 pa k_p .double (4 : Int32) [(.double (own_D ((own_rn (x + p0)) + p1 - (own_rn ((own_rn (x + p0)) + p1))))), (.double (own_D p1)), w2, w3] (.double FP.dconst0) := (Vm139.other W163 (Ne.symm hne))
          exact ⟨[(.double (own_D ((own_rn (x + p0)) + p1 - (own_rn ((own_rn (x + p0)) + p1))))), (.double (own_D p1)), w2, w3], rfl, N166, Kc164, Fq168, Fq169, (by rw [hv]; exact Fw163), (by rw [hv]; exact ⟨rfl, rfl⟩)⟩
      · have Fq173 : Fld Z h138 a_o "com/example/merit/merit/ExactSum" "partials" "[D" (.ref pa) := (hfp.other W138 (Or.inl hne))
        obtain ⟨T174, X174, e174, st174⟩ := getF X151 hx hZ hown (host := "") (Or.inl (hw _ (gm 10 rfl))) Via.refl e151 Fq173 (g := (mkF m 79 #[vR (a_o), vD ((own_D x)), s_, vD ((own_D (own_rn ((own_rn (x + p0)) + p1)))), s_, vI (1), vI (2), vD ((own_D p1)), s_, vD ((own_D (own_rn ((own_rn (x + p0)) + p1)))), s_, vD ((own_D ((own_rn (x + p0)) + p1 - (own_rn ((own_rn (x + p0)) + p1))))), s_] [(.ref a_o), (.int 1)])) rfl rfl (hb hby d3_79)
        obtain ⟨cl176, Ar176, -, S176, M176, -, -⟩ := id Vm139
        obtain ⟨T180, X180, e180, st180⟩ := getF X174 hx hZ hown (host := "") (Or.inl (hw _ (gm 10 rfl))) Via.refl e174 Fq173 (g := (mkF m 102 #[vR (a_o), vD ((own_D x)), s_, vD ((own_D (own_rn ((own_rn (x + p0)) + p1)))), s_, vI (1), vI (2), vD ((own_D p1)), s_, vD ((own_D (own_rn ((own_rn (x + p0)) + p1)))), s_, vD ((own_D ((own_rn (x + p0)) + p1 - (own_rn ((own_rn (x + p0)) + p1))))), s_] [(.ref a_o)])) rfl rfl (hb hby d3_102)
        obtain ⟨cl185, Ar185, q185, S185, M185, H185, G185⟩ := id Vm139
        have hin185 : ¬ ((1 : Int32) < 0 ∨ cl185.slots.size ≤ ((1 : Int32)).toNatClampNeg) := inb_of S185 ⟨by decide, by decide⟩
        obtain ⟨T186, h186, X186, e186, W186, st186⟩ := stD X180 hx hZ e180 Ar185 (j := (1 : Int32)) hin185 (g := (mkF m 111 #[vR (a_o), vD ((own_D x)), s_, vD ((own_D (own_rn ((own_rn (x + p0)) + p1)))), s_, vI (2), vI (2), vD ((own_D p1)), s_, vD ((own_D (own_rn ((own_rn (x + p0)) + p1)))), s_, vD ((own_D ((own_rn (x + p0)) + p1 - (own_rn ((own_rn (x + p0)) + p1))))), s_] [(.double (own_D (own_rn ((own_rn (x + p0)) + p1)))), (.int 1), (.ref pa)])) rfl rfl (hb hby d3_111)
        have Kc188 : Keep h0 h186 [a_o, pa] := Kc140.wr W186 (Or.inl (ga 1 rfl))
        have Zs189 : n0 ≤ h186.size := Nat.le_trans Zs141 (Keep.of_wr W186).1
        have N190 := Fr.snoc X186 N142 hgp
        have Vm187 : Arv Z h186 pa k_p .double (4 : Int32) [(.double (own_D ((own_rn (x + p0)) + p1 - (own_rn ((own_rn (x + p0)) + p1))))), (.double (own_D (own_rn ((own_rn (x + p0)) + p1)))), w2, w3] (.double FP.dconst0) := Arv.set Ar185 q185 S185 M185 H185 G185 rfl W186 1 rfl (Nat.le_of_ble_eq_true rfl)
        have Fq194 : Exa Z h186 a_o "com/example/merit/merit/ExactSum" := ((hxa.wr W138).wr W186)
        have Fq195 : Fld Z h186 a_o "com/example/merit/merit/ExactSum" "count" "I" (.int 2) := (Fq150.other W186 (Or.inl hne))
        obtain ⟨T196, h196, X196, e196, W196, st196⟩ := putF X186 hx hZ hown (host := "") (Or.inl (hw _ (gm 17 rfl))) Via.refl e186 Fq195 Fq194 (Or.inl (hw _ (gm 18 rfl))) (hw _ (gm 1 rfl)) (ty := .int) (by decide) rfl rfl (g := (mkF m 115 #[vR (a_o), vD ((own_D x)), s_, vD ((own_D (own_rn ((own_rn (x + p0)) + p1)))), s_, vI (2), vI (2), vD ((own_D p1)), s_, vD ((own_D (own_rn ((own_rn (x + p0)) + p1)))), s_, vD ((own_D ((own_rn (x + p0)) + p1 - (own_rn ((own_rn (x + p0)) + p1))))), s_] [(.int 2), (.ref a_o)])) rfl rfl (hb hby d3_115)
        have Kc197 : Keep h0 h196 [a_o, pa] := Kc188.wr W196 (Or.inl (ga 0 rfl))
        have Zs198 : n0 ≤ h196.size := Nat.le_trans Zs189 (Keep.of_wr W196).1
        have N199 := Fr.snoc X196 N190 hg
        have Fw196 : Fld Z h196 a_o "com/example/merit/merit/ExactSum" "count" "I" (.int 2) := Fq195.same W196
        obtain ⟨fs, hr, hrun, hended, hW, hsame⟩ := X196.leave (v := none) (fun _ => rfl) (hlocks := BodyLoose.notSynchronized Bd)
        refine ⟨_, _, pre157 _ ?_, hrun, hended, _, _, rfl, ?_, ⟨_, rfl⟩, hW, hsame.mono (by decide) (by decide)⟩
        · show SS p e below m T151 73 #[vR (a_o), vD ((own_D x)), s_, vD ((own_D (own_rn ((own_rn (x + p0)) + p1)))), s_, vI (1), vI (2), vD ((own_D p1)), s_, vD ((own_D (own_rn ((own_rn (x + p0)) + p1)))), s_, vD ((own_D ((own_rn (x + p0)) + p1 - (own_rn ((own_rn (x + p0)) + p1))))), s_] [(.int (own_cmp (own_rn ((own_rn (x + p0)) + p1)) 0))] _
          refine XS.ifNo X151.here hx rfl (hb hby d3_73) rfl ((if0 _ _).trans (feq (fun q => hc73_158 (own_cmEq.mp q))).1) ?_
          refine XS.iload X151.here hx rfl (hb hby d3_76) rfl ?_
          refine XS.aloadN X151.here hx rfl (hb hby d3_78) rfl rfl ?_
          show SS p e below m T151 79 #[vR (a_o), vD ((own_D x)), s_, vD ((own_D (own_rn ((own_rn (x + p0)) + p1)))), s_, vI (1), vI (2), vD ((own_D p1)), s_, vD ((own_D (own_rn ((own_rn (x + p0)) + p1)))), s_, vD ((own_D ((own_rn (x + p0)) + p1 - (own_rn ((own_rn (x + p0)) + p1))))), s_] [(.ref a_o), (.int 1)] _
          refine st174 _ ?_
          show SS p e below m T174 82 #[vR (a_o), vD ((own_D x)), s_, vD ((own_D (own_rn ((own_rn (x + p0)) + p1)))), s_, vI (1), vI (2), vD ((own_D p1)), s_, vD ((own_D (own_rn ((own_rn (x + p0)) + p1)))), s_, vD ((own_D ((own_rn (x + p0)) + p1 - (own_rn ((own_rn (x + p0)) + p1))))), s_] [(.ref pa), (.int 1)] _
          refine X174.arraylength hx (by rw [e174]; exact Ar176.1) (State.isArrayOf_alike hZ.alike Ar176.2.1) (g := (mkF m 82 #[vR (a_o), vD ((own_D x)), s_, vD ((own_D (own_rn ((own_rn (x + p0)) + p1)))), s_, vI (1), vI (2), vD ((own_D p1)), s_, vD ((own_D (own_rn ((own_rn (x + p0)) + p1)))), s_, vD ((own_D ((own_rn (x + p0)) + p1 - (own_rn ((own_rn (x + p0)) + p1))))), s_] [(.ref pa), (.int 1)])) rfl rfl (hb hby d3_82) _ ?_
          rw [len_of S176 M176]
          show SS p e below m T174 83 #[vR (a_o), vD ((own_D x)), s_, vD ((own_D (own_rn ((own_rn (x + p0)) + p1)))), s_, vI (1), vI (2), vD ((own_D p1)), s_, vD ((own_D (own_rn ((own_rn (x + p0)) + p1)))), s_, vD ((own_D ((own_rn (x + p0)) + p1 - (own_rn ((own_rn (x + p0)) + p1))))), s_] [(.int 4), (.int 1)] _
          refine XS.icmpYes X174.here hx rfl (pc0 := 83) (pc' := 101) rfl (hb hby d3_83) rfl (feq ((by decide) : ¬ ((1 : Int32) = (4 : Int32)))).2 (by decide) (by decide) ?_
          refine XS.aloadN X174.here hx rfl (hb hby d3_101) rfl rfl ?_
          show SS p e below m T174 102 #[vR (a_o), vD ((own_D x)), s_, vD ((own_D (own_rn ((own_rn (x + p0)) + p1)))), s_, vI (1), vI (2), vD ((own_D p1)), s_, vD ((own_D (own_rn ((own_rn (x + p0)) + p1)))), s_, vD ((own_D ((own_rn (x + p0)) + p1 - (own_rn ((own_rn (x + p0)) + p1))))), s_] [(.ref a_o)] _
          refine st180 _ ?_
          show SS p e below m T180 105 #[vR (a_o), vD ((own_D x)), s_, vD ((own_D (own_rn ((own_rn (x + p0)) + p1)))), s_, vI (1), vI (2), vD ((own_D p1)), s_, vD ((own_D (own_rn ((own_rn (x + p0)) + p1)))), s_, vD ((own_D ((own_rn (x + p0)) + p1 - (own_rn ((own_rn (x + p0)) + p1))))), s_] [(.ref pa)] _
          refine XS.iload X180.here hx rfl (hb hby d3_105) rfl ?_
          refine XS.iinc X180.here hx rfl (hb hby d3_107) rfl (l' := #[vR (a_o), vD ((own_D x)), s_, vD ((own_D (own_rn ((own_rn (x + p0)) + p1)))), s_, vI (2), vI (2), vD ((own_D p1)), s_, vD ((own_D (own_rn ((own_rn (x + p0)) + p1)))), s_, vD ((own_D ((own_rn (x + p0)) + p1 - (own_rn ((own_rn (x + p0)) + p1))))), s_]) rfl ?_
          refine XS.dloadN X180.here hx rfl (hb hby d3_110) rfl ?_
          show SS p e below m T180 111 #[vR (a_o), vD ((own_D x)), s_, vD ((own_D (own_rn ((own_rn (x + p0)) + p1)))), s_, vI (2), vI (2), vD ((own_D p1)), s_, vD ((own_D (own_rn ((own_rn (x + p0)) + p1)))), s_, vD ((own_D ((own_rn (x + p0)) + p1 - (own_rn ((own_rn (x + p0)) + p1))))), s_] [(.double (own_D (own_rn ((own_rn (x + p0)) + p1)))), (.int 1), (.ref pa)] _
          refine st186 _ ?_
          show SS p e below m T186 112 #[vR (a_o), vD ((own_D x)), s_, vD ((own_D (own_rn ((own_rn (x + p0)) + p1)))), s_, vI (2), vI (2), vD ((own_D p1)), s_, vD ((own_D (own_rn ((own_rn (x + p0)) + p1)))), s_, vD ((own_D ((own_rn (x + p0)) + p1 - (own_rn ((own_rn (x + p0)) + p1))))), s_] [] _
          refine XS.aloadN X186.here hx rfl (hb hby d3_112) rfl rfl ?_
          refine XS.iload X186.here hx rfl (hb hby d3_113) rfl ?_
          show SS p e below m T186 115 #[vR (a_o), vD ((own_D x)), s_, vD ((own_D (own_rn ((own_rn (x + p0)) + p1)))), s_, vI (2), vI (2), vD ((own_D p1)), s_, vD ((own_D (own_rn ((own_rn (x + p0)) + p1)))), s_, vD ((own_D ((own_rn (x + p0)) + p1 - (own_rn ((own_rn (x + p0)) + p1))))), s_] [(.int 2), (.ref a_o)] _
          refine st196 _ ?_
          show SS p e below m T196 118 #[vR (a_o), vD ((own_D x)), s_, vD ((own_D (own_rn ((own_rn (x + p0)) + p1)))), s_, vI (2), vI (2), vD ((own_D p1)), s_, vD ((own_D (own_rn ((own_rn (x + p0)) + p1)))), s_, vD ((own_D ((own_rn (x + p0)) + p1 - (own_rn ((own_rn (x + p0)) + p1))))), s_] [] _
          exact X196.returnOut hx Bd.returns (hb hby d3_118) hr
        · show Qown_add2 Z x a_o pa k_p p0 p1 w2 w3 h0 n0 _ T196.heap _
          rw [e196]
          have hv : (own_add2_f x p0 p1) = [((own_rn (x + p0)) + p1 - (own_rn ((own_rn (x + p0)) + p1))), (own_rn ((own_rn (x + p0)) + p1))] := by unfold own_add2_f; rw [if_pos hc46_37, if_neg hc46_72, if_neg hc73_158]
          have Fq201 : Fld Z h196 a_o "com/example/merit/merit/ExactSum" "partials" "[D" (.ref pa) := ((Fq173.other W186 (Or.inl hne)).other W196 (Or.inr (slot_ne (Or.inl (hw _ (gm 11 rfl))) (Or.inl (hw _ (gm 18 rfl))) (by decide) (t := (.array .double)) (t' := .int) (by decide) (by decide))))
          have Fq202 : Arv Z h196 pa k_p .double (4 : Int32) [(.double (own_D ((own_rn (x + p0)) + p1 - (own_rn ((own_rn (x + p0)) + p1))))), (.double (own_D (own_rn ((own_rn (x + p0)) + p1)))), w2, w3] (.double FP.dconst0) := (Vm187.other W196 (Ne.symm hne))
          exact ⟨[(.double (own_D ((own_rn (x + p0)) + p1 - (own_rn ((own_rn (x + p0)) + p1))))), (.double (own_D (own_rn ((own_rn (x + p0)) + p1)))), w2, w3], rfl, N199, Kc197, Fq201, Fq202, (by rw [hv]; exact Fw196), (by rw [hv]; exact ⟨rfl, rfl⟩)⟩
  · obtain ⟨T205, X205, e205, st205⟩ := getF X28 hx hZ hown (host := "") (Or.inl (hw _ (gm 10 rfl))) Via.refl eh28 hfp (g := (mkF m 50 #[vR (a_o), vD ((own_D x)), s_, vD ((own_D x)), s_, vI (0), vI (0), vD ((own_D p0)), s_, vD ((own_D (own_rn (x + p0)))), s_, vD ((own_D (x + p0 - (own_rn (x + p0))))), s_] [(.ref a_o)])) rfl rfl (hb hby d3_50)
    obtain ⟨cl210, Ar210, q210, S210, M210, H210, G210⟩ := id hA
    have hin210 : ¬ ((0 : Int32) < 0 ∨ cl210.slots.size ≤ ((0 : Int32)).toNatClampNeg) := inb_of S210 ⟨by decide, by decide⟩
    obtain ⟨T211, h211, X211, e211, W211, st211⟩ := stD X205 hx hZ e205 Ar210 (j := (0 : Int32)) hin210 (g := (mkF m 60 #[vR (a_o), vD ((own_D x)), s_, vD ((own_D x)), s_, vI (1), vI (0), vD ((own_D p0)), s_, vD ((own_D (own_rn (x + p0)))), s_, vD ((own_D (x + p0 - (own_rn (x + p0))))), s_] [(.double (own_D (x + p0 - (own_rn (x + p0))))), (.int 0), (.ref pa)])) rfl rfl (hb hby d3_60)
    have Kc213 : Keep h0 h211 [a_o, pa] := (Keep.refl h0 [a_o, pa]).wr W211 (Or.inl (ga 1 rfl))
    have Zs214 : n0 ≤ h211.size := Nat.le_trans Z0 (Keep.of_wr W211).1
    have N215 := Fr.snoc X211 N29 hgp
    have Vm212 : Arv Z h211 pa k_p .double (4 : Int32) [(.double (own_D (x + p0 - (own_rn (x + p0))))), (.double (own_D p1)), w2, w3] (.double FP.dconst0) := Arv.set Ar210 q210 S210 M210 H210 G210 rfl W211 0 rfl (Nat.le_of_ble_eq_true rfl)
    have Fq223 : Fld Z h211 a_o "com/example/merit/merit/ExactSum" "count" "I" (.int 2) := (hfc.other W211 (Or.inl hne))
    obtain ⟨T224, X224, e224, st224⟩ := getF X211 hx hZ hown (host := "") (Or.inl (hw _ (gm 17 rfl))) Via.refl e211 Fq223 (g := (mkF m 11 #[vR (a_o), vD ((own_D x)), s_, vD ((own_D (own_rn (x + p0)))), s_, vI (1), vI (1), vD ((own_D p0)), s_, vD ((own_D (own_rn (x + p0)))), s_, vD ((own_D (x + p0 - (own_rn (x + p0))))), s_] [(.ref a_o), (.int 1)])) rfl rfl (hb hby d3_11)
    have Fq228 : Fld Z h211 a_o "com/example/merit/merit/ExactSum" "partials" "[D" (.ref pa) := (hfp.other W211 (Or.inl hne))
    obtain ⟨T229, X229, e229, st229⟩ := getF X224 hx hZ hown (host := "") (Or.inl (hw _ (gm 10 rfl))) Via.refl e224 Fq228 (g := (mkF m 18 #[vR (a_o), vD ((own_D x)), s_, vD ((own_D (own_rn (x + p0)))), s_, vI (1), vI (1), vD ((own_D p0)), s_, vD ((own_D (own_rn (x + p0)))), s_, vD ((own_D (x + p0 - (own_rn (x + p0))))), s_] [(.ref a_o)])) rfl rfl (hb hby d3_18)
    obtain ⟨cl232, Ar232, q232, S232, M232, H232, G232⟩ := id Vm212
    have hin232 : ¬ ((1 : Int32) < 0 ∨ cl232.slots.size ≤ ((1 : Int32)).toNatClampNeg) := inb_of S232 ⟨by decide, by decide⟩
    have hat232 : cl232.slots[((1 : Int32)).toNatClampNeg]? = some (.double (own_D p1)) := H232.at hin232 rfl
    have hq237 : FP.dadd (own_D (own_rn (x + p0))) (own_D p1) = own_D (own_rn ((own_rn (x + p0)) + p1)) := own_Dadd (own_rrn _) hr1 (by omega) (by omega) (by omega) (by omega) (by omega) (by omega)
    have hq237E := own_errSm (n := (own_rn (x + p0)) + p1) (by omega) (by omega)
    obtain ⟨_, _, ⟨T243, L243, k243, n243⟩, -, X243, ⟨Lc243, hQ243, l243, y243, z243⟩, st243⟩ := Jvm.LawKit.callS X229 hx (y := (⟨"com/example/merit/merit/ExactSum", "roundingError", "(DDD)D"⟩ : MethodName)) hown (mvT hZ (hw _ (gm 24 rfl))) (mvT hZ (hw _ (gm 25 rfl))) (mvT hZ (hw _ (gm 2 rfl))) (mvT hZ (hw _ (gm 26 rfl))) (by decide) (backOf (W := 0) (own_re l Z a0 hw [] (own_rn (x + p0)) p1 (own_rn ((own_rn (x + p0)) + p1)) h211 n0 Zs214 (own_rrn _) hr1 rfl (by omega)) hZ (hw _ (gm 26 rfl)) (hw _ (gm 2 rfl)) (by decide) (by decide)) (g := (mkF m 37 #[vR (a_o), vD ((own_D x)), s_, vD ((own_D (own_rn (x + p0)))), s_, vI (1), vI (1), vD ((own_D p1)), s_, vD ((own_D (own_rn ((own_rn (x + p0)) + p1)))), s_, vD ((own_D (x + p0 - (own_rn (x + p0))))), s_] [(.double (own_D (own_rn ((own_rn (x + p0)) + p1)))), (.double (own_D p1)), (.double (own_D (own_rn (x + p0))))])) rfl (by rw [hml]; rfl) (argsL := [(.double (own_D (own_rn (x + p0)))), (.double (own_D p1)), (.double (own_D (own_rn ((own_rn (x + p0)) + p1))))]) (rest := []) (lenOf own_pd0 rfl) rfl (by show 2 * 0 + _ ≤ _; exact Nat.le_of_eq rfl) (hb hby d3_37) (fun _ _ => ⟨rfl, e229, (by decide : 0 + 0 ≤ _), (by decide : 0 + 0 ≤ _)⟩)
    dsimp only [Pt.U, Pt.locs, Pt.cells, Pt.slots] at X243 l243 y243 z243 st243 hQ243
    rw [l243, y243, z243] at X243
    obtain ⟨rfl, Nq243, eh243⟩ := hQ243
    have N244 := Fr.app N215 Nq243
    have hRe245 : own_Rep ((own_rn (x + p0)) + p1 - (own_rn ((own_rn (x + p0)) + p1))) := own_repSm (by omega) (by omega)
    have pre251 : ∀ t, Steps p.tables e below (T243.setTop (mkF m 46 #[vR (a_o), vD ((own_D x)), s_, vD ((own_D (own_rn (x + p0)))), s_, vI (1), vI (1), vD ((own_D p1)), s_, vD ((own_D (own_rn ((own_rn (x + p0)) + p1)))), s_, vD ((own_D ((own_rn (x + p0)) + p1 - (own_rn ((own_rn (x + p0)) + p1))))), s_] [(.int (own_cmp ((own_rn (x + p0)) + p1 - (own_rn ((own_rn (x + p0)) + p1))) 0))])) t → Steps p.tables e below (s₁.setTop (entryFrame m #[(.ref a_o), (.double (own_D x))] 13)) t := by
      intro t kt
      refine pre36 _ ?_
      show SS p e below m T28 46 #[vR (a_o), vD ((own_D x)), s_, vD ((own_D x)), s_, vI (0), vI (0), vD ((own_D p0)), s_, vD ((own_D (own_rn (x + p0)))), s_, vD ((own_D (x + p0 - (own_rn (x + p0))))), s_] [(.int (own_cmp (x + p0 - (own_rn (x + p0))) 0))] _
      refine XS.ifNo X28.here hx rfl (hb hby d3_46) rfl ((if0 _ _).trans (feq (fun q => hc46_37 (own_cmEq.mp q))).1) ?_
      refine XS.aloadN X28.here hx rfl (hb hby d3_49) rfl rfl ?_
      show SS p e below m T28 50 #[vR (a_o), vD ((own_D x)), s_, vD ((own_D x)), s_, vI (0), vI (0), vD ((own_D p0)), s_, vD ((own_D (own_rn (x + p0)))), s_, vD ((own_D (x + p0 - (own_rn (x + p0))))), s_] [(.ref a_o)] _
      refine st205 _ ?_
      show SS p e below m T205 53 #[vR (a_o), vD ((own_D x)), s_, vD ((own_D x)), s_, vI (0), vI (0), vD ((own_D p0)), s_, vD ((own_D (own_rn (x + p0)))), s_, vD ((own_D (x + p0 - (own_rn (x + p0))))), s_] [(.ref pa)] _
      refine XS.iload X205.here hx rfl (hb hby d3_53) rfl ?_
      refine XS.iinc X205.here hx rfl (hb hby d3_55) rfl (l' := #[vR (a_o), vD ((own_D x)), s_, vD ((own_D x)), s_, vI (1), vI (0), vD ((own_D p0)), s_, vD ((own_D (own_rn (x + p0)))), s_, vD ((own_D (x + p0 - (own_rn (x + p0))))), s_]) rfl ?_
      refine XS.dload X205.here hx rfl (hb hby d3_58) rfl ?_
      show SS p e below m T205 60 #[vR (a_o), vD ((own_D x)), s_, vD ((own_D x)), s_, vI (1), vI (0), vD ((own_D p0)), s_, vD ((own_D (own_rn (x + p0)))), s_, vD ((own_D (x + p0 - (own_rn (x + p0))))), s_] [(.double (own_D (x + p0 - (own_rn (x + p0))))), (.int 0), (.ref pa)] _
      refine st211 _ ?_
      show SS p e below m T211 61 #[vR (a_o), vD ((own_D x)), s_, vD ((own_D x)), s_, vI (1), vI (0), vD ((own_D p0)), s_, vD ((own_D (own_rn (x + p0)))), s_, vD ((own_D (x + p0 - (own_rn (x + p0))))), s_] [] _
      refine XS.dload X211.here hx rfl (hb hby d3_61) rfl ?_
      refine XS.dstoreN X211.here hx rfl (hb hby d3_63) rfl (l' := #[vR (a_o), vD ((own_D x)), s_, vD ((own_D (own_rn (x + p0)))), s_, vI (1), vI (0), vD ((own_D p0)), s_, vD ((own_D (own_rn (x + p0)))), s_, vD ((own_D (x + p0 - (own_rn (x + p0))))), s_]) rfl ?_
      refine XS.iinc X211.here hx rfl (hb hby d3_64) rfl (l' := #[vR (a_o), vD ((own_D x)), s_, vD ((own_D (own_rn (x + p0)))), s_, vI (1), vI (1), vD ((own_D p0)), s_, vD ((own_D (own_rn (x + p0)))), s_, vD ((own_D (x + p0 - (own_rn (x + p0))))), s_]) rfl ?_
      show SS p e below m T211 67 #[vR (a_o), vD ((own_D x)), s_, vD ((own_D (own_rn (x + p0)))), s_, vI (1), vI (1), vD ((own_D p0)), s_, vD ((own_D (own_rn (x + p0)))), s_, vD ((own_D (x + p0 - (own_rn (x + p0))))), s_] [] _
      refine XS.goto X211.here hx rfl (pc0 := 67) (pc' := 8) rfl (hb hby d3_67) (by decide) (by decide) ?_
      refine XS.iload X211.here hx rfl (hb hby d3_8) rfl ?_
      refine XS.aloadN X211.here hx rfl (hb hby d3_10) rfl rfl ?_
      show SS p e below m T211 11 #[vR (a_o), vD ((own_D x)), s_, vD ((own_D (own_rn (x + p0)))), s_, vI (1), vI (1), vD ((own_D p0)), s_, vD ((own_D (own_rn (x + p0)))), s_, vD ((own_D (x + p0 - (own_rn (x + p0))))), s_] [(.ref a_o), (.int 1)] _
      refine st224 _ ?_
      show SS p e below m T224 14 #[vR (a_o), vD ((own_D x)), s_, vD ((own_D (own_rn (x + p0)))), s_, vI (1), vI (1), vD ((own_D p0)), s_, vD ((own_D (own_rn (x + p0)))), s_, vD ((own_D (x + p0 - (own_rn (x + p0))))), s_] [(.int 2), (.int 1)] _
      refine XS.icmpNo X224.here hx rfl (hb hby d3_14) rfl (tlt ((by decide) : (1 : Int32) < (2 : Int32))).2.1 ?_
      refine XS.aloadN X224.here hx rfl (hb hby d3_17) rfl rfl ?_
      show SS p e below m T224 18 #[vR (a_o), vD ((own_D x)), s_, vD ((own_D (own_rn (x + p0)))), s_, vI (1), vI (1), vD ((own_D p0)), s_, vD ((own_D (own_rn (x + p0)))), s_, vD ((own_D (x + p0 - (own_rn (x + p0))))), s_] [(.ref a_o)] _
      refine st229 _ ?_
      show SS p e below m T229 21 #[vR (a_o), vD ((own_D x)), s_, vD ((own_D (own_rn (x + p0)))), s_, vI (1), vI (1), vD ((own_D p0)), s_, vD ((own_D (own_rn (x + p0)))), s_, vD ((own_D (x + p0 - (own_rn (x + p0))))), s_] [(.ref pa)] _
      refine XS.iload X229.here hx rfl (hb hby d3_21) rfl ?_
      show SS p e below m T229 23 #[vR (a_o), vD ((own_D x)), s_, vD ((own_D (own_rn (x + p0)))), s_, vI (1), vI (1), vD ((own_D p0)), s_, vD ((own_D (own_rn (x + p0)))), s_, vD ((own_D (x + p0 - (own_rn (x + p0))))), s_] [(.int 1), (.ref pa)] _
      refine X229.daload hx (j := (1 : Int32)) (v := (.double (own_D p1))) (by rw [e229]; exact Ar232.1) (State.isArrayOf_alike hZ.alike Ar232.2.1) Ar232.2.2 hin232 hat232 (g := (mkF m 23 #[vR (a_o), vD ((own_D x)), s_, vD ((own_D (own_rn (x + p0)))), s_, vI (1), vI (1), vD ((own_D p0)), s_, vD ((own_D (own_rn (x + p0)))), s_, vD ((own_D (x + p0 - (own_rn (x + p0))))), s_] [(.int 1), (.ref pa)])) rfl rfl (hb hby d3_23) _ ?_
      show SS p e below m T229 24 #[vR (a_o), vD ((own_D x)), s_, vD ((own_D (own_rn (x + p0)))), s_, vI (1), vI (1), vD ((own_D p0)), s_, vD ((own_D (own_rn (x + p0)))), s_, vD ((own_D (x + p0 - (own_rn (x + p0))))), s_] [(.double (own_D p1))] _
      refine XS.dstore X229.here hx rfl (hb hby d3_24) rfl (l' := #[vR (a_o), vD ((own_D x)), s_, vD ((own_D (own_rn (x + p0)))), s_, vI (1), vI (1), vD ((own_D p1)), s_, vD ((own_D (own_rn (x + p0)))), s_, vD ((own_D (x + p0 - (own_rn (x + p0))))), s_]) rfl ?_
      refine XS.dloadN X229.here hx rfl (hb hby d3_26) rfl ?_
      refine XS.dload X229.here hx rfl (hb hby d3_27) rfl ?_
      show SS p e below m T229 29 #[vR (a_o), vD ((own_D x)), s_, vD ((own_D (own_rn (x + p0)))), s_, vI (1), vI (1), vD ((own_D p1)), s_, vD ((own_D (own_rn (x + p0)))), s_, vD ((own_D (x + p0 - (own_rn (x + p0))))), s_] [(.double (own_D p1)), (.double (own_D (own_rn (x + p0))))] _
      refine XS.daddS X229.here hx rfl (hb hby d3_29) rfl (nn_w (a := Int64.ofInt (own_rn ((own_rn (x + p0)) + p1))) hq237) hq237 ?_
      show SS p e below m T229 30 #[vR (a_o), vD ((own_D x)), s_, vD ((own_D (own_rn (x + p0)))), s_, vI (1), vI (1), vD ((own_D p1)), s_, vD ((own_D (own_rn (x + p0)))), s_, vD ((own_D (x + p0 - (own_rn (x + p0))))), s_] [(.double (own_D (own_rn ((own_rn (x + p0)) + p1))))] _
      refine XS.dstore X229.here hx rfl (hb hby d3_30) rfl (l' := #[vR (a_o), vD ((own_D x)), s_, vD ((own_D (own_rn (x + p0)))), s_, vI (1), vI (1), vD ((own_D p1)), s_, vD ((own_D (own_rn ((own_rn (x + p0)) + p1)))), s_, vD ((own_D (x + p0 - (own_rn (x + p0))))), s_]) rfl ?_
      refine XS.dloadN X229.here hx rfl (hb hby d3_32) rfl ?_
      refine XS.dload X229.here hx rfl (hb hby d3_33) rfl ?_
      show SS p e below m T229 35 #[vR (a_o), vD ((own_D x)), s_, vD ((own_D (own_rn (x + p0)))), s_, vI (1), vI (1), vD ((own_D p1)), s_, vD ((own_D (own_rn ((own_rn (x + p0)) + p1)))), s_, vD ((own_D (x + p0 - (own_rn (x + p0))))), s_] [(.double (own_D p1)), (.double (own_D (own_rn (x + p0))))] _
      refine XS.dload X229.here hx rfl (hb hby d3_35) rfl ?_
      show SS p e below m T229 37 #[vR (a_o), vD ((own_D x)), s_, vD ((own_D (own_rn (x + p0)))), s_, vI (1), vI (1), vD ((own_D p1)), s_, vD ((own_D (own_rn ((own_rn (x + p0)) + p1)))), s_, vD ((own_D (x + p0 - (own_rn (x + p0))))), s_] [(.double (own_D (own_rn ((own_rn (x + p0)) + p1)))), (.double (own_D p1)), (.double (own_D (own_rn (x + p0))))] _
      refine st243 _ ?_
      show SS p e below m T243 40 #[vR (a_o), vD ((own_D x)), s_, vD ((own_D (own_rn (x + p0)))), s_, vI (1), vI (1), vD ((own_D p1)), s_, vD ((own_D (own_rn ((own_rn (x + p0)) + p1)))), s_, vD ((own_D (x + p0 - (own_rn (x + p0))))), s_] [(.double (own_D ((own_rn (x + p0)) + p1 - (own_rn ((own_rn (x + p0)) + p1)))))] _
      refine XS.dstore X243.here hx rfl (hb hby d3_40) rfl (l' := #[vR (a_o), vD ((own_D x)), s_, vD ((own_D (own_rn (x + p0)))), s_, vI (1), vI (1), vD ((own_D p1)), s_, vD ((own_D (own_rn ((own_rn (x + p0)) + p1)))), s_, vD ((own_D ((own_rn (x + p0)) + p1 - (own_rn ((own_rn (x + p0)) + p1))))), s_]) rfl ?_
      refine XS.dload X243.here hx rfl (hb hby d3_42) rfl ?_
      refine XS.dconst0 X243.here hx rfl (hb hby d3_44) own_c0 ?_
      show SS p e below m T243 45 #[vR (a_o), vD ((own_D x)), s_, vD ((own_D (own_rn (x + p0)))), s_, vI (1), vI (1), vD ((own_D p1)), s_, vD ((own_D (own_rn ((own_rn (x + p0)) + p1)))), s_, vD ((own_D ((own_rn (x + p0)) + p1 - (own_rn ((own_rn (x + p0)) + p1))))), s_] [(.double (own_D 0)), (.double (own_D ((own_rn (x + p0)) + p1 - (own_rn ((own_rn (x + p0)) + p1)))))] _
      refine XS.dcmpS X243.here hx rfl (hb hby d3_45) rfl (own_DcmpV hRe245 own_rep0 (by omega) (by omega) (by omega) (by omega) _) ?_
      exact kt
    by_cases hc46_252 : ((own_rn (x + p0)) + p1 - (own_rn ((own_rn (x + p0)) + p1))) = 0
    · obtain ⟨T260, X260, e260, st260⟩ := getF X243 hx hZ hown (host := "") (Or.inl (hw _ (gm 17 rfl))) Via.refl eh243 Fq223 (g := (mkF m 11 #[vR (a_o), vD ((own_D x)), s_, vD ((own_D (own_rn ((own_rn (x + p0)) + p1)))), s_, vI (1), vI (2), vD ((own_D p1)), s_, vD ((own_D (own_rn ((own_rn (x + p0)) + p1)))), s_, vD ((own_D ((own_rn (x + p0)) + p1 - (own_rn ((own_rn (x + p0)) + p1))))), s_] [(.ref a_o), (.int 2)])) rfl rfl (hb hby d3_11)
      have pre266 : ∀ t, Steps p.tables e below (T260.setTop (mkF m 73 #[vR (a_o), vD ((own_D x)), s_, vD ((own_D (own_rn ((own_rn (x + p0)) + p1)))), s_, vI (1), vI (2), vD ((own_D p1)), s_, vD ((own_D (own_rn ((own_rn (x + p0)) + p1)))), s_, vD ((own_D ((own_rn (x + p0)) + p1 - (own_rn ((own_rn (x + p0)) + p1))))), s_] [(.int (own_cmp (own_rn ((own_rn (x + p0)) + p1)) 0))])) t → Steps p.tables e below (s₁.setTop (entryFrame m #[(.ref a_o), (.double (own_D x))] 13)) t := by
        intro t kt
        refine pre251 _ ?_
        show SS p e below m T243 46 #[vR (a_o), vD ((own_D x)), s_, vD ((own_D (own_rn (x + p0)))), s_, vI (1), vI (1), vD ((own_D p1)), s_, vD ((own_D (own_rn ((own_rn (x + p0)) + p1)))), s_, vD ((own_D ((own_rn (x + p0)) + p1 - (own_rn ((own_rn (x + p0)) + p1))))), s_] [(.int (own_cmp ((own_rn (x + p0)) + p1 - (own_rn ((own_rn (x + p0)) + p1))) 0))] _
        refine XS.ifYes X243.here hx rfl (pc0 := 46) (pc' := 61) rfl (hb hby d3_46) rfl ((if0 _ _).trans (teq (own_cmEq.mpr hc46_252)).1) (by decide) (by decide) ?_
        refine XS.dload X243.here hx rfl (hb hby d3_61) rfl ?_
        refine XS.dstoreN X243.here hx rfl (hb hby d3_63) rfl (l' := #[vR (a_o), vD ((own_D x)), s_, vD ((own_D (own_rn ((own_rn (x + p0)) + p1)))), s_, vI (1), vI (1), vD ((own_D p1)), s_, vD ((own_D (own_rn ((own_rn (x + p0)) + p1)))), s_, vD ((own_D ((own_rn (x + p0)) + p1 - (own_rn ((own_rn (x + p0)) + p1))))), s_]) rfl ?_
        show SS p e below m T243 64 #[vR (a_o), vD ((own_D x)), s_, vD ((own_D (own_rn ((own_rn (x + p0)) + p1)))), s_, vI (1), vI (1), vD ((own_D p1)), s_, vD ((own_D (own_rn ((own_rn (x + p0)) + p1)))), s_, vD ((own_D ((own_rn (x + p0)) + p1 - (own_rn ((own_rn (x + p0)) + p1))))), s_] [] _
        refine XS.iinc X243.here hx rfl (hb hby d3_64) rfl (l' := #[vR (a_o), vD ((own_D x)), s_, vD ((own_D (own_rn ((own_rn (x + p0)) + p1)))), s_, vI (1), vI (2), vD ((own_D p1)), s_, vD ((own_D (own_rn ((own_rn (x + p0)) + p1)))), s_, vD ((own_D ((own_rn (x + p0)) + p1 - (own_rn ((own_rn (x + p0)) + p1))))), s_]) rfl ?_
        refine XS.goto X243.here hx rfl (pc0 := 67) (pc' := 8) rfl (hb hby d3_67) (by decide) (by decide) ?_
        refine XS.iload X243.here hx rfl (hb hby d3_8) rfl ?_
        show SS p e below m T243 10 #[vR (a_o), vD ((own_D x)), s_, vD ((own_D (own_rn ((own_rn (x + p0)) + p1)))), s_, vI (1), vI (2), vD ((own_D p1)), s_, vD ((own_D (own_rn ((own_rn (x + p0)) + p1)))), s_, vD ((own_D ((own_rn (x + p0)) + p1 - (own_rn ((own_rn (x + p0)) + p1))))), s_] [(.int 2)] _
        refine XS.aloadN X243.here hx rfl (hb hby d3_10) rfl rfl ?_
        show SS p e below m T243 11 #[vR (a_o), vD ((own_D x)), s_, vD ((own_D (own_rn ((own_rn (x + p0)) + p1)))), s_, vI (1), vI (2), vD ((own_D p1)), s_, vD ((own_D (own_rn ((own_rn (x + p0)) + p1)))), s_, vD ((own_D ((own_rn (x + p0)) + p1 - (own_rn ((own_rn (x + p0)) + p1))))), s_] [(.ref a_o), (.int 2)] _
        refine st260 _ ?_
        show SS p e below m T260 14 #[vR (a_o), vD ((own_D x)), s_, vD ((own_D (own_rn ((own_rn (x + p0)) + p1)))), s_, vI (1), vI (2), vD ((own_D p1)), s_, vD ((own_D (own_rn ((own_rn (x + p0)) + p1)))), s_, vD ((own_D ((own_rn (x + p0)) + p1 - (own_rn ((own_rn (x + p0)) + p1))))), s_] [(.int 2), (.int 2)] _
        refine XS.icmpYes X260.here hx rfl (pc0 := 14) (pc' := 70) rfl (hb hby d3_14) rfl (flt ((by decide) : ¬ ((2 : Int32) < (2 : Int32)))).2.1 (by decide) (by decide) ?_
        refine XS.dloadN X260.here hx rfl (hb hby d3_70) rfl ?_
        refine XS.dconst0 X260.here hx rfl (hb hby d3_71) own_c0 ?_
        show SS p e below m T260 72 #[vR (a_o), vD ((own_D x)), s_, vD ((own_D (own_rn ((own_rn (x + p0)) + p1)))), s_, vI (1), vI (2), vD ((own_D p1)), s_, vD ((own_D (own_rn ((own_rn (x + p0)) + p1)))), s_, vD ((own_D ((own_rn (x + p0)) + p1 - (own_rn ((own_rn (x + p0)) + p1))))), s_] [(.double (own_D 0)), (.double (own_D (own_rn ((own_rn (x + p0)) + p1))))] _
        refine XS.dcmpS X260.here hx rfl (hb hby d3_72) rfl (own_DcmpV (own_rrn _) own_rep0 (by omega) (by omega) (by omega) (by omega) _) ?_
        exact kt
      by_cases hc73_267 : (own_rn ((own_rn (x + p0)) + p1)) = 0
      · have Fq271 : Exa Z h211 a_o "com/example/merit/merit/ExactSum" := (hxa.wr W211)
        obtain ⟨T272, h272, X272, e272, W272, st272⟩ := putF X260 hx hZ hown (host := "") (Or.inl (hw _ (gm 17 rfl))) Via.refl e260 Fq223 Fq271 (Or.inl (hw _ (gm 18 rfl))) (hw _ (gm 1 rfl)) (ty := .int) (by decide) rfl rfl (g := (mkF m 115 #[vR (a_o), vD ((own_D x)), s_, vD ((own_D (own_rn ((own_rn (x + p0)) + p1)))), s_, vI (1), vI (2), vD ((own_D p1)), s_, vD ((own_D (own_rn ((own_rn (x + p0)) + p1)))), s_, vD ((own_D ((own_rn (x + p0)) + p1 - (own_rn ((own_rn (x + p0)) + p1))))), s_] [(.int 1), (.ref a_o)])) rfl rfl (hb hby d3_115)
        have Kc273 : Keep h0 h272 [a_o, pa] := Kc213.wr W272 (Or.inl (ga 0 rfl))
        have Zs274 : n0 ≤ h272.size := Nat.le_trans Zs214 (Keep.of_wr W272).1
        have N275 := Fr.snoc X272 N244 hg
        have Fw272 : Fld Z h272 a_o "com/example/merit/merit/ExactSum" "count" "I" (.int 1) := Fq223.same W272
        obtain ⟨fs, hr, hrun, hended, hW, hsame⟩ := X272.leave (v := none) (fun _ => rfl) (hlocks := BodyLoose.notSynchronized Bd)
        refine ⟨_, _, pre266 _ ?_, hrun, hended, _, _, rfl, ?_, ⟨_, rfl⟩, hW, hsame.mono (by decide) (by decide)⟩
        · show SS p e below m T260 73 #[vR (a_o), vD ((own_D x)), s_, vD ((own_D (own_rn ((own_rn (x + p0)) + p1)))), s_, vI (1), vI (2), vD ((own_D p1)), s_, vD ((own_D (own_rn ((own_rn (x + p0)) + p1)))), s_, vD ((own_D ((own_rn (x + p0)) + p1 - (own_rn ((own_rn (x + p0)) + p1))))), s_] [(.int (own_cmp (own_rn ((own_rn (x + p0)) + p1)) 0))] _
          refine XS.ifYes X260.here hx rfl (pc0 := 73) (pc' := 112) rfl (hb hby d3_73) rfl ((if0 _ _).trans (teq (own_cmEq.mpr hc73_267)).1) (by decide) (by decide) ?_
          refine XS.aloadN X260.here hx rfl (hb hby d3_112) rfl rfl ?_
          refine XS.iload X260.here hx rfl (hb hby d3_113) rfl ?_
          show SS p e below m T260 115 #[vR (a_o), vD ((own_D x)), s_, vD ((own_D (own_rn ((own_rn (x + p0)) + p1)))), s_, vI (1), vI (2), vD ((own_D p1)), s_, vD ((own_D (own_rn ((own_rn (x + p0)) + p1)))), s_, vD ((own_D ((own_rn (x + p0)) + p1 - (own_rn ((own_rn (x + p0)) + p1))))), s_] [(.int 1), (.ref a_o)] _
          refine st272 _ ?_
          show SS p e below m T272 118 #[vR (a_o), vD ((own_D x)), s_, vD ((own_D (own_rn ((own_rn (x + p0)) + p1)))), s_, vI (1), vI (2), vD ((own_D p1)), s_, vD ((own_D (own_rn ((own_rn (x + p0)) + p1)))), s_, vD ((own_D ((own_rn (x + p0)) + p1 - (own_rn ((own_rn (x + p0)) + p1))))), s_] [] _
          exact X272.returnOut hx Bd.returns (hb hby d3_118) hr
        · show Qown_add2 Z x a_o pa k_p p0 p1 w2 w3 h0 n0 _ T272.heap _
          rw [e272]
          have hv : (own_add2_f x p0 p1) = [(x + p0 - (own_rn (x + p0)))] := by unfold own_add2_f; rw [if_neg hc46_37, if_pos hc46_252, if_pos hc73_267]
          have Fq277 : Fld Z h272 a_o "com/example/merit/merit/ExactSum" "partials" "[D" (.ref pa) := (Fq228.other W272 (Or.inr (slot_ne (Or.inl (hw _ (gm 11 rfl))) (Or.inl (hw _ (gm 18 rfl))) (by decide) (t := (.array .double)) (t' := .int) (by decide) (by decide))))
          have Fq278 : Arv Z h272 pa k_p .double (4 : Int32) [(.double (own_D (x + p0 - (own_rn (x + p0))))), (.double (own_D p1)), w2, w3] (.double FP.dconst0) := (Vm212.other W272 (Ne.symm hne))
          exact ⟨[(.double (own_D (x + p0 - (own_rn (x + p0))))), (.double (own_D p1)), w2, w3], rfl, N275, Kc273, Fq277, Fq278, (by rw [hv]; exact Fw272), (by rw [hv]; exact ⟨rfl, rfl⟩)⟩
      · obtain ⟨T282, X282, e282, st282⟩ := getF X260 hx hZ hown (host := "") (Or.inl (hw _ (gm 10 rfl))) Via.refl e260 Fq228 (g := (mkF m 79 #[vR (a_o), vD ((own_D x)), s_, vD ((own_D (own_rn ((own_rn (x + p0)) + p1)))), s_, vI (1), vI (2), vD ((own_D p1)), s_, vD ((own_D (own_rn ((own_rn (x + p0)) + p1)))), s_, vD ((own_D ((own_rn (x + p0)) + p1 - (own_rn ((own_rn (x + p0)) + p1))))), s_] [(.ref a_o), (.int 1)])) rfl rfl (hb hby d3_79)
        obtain ⟨cl284, Ar284, -, S284, M284, -, -⟩ := id Vm212
        obtain ⟨T288, X288, e288, st288⟩ := getF X282 hx hZ hown (host := "") (Or.inl (hw _ (gm 10 rfl))) Via.refl e282 Fq228 (g := (mkF m 102 #[vR (a_o), vD ((own_D x)), s_, vD ((own_D (own_rn ((own_rn (x + p0)) + p1)))), s_, vI (1), vI (2), vD ((own_D p1)), s_, vD ((own_D (own_rn ((own_rn (x + p0)) + p1)))), s_, vD ((own_D ((own_rn (x + p0)) + p1 - (own_rn ((own_rn (x + p0)) + p1))))), s_] [(.ref a_o)])) rfl rfl (hb hby d3_102)
        obtain ⟨cl293, Ar293, q293, S293, M293, H293, G293⟩ := id Vm212
        have hin293 : ¬ ((1 : Int32) < 0 ∨ cl293.slots.size ≤ ((1 : Int32)).toNatClampNeg) := inb_of S293 ⟨by decide, by decide⟩
        obtain ⟨T294, h294, X294, e294, W294, st294⟩ := stD X288 hx hZ e288 Ar293 (j := (1 : Int32)) hin293 (g := (mkF m 111 #[vR (a_o), vD ((own_D x)), s_, vD ((own_D (own_rn ((own_rn (x + p0)) + p1)))), s_, vI (2), vI (2), vD ((own_D p1)), s_, vD ((own_D (own_rn ((own_rn (x + p0)) + p1)))), s_, vD ((own_D ((own_rn (x + p0)) + p1 - (own_rn ((own_rn (x + p0)) + p1))))), s_] [(.double (own_D (own_rn ((own_rn (x + p0)) + p1)))), (.int 1), (.ref pa)])) rfl rfl (hb hby d3_111)
        have Kc296 : Keep h0 h294 [a_o, pa] := Kc213.wr W294 (Or.inl (ga 1 rfl))
        have Zs297 : n0 ≤ h294.size := Nat.le_trans Zs214 (Keep.of_wr W294).1
        have N298 := Fr.snoc X294 N244 hgp
        have Vm295 : Arv Z h294 pa k_p .double (4 : Int32) [(.double (own_D (x + p0 - (own_rn (x + p0))))), (.double (own_D (own_rn ((own_rn (x + p0)) + p1)))), w2, w3] (.double FP.dconst0) := Arv.set Ar293 q293 S293 M293 H293 G293 rfl W294 1 rfl (Nat.le_of_ble_eq_true rfl)
        have Fq302 : Exa Z h294 a_o "com/example/merit/merit/ExactSum" := ((hxa.wr W211).wr W294)
        have Fq303 : Fld Z h294 a_o "com/example/merit/merit/ExactSum" "count" "I" (.int 2) := (Fq223.other W294 (Or.inl hne))
        obtain ⟨T304, h304, X304, e304, W304, st304⟩ := putF X294 hx hZ hown (host := "") (Or.inl (hw _ (gm 17 rfl))) Via.refl e294 Fq303 Fq302 (Or.inl (hw _ (gm 18 rfl))) (hw _ (gm 1 rfl)) (ty := .int) (by decide) rfl rfl (g := (mkF m 115 #[vR (a_o), vD ((own_D x)), s_, vD ((own_D (own_rn ((own_rn (x + p0)) + p1)))), s_, vI (2), vI (2), vD ((own_D p1)), s_, vD ((own_D (own_rn ((own_rn (x + p0)) + p1)))), s_, vD ((own_D ((own_rn (x + p0)) + p1 - (own_rn ((own_rn (x + p0)) + p1))))), s_] [(.int 2), (.ref a_o)])) rfl rfl (hb hby d3_115)
        have Kc305 : Keep h0 h304 [a_o, pa] := Kc296.wr W304 (Or.inl (ga 0 rfl))
        have Zs306 : n0 ≤ h304.size := Nat.le_trans Zs297 (Keep.of_wr W304).1
        have N307 := Fr.snoc X304 N298 hg
        have Fw304 : Fld Z h304 a_o "com/example/merit/merit/ExactSum" "count" "I" (.int 2) := Fq303.same W304
        obtain ⟨fs, hr, hrun, hended, hW, hsame⟩ := X304.leave (v := none) (fun _ => rfl) (hlocks := BodyLoose.notSynchronized Bd)
        refine ⟨_, _, pre266 _ ?_, hrun, hended, _, _, rfl, ?_, ⟨_, rfl⟩, hW, hsame.mono (by decide) (by decide)⟩
        · show SS p e below m T260 73 #[vR (a_o), vD ((own_D x)), s_, vD ((own_D (own_rn ((own_rn (x + p0)) + p1)))), s_, vI (1), vI (2), vD ((own_D p1)), s_, vD ((own_D (own_rn ((own_rn (x + p0)) + p1)))), s_, vD ((own_D ((own_rn (x + p0)) + p1 - (own_rn ((own_rn (x + p0)) + p1))))), s_] [(.int (own_cmp (own_rn ((own_rn (x + p0)) + p1)) 0))] _
          refine XS.ifNo X260.here hx rfl (hb hby d3_73) rfl ((if0 _ _).trans (feq (fun q => hc73_267 (own_cmEq.mp q))).1) ?_
          refine XS.iload X260.here hx rfl (hb hby d3_76) rfl ?_
          refine XS.aloadN X260.here hx rfl (hb hby d3_78) rfl rfl ?_
          show SS p e below m T260 79 #[vR (a_o), vD ((own_D x)), s_, vD ((own_D (own_rn ((own_rn (x + p0)) + p1)))), s_, vI (1), vI (2), vD ((own_D p1)), s_, vD ((own_D (own_rn ((own_rn (x + p0)) + p1)))), s_, vD ((own_D ((own_rn (x + p0)) + p1 - (own_rn ((own_rn (x + p0)) + p1))))), s_] [(.ref a_o), (.int 1)] _
          refine st282 _ ?_
          show SS p e below m T282 82 #[vR (a_o), vD ((own_D x)), s_, vD ((own_D (own_rn ((own_rn (x + p0)) + p1)))), s_, vI (1), vI (2), vD ((own_D p1)), s_, vD ((own_D (own_rn ((own_rn (x + p0)) + p1)))), s_, vD ((own_D ((own_rn (x + p0)) + p1 - (own_rn ((own_rn (x + p0)) + p1))))), s_] [(.ref pa), (.int 1)] _
          refine X282.arraylength hx (by rw [e282]; exact Ar284.1) (State.isArrayOf_alike hZ.alike Ar284.2.1) (g := (mkF m 82 #[vR (a_o), vD ((own_D x)), s_, vD ((own_D (own_rn ((own_rn (x + p0)) + p1)))), s_, vI (1), vI (2), vD ((own_D p1)), s_, vD ((own_D (own_rn ((own_rn (x + p0)) + p1)))), s_, vD ((own_D ((own_rn (x + p0)) + p1 - (own_rn ((own_rn (x + p0)) + p1))))), s_] [(.ref pa), (.int 1)])) rfl rfl (hb hby d3_82) _ ?_
          rw [len_of S284 M284]
          show SS p e below m T282 83 #[vR (a_o), vD ((own_D x)), s_, vD ((own_D (own_rn ((own_rn (x + p0)) + p1)))), s_, vI (1), vI (2), vD ((own_D p1)), s_, vD ((own_D (own_rn ((own_rn (x + p0)) + p1)))), s_, vD ((own_D ((own_rn (x + p0)) + p1 - (own_rn ((own_rn (x + p0)) + p1))))), s_] [(.int 4), (.int 1)] _
          refine XS.icmpYes X282.here hx rfl (pc0 := 83) (pc' := 101) rfl (hb hby d3_83) rfl (feq ((by decide) : ¬ ((1 : Int32) = (4 : Int32)))).2 (by decide) (by decide) ?_
          refine XS.aloadN X282.here hx rfl (hb hby d3_101) rfl rfl ?_
          show SS p e below m T282 102 #[vR (a_o), vD ((own_D x)), s_, vD ((own_D (own_rn ((own_rn (x + p0)) + p1)))), s_, vI (1), vI (2), vD ((own_D p1)), s_, vD ((own_D (own_rn ((own_rn (x + p0)) + p1)))), s_, vD ((own_D ((own_rn (x + p0)) + p1 - (own_rn ((own_rn (x + p0)) + p1))))), s_] [(.ref a_o)] _
          refine st288 _ ?_
          show SS p e below m T288 105 #[vR (a_o), vD ((own_D x)), s_, vD ((own_D (own_rn ((own_rn (x + p0)) + p1)))), s_, vI (1), vI (2), vD ((own_D p1)), s_, vD ((own_D (own_rn ((own_rn (x + p0)) + p1)))), s_, vD ((own_D ((own_rn (x + p0)) + p1 - (own_rn ((own_rn (x + p0)) + p1))))), s_] [(.ref pa)] _
          refine XS.iload X288.here hx rfl (hb hby d3_105) rfl ?_
          refine XS.iinc X288.here hx rfl (hb hby d3_107) rfl (l' := #[vR (a_o), vD ((own_D x)), s_, vD ((own_D (own_rn ((own_rn (x + p0)) + p1)))), s_, vI (2), vI (2), vD ((own_D p1)), s_, vD ((own_D (own_rn ((own_rn (x + p0)) + p1)))), s_, vD ((own_D ((own_rn (x + p0)) + p1 - (own_rn ((own_rn (x + p0)) + p1))))), s_]) rfl ?_
          refine XS.dloadN X288.here hx rfl (hb hby d3_110) rfl ?_
          show SS p e below m T288 111 #[vR (a_o), vD ((own_D x)), s_, vD ((own_D (own_rn ((own_rn (x + p0)) + p1)))), s_, vI (2), vI (2), vD ((own_D p1)), s_, vD ((own_D (own_rn ((own_rn (x + p0)) + p1)))), s_, vD ((own_D ((own_rn (x + p0)) + p1 - (own_rn ((own_rn (x + p0)) + p1))))), s_] [(.double (own_D (own_rn ((own_rn (x + p0)) + p1)))), (.int 1), (.ref pa)] _
          refine st294 _ ?_
          show SS p e below m T294 112 #[vR (a_o), vD ((own_D x)), s_, vD ((own_D (own_rn ((own_rn (x + p0)) + p1)))), s_, vI (2), vI (2), vD ((own_D p1)), s_, vD ((own_D (own_rn ((own_rn (x + p0)) + p1)))), s_, vD ((own_D ((own_rn (x + p0)) + p1 - (own_rn ((own_rn (x + p0)) + p1))))), s_] [] _
          refine XS.aloadN X294.here hx rfl (hb hby d3_112) rfl rfl ?_
          refine XS.iload X294.here hx rfl (hb hby d3_113) rfl ?_
          show SS p e below m T294 115 #[vR (a_o), vD ((own_D x)), s_, vD ((own_D (own_rn ((own_rn (x + p0)) + p1)))), s_, vI (2), vI (2), vD ((own_D p1)), s_, vD ((own_D (own_rn ((own_rn (x + p0)) + p1)))), s_, vD ((own_D ((own_rn (x + p0)) + p1 - (own_rn ((own_rn (x + p0)) + p1))))), s_] [(.int 2), (.ref a_o)] _
          refine st304 _ ?_
          show SS p e below m T304 118 #[vR (a_o), vD ((own_D x)), s_, vD ((own_D (own_rn ((own_rn (x + p0)) + p1)))), s_, vI (2), vI (2), vD ((own_D p1)), s_, vD ((own_D (own_rn ((own_rn (x + p0)) + p1)))), s_, vD ((own_D ((own_rn (x + p0)) + p1 - (own_rn ((own_rn (x + p0)) + p1))))), s_] [] _
          exact X304.returnOut hx Bd.returns (hb hby d3_118) hr
        · show Qown_add2 Z x a_o pa k_p p0 p1 w2 w3 h0 n0 _ T304.heap _
          rw [e304]
          have hv : (own_add2_f x p0 p1) = [(x + p0 - (own_rn (x + p0))), (own_rn ((own_rn (x + p0)) + p1))] := by unfold own_add2_f; rw [if_neg hc46_37, if_pos hc46_252, if_neg hc73_267]
          have Fq309 : Fld Z h304 a_o "com/example/merit/merit/ExactSum" "partials" "[D" (.ref pa) := ((Fq228.other W294 (Or.inl hne)).other W304 (Or.inr (slot_ne (Or.inl (hw _ (gm 11 rfl))) (Or.inl (hw _ (gm 18 rfl))) (by decide) (t := (.array .double)) (t' := .int) (by decide) (by decide))))
          have Fq310 : Arv Z h304 pa k_p .double (4 : Int32) [(.double (own_D (x + p0 - (own_rn (x + p0))))), (.double (own_D (own_rn ((own_rn (x + p0)) + p1)))), w2, w3] (.double FP.dconst0) := (Vm295.other W304 (Ne.symm hne))
          exact ⟨[(.double (own_D (x + p0 - (own_rn (x + p0))))), (.double (own_D (own_rn ((own_rn (x + p0)) + p1)))), w2, w3], rfl, N307, Kc305, Fq309, Fq310, (by rw [hv]; exact Fw304), (by rw [hv]; exact ⟨rfl, rfl⟩)⟩
    · obtain ⟨T313, X313, e313, st313⟩ := getF X243 hx hZ hown (host := "") (Or.inl (hw _ (gm 10 rfl))) Via.refl eh243 Fq228 (g := (mkF m 50 #[vR (a_o), vD ((own_D x)), s_, vD ((own_D (own_rn (x + p0)))), s_, vI (1), vI (1), vD ((own_D p1)), s_, vD ((own_D (own_rn ((own_rn (x + p0)) + p1)))), s_, vD ((own_D ((own_rn (x + p0)) + p1 - (own_rn ((own_rn (x + p0)) + p1))))), s_] [(.ref a_o)])) rfl rfl (hb hby d3_50)
      obtain ⟨cl318, Ar318, q318, S318, M318, H318, G318⟩ := id Vm212
      have hin318 : ¬ ((1 : Int32) < 0 ∨ cl318.slots.size ≤ ((1 : Int32)).toNatClampNeg) := inb_of S318 ⟨by decide, by decide⟩
      obtain ⟨T319, h319, X319, e319, W319, st319⟩ := stD X313 hx hZ e313 Ar318 (j := (1 : Int32)) hin318 (g := (mkF m 60 #[vR (a_o), vD ((own_D x)), s_, vD ((own_D (own_rn (x + p0)))), s_, vI (2), vI (1), vD ((own_D p1)), s_, vD ((own_D (own_rn ((own_rn (x + p0)) + p1)))), s_, vD ((own_D ((own_rn (x + p0)) + p1 - (own_rn ((own_rn (x + p0)) + p1))))), s_] [(.double (own_D ((own_rn (x + p0)) + p1 - (own_rn ((own_rn (x + p0)) + p1))))), (.int 1), (.ref pa)])) rfl rfl (hb hby d3_60)
      have Kc321 : Keep h0 h319 [a_o, pa] := Kc213.wr W319 (Or.inl (ga 1 rfl))
      have Zs322 : n0 ≤ h319.size := Nat.le_trans Zs214 (Keep.of_wr W319).1
      have N323 := Fr.snoc X319 N244 hgp
      have Vm320 : Arv Z h319 pa k_p .double (4 : Int32) [(.double (own_D (x + p0 - (own_rn (x + p0))))), (.double (own_D ((own_rn (x + p0)) + p1 - (own_rn ((own_rn (x + p0)) + p1))))), w2, w3] (.double FP.dconst0) := Arv.set Ar318 q318 S318 M318 H318 G318 rfl W319 1 rfl (Nat.le_of_ble_eq_true rfl)
      have Fq331 : Fld Z h319 a_o "com/example/merit/merit/ExactSum" "count" "I" (.int 2) := (Fq223.other W319 (Or.inl hne))
      obtain ⟨T332, X332, e332, st332⟩ := getF X319 hx hZ hown (host := "") (Or.inl (hw _ (gm 17 rfl))) Via.refl e319 Fq331 (g := (mkF m 11 #[vR (a_o), vD ((own_D x)), s_, vD ((own_D (own_rn ((own_rn (x + p0)) + p1)))), s_, vI (2), vI (2), vD ((own_D p1)), s_, vD ((own_D (own_rn ((own_rn (x + p0)) + p1)))), s_, vD ((own_D ((own_rn (x + p0)) + p1 - (own_rn ((own_rn (x + p0)) + p1))))), s_] [(.ref a_o), (.int 2)])) rfl rfl (hb hby d3_11)
      have pre338 : ∀ t, Steps p.tables e below (T332.setTop (mkF m 73 #[vR (a_o), vD ((own_D x)), s_, vD ((own_D (own_rn ((own_rn (x + p0)) + p1)))), s_, vI (2), vI (2), vD ((own_D p1)), s_, vD ((own_D (own_rn ((own_rn (x + p0)) + p1)))), s_, vD ((own_D ((own_rn (x + p0)) + p1 - (own_rn ((own_rn (x + p0)) + p1))))), s_] [(.int (own_cmp (own_rn ((own_rn (x + p0)) + p1)) 0))])) t → Steps p.tables e below (s₁.setTop (entryFrame m #[(.ref a_o), (.double (own_D x))] 13)) t := by
        intro t kt
        refine pre251 _ ?_
        show SS p e below m T243 46 #[vR (a_o), vD ((own_D x)), s_, vD ((own_D (own_rn (x + p0)))), s_, vI (1), vI (1), vD ((own_D p1)), s_, vD ((own_D (own_rn ((own_rn (x + p0)) + p1)))), s_, vD ((own_D ((own_rn (x + p0)) + p1 - (own_rn ((own_rn (x + p0)) + p1))))), s_] [(.int (own_cmp ((own_rn (x + p0)) + p1 - (own_rn ((own_rn (x + p0)) + p1))) 0))] _
        refine XS.ifNo X243.here hx rfl (hb hby d3_46) rfl ((if0 _ _).trans (feq (fun q => hc46_252 (own_cmEq.mp q))).1) ?_
        refine XS.aloadN X243.here hx rfl (hb hby d3_49) rfl rfl ?_
        show SS p e below m T243 50 #[vR (a_o), vD ((own_D x)), s_, vD ((own_D (own_rn (x + p0)))), s_, vI (1), vI (1), vD ((own_D p1)), s_, vD ((own_D (own_rn ((own_rn (x + p0)) + p1)))), s_, vD ((own_D ((own_rn (x + p0)) + p1 - (own_rn ((own_rn (x + p0)) + p1))))), s_] [(.ref a_o)] _
        refine st313 _ ?_
        show SS p e below m T313 53 #[vR (a_o), vD ((own_D x)), s_, vD ((own_D (own_rn (x + p0)))), s_, vI (1), vI (1), vD ((own_D p1)), s_, vD ((own_D (own_rn ((own_rn (x + p0)) + p1)))), s_, vD ((own_D ((own_rn (x + p0)) + p1 - (own_rn ((own_rn (x + p0)) + p1))))), s_] [(.ref pa)] _
        refine XS.iload X313.here hx rfl (hb hby d3_53) rfl ?_
        refine XS.iinc X313.here hx rfl (hb hby d3_55) rfl (l' := #[vR (a_o), vD ((own_D x)), s_, vD ((own_D (own_rn (x + p0)))), s_, vI (2), vI (1), vD ((own_D p1)), s_, vD ((own_D (own_rn ((own_rn (x + p0)) + p1)))), s_, vD ((own_D ((own_rn (x + p0)) + p1 - (own_rn ((own_rn (x + p0)) + p1))))), s_]) rfl ?_
        refine XS.dload X313.here hx rfl (hb hby d3_58) rfl ?_
        show SS p e below m T313 60 #[vR (a_o), vD ((own_D x)), s_, vD ((own_D (own_rn (x + p0)))), s_, vI (2), vI (1), vD ((own_D p1)), s_, vD ((own_D (own_rn ((own_rn (x + p0)) + p1)))), s_, vD ((own_D ((own_rn (x + p0)) + p1 - (own_rn ((own_rn (x + p0)) + p1))))), s_] [(.double (own_D ((own_rn (x + p0)) + p1 - (own_rn ((own_rn (x + p0)) + p1))))), (.int 1), (.ref pa)] _
        refine st319 _ ?_
        show SS p e below m T319 61 #[vR (a_o), vD ((own_D x)), s_, vD ((own_D (own_rn (x + p0)))), s_, vI (2), vI (1), vD ((own_D p1)), s_, vD ((own_D (own_rn ((own_rn (x + p0)) + p1)))), s_, vD ((own_D ((own_rn (x + p0)) + p1 - (own_rn ((own_rn (x + p0)) + p1))))), s_] [] _
        refine XS.dload X319.here hx rfl (hb hby d3_61) rfl ?_
        refine XS.dstoreN X319.here hx rfl (hb hby d3_63) rfl (l' := #[vR (a_o), vD ((own_D x)), s_, vD ((own_D (own_rn ((own_rn (x + p0)) + p1)))), s_, vI (2), vI (1), vD ((own_D p1)), s_, vD ((own_D (own_rn ((own_rn (x + p0)) + p1)))), s_, vD ((own_D ((own_rn (x + p0)) + p1 - (own_rn ((own_rn (x + p0)) + p1))))), s_]) rfl ?_
        refine XS.iinc X319.here hx rfl (hb hby d3_64) rfl (l' := #[vR (a_o), vD ((own_D x)), s_, vD ((own_D (own_rn ((own_rn (x + p0)) + p1)))), s_, vI (2), vI (2), vD ((own_D p1)), s_, vD ((own_D (own_rn ((own_rn (x + p0)) + p1)))), s_, vD ((own_D ((own_rn (x + p0)) + p1 - (own_rn ((own_rn (x + p0)) + p1))))), s_]) rfl ?_
        show SS p e below m T319 67 #[vR (a_o), vD ((own_D x)), s_, vD ((own_D (own_rn ((own_rn (x + p0)) + p1)))), s_, vI (2), vI (2), vD ((own_D p1)), s_, vD ((own_D (own_rn ((own_rn (x + p0)) + p1)))), s_, vD ((own_D ((own_rn (x + p0)) + p1 - (own_rn ((own_rn (x + p0)) + p1))))), s_] [] _
        refine XS.goto X319.here hx rfl (pc0 := 67) (pc' := 8) rfl (hb hby d3_67) (by decide) (by decide) ?_
        refine XS.iload X319.here hx rfl (hb hby d3_8) rfl ?_
        refine XS.aloadN X319.here hx rfl (hb hby d3_10) rfl rfl ?_
        show SS p e below m T319 11 #[vR (a_o), vD ((own_D x)), s_, vD ((own_D (own_rn ((own_rn (x + p0)) + p1)))), s_, vI (2), vI (2), vD ((own_D p1)), s_, vD ((own_D (own_rn ((own_rn (x + p0)) + p1)))), s_, vD ((own_D ((own_rn (x + p0)) + p1 - (own_rn ((own_rn (x + p0)) + p1))))), s_] [(.ref a_o), (.int 2)] _
        refine st332 _ ?_
        show SS p e below m T332 14 #[vR (a_o), vD ((own_D x)), s_, vD ((own_D (own_rn ((own_rn (x + p0)) + p1)))), s_, vI (2), vI (2), vD ((own_D p1)), s_, vD ((own_D (own_rn ((own_rn (x + p0)) + p1)))), s_, vD ((own_D ((own_rn (x + p0)) + p1 - (own_rn ((own_rn (x + p0)) + p1))))), s_] [(.int 2), (.int 2)] _
        refine XS.icmpYes X332.here hx rfl (pc0 := 14) (pc' := 70) rfl (hb hby d3_14) rfl (flt ((by decide) : ¬ ((2 : Int32) < (2 : Int32)))).2.1 (by decide) (by decide) ?_
        refine XS.dloadN X332.here hx rfl (hb hby d3_70) rfl ?_
        refine XS.dconst0 X332.here hx rfl (hb hby d3_71) own_c0 ?_
        show SS p e below m T332 72 #[vR (a_o), vD ((own_D x)), s_, vD ((own_D (own_rn ((own_rn (x + p0)) + p1)))), s_, vI (2), vI (2), vD ((own_D p1)), s_, vD ((own_D (own_rn ((own_rn (x + p0)) + p1)))), s_, vD ((own_D ((own_rn (x + p0)) + p1 - (own_rn ((own_rn (x + p0)) + p1))))), s_] [(.double (own_D 0)), (.double (own_D (own_rn ((own_rn (x + p0)) + p1))))] _
        refine XS.dcmpS X332.here hx rfl (hb hby d3_72) rfl (own_DcmpV (own_rrn _) own_rep0 (by omega) (by omega) (by omega) (by omega) _) ?_
        exact kt
      by_cases hc73_339 : (own_rn ((own_rn (x + p0)) + p1)) = 0
      · have Fq343 : Exa Z h319 a_o "com/example/merit/merit/ExactSum" := ((hxa.wr W211).wr W319)
        obtain ⟨T344, h344, X344, e344, W344, st344⟩ := putF X332 hx hZ hown (host := "") (Or.inl (hw _ (gm 17 rfl))) Via.refl e332 Fq331 Fq343 (Or.inl (hw _ (gm 18 rfl))) (hw _ (gm 1 rfl)) (ty := .int) (by decide) rfl rfl (g := (mkF m 115 #[vR (a_o), vD ((own_D x)), s_, vD ((own_D (own_rn ((own_rn (x + p0)) + p1)))), s_, vI (2), vI (2), vD ((own_D p1)), s_, vD ((own_D (own_rn ((own_rn (x + p0)) + p1)))), s_, vD ((own_D ((own_rn (x + p0)) + p1 - (own_rn ((own_rn (x + p0)) + p1))))), s_] [(.int 2), (.ref a_o)])) rfl rfl (hb hby d3_115)
        have Kc345 : Keep h0 h344 [a_o, pa] := Kc321.wr W344 (Or.inl (ga 0 rfl))
        have Zs346 : n0 ≤ h344.size := Nat.le_trans Zs322 (Keep.of_wr W344).1
        have N347 := Fr.snoc X344 N323 hg
        have Fw344 : Fld Z h344 a_o "com/example/merit/merit/ExactSum" "count" "I" (.int 2) := Fq331.same W344
        obtain ⟨fs, hr, hrun, hended, hW, hsame⟩ := X344.leave (v := none) (fun _ => rfl) (hlocks := BodyLoose.notSynchronized Bd)
        refine ⟨_, _, pre338 _ ?_, hrun, hended, _, _, rfl, ?_, ⟨_, rfl⟩, hW, hsame.mono (by decide) (by decide)⟩
        · show SS p e below m T332 73 #[vR (a_o), vD ((own_D x)), s_, vD ((own_D (own_rn ((own_rn (x + p0)) + p1)))), s_, vI (2), vI (2), vD ((own_D p1)), s_, vD ((own_D (own_rn ((own_rn (x + p0)) + p1)))), s_, vD ((own_D ((own_rn (x + p0)) + p1 - (own_rn ((own_rn (x + p0)) + p1))))), s_] [(.int (own_cmp (own_rn ((own_rn (x + p0)) + p1)) 0))] _
          refine XS.ifYes X332.here hx rfl (pc0 := 73) (pc' := 112) rfl (hb hby d3_73) rfl ((if0 _ _).trans (teq (own_cmEq.mpr hc73_339)).1) (by decide) (by decide) ?_
          refine XS.aloadN X332.here hx rfl (hb hby d3_112) rfl rfl ?_
          refine XS.iload X332.here hx rfl (hb hby d3_113) rfl ?_
          show SS p e below m T332 115 #[vR (a_o), vD ((own_D x)), s_, vD ((own_D (own_rn ((own_rn (x + p0)) + p1)))), s_, vI (2), vI (2), vD ((own_D p1)), s_, vD ((own_D (own_rn ((own_rn (x + p0)) + p1)))), s_, vD ((own_D ((own_rn (x + p0)) + p1 - (own_rn ((own_rn (x + p0)) + p1))))), s_] [(.int 2), (.ref a_o)] _
          refine st344 _ ?_
          show SS p e below m T344 118 #[vR (a_o), vD ((own_D x)), s_, vD ((own_D (own_rn ((own_rn (x + p0)) + p1)))), s_, vI (2), vI (2), vD ((own_D p1)), s_, vD ((own_D (own_rn ((own_rn (x + p0)) + p1)))), s_, vD ((own_D ((own_rn (x + p0)) + p1 - (own_rn ((own_rn (x + p0)) + p1))))), s_] [] _
          exact X344.returnOut hx Bd.returns (hb hby d3_118) hr
        · show Qown_add2 Z x a_o pa k_p p0 p1 w2 w3 h0 n0 _ T344.heap _
          rw [e344]
          have hv : (own_add2_f x p0 p1) = [(x + p0 - (own_rn (x + p0))), ((own_rn (x + p0)) + p1 - (own_rn ((own_rn (x + p0)) + p1)))] := by unfold own_add2_f; rw [if_neg hc46_37, if_neg hc46_252, if_pos hc73_339]
          have Fq349 : Fld Z h344 a_o "com/example/merit/merit/ExactSum" "partials" "[D" (.ref pa) := ((Fq228.other W319 (Or.inl hne)).other W344 (Or.inr (slot_ne (Or.inl (hw _ (gm 11 rfl))) (Or.inl (hw _ (gm 18 rfl))) (by decide) (t := (.array .double)) (t' := .int) (by decide) (by decide))))
          have Fq350 : Arv Z h344 pa k_p .double (4 : Int32) [(.double (own_D (x + p0 - (own_rn (x + p0))))), (.double (own_D ((own_rn (x + p0)) + p1 - (own_rn ((own_rn (x + p0)) + p1))))), w2, w3] (.double FP.dconst0) := (Vm320.other W344 (Ne.symm hne))
          exact ⟨[(.double (own_D (x + p0 - (own_rn (x + p0))))), (.double (own_D ((own_rn (x + p0)) + p1 - (own_rn ((own_rn (x + p0)) + p1))))), w2, w3], rfl, N347, Kc345, Fq349, Fq350, (by rw [hv]; exact Fw344), (by rw [hv]; exact ⟨rfl, rfl⟩)⟩
      · have Fq354 : Fld Z h319 a_o "com/example/merit/merit/ExactSum" "partials" "[D" (.ref pa) := (Fq228.other W319 (Or.inl hne))
        obtain ⟨T355, X355, e355, st355⟩ := getF X332 hx hZ hown (host := "") (Or.inl (hw _ (gm 10 rfl))) Via.refl e332 Fq354 (g := (mkF m 79 #[vR (a_o), vD ((own_D x)), s_, vD ((own_D (own_rn ((own_rn (x + p0)) + p1)))), s_, vI (2), vI (2), vD ((own_D p1)), s_, vD ((own_D (own_rn ((own_rn (x + p0)) + p1)))), s_, vD ((own_D ((own_rn (x + p0)) + p1 - (own_rn ((own_rn (x + p0)) + p1))))), s_] [(.ref a_o), (.int 2)])) rfl rfl (hb hby d3_79)
        obtain ⟨cl357, Ar357, -, S357, M357, -, -⟩ := id Vm320
        obtain ⟨T361, X361, e361, st361⟩ := getF X355 hx hZ hown (host := "") (Or.inl (hw _ (gm 10 rfl))) Via.refl e355 Fq354 (g := (mkF m 102 #[vR (a_o), vD ((own_D x)), s_, vD ((own_D (own_rn ((own_rn (x + p0)) + p1)))), s_, vI (2), vI (2), vD ((own_D p1)), s_, vD ((own_D (own_rn ((own_rn (x + p0)) + p1)))), s_, vD ((own_D ((own_rn (x + p0)) + p1 - (own_rn ((own_rn (x + p0)) + p1))))), s_] [(.ref a_o)])) rfl rfl (hb hby d3_102)
        obtain ⟨cl366, Ar366, q366, S366, M366, H366, G366⟩ := id Vm320
        have hin366 : ¬ ((2 : Int32) < 0 ∨ cl366.slots.size ≤ ((2 : Int32)).toNatClampNeg) := inb_of S366 ⟨by decide, by decide⟩
        obtain ⟨T367, h367, X367, e367, W367, st367⟩ := stD X361 hx hZ e361 Ar366 (j := (2 : Int32)) hin366 (g := (mkF m 111 #[vR (a_o), vD ((own_D x)), s_, vD ((own_D (own_rn ((own_rn (x + p0)) + p1)))), s_, vI (3), vI (2), vD ((own_D p1)), s_, vD ((own_D (own_rn ((own_rn (x + p0)) + p1)))), s_, vD ((own_D ((own_rn (x + p0)) + p1 - (own_rn ((own_rn (x + p0)) + p1))))), s_] [(.double (own_D (own_rn ((own_rn (x + p0)) + p1)))), (.int 2), (.ref pa)])) rfl rfl (hb hby d3_111)
        have Kc369 : Keep h0 h367 [a_o, pa] := Kc321.wr W367 (Or.inl (ga 1 rfl))
        have Zs370 : n0 ≤ h367.size := Nat.le_trans Zs322 (Keep.of_wr W367).1
        have N371 := Fr.snoc X367 N323 hgp
        have Vm368 : Arv Z h367 pa k_p .double (4 : Int32) [(.double (own_D (x + p0 - (own_rn (x + p0))))), (.double (own_D ((own_rn (x + p0)) + p1 - (own_rn ((own_rn (x + p0)) + p1))))), (.double (own_D (own_rn ((own_rn (x + p0)) + p1)))), w3] (.double FP.dconst0) := Arv.set Ar366 q366 S366 M366 H366 G366 rfl W367 2 rfl (Nat.le_of_ble_eq_true rfl)
        have Fq375 : Exa Z h367 a_o "com/example/merit/merit/ExactSum" := (((hxa.wr W211).wr W319).wr W367)
        have Fq376 : Fld Z h367 a_o "com/example/merit/merit/ExactSum" "count" "I" (.int 2) := (Fq331.other W367 (Or.inl hne))
        obtain ⟨T377, h377, X377, e377, W377, st377⟩ := putF X367 hx hZ hown (host := "") (Or.inl (hw _ (gm 17 rfl))) Via.refl e367 Fq376 Fq375 (Or.inl (hw _ (gm 18 rfl))) (hw _ (gm 1 rfl)) (ty := .int) (by decide) rfl rfl (g := (mkF m 115 #[vR (a_o), vD ((own_D x)), s_, vD ((own_D (own_rn ((own_rn (x + p0)) + p1)))), s_, vI (3), vI (2), vD ((own_D p1)), s_, vD ((own_D (own_rn ((own_rn (x + p0)) + p1)))), s_, vD ((own_D ((own_rn (x + p0)) + p1 - (own_rn ((own_rn (x + p0)) + p1))))), s_] [(.int 3), (.ref a_o)])) rfl rfl (hb hby d3_115)
        have Kc378 : Keep h0 h377 [a_o, pa] := Kc369.wr W377 (Or.inl (ga 0 rfl))
        have Zs379 : n0 ≤ h377.size := Nat.le_trans Zs370 (Keep.of_wr W377).1
        have N380 := Fr.snoc X377 N371 hg
        have Fw377 : Fld Z h377 a_o "com/example/merit/merit/ExactSum" "count" "I" (.int 3) := Fq376.same W377
        obtain ⟨fs, hr, hrun, hended, hW, hsame⟩ := X377.leave (v := none) (fun _ => rfl) (hlocks := BodyLoose.notSynchronized Bd)
        refine ⟨_, _, pre338 _ ?_, hrun, hended, _, _, rfl, ?_, ⟨_, rfl⟩, hW, hsame.mono (by decide) (by decide)⟩
        · show SS p e below m T332 73 #[vR (a_o), vD ((own_D x)), s_, vD ((own_D (own_rn ((own_rn (x + p0)) + p1)))), s_, vI (2), vI (2), vD ((own_D p1)), s_, vD ((own_D (own_rn ((own_rn (x + p0)) + p1)))), s_, vD ((own_D ((own_rn (x + p0)) + p1 - (own_rn ((own_rn (x + p0)) + p1))))), s_] [(.int (own_cmp (own_rn ((own_rn (x + p0)) + p1)) 0))] _
          refine XS.ifNo X332.here hx rfl (hb hby d3_73) rfl ((if0 _ _).trans (feq (fun q => hc73_339 (own_cmEq.mp q))).1) ?_
          refine XS.iload X332.here hx rfl (hb hby d3_76) rfl ?_
          refine XS.aloadN X332.here hx rfl (hb hby d3_78) rfl rfl ?_
          show SS p e below m T332 79 #[vR (a_o), vD ((own_D x)), s_, vD ((own_D (own_rn ((own_rn (x + p0)) + p1)))), s_, vI (2), vI (2), vD ((own_D p1)), s_, vD ((own_D (own_rn ((own_rn (x + p0)) + p1)))), s_, vD ((own_D ((own_rn (x + p0)) + p1 - (own_rn ((own_rn (x + p0)) + p1))))), s_] [(.ref a_o), (.int 2)] _
          refine st355 _ ?_
          show SS p e below m T355 82 #[vR (a_o), vD ((own_D x)), s_, vD ((own_D (own_rn ((own_rn (x + p0)) + p1)))), s_, vI (2), vI (2), vD ((own_D p1)), s_, vD ((own_D (own_rn ((own_rn (x + p0)) + p1)))), s_, vD ((own_D ((own_rn (x + p0)) + p1 - (own_rn ((own_rn (x + p0)) + p1))))), s_] [(.ref pa), (.int 2)] _
          refine X355.arraylength hx (by rw [e355]; exact Ar357.1) (State.isArrayOf_alike hZ.alike Ar357.2.1) (g := (mkF m 82 #[vR (a_o), vD ((own_D x)), s_, vD ((own_D (own_rn ((own_rn (x + p0)) + p1)))), s_, vI (2), vI (2), vD ((own_D p1)), s_, vD ((own_D (own_rn ((own_rn (x + p0)) + p1)))), s_, vD ((own_D ((own_rn (x + p0)) + p1 - (own_rn ((own_rn (x + p0)) + p1))))), s_] [(.ref pa), (.int 2)])) rfl rfl (hb hby d3_82) _ ?_
          rw [len_of S357 M357]
          show SS p e below m T355 83 #[vR (a_o), vD ((own_D x)), s_, vD ((own_D (own_rn ((own_rn (x + p0)) + p1)))), s_, vI (2), vI (2), vD ((own_D p1)), s_, vD ((own_D (own_rn ((own_rn (x + p0)) + p1)))), s_, vD ((own_D ((own_rn (x + p0)) + p1 - (own_rn ((own_rn (x + p0)) + p1))))), s_] [(.int 4), (.int 2)] _
          refine XS.icmpYes X355.here hx rfl (pc0 := 83) (pc' := 101) rfl (hb hby d3_83) rfl (feq ((by decide) : ¬ ((2 : Int32) = (4 : Int32)))).2 (by decide) (by decide) ?_
          refine XS.aloadN X355.here hx rfl (hb hby d3_101) rfl rfl ?_
          show SS p e below m T355 102 #[vR (a_o), vD ((own_D x)), s_, vD ((own_D (own_rn ((own_rn (x + p0)) + p1)))), s_, vI (2), vI (2), vD ((own_D p1)), s_, vD ((own_D (own_rn ((own_rn (x + p0)) + p1)))), s_, vD ((own_D ((own_rn (x + p0)) + p1 - (own_rn ((own_rn (x + p0)) + p1))))), s_] [(.ref a_o)] _
          refine st361 _ ?_
          show SS p e below m T361 105 #[vR (a_o), vD ((own_D x)), s_, vD ((own_D (own_rn ((own_rn (x + p0)) + p1)))), s_, vI (2), vI (2), vD ((own_D p1)), s_, vD ((own_D (own_rn ((own_rn (x + p0)) + p1)))), s_, vD ((own_D ((own_rn (x + p0)) + p1 - (own_rn ((own_rn (x + p0)) + p1))))), s_] [(.ref pa)] _
          refine XS.iload X361.here hx rfl (hb hby d3_105) rfl ?_
          refine XS.iinc X361.here hx rfl (hb hby d3_107) rfl (l' := #[vR (a_o), vD ((own_D x)), s_, vD ((own_D (own_rn ((own_rn (x + p0)) + p1)))), s_, vI (3), vI (2), vD ((own_D p1)), s_, vD ((own_D (own_rn ((own_rn (x + p0)) + p1)))), s_, vD ((own_D ((own_rn (x + p0)) + p1 - (own_rn ((own_rn (x + p0)) + p1))))), s_]) rfl ?_
          refine XS.dloadN X361.here hx rfl (hb hby d3_110) rfl ?_
          show SS p e below m T361 111 #[vR (a_o), vD ((own_D x)), s_, vD ((own_D (own_rn ((own_rn (x + p0)) + p1)))), s_, vI (3), vI (2), vD ((own_D p1)), s_, vD ((own_D (own_rn ((own_rn (x + p0)) + p1)))), s_, vD ((own_D ((own_rn (x + p0)) + p1 - (own_rn ((own_rn (x + p0)) + p1))))), s_] [(.double (own_D (own_rn ((own_rn (x + p0)) + p1)))), (.int 2), (.ref pa)] _
          refine st367 _ ?_
          show SS p e below m T367 112 #[vR (a_o), vD ((own_D x)), s_, vD ((own_D (own_rn ((own_rn (x + p0)) + p1)))), s_, vI (3), vI (2), vD ((own_D p1)), s_, vD ((own_D (own_rn ((own_rn (x + p0)) + p1)))), s_, vD ((own_D ((own_rn (x + p0)) + p1 - (own_rn ((own_rn (x + p0)) + p1))))), s_] [] _
          refine XS.aloadN X367.here hx rfl (hb hby d3_112) rfl rfl ?_
          refine XS.iload X367.here hx rfl (hb hby d3_113) rfl ?_
          show SS p e below m T367 115 #[vR (a_o), vD ((own_D x)), s_, vD ((own_D (own_rn ((own_rn (x + p0)) + p1)))), s_, vI (3), vI (2), vD ((own_D p1)), s_, vD ((own_D (own_rn ((own_rn (x + p0)) + p1)))), s_, vD ((own_D ((own_rn (x + p0)) + p1 - (own_rn ((own_rn (x + p0)) + p1))))), s_] [(.int 3), (.ref a_o)] _
          refine st377 _ ?_
          show SS p e below m T377 118 #[vR (a_o), vD ((own_D x)), s_, vD ((own_D (own_rn ((own_rn (x + p0)) + p1)))), s_, vI (3), vI (2), vD ((own_D p1)), s_, vD ((own_D (own_rn ((own_rn (x + p0)) + p1)))), s_, vD ((own_D ((own_rn (x + p0)) + p1 - (own_rn ((own_rn (x + p0)) + p1))))), s_] [] _
          exact X377.returnOut hx Bd.returns (hb hby d3_118) hr
        · show Qown_add2 Z x a_o pa k_p p0 p1 w2 w3 h0 n0 _ T377.heap _
          rw [e377]
          have hv : (own_add2_f x p0 p1) = [(x + p0 - (own_rn (x + p0))), ((own_rn (x + p0)) + p1 - (own_rn ((own_rn (x + p0)) + p1))), (own_rn ((own_rn (x + p0)) + p1))] := by unfold own_add2_f; rw [if_neg hc46_37, if_neg hc46_252, if_neg hc73_339]
          have Fq382 : Fld Z h377 a_o "com/example/merit/merit/ExactSum" "partials" "[D" (.ref pa) := ((Fq354.other W367 (Or.inl hne)).other W377 (Or.inr (slot_ne (Or.inl (hw _ (gm 11 rfl))) (Or.inl (hw _ (gm 18 rfl))) (by decide) (t := (.array .double)) (t' := .int) (by decide) (by decide))))
          have Fq383 : Arv Z h377 pa k_p .double (4 : Int32) [(.double (own_D (x + p0 - (own_rn (x + p0))))), (.double (own_D ((own_rn (x + p0)) + p1 - (own_rn ((own_rn (x + p0)) + p1))))), (.double (own_D (own_rn ((own_rn (x + p0)) + p1)))), w3] (.double FP.dconst0) := (Vm368.other W377 (Ne.symm hne))
          exact ⟨[(.double (own_D (x + p0 - (own_rn (x + p0))))), (.double (own_D ((own_rn (x + p0)) + p1 - (own_rn ((own_rn (x + p0)) + p1))))), (.double (own_D (own_rn ((own_rn (x + p0)) + p1)))), w3], rfl, N380, Kc378, Fq382, Fq383, (by rw [hv]; exact Fw377), (by rw [hv]; exact ⟨rfl, rfl⟩)⟩
theorem own_ef_own_vl0 (m : MethodId) (a_o : Addr) : entryFrame m #[(.ref a_o)] 10 = mkF m 0 #[.val (.ref a_o), .unset, .unset, .unset, .unset, .unset, .unset, .unset, .unset, .unset] [] := by first | (simp [entryFrame, mkF, argsToLocals, Value.category]; done) | rfl
theorem d4_0 : decode prog_12_method_3_code 0 = .ok (.aload_n 0, 1) := by decide +kernel
theorem d4_1 : decode prog_12_method_3_code 1 = .ok (.getfield 13, 3) := by decide +kernel
theorem d4_4 : decode prog_12_method_3_code 4 = .ok (.ifCond .ne 5, 3) := by decide +kernel
theorem d4_7 : decode prog_12_method_3_code 7 = .ok (.dconst 0, 1) := by decide +kernel
theorem d4_8 : decode prog_12_method_3_code 8 = .ok (.dreturn, 1) := by decide +kernel
def own_vl0_f : Int := 0
def Qown_vl0 (Z : State) (a_o : Addr) (pa : Addr) (k_p : ClassId) (w0 : Value) (w1 : Value) (w2 : Value) (w3 : Value) (h0 : Heap) (n0 : Nat) (v : Option Value) (h : Heap) (L : List Loc) : Prop := v = some (.double (own_D own_vl0_f)) ∧ Fr n0 L ∧ h = h0
set_option maxRecDepth 65536 in
set_option maxHeartbeats 40000000 in
theorem own_vl0 (l : Launch) (Z : State) (a0 : Array Value) (hw : ∀ d ∈ tables_1, d.before a0 Z = true) (ws : List Jvm.Cond) (a_o : Addr) (pa : Addr) (k_p : ClassId) (w0 : Value) (w1 : Value) (w2 : Value) (w3 : Value) (h0 : Heap) (n0 : Nat) (Z0 : n0 ≤ h0.size) (hxa : Exa Z h0 a_o "com/example/merit/merit/ExactSum") (hfp : Fld Z h0 a_o "com/example/merit/merit/ExactSum" "partials" "[D" (.ref pa)) (hfc : Fld Z h0 a_o "com/example/merit/merit/ExactSum" "count" "I" (.int 0)) (hA : Arv Z h0 pa k_p .double (4 : Int32) [w0, w1, w2, w3] (.double FP.dconst0)) :
    MetFree l (⟨"com/example/merit/merit/ExactSum", "value", "()D"⟩ : MethodName) (head1 (Jvm.Cond.code (⟨"com/example/merit/merit/ExactSum", "value", "()D"⟩ : MethodName) prog_12_method_3_code 10 (some .double) :: ws) ({ frames := 0, cells := 0, slots := 0, locals := 0 } : Room)) (fun a U => a = #[(.ref a_o)] ∧ Z.Warmed39 U.vm ∧ U.heap = h0) (fun _ _ _ _ _ => True) (fun _ U o U' => ∃ v L, o = .returned v ∧ Qown_vl0 Z a_o pa k_p w0 w1 w2 w3 h0 n0 v U'.heap L ∧ FrameEnd U o U' L ({ frames := 0, cells := 0, slots := 0, locals := 0 } : Room).cells ({ frames := 0, cells := 0, slots := 0, locals := 0 } : Room).slots) := by
  refine MetFree.of_bodySF (plainFor_of_name own_pn0) hisR ?_
  intro p e s m args below meth c s₁ Bd hml0 hP hK
  obtain ⟨rfl, hZ, hh⟩ := hP
  have hx := Bd.exec
  have hby := Bd.bytes
  have hml : c.maxLocals = 10 := hml0
  have hown : s.vm.findClass "com/example/merit/merit/ExactSum" = some m.cls := findClass_of_methodNamed Bd.named
  have hnm := (name_of_methodNamed Bd.named Bd.method).1
  have X0 : Stand p l e ({ frames := 0, cells := 0, slots := 0, locals := 0 } : Room) s m #[(.ref a_o)] below meth c s₁ [] 0 0 := Stand.of_body Bd
  have e0 : s₁.heap = h0 := by rw [← hh, Bd.state]; rfl
  have N0 := Fr.nil n0
  have pre0 : ∀ t, Steps p.tables e below (s₁.setTop (mkF m 0 #[vR (a_o), u_, u_, u_, u_, u_, u_, u_, u_, u_] [])) t → Steps p.tables e below (s₁.setTop (entryFrame m #[(.ref a_o)] 10)) t := fun t k => castTop (own_ef_own_vl0 m a_o) k
  obtain ⟨T3, X3, e3, st3⟩ := getF X0 hx hZ hown (host := "") (Or.inl (hw _ (gm 17 rfl))) Via.refl e0 hfc (g := (mkF m 1 #[vR (a_o), u_, u_, u_, u_, u_, u_, u_, u_, u_] [(.ref a_o)])) rfl rfl (hb hby d4_1)
  obtain ⟨fs, hr, hrun, hended, hW, hsame⟩ := X3.leave (v := some (.double (own_D 0))) (fun h => by rw [Bd.returns] at h; cases h) (hlocks := BodyLoose.notSynchronized Bd)
  refine ⟨_, _, pre0 _ ?_, hrun, hended, _, _, rfl, ?_, ⟨_, rfl⟩, hW, hsame.mono (by decide) (by decide)⟩
  · show SS p e below m s₁ 0 #[vR (a_o), u_, u_, u_, u_, u_, u_, u_, u_, u_] [] _
    refine XS.aloadN X0.here hx rfl (hb hby d4_0) rfl rfl ?_
    show SS p e below m s₁ 1 #[vR (a_o), u_, u_, u_, u_, u_, u_, u_, u_, u_] [(.ref a_o)] _
    refine st3 _ ?_
    show SS p e below m T3 4 #[vR (a_o), u_, u_, u_, u_, u_, u_, u_, u_, u_] [(.int 0)] _
    refine XS.ifNo X3.here hx rfl (hb hby d4_4) rfl ((if0 _ _).trans (teq ((by decide) : (0 : Int32) = (0 : Int32))).2) ?_
    refine XS.dconst0 X3.here hx rfl (hb hby d4_7) own_c0 ?_
    show SS p e below m T3 8 #[vR (a_o), u_, u_, u_, u_, u_, u_, u_, u_, u_] [(.double (own_D 0))] _
    jvm_step X3.here [X3.here.top, hx, (hb hby d4_8), X3.method', Bd.returns, narrow]
    first | (intro acts; rw [hr _ acts rfl rfl rfl]) | rw [hr _ _ rfl rfl rfl]
    exact Steps.refl _
  · show Qown_vl0 Z a_o pa k_p w0 w1 w2 w3 h0 n0 _ T3.heap _
    rw [e3]
    have hv : own_vl0_f = 0 := by unfold own_vl0_f; rfl
    exact ⟨(by rw [hv]), N0, rfl⟩
theorem own_ef_own_vl1 (m : MethodId) (a_o : Addr) : entryFrame m #[(.ref a_o)] 10 = mkF m 0 #[.val (.ref a_o), .unset, .unset, .unset, .unset, .unset, .unset, .unset, .unset, .unset] [] := by first | (simp [entryFrame, mkF, argsToLocals, Value.category]; done) | rfl
theorem d4_9 : decode prog_12_method_3_code 9 = .ok (.aload_n 0, 1) := by decide +kernel
theorem d4_10 : decode prog_12_method_3_code 10 = .ok (.getfield 13, 3) := by decide +kernel
theorem d4_13 : decode prog_12_method_3_code 13 = .ok (.iconst 1, 1) := by decide +kernel
theorem d4_14 : decode prog_12_method_3_code 14 = .ok (.isub, 1) := by decide +kernel
theorem d4_15 : decode prog_12_method_3_code 15 = .ok (.istore_n 1, 1) := by decide +kernel
theorem d4_16 : decode prog_12_method_3_code 16 = .ok (.aload_n 0, 1) := by decide +kernel
theorem d4_17 : decode prog_12_method_3_code 17 = .ok (.getfield 7, 3) := by decide +kernel
theorem d4_20 : decode prog_12_method_3_code 20 = .ok (.iload_n 1, 1) := by decide +kernel
theorem d4_21 : decode prog_12_method_3_code 21 = .ok (.daload, 1) := by decide +kernel
theorem d4_22 : decode prog_12_method_3_code 22 = .ok (.dstore_n 2, 1) := by decide +kernel
theorem d4_23 : decode prog_12_method_3_code 23 = .ok (.dconst 0, 1) := by decide +kernel
theorem d4_24 : decode prog_12_method_3_code 24 = .ok (.dstore 4, 2) := by decide +kernel
theorem d4_26 : decode prog_12_method_3_code 26 = .ok (.iload_n 1, 1) := by decide +kernel
theorem d4_27 : decode prog_12_method_3_code 27 = .ok (.ifCond .le 45, 3) := by decide +kernel
theorem d4_72 : decode prog_12_method_3_code 72 = .ok (.iload_n 1, 1) := by decide +kernel
theorem d4_73 : decode prog_12_method_3_code 73 = .ok (.ifCond .le 63, 3) := by decide +kernel
theorem d4_136 : decode prog_12_method_3_code 136 = .ok (.dload_n 2, 1) := by decide +kernel
theorem d4_137 : decode prog_12_method_3_code 137 = .ok (.dreturn, 1) := by decide +kernel
def own_vl1_f (p0 : Int) : Int := p0
def Qown_vl1 (Z : State) (a_o : Addr) (pa : Addr) (k_p : ClassId) (p0 : Int) (w1 : Value) (w2 : Value) (w3 : Value) (h0 : Heap) (n0 : Nat) (v : Option Value) (h : Heap) (L : List Loc) : Prop := v = some (.double (own_D (own_vl1_f p0))) ∧ Fr n0 L ∧ h = h0
set_option maxRecDepth 65536 in
set_option maxHeartbeats 40000000 in
theorem own_vl1 (l : Launch) (Z : State) (a0 : Array Value) (hw : ∀ d ∈ tables_1, d.before a0 Z = true) (ws : List Jvm.Cond) (a_o : Addr) (pa : Addr) (k_p : ClassId) (p0 : Int) (w1 : Value) (w2 : Value) (w3 : Value) (h0 : Heap) (n0 : Nat) (Z0 : n0 ≤ h0.size) (hxa : Exa Z h0 a_o "com/example/merit/merit/ExactSum") (hfp : Fld Z h0 a_o "com/example/merit/merit/ExactSum" "partials" "[D" (.ref pa)) (hfc : Fld Z h0 a_o "com/example/merit/merit/ExactSum" "count" "I" (.int 1)) (hA : Arv Z h0 pa k_p .double (4 : Int32) [(.double (own_D p0)), w1, w2, w3] (.double FP.dconst0)) (hr0 : own_Rep p0) (hbt : -9223372036854700000 ≤ p0 ∧ p0 ≤ 9223372036854700000) :
    MetFree l (⟨"com/example/merit/merit/ExactSum", "value", "()D"⟩ : MethodName) (head1 (Jvm.Cond.code (⟨"com/example/merit/merit/ExactSum", "value", "()D"⟩ : MethodName) prog_12_method_3_code 10 (some .double) :: ws) ({ frames := 0, cells := 0, slots := 0, locals := 0 } : Room)) (fun a U => a = #[(.ref a_o)] ∧ Z.Warmed39 U.vm ∧ U.heap = h0) (fun _ _ _ _ _ => True) (fun _ U o U' => ∃ v L, o = .returned v ∧ Qown_vl1 Z a_o pa k_p p0 w1 w2 w3 h0 n0 v U'.heap L ∧ FrameEnd U o U' L ({ frames := 0, cells := 0, slots := 0, locals := 0 } : Room).cells ({ frames := 0, cells := 0, slots := 0, locals := 0 } : Room).slots) := by
  refine MetFree.of_bodySF (plainFor_of_name own_pn0) hisR ?_
  intro p e s m args below meth c s₁ Bd hml0 hP hK
  obtain ⟨rfl, hZ, hh⟩ := hP
  have hx := Bd.exec
  have hby := Bd.bytes
  have hml : c.maxLocals = 10 := hml0
  have hown : s.vm.findClass "com/example/merit/merit/ExactSum" = some m.cls := findClass_of_methodNamed Bd.named
  have hnm := (name_of_methodNamed Bd.named Bd.method).1
  have X0 : Stand p l e ({ frames := 0, cells := 0, slots := 0, locals := 0 } : Room) s m #[(.ref a_o)] below meth c s₁ [] 0 0 := Stand.of_body Bd
  have e0 : s₁.heap = h0 := by rw [← hh, Bd.state]; rfl
  have N0 := Fr.nil n0
  have pre0 : ∀ t, Steps p.tables e below (s₁.setTop (mkF m 0 #[vR (a_o), u_, u_, u_, u_, u_, u_, u_, u_, u_] [])) t → Steps p.tables e below (s₁.setTop (entryFrame m #[(.ref a_o)] 10)) t := fun t k => castTop (own_ef_own_vl1 m a_o) k
  obtain ⟨T3, X3, e3, st3⟩ := getF X0 hx hZ hown (host := "") (Or.inl (hw _ (gm 17 rfl))) Via.refl e0 hfc (g := (mkF m 1 #[vR (a_o), u_, u_, u_, u_, u_, u_, u_, u_, u_] [(.ref a_o)])) rfl rfl (hb hby d4_1)
  obtain ⟨T7, X7, e7, st7⟩ := getF X3 hx hZ hown (host := "") (Or.inl (hw _ (gm 17 rfl))) Via.refl e3 hfc (g := (mkF m 10 #[vR (a_o), u_, u_, u_, u_, u_, u_, u_, u_, u_] [(.ref a_o)])) rfl rfl (hb hby d4_10)
  obtain ⟨T13, X13, e13, st13⟩ := getF X7 hx hZ hown (host := "") (Or.inl (hw _ (gm 10 rfl))) Via.refl e7 hfp (g := (mkF m 17 #[vR (a_o), vI (0), u_, u_, u_, u_, u_, u_, u_, u_] [(.ref a_o)])) rfl rfl (hb hby d4_17)
  obtain ⟨cl16, Ar16, q16, S16, M16, H16, G16⟩ := id hA
  have hin16 : ¬ ((0 : Int32) < 0 ∨ cl16.slots.size ≤ ((0 : Int32)).toNatClampNeg) := inb_of S16 ⟨by decide, by decide⟩
  have hat16 : cl16.slots[((0 : Int32)).toNatClampNeg]? = some (.double (own_D p0)) := H16.at hin16 rfl
  obtain ⟨fs, hr, hrun, hended, hW, hsame⟩ := X13.leave (v := some (.double (own_D p0))) (fun h => by rw [Bd.returns] at h; cases h) (hlocks := BodyLoose.notSynchronized Bd)
  refine ⟨_, _, pre0 _ ?_, hrun, hended, _, _, rfl, ?_, ⟨_, rfl⟩, hW, hsame.mono (by decide) (by decide)⟩
  · show SS p e below m s₁ 0 #[vR (a_o), u_, u_, u_, u_, u_, u_, u_, u_, u_] [] _
    refine XS.aloadN X0.here hx rfl (hb hby d4_0) rfl rfl ?_
    show SS p e below m s₁ 1 #[vR (a_o), u_, u_, u_, u_, u_, u_, u_, u_, u_] [(.ref a_o)] _
    refine st3 _ ?_
    show SS p e below m T3 4 #[vR (a_o), u_, u_, u_, u_, u_, u_, u_, u_, u_] [(.int 1)] _
    refine XS.ifYes X3.here hx rfl (pc0 := 4) (pc' := 9) rfl (hb hby d4_4) rfl ((if0 _ _).trans (feq ((by decide) : ¬ ((1 : Int32) = (0 : Int32)))).2) (by decide) (by decide) ?_
    refine XS.aloadN X3.here hx rfl (hb hby d4_9) rfl rfl ?_
    show SS p e below m T3 10 #[vR (a_o), u_, u_, u_, u_, u_, u_, u_, u_, u_] [(.ref a_o)] _
    refine st7 _ ?_
    show SS p e below m T7 13 #[vR (a_o), u_, u_, u_, u_, u_, u_, u_, u_, u_] [(.int 1)] _
    refine XS.iconst X7.here hx rfl (hb hby d4_13) ?_ --lit 1
    refine XS.isub X7.here hx rfl (hb hby d4_14) rfl ?_
    refine XS.istoreN X7.here hx rfl (hb hby d4_15) rfl (l' := #[vR (a_o), vI (0), u_, u_, u_, u_, u_, u_, u_, u_]) rfl ?_
    show SS p e below m T7 16 #[vR (a_o), vI (0), u_, u_, u_, u_, u_, u_, u_, u_] [] _
    refine XS.aloadN X7.here hx rfl (hb hby d4_16) rfl rfl ?_
    show SS p e below m T7 17 #[vR (a_o), vI (0), u_, u_, u_, u_, u_, u_, u_, u_] [(.ref a_o)] _
    refine st13 _ ?_
    show SS p e below m T13 20 #[vR (a_o), vI (0), u_, u_, u_, u_, u_, u_, u_, u_] [(.ref pa)] _
    refine XS.iloadN X13.here hx rfl (hb hby d4_20) rfl ?_
    show SS p e below m T13 21 #[vR (a_o), vI (0), u_, u_, u_, u_, u_, u_, u_, u_] [(.int 0), (.ref pa)] _
    refine X13.daload hx (j := (0 : Int32)) (v := (.double (own_D p0))) (by rw [e13]; exact Ar16.1) (State.isArrayOf_alike hZ.alike Ar16.2.1) Ar16.2.2 hin16 hat16 (g := (mkF m 21 #[vR (a_o), vI (0), u_, u_, u_, u_, u_, u_, u_, u_] [(.int 0), (.ref pa)])) rfl rfl (hb hby d4_21) _ ?_
    show SS p e below m T13 22 #[vR (a_o), vI (0), u_, u_, u_, u_, u_, u_, u_, u_] [(.double (own_D p0))] _
    refine XS.dstoreN X13.here hx rfl (hb hby d4_22) rfl (l' := #[vR (a_o), vI (0), vD ((own_D p0)), s_, u_, u_, u_, u_, u_, u_]) rfl ?_
    refine XS.dconst0 X13.here hx rfl (hb hby d4_23) own_c0 ?_
    refine XS.dstore X13.here hx rfl (hb hby d4_24) rfl (l' := #[vR (a_o), vI (0), vD ((own_D p0)), s_, vD ((own_D 0)), s_, u_, u_, u_, u_]) rfl ?_
    show SS p e below m T13 26 #[vR (a_o), vI (0), vD ((own_D p0)), s_, vD ((own_D 0)), s_, u_, u_, u_, u_] [] _
    refine XS.iloadN X13.here hx rfl (hb hby d4_26) rfl ?_
    refine XS.ifYes X13.here hx rfl (pc0 := 27) (pc' := 72) rfl (hb hby d4_27) rfl ((if0 _ _).trans (flt ((by decide) : ¬ ((0 : Int32) < (0 : Int32)))).2.2.2) (by decide) (by decide) ?_
    refine XS.iloadN X13.here hx rfl (hb hby d4_72) rfl ?_
    show SS p e below m T13 73 #[vR (a_o), vI (0), vD ((own_D p0)), s_, vD ((own_D 0)), s_, u_, u_, u_, u_] [(.int 0)] _
    refine XS.ifYes X13.here hx rfl (pc0 := 73) (pc' := 136) rfl (hb hby d4_73) rfl ((if0 _ _).trans (flt ((by decide) : ¬ ((0 : Int32) < (0 : Int32)))).2.2.2) (by decide) (by decide) ?_
    refine XS.dloadN X13.here hx rfl (hb hby d4_136) rfl ?_
    show SS p e below m T13 137 #[vR (a_o), vI (0), vD ((own_D p0)), s_, vD ((own_D 0)), s_, u_, u_, u_, u_] [(.double (own_D p0))] _
    jvm_step X13.here [X13.here.top, hx, (hb hby d4_137), X13.method', Bd.returns, narrow]
    first | (intro acts; rw [hr _ acts rfl rfl rfl]) | rw [hr _ _ rfl rfl rfl]
    exact Steps.refl _
  · show Qown_vl1 Z a_o pa k_p p0 w1 w2 w3 h0 n0 _ T13.heap _
    rw [e13]
    have hv : (own_vl1_f p0) = p0 := by unfold own_vl1_f; rfl
    exact ⟨(by rw [hv]), N0, rfl⟩
theorem own_ef_own_vl2 (m : MethodId) (a_o : Addr) : entryFrame m #[(.ref a_o)] 10 = mkF m 0 #[.val (.ref a_o), .unset, .unset, .unset, .unset, .unset, .unset, .unset, .unset, .unset] [] := by first | (simp [entryFrame, mkF, argsToLocals, Value.category]; done) | rfl
theorem d4_30 : decode prog_12_method_3_code 30 = .ok (.dload_n 2, 1) := by decide +kernel
theorem d4_31 : decode prog_12_method_3_code 31 = .ok (.dstore 6, 2) := by decide +kernel
theorem d4_33 : decode prog_12_method_3_code 33 = .ok (.dload 6, 2) := by decide +kernel
theorem d4_35 : decode prog_12_method_3_code 35 = .ok (.aload_n 0, 1) := by decide +kernel
theorem d4_36 : decode prog_12_method_3_code 36 = .ok (.getfield 7, 3) := by decide +kernel
theorem d4_39 : decode prog_12_method_3_code 39 = .ok (.iinc 1 (-1), 3) := by decide +kernel
theorem d4_42 : decode prog_12_method_3_code 42 = .ok (.iload_n 1, 1) := by decide +kernel
theorem d4_43 : decode prog_12_method_3_code 43 = .ok (.daload, 1) := by decide +kernel
theorem d4_44 : decode prog_12_method_3_code 44 = .ok (.dadd, 1) := by decide +kernel
theorem d4_45 : decode prog_12_method_3_code 45 = .ok (.dstore_n 2, 1) := by decide +kernel
theorem d4_46 : decode prog_12_method_3_code 46 = .ok (.aload_n 0, 1) := by decide +kernel
theorem d4_47 : decode prog_12_method_3_code 47 = .ok (.getfield 7, 3) := by decide +kernel
theorem d4_50 : decode prog_12_method_3_code 50 = .ok (.iload_n 1, 1) := by decide +kernel
theorem d4_51 : decode prog_12_method_3_code 51 = .ok (.daload, 1) := by decide +kernel
theorem d4_52 : decode prog_12_method_3_code 52 = .ok (.dload_n 2, 1) := by decide +kernel
theorem d4_53 : decode prog_12_method_3_code 53 = .ok (.dload 6, 2) := by decide +kernel
theorem d4_55 : decode prog_12_method_3_code 55 = .ok (.dsub, 1) := by decide +kernel
theorem d4_56 : decode prog_12_method_3_code 56 = .ok (.dsub, 1) := by decide +kernel
theorem d4_57 : decode prog_12_method_3_code 57 = .ok (.dstore 4, 2) := by decide +kernel
theorem d4_59 : decode prog_12_method_3_code 59 = .ok (.dload 4, 2) := by decide +kernel
theorem d4_61 : decode prog_12_method_3_code 61 = .ok (.dconst 0, 1) := by decide +kernel
theorem d4_62 : decode prog_12_method_3_code 62 = .ok (.dcmp .l, 1) := by decide +kernel
theorem d4_63 : decode prog_12_method_3_code 63 = .ok (.ifCond .eq 6, 3) := by decide +kernel
theorem d4_66 : decode prog_12_method_3_code 66 = .ok (.goto 6, 3) := by decide +kernel
theorem d4_69 : decode prog_12_method_3_code 69 = .ok (.goto (-43), 3) := by decide +kernel
def own_vl2_f (p0 : Int) (p1 : Int) : Int := (if (own_rn (p0 - (own_rn ((own_rn (p1 + p0)) - p1)))) = 0 then (own_rn (p1 + p0)) else (own_rn (p1 + p0)))
def Qown_vl2 (Z : State) (a_o : Addr) (pa : Addr) (k_p : ClassId) (p0 : Int) (p1 : Int) (w2 : Value) (w3 : Value) (h0 : Heap) (n0 : Nat) (v : Option Value) (h : Heap) (L : List Loc) : Prop := v = some (.double (own_D (own_vl2_f p0 p1))) ∧ Fr n0 L ∧ h = h0
set_option maxRecDepth 65536 in
set_option maxHeartbeats 40000000 in
theorem own_vl2 (l : Launch) (Z : State) (a0 : Array Value) (hw : ∀ d ∈ tables_1, d.before a0 Z = true) (ws : List Jvm.Cond) (a_o : Addr) (pa : Addr) (k_p : ClassId) (p0 : Int) (p1 : Int) (w2 : Value) (w3 : Value) (h0 : Heap) (n0 : Nat) (Z0 : n0 ≤ h0.size) (hxa : Exa Z h0 a_o "com/example/merit/merit/ExactSum") (hfp : Fld Z h0 a_o "com/example/merit/merit/ExactSum" "partials" "[D" (.ref pa)) (hfc : Fld Z h0 a_o "com/example/merit/merit/ExactSum" "count" "I" (.int 2)) (hA : Arv Z h0 pa k_p .double (4 : Int32) [(.double (own_D p0)), (.double (own_D p1)), w2, w3] (.double FP.dconst0)) (hr0 : own_Rep p0) (hr1 : own_Rep p1) (hs0 : -1024 ≤ p0 ∧ p0 ≤ 1024) (hbt : -9223372036854700000 ≤ p1 ∧ p1 ≤ 9223372036854700000) :
    MetFree l (⟨"com/example/merit/merit/ExactSum", "value", "()D"⟩ : MethodName) (head1 (Jvm.Cond.code (⟨"com/example/merit/merit/ExactSum", "value", "()D"⟩ : MethodName) prog_12_method_3_code 10 (some .double) :: ws) ({ frames := 0, cells := 0, slots := 0, locals := 0 } : Room)) (fun a U => a = #[(.ref a_o)] ∧ Z.Warmed39 U.vm ∧ U.heap = h0) (fun _ _ _ _ _ => True) (fun _ U o U' => ∃ v L, o = .returned v ∧ Qown_vl2 Z a_o pa k_p p0 p1 w2 w3 h0 n0 v U'.heap L ∧ FrameEnd U o U' L ({ frames := 0, cells := 0, slots := 0, locals := 0 } : Room).cells ({ frames := 0, cells := 0, slots := 0, locals := 0 } : Room).slots) := by
  refine MetFree.of_bodySF (plainFor_of_name own_pn0) hisR ?_
  intro p e s m args below meth c s₁ Bd hml0 hP hK
  obtain ⟨rfl, hZ, hh⟩ := hP
  have hx := Bd.exec
  have hby := Bd.bytes
  have hml : c.maxLocals = 10 := hml0
  have hown : s.vm.findClass "com/example/merit/merit/ExactSum" = some m.cls := findClass_of_methodNamed Bd.named
  have hnm := (name_of_methodNamed Bd.named Bd.method).1
  have X0 : Stand p l e ({ frames := 0, cells := 0, slots := 0, locals := 0 } : Room) s m #[(.ref a_o)] below meth c s₁ [] 0 0 := Stand.of_body Bd
  have e0 : s₁.heap = h0 := by rw [← hh, Bd.state]; rfl
  have N0 := Fr.nil n0
  have pre0 : ∀ t, Steps p.tables e below (s₁.setTop (mkF m 0 #[vR (a_o), u_, u_, u_, u_, u_, u_, u_, u_, u_] [])) t → Steps p.tables e below (s₁.setTop (entryFrame m #[(.ref a_o)] 10)) t := fun t k => castTop (own_ef_own_vl2 m a_o) k
  obtain ⟨T3, X3, e3, st3⟩ := getF X0 hx hZ hown (host := "") (Or.inl (hw _ (gm 17 rfl))) Via.refl e0 hfc (g := (mkF m 1 #[vR (a_o), u_, u_, u_, u_, u_, u_, u_, u_, u_] [(.ref a_o)])) rfl rfl (hb hby d4_1)
  obtain ⟨T7, X7, e7, st7⟩ := getF X3 hx hZ hown (host := "") (Or.inl (hw _ (gm 17 rfl))) Via.refl e3 hfc (g := (mkF m 10 #[vR (a_o), u_, u_, u_, u_, u_, u_, u_, u_, u_] [(.ref a_o)])) rfl rfl (hb hby d4_10)
  obtain ⟨T13, X13, e13, st13⟩ := getF X7 hx hZ hown (host := "") (Or.inl (hw _ (gm 10 rfl))) Via.refl e7 hfp (g := (mkF m 17 #[vR (a_o), vI (1), u_, u_, u_, u_, u_, u_, u_, u_] [(.ref a_o)])) rfl rfl (hb hby d4_17)
  obtain ⟨cl16, Ar16, q16, S16, M16, H16, G16⟩ := id hA
  have hin16 : ¬ ((1 : Int32) < 0 ∨ cl16.slots.size ≤ ((1 : Int32)).toNatClampNeg) := inb_of S16 ⟨by decide, by decide⟩
  have hat16 : cl16.slots[((1 : Int32)).toNatClampNeg]? = some (.double (own_D p1)) := H16.at hin16 rfl
  obtain ⟨T27, X27, e27, st27⟩ := getF X13 hx hZ hown (host := "") (Or.inl (hw _ (gm 10 rfl))) Via.refl e13 hfp (g := (mkF m 36 #[vR (a_o), vI (1), vD ((own_D p1)), s_, vD ((own_D 0)), s_, vD ((own_D p1)), s_, u_, u_] [(.ref a_o), (.double (own_D p1))])) rfl rfl (hb hby d4_36)
  obtain ⟨cl31, Ar31, q31, S31, M31, H31, G31⟩ := id hA
  have hin31 : ¬ ((0 : Int32) < 0 ∨ cl31.slots.size ≤ ((0 : Int32)).toNatClampNeg) := inb_of S31 ⟨by decide, by decide⟩
  have hat31 : cl31.slots[((0 : Int32)).toNatClampNeg]? = some (.double (own_D p0)) := H31.at hin31 rfl
  have hq33 : FP.dadd (own_D p1) (own_D p0) = own_D (own_rn (p1 + p0)) := own_Dadd hr1 hr0 (by omega) (by omega) (by omega) (by omega) (by omega) (by omega)
  have hq33E := own_errSm (n := p1 + p0) (by omega) (by omega)
  obtain ⟨T37, X37, e37, st37⟩ := getF X27 hx hZ hown (host := "") (Or.inl (hw _ (gm 10 rfl))) Via.refl e27 hfp (g := (mkF m 47 #[vR (a_o), vI (0), vD ((own_D (own_rn (p1 + p0)))), s_, vD ((own_D 0)), s_, vD ((own_D p1)), s_, u_, u_] [(.ref a_o)])) rfl rfl (hb hby d4_47)
  obtain ⟨cl40, Ar40, q40, S40, M40, H40, G40⟩ := id hA
  have hin40 : ¬ ((0 : Int32) < 0 ∨ cl40.slots.size ≤ ((0 : Int32)).toNatClampNeg) := inb_of S40 ⟨by decide, by decide⟩
  have hat40 : cl40.slots[((0 : Int32)).toNatClampNeg]? = some (.double (own_D p0)) := H40.at hin40 rfl
  have hq44 : FP.dsub (own_D (own_rn (p1 + p0))) (own_D p1) = own_D (own_rn ((own_rn (p1 + p0)) - p1)) := own_Dsub (own_rrn _) hr1 (by omega) (by omega) (by omega) (by omega) (by omega) (by omega)
  have hq44E := own_errSm (n := (own_rn (p1 + p0)) - p1) (by omega) (by omega)
  have hq46 : FP.dsub (own_D p0) (own_D (own_rn ((own_rn (p1 + p0)) - p1))) = own_D (own_rn (p0 - (own_rn ((own_rn (p1 + p0)) - p1)))) := own_Dsub hr0 (own_rrn _) (by omega) (by omega) (by omega) (by omega) (by omega) (by omega)
  have hq46E := own_errSm (n := p0 - (own_rn ((own_rn (p1 + p0)) - p1))) (by omega) (by omega)
  have pre52 : ∀ t, Steps p.tables e below (T37.setTop (mkF m 63 #[vR (a_o), vI (0), vD ((own_D (own_rn (p1 + p0)))), s_, vD ((own_D (own_rn (p0 - (own_rn ((own_rn (p1 + p0)) - p1)))))), s_, vD ((own_D p1)), s_, u_, u_] [(.int (own_cmp (own_rn (p0 - (own_rn ((own_rn (p1 + p0)) - p1)))) 0))])) t → Steps p.tables e below (s₁.setTop (entryFrame m #[(.ref a_o)] 10)) t := by
    intro t kt
    refine pre0 _ ?_
    show SS p e below m s₁ 0 #[vR (a_o), u_, u_, u_, u_, u_, u_, u_, u_, u_] [] _
    refine XS.aloadN X0.here hx rfl (hb hby d4_0) rfl rfl ?_
    show SS p e below m s₁ 1 #[vR (a_o), u_, u_, u_, u_, u_, u_, u_, u_, u_] [(.ref a_o)] _
    refine st3 _ ?_
    show SS p e below m T3 4 #[vR (a_o), u_, u_, u_, u_, u_, u_, u_, u_, u_] [(.int 2)] _
    refine XS.ifYes X3.here hx rfl (pc0 := 4) (pc' := 9) rfl (hb hby d4_4) rfl ((if0 _ _).trans (feq ((by decide) : ¬ ((2 : Int32) = (0 : Int32)))).2) (by decide) (by decide) ?_
    refine XS.aloadN X3.here hx rfl (hb hby d4_9) rfl rfl ?_
    show SS p e below m T3 10 #[vR (a_o), u_, u_, u_, u_, u_, u_, u_, u_, u_] [(.ref a_o)] _
    refine st7 _ ?_
    show SS p e below m T7 13 #[vR (a_o), u_, u_, u_, u_, u_, u_, u_, u_, u_] [(.int 2)] _
    refine XS.iconst X7.here hx rfl (hb hby d4_13) ?_ --lit 1
    refine XS.isub X7.here hx rfl (hb hby d4_14) rfl ?_
    refine XS.istoreN X7.here hx rfl (hb hby d4_15) rfl (l' := #[vR (a_o), vI (1), u_, u_, u_, u_, u_, u_, u_, u_]) rfl ?_
    show SS p e below m T7 16 #[vR (a_o), vI (1), u_, u_, u_, u_, u_, u_, u_, u_] [] _
    refine XS.aloadN X7.here hx rfl (hb hby d4_16) rfl rfl ?_
    show SS p e below m T7 17 #[vR (a_o), vI (1), u_, u_, u_, u_, u_, u_, u_, u_] [(.ref a_o)] _
    refine st13 _ ?_
    show SS p e below m T13 20 #[vR (a_o), vI (1), u_, u_, u_, u_, u_, u_, u_, u_] [(.ref pa)] _
    refine XS.iloadN X13.here hx rfl (hb hby d4_20) rfl ?_
    show SS p e below m T13 21 #[vR (a_o), vI (1), u_, u_, u_, u_, u_, u_, u_, u_] [(.int 1), (.ref pa)] _
    refine X13.daload hx (j := (1 : Int32)) (v := (.double (own_D p1))) (by rw [e13]; exact Ar16.1) (State.isArrayOf_alike hZ.alike Ar16.2.1) Ar16.2.2 hin16 hat16 (g := (mkF m 21 #[vR (a_o), vI (1), u_, u_, u_, u_, u_, u_, u_, u_] [(.int 1), (.ref pa)])) rfl rfl (hb hby d4_21) _ ?_
    show SS p e below m T13 22 #[vR (a_o), vI (1), u_, u_, u_, u_, u_, u_, u_, u_] [(.double (own_D p1))] _
    refine XS.dstoreN X13.here hx rfl (hb hby d4_22) rfl (l' := #[vR (a_o), vI (1), vD ((own_D p1)), s_, u_, u_, u_, u_, u_, u_]) rfl ?_
    refine XS.dconst0 X13.here hx rfl (hb hby d4_23) own_c0 ?_
    refine XS.dstore X13.here hx rfl (hb hby d4_24) rfl (l' := #[vR (a_o), vI (1), vD ((own_D p1)), s_, vD ((own_D 0)), s_, u_, u_, u_, u_]) rfl ?_
    show SS p e below m T13 26 #[vR (a_o), vI (1), vD ((own_D p1)), s_, vD ((own_D 0)), s_, u_, u_, u_, u_] [] _
    refine XS.iloadN X13.here hx rfl (hb hby d4_26) rfl ?_
    refine XS.ifNo X13.here hx rfl (hb hby d4_27) rfl ((if0 _ _).trans (tlt ((by decide) : (0 : Int32) < (1 : Int32))).2.2.2) ?_
    refine XS.dloadN X13.here hx rfl (hb hby d4_30) rfl ?_
    show SS p e below m T13 31 #[vR (a_o), vI (1), vD ((own_D p1)), s_, vD ((own_D 0)), s_, u_, u_, u_, u_] [(.double (own_D p1))] _
    refine XS.dstore X13.here hx rfl (hb hby d4_31) rfl (l' := #[vR (a_o), vI (1), vD ((own_D p1)), s_, vD ((own_D 0)), s_, vD ((own_D p1)), s_, u_, u_]) rfl ?_
    refine XS.dload X13.here hx rfl (hb hby d4_33) rfl ?_
    refine XS.aloadN X13.here hx rfl (hb hby d4_35) rfl rfl ?_
    show SS p e below m T13 36 #[vR (a_o), vI (1), vD ((own_D p1)), s_, vD ((own_D 0)), s_, vD ((own_D p1)), s_, u_, u_] [(.ref a_o), (.double (own_D p1))] _
    refine st27 _ ?_
    show SS p e below m T27 39 #[vR (a_o), vI (1), vD ((own_D p1)), s_, vD ((own_D 0)), s_, vD ((own_D p1)), s_, u_, u_] [(.ref pa), (.double (own_D p1))] _
    refine XS.iinc X27.here hx rfl (hb hby d4_39) rfl (l' := #[vR (a_o), vI (0), vD ((own_D p1)), s_, vD ((own_D 0)), s_, vD ((own_D p1)), s_, u_, u_]) rfl ?_
    refine XS.iloadN X27.here hx rfl (hb hby d4_42) rfl ?_
    show SS p e below m T27 43 #[vR (a_o), vI (0), vD ((own_D p1)), s_, vD ((own_D 0)), s_, vD ((own_D p1)), s_, u_, u_] [(.int 0), (.ref pa), (.double (own_D p1))] _
    refine X27.daload hx (j := (0 : Int32)) (v := (.double (own_D p0))) (by rw [e27]; exact Ar31.1) (State.isArrayOf_alike hZ.alike Ar31.2.1) Ar31.2.2 hin31 hat31 (g := (mkF m 43 #[vR (a_o), vI (0), vD ((own_D p1)), s_, vD ((own_D 0)), s_, vD ((own_D p1)), s_, u_, u_] [(.int 0), (.ref pa), (.double (own_D p1))])) rfl rfl (hb hby d4_43) _ ?_
    show SS p e below m T27 44 #[vR (a_o), vI (0), vD ((own_D p1)), s_, vD ((own_D 0)), s_, vD ((own_D p1)), s_, u_, u_] [(.double (own_D p0)), (.double (own_D p1))] _
    refine XS.daddS X27.here hx rfl (hb hby d4_44) rfl (nn_w (a := Int64.ofInt (own_rn (p1 + p0))) hq33) hq33 ?_
    show SS p e below m T27 45 #[vR (a_o), vI (0), vD ((own_D p1)), s_, vD ((own_D 0)), s_, vD ((own_D p1)), s_, u_, u_] [(.double (own_D (own_rn (p1 + p0))))] _
    refine XS.dstoreN X27.here hx rfl (hb hby d4_45) rfl (l' := #[vR (a_o), vI (0), vD ((own_D (own_rn (p1 + p0)))), s_, vD ((own_D 0)), s_, vD ((own_D p1)), s_, u_, u_]) rfl ?_
    refine XS.aloadN X27.here hx rfl (hb hby d4_46) rfl rfl ?_
    show SS p e below m T27 47 #[vR (a_o), vI (0), vD ((own_D (own_rn (p1 + p0)))), s_, vD ((own_D 0)), s_, vD ((own_D p1)), s_, u_, u_] [(.ref a_o)] _
    refine st37 _ ?_
    show SS p e below m T37 50 #[vR (a_o), vI (0), vD ((own_D (own_rn (p1 + p0)))), s_, vD ((own_D 0)), s_, vD ((own_D p1)), s_, u_, u_] [(.ref pa)] _
    refine XS.iloadN X37.here hx rfl (hb hby d4_50) rfl ?_
    show SS p e below m T37 51 #[vR (a_o), vI (0), vD ((own_D (own_rn (p1 + p0)))), s_, vD ((own_D 0)), s_, vD ((own_D p1)), s_, u_, u_] [(.int 0), (.ref pa)] _
    refine X37.daload hx (j := (0 : Int32)) (v := (.double (own_D p0))) (by rw [e37]; exact Ar40.1) (State.isArrayOf_alike hZ.alike Ar40.2.1) Ar40.2.2 hin40 hat40 (g := (mkF m 51 #[vR (a_o), vI (0), vD ((own_D (own_rn (p1 + p0)))), s_, vD ((own_D 0)), s_, vD ((own_D p1)), s_, u_, u_] [(.int 0), (.ref pa)])) rfl rfl (hb hby d4_51) _ ?_
    show SS p e below m T37 52 #[vR (a_o), vI (0), vD ((own_D (own_rn (p1 + p0)))), s_, vD ((own_D 0)), s_, vD ((own_D p1)), s_, u_, u_] [(.double (own_D p0))] _
    refine XS.dloadN X37.here hx rfl (hb hby d4_52) rfl ?_
    refine XS.dload X37.here hx rfl (hb hby d4_53) rfl ?_
    show SS p e below m T37 55 #[vR (a_o), vI (0), vD ((own_D (own_rn (p1 + p0)))), s_, vD ((own_D 0)), s_, vD ((own_D p1)), s_, u_, u_] [(.double (own_D p1)), (.double (own_D (own_rn (p1 + p0)))), (.double (own_D p0))] _
    refine XS.dsubS X37.here hx rfl (hb hby d4_55) rfl (nn_w (a := Int64.ofInt (own_rn ((own_rn (p1 + p0)) - p1))) hq44) hq44 ?_
    show SS p e below m T37 56 #[vR (a_o), vI (0), vD ((own_D (own_rn (p1 + p0)))), s_, vD ((own_D 0)), s_, vD ((own_D p1)), s_, u_, u_] [(.double (own_D (own_rn ((own_rn (p1 + p0)) - p1)))), (.double (own_D p0))] _
    refine XS.dsubS X37.here hx rfl (hb hby d4_56) rfl (nn_w (a := Int64.ofInt (own_rn (p0 - (own_rn ((own_rn (p1 + p0)) - p1))))) hq46) hq46 ?_
    show SS p e below m T37 57 #[vR (a_o), vI (0), vD ((own_D (own_rn (p1 + p0)))), s_, vD ((own_D 0)), s_, vD ((own_D p1)), s_, u_, u_] [(.double (own_D (own_rn (p0 - (own_rn ((own_rn (p1 + p0)) - p1))))))] _
    refine XS.dstore X37.here hx rfl (hb hby d4_57) rfl (l' := #[vR (a_o), vI (0), vD ((own_D (own_rn (p1 + p0)))), s_, vD ((own_D (own_rn (p0 - (own_rn ((own_rn (p1 + p0)) - p1)))))), s_, vD ((own_D p1)), s_, u_, u_]) rfl ?_
    refine XS.dload X37.here hx rfl (hb hby d4_59) rfl ?_
    refine XS.dconst0 X37.here hx rfl (hb hby d4_61) own_c0 ?_
    show SS p e below m T37 62 #[vR (a_o), vI (0), vD ((own_D (own_rn (p1 + p0)))), s_, vD ((own_D (own_rn (p0 - (own_rn ((own_rn (p1 + p0)) - p1)))))), s_, vD ((own_D p1)), s_, u_, u_] [(.double (own_D 0)), (.double (own_D (own_rn (p0 - (own_rn ((own_rn (p1 + p0)) - p1))))))] _
    refine XS.dcmpS X37.here hx rfl (hb hby d4_62) rfl (own_DcmpV (own_rrn _) own_rep0 (by omega) (by omega) (by omega) (by omega) _) ?_
    exact kt
  by_cases hc63_53 : (own_rn (p0 - (own_rn ((own_rn (p1 + p0)) - p1)))) = 0
  · obtain ⟨fs, hr, hrun, hended, hW, hsame⟩ := X37.leave (v := some (.double (own_D (own_rn (p1 + p0))))) (fun h => by rw [Bd.returns] at h; cases h) (hlocks := BodyLoose.notSynchronized Bd)
    refine ⟨_, _, pre52 _ ?_, hrun, hended, _, _, rfl, ?_, ⟨_, rfl⟩, hW, hsame.mono (by decide) (by decide)⟩
    · show SS p e below m T37 63 #[vR (a_o), vI (0), vD ((own_D (own_rn (p1 + p0)))), s_, vD ((own_D (own_rn (p0 - (own_rn ((own_rn (p1 + p0)) - p1)))))), s_, vD ((own_D p1)), s_, u_, u_] [(.int (own_cmp (own_rn (p0 - (own_rn ((own_rn (p1 + p0)) - p1)))) 0))] _
      refine XS.ifYes X37.here hx rfl (pc0 := 63) (pc' := 69) rfl (hb hby d4_63) rfl ((if0 _ _).trans (teq (own_cmEq.mpr hc63_53)).1) (by decide) (by decide) ?_
      refine XS.goto X37.here hx rfl (pc0 := 69) (pc' := 26) rfl (hb hby d4_69) (by decide) (by decide) ?_
      refine XS.iloadN X37.here hx rfl (hb hby d4_26) rfl ?_
      show SS p e below m T37 27 #[vR (a_o), vI (0), vD ((own_D (own_rn (p1 + p0)))), s_, vD ((own_D (own_rn (p0 - (own_rn ((own_rn (p1 + p0)) - p1)))))), s_, vD ((own_D p1)), s_, u_, u_] [(.int 0)] _
      refine XS.ifYes X37.here hx rfl (pc0 := 27) (pc' := 72) rfl (hb hby d4_27) rfl ((if0 _ _).trans (flt ((by decide) : ¬ ((0 : Int32) < (0 : Int32)))).2.2.2) (by decide) (by decide) ?_
      refine XS.iloadN X37.here hx rfl (hb hby d4_72) rfl ?_
      refine XS.ifYes X37.here hx rfl (pc0 := 73) (pc' := 136) rfl (hb hby d4_73) rfl ((if0 _ _).trans (flt ((by decide) : ¬ ((0 : Int32) < (0 : Int32)))).2.2.2) (by decide) (by decide) ?_
      show SS p e below m T37 136 #[vR (a_o), vI (0), vD ((own_D (own_rn (p1 + p0)))), s_, vD ((own_D (own_rn (p0 - (own_rn ((own_rn (p1 + p0)) - p1)))))), s_, vD ((own_D p1)), s_, u_, u_] [] _
      refine XS.dloadN X37.here hx rfl (hb hby d4_136) rfl ?_
      show SS p e below m T37 137 #[vR (a_o), vI (0), vD ((own_D (own_rn (p1 + p0)))), s_, vD ((own_D (own_rn (p0 - (own_rn ((own_rn (p1 + p0)) - p1)))))), s_, vD ((own_D p1)), s_, u_, u_] [(.double (own_D (own_rn (p1 + p0))))] _
      jvm_step X37.here [X37.here.top, hx, (hb hby d4_137), X37.method', Bd.returns, narrow]
      first | (intro acts; rw [hr _ acts rfl rfl rfl]) | rw [hr _ _ rfl rfl rfl]
      exact Steps.refl _
    · show Qown_vl2 Z a_o pa k_p p0 p1 w2 w3 h0 n0 _ T37.heap _
      rw [e37]
      have hv : (own_vl2_f p0 p1) = (own_rn (p1 + p0)) := by unfold own_vl2_f; rw [if_pos hc63_53]
      exact ⟨(by rw [hv]), N0, rfl⟩
  · obtain ⟨fs, hr, hrun, hended, hW, hsame⟩ := X37.leave (v := some (.double (own_D (own_rn (p1 + p0))))) (fun h => by rw [Bd.returns] at h; cases h) (hlocks := BodyLoose.notSynchronized Bd)
    refine ⟨_, _, pre52 _ ?_, hrun, hended, _, _, rfl, ?_, ⟨_, rfl⟩, hW, hsame.mono (by decide) (by decide)⟩
    · show SS p e below m T37 63 #[vR (a_o), vI (0), vD ((own_D (own_rn (p1 + p0)))), s_, vD ((own_D (own_rn (p0 - (own_rn ((own_rn (p1 + p0)) - p1)))))), s_, vD ((own_D p1)), s_, u_, u_] [(.int (own_cmp (own_rn (p0 - (own_rn ((own_rn (p1 + p0)) - p1)))) 0))] _
      refine XS.ifNo X37.here hx rfl (hb hby d4_63) rfl ((if0 _ _).trans (feq (fun q => hc63_53 (own_cmEq.mp q))).1) ?_
      refine XS.goto X37.here hx rfl (pc0 := 66) (pc' := 72) rfl (hb hby d4_66) (by decide) (by decide) ?_
      refine XS.iloadN X37.here hx rfl (hb hby d4_72) rfl ?_
      show SS p e below m T37 73 #[vR (a_o), vI (0), vD ((own_D (own_rn (p1 + p0)))), s_, vD ((own_D (own_rn (p0 - (own_rn ((own_rn (p1 + p0)) - p1)))))), s_, vD ((own_D p1)), s_, u_, u_] [(.int 0)] _
      refine XS.ifYes X37.here hx rfl (pc0 := 73) (pc' := 136) rfl (hb hby d4_73) rfl ((if0 _ _).trans (flt ((by decide) : ¬ ((0 : Int32) < (0 : Int32)))).2.2.2) (by decide) (by decide) ?_
      refine XS.dloadN X37.here hx rfl (hb hby d4_136) rfl ?_
      show SS p e below m T37 137 #[vR (a_o), vI (0), vD ((own_D (own_rn (p1 + p0)))), s_, vD ((own_D (own_rn (p0 - (own_rn ((own_rn (p1 + p0)) - p1)))))), s_, vD ((own_D p1)), s_, u_, u_] [(.double (own_D (own_rn (p1 + p0))))] _
      jvm_step X37.here [X37.here.top, hx, (hb hby d4_137), X37.method', Bd.returns, narrow]
      first | (intro acts; rw [hr _ acts rfl rfl rfl]) | rw [hr _ _ rfl rfl rfl]
      exact Steps.refl _
    · show Qown_vl2 Z a_o pa k_p p0 p1 w2 w3 h0 n0 _ T37.heap _
      rw [e37]
      have hv : (own_vl2_f p0 p1) = (own_rn (p1 + p0)) := by unfold own_vl2_f; rw [if_neg hc63_53]
      exact ⟨(by rw [hv]), N0, rfl⟩
theorem own_ef_own_vl3 (m : MethodId) (a_o : Addr) : entryFrame m #[(.ref a_o)] 10 = mkF m 0 #[.val (.ref a_o), .unset, .unset, .unset, .unset, .unset, .unset, .unset, .unset, .unset] [] := by first | (simp [entryFrame, mkF, argsToLocals, Value.category]; done) | rfl
theorem d4_76 : decode prog_12_method_3_code 76 = .ok (.dload 4, 2) := by decide +kernel
theorem d4_78 : decode prog_12_method_3_code 78 = .ok (.dconst 0, 1) := by decide +kernel
theorem d4_79 : decode prog_12_method_3_code 79 = .ok (.dcmp .g, 1) := by decide +kernel
theorem d4_80 : decode prog_12_method_3_code 80 = .ok (.ifCond .ge 7, 3) := by decide +kernel
theorem d4_83 : decode prog_12_method_3_code 83 = .ok (.iconst 1, 1) := by decide +kernel
theorem d4_84 : decode prog_12_method_3_code 84 = .ok (.goto 4, 3) := by decide +kernel
theorem d4_87 : decode prog_12_method_3_code 87 = .ok (.iconst 0, 1) := by decide +kernel
theorem d4_88 : decode prog_12_method_3_code 88 = .ok (.aload_n 0, 1) := by decide +kernel
theorem d4_89 : decode prog_12_method_3_code 89 = .ok (.getfield 7, 3) := by decide +kernel
theorem d4_92 : decode prog_12_method_3_code 92 = .ok (.iload_n 1, 1) := by decide +kernel
theorem d4_93 : decode prog_12_method_3_code 93 = .ok (.iconst 1, 1) := by decide +kernel
theorem d4_94 : decode prog_12_method_3_code 94 = .ok (.isub, 1) := by decide +kernel
theorem d4_95 : decode prog_12_method_3_code 95 = .ok (.daload, 1) := by decide +kernel
theorem d4_96 : decode prog_12_method_3_code 96 = .ok (.dconst 0, 1) := by decide +kernel
theorem d4_97 : decode prog_12_method_3_code 97 = .ok (.dcmp .g, 1) := by decide +kernel
theorem d4_98 : decode prog_12_method_3_code 98 = .ok (.ifCond .ge 7, 3) := by decide +kernel
theorem d4_101 : decode prog_12_method_3_code 101 = .ok (.iconst 1, 1) := by decide +kernel
theorem d4_102 : decode prog_12_method_3_code 102 = .ok (.goto 4, 3) := by decide +kernel
theorem d4_105 : decode prog_12_method_3_code 105 = .ok (.iconst 0, 1) := by decide +kernel
theorem d4_106 : decode prog_12_method_3_code 106 = .ok (.if_icmp .ne 30, 3) := by decide +kernel
theorem d4_109 : decode prog_12_method_3_code 109 = .ok (.dload 4, 2) := by decide +kernel
theorem d4_111 : decode prog_12_method_3_code 111 = .ok (.ldc2_w 27, 3) := by decide +kernel
theorem d4_114 : decode prog_12_method_3_code 114 = .ok (.dmul, 1) := by decide +kernel
theorem d4_115 : decode prog_12_method_3_code 115 = .ok (.dstore 6, 2) := by decide +kernel
theorem d4_117 : decode prog_12_method_3_code 117 = .ok (.dload_n 2, 1) := by decide +kernel
theorem d4_118 : decode prog_12_method_3_code 118 = .ok (.dload 6, 2) := by decide +kernel
theorem d4_120 : decode prog_12_method_3_code 120 = .ok (.dadd, 1) := by decide +kernel
theorem d4_121 : decode prog_12_method_3_code 121 = .ok (.dstore 8, 2) := by decide +kernel
theorem d4_123 : decode prog_12_method_3_code 123 = .ok (.dload 8, 2) := by decide +kernel
theorem d4_125 : decode prog_12_method_3_code 125 = .ok (.dload_n 2, 1) := by decide +kernel
theorem d4_126 : decode prog_12_method_3_code 126 = .ok (.dsub, 1) := by decide +kernel
theorem d4_127 : decode prog_12_method_3_code 127 = .ok (.dload 6, 2) := by decide +kernel
theorem d4_129 : decode prog_12_method_3_code 129 = .ok (.dcmp .l, 1) := by decide +kernel
theorem d4_130 : decode prog_12_method_3_code 130 = .ok (.ifCond .ne 6, 3) := by decide +kernel
theorem d4_133 : decode prog_12_method_3_code 133 = .ok (.dload 8, 2) := by decide +kernel
theorem d4_135 : decode prog_12_method_3_code 135 = .ok (.dstore_n 2, 1) := by decide +kernel
def own_vl3_f (p0 : Int) (p1 : Int) (p2 : Int) : Int := (if (own_rn (p1 - (own_rn ((own_rn (p2 + p1)) - p2)))) = 0 then (if (own_rn (p0 - (own_rn ((own_rn ((own_rn (p2 + p1)) + p0)) - (own_rn (p2 + p1)))))) = 0 then (own_rn ((own_rn (p2 + p1)) + p0)) else (own_rn ((own_rn (p2 + p1)) + p0))) else (if (own_rn (p1 - (own_rn ((own_rn (p2 + p1)) - p2)))) < 0 then (if p0 < 0 then (if (own_rn ((own_rn ((own_rn (p2 + p1)) + (own_rn ((own_rn (p1 - (own_rn ((own_rn (p2 + p1)) - p2)))) * 2)))) - (own_rn (p2 + p1)))) = (own_rn ((own_rn (p1 - (own_rn ((own_rn (p2 + p1)) - p2)))) * 2)) then (own_rn ((own_rn (p2 + p1)) + (own_rn ((own_rn (p1 - (own_rn ((own_rn (p2 + p1)) - p2)))) * 2)))) else (own_rn (p2 + p1))) else (own_rn (p2 + p1))) else (if p0 < 0 then (own_rn (p2 + p1)) else (if (own_rn ((own_rn ((own_rn (p2 + p1)) + (own_rn ((own_rn (p1 - (own_rn ((own_rn (p2 + p1)) - p2)))) * 2)))) - (own_rn (p2 + p1)))) = (own_rn ((own_rn (p1 - (own_rn ((own_rn (p2 + p1)) - p2)))) * 2)) then (own_rn ((own_rn (p2 + p1)) + (own_rn ((own_rn (p1 - (own_rn ((own_rn (p2 + p1)) - p2)))) * 2)))) else (own_rn (p2 + p1))))))
def Qown_vl3 (Z : State) (a_o : Addr) (pa : Addr) (k_p : ClassId) (p0 : Int) (p1 : Int) (p2 : Int) (w3 : Value) (h0 : Heap) (n0 : Nat) (v : Option Value) (h : Heap) (L : List Loc) : Prop := v = some (.double (own_D (own_vl3_f p0 p1 p2))) ∧ Fr n0 L ∧ h = h0
set_option maxRecDepth 65536 in
set_option maxHeartbeats 40000000 in
theorem own_vl3 (l : Launch) (Z : State) (a0 : Array Value) (hw : ∀ d ∈ tables_1, d.before a0 Z = true) (ws : List Jvm.Cond) (a_o : Addr) (pa : Addr) (k_p : ClassId) (p0 : Int) (p1 : Int) (p2 : Int) (w3 : Value) (h0 : Heap) (n0 : Nat) (Z0 : n0 ≤ h0.size) (hxa : Exa Z h0 a_o "com/example/merit/merit/ExactSum") (hfp : Fld Z h0 a_o "com/example/merit/merit/ExactSum" "partials" "[D" (.ref pa)) (hfc : Fld Z h0 a_o "com/example/merit/merit/ExactSum" "count" "I" (.int 3)) (hA : Arv Z h0 pa k_p .double (4 : Int32) [(.double (own_D p0)), (.double (own_D p1)), (.double (own_D p2)), w3] (.double FP.dconst0)) (hr0 : own_Rep p0) (hr1 : own_Rep p1) (hr2 : own_Rep p2) (hs0 : -1024 ≤ p0 ∧ p0 ≤ 1024) (hs1 : -1024 ≤ p1 ∧ p1 ≤ 1024) (hbt : -9223372036854700000 ≤ p2 ∧ p2 ≤ 9223372036854700000) :
    MetFree l (⟨"com/example/merit/merit/ExactSum", "value", "()D"⟩ : MethodName) (head1 (Jvm.Cond.code (⟨"com/example/merit/merit/ExactSum", "value", "()D"⟩ : MethodName) prog_12_method_3_code 10 (some .double) :: ws) ({ frames := 0, cells := 0, slots := 0, locals := 0 } : Room)) (fun a U => a = #[(.ref a_o)] ∧ Z.Warmed39 U.vm ∧ U.heap = h0) (fun _ _ _ _ _ => True) (fun _ U o U' => ∃ v L, o = .returned v ∧ Qown_vl3 Z a_o pa k_p p0 p1 p2 w3 h0 n0 v U'.heap L ∧ FrameEnd U o U' L ({ frames := 0, cells := 0, slots := 0, locals := 0 } : Room).cells ({ frames := 0, cells := 0, slots := 0, locals := 0 } : Room).slots) := by
  refine MetFree.of_bodySF (plainFor_of_name own_pn0) hisR ?_
  intro p e s m args below meth c s₁ Bd hml0 hP hK
  obtain ⟨rfl, hZ, hh⟩ := hP
  have hx := Bd.exec
  have hby := Bd.bytes
  have hml : c.maxLocals = 10 := hml0
  have hown : s.vm.findClass "com/example/merit/merit/ExactSum" = some m.cls := findClass_of_methodNamed Bd.named
  have hnm := (name_of_methodNamed Bd.named Bd.method).1
  have X0 : Stand p l e ({ frames := 0, cells := 0, slots := 0, locals := 0 } : Room) s m #[(.ref a_o)] below meth c s₁ [] 0 0 := Stand.of_body Bd
  have e0 : s₁.heap = h0 := by rw [← hh, Bd.state]; rfl
  have N0 := Fr.nil n0
  have pre0 : ∀ t, Steps p.tables e below (s₁.setTop (mkF m 0 #[vR (a_o), u_, u_, u_, u_, u_, u_, u_, u_, u_] [])) t → Steps p.tables e below (s₁.setTop (entryFrame m #[(.ref a_o)] 10)) t := fun t k => castTop (own_ef_own_vl3 m a_o) k
  obtain ⟨T3, X3, e3, st3⟩ := getF X0 hx hZ hown (host := "") (Or.inl (hw _ (gm 17 rfl))) Via.refl e0 hfc (g := (mkF m 1 #[vR (a_o), u_, u_, u_, u_, u_, u_, u_, u_, u_] [(.ref a_o)])) rfl rfl (hb hby d4_1)
  obtain ⟨T7, X7, e7, st7⟩ := getF X3 hx hZ hown (host := "") (Or.inl (hw _ (gm 17 rfl))) Via.refl e3 hfc (g := (mkF m 10 #[vR (a_o), u_, u_, u_, u_, u_, u_, u_, u_, u_] [(.ref a_o)])) rfl rfl (hb hby d4_10)
  obtain ⟨T13, X13, e13, st13⟩ := getF X7 hx hZ hown (host := "") (Or.inl (hw _ (gm 10 rfl))) Via.refl e7 hfp (g := (mkF m 17 #[vR (a_o), vI (2), u_, u_, u_, u_, u_, u_, u_, u_] [(.ref a_o)])) rfl rfl (hb hby d4_17)
  obtain ⟨cl16, Ar16, q16, S16, M16, H16, G16⟩ := id hA
  have hin16 : ¬ ((2 : Int32) < 0 ∨ cl16.slots.size ≤ ((2 : Int32)).toNatClampNeg) := inb_of S16 ⟨by decide, by decide⟩
  have hat16 : cl16.slots[((2 : Int32)).toNatClampNeg]? = some (.double (own_D p2)) := H16.at hin16 rfl
  obtain ⟨T27, X27, e27, st27⟩ := getF X13 hx hZ hown (host := "") (Or.inl (hw _ (gm 10 rfl))) Via.refl e13 hfp (g := (mkF m 36 #[vR (a_o), vI (2), vD ((own_D p2)), s_, vD ((own_D 0)), s_, vD ((own_D p2)), s_, u_, u_] [(.ref a_o), (.double (own_D p2))])) rfl rfl (hb hby d4_36)
  obtain ⟨cl31, Ar31, q31, S31, M31, H31, G31⟩ := id hA
  have hin31 : ¬ ((1 : Int32) < 0 ∨ cl31.slots.size ≤ ((1 : Int32)).toNatClampNeg) := inb_of S31 ⟨by decide, by decide⟩
  have hat31 : cl31.slots[((1 : Int32)).toNatClampNeg]? = some (.double (own_D p1)) := H31.at hin31 rfl
  have hq33 : FP.dadd (own_D p2) (own_D p1) = own_D (own_rn (p2 + p1)) := own_Dadd hr2 hr1 (by omega) (by omega) (by omega) (by omega) (by omega) (by omega)
  have hq33E := own_errSm (n := p2 + p1) (by omega) (by omega)
  obtain ⟨T37, X37, e37, st37⟩ := getF X27 hx hZ hown (host := "") (Or.inl (hw _ (gm 10 rfl))) Via.refl e27 hfp (g := (mkF m 47 #[vR (a_o), vI (1), vD ((own_D (own_rn (p2 + p1)))), s_, vD ((own_D 0)), s_, vD ((own_D p2)), s_, u_, u_] [(.ref a_o)])) rfl rfl (hb hby d4_47)
  obtain ⟨cl40, Ar40, q40, S40, M40, H40, G40⟩ := id hA
  have hin40 : ¬ ((1 : Int32) < 0 ∨ cl40.slots.size ≤ ((1 : Int32)).toNatClampNeg) := inb_of S40 ⟨by decide, by decide⟩
  have hat40 : cl40.slots[((1 : Int32)).toNatClampNeg]? = some (.double (own_D p1)) := H40.at hin40 rfl
  have hq44 : FP.dsub (own_D (own_rn (p2 + p1))) (own_D p2) = own_D (own_rn ((own_rn (p2 + p1)) - p2)) := own_Dsub (own_rrn _) hr2 (by omega) (by omega) (by omega) (by omega) (by omega) (by omega)
  have hq44E := own_errSm (n := (own_rn (p2 + p1)) - p2) (by omega) (by omega)
  have hq46 : FP.dsub (own_D p1) (own_D (own_rn ((own_rn (p2 + p1)) - p2))) = own_D (own_rn (p1 - (own_rn ((own_rn (p2 + p1)) - p2)))) := own_Dsub hr1 (own_rrn _) (by omega) (by omega) (by omega) (by omega) (by omega) (by omega)
  have hq46E := own_errSm (n := p1 - (own_rn ((own_rn (p2 + p1)) - p2))) (by omega) (by omega)
  have pre52 : ∀ t, Steps p.tables e below (T37.setTop (mkF m 63 #[vR (a_o), vI (1), vD ((own_D (own_rn (p2 + p1)))), s_, vD ((own_D (own_rn (p1 - (own_rn ((own_rn (p2 + p1)) - p2)))))), s_, vD ((own_D p2)), s_, u_, u_] [(.int (own_cmp (own_rn (p1 - (own_rn ((own_rn (p2 + p1)) - p2)))) 0))])) t → Steps p.tables e below (s₁.setTop (entryFrame m #[(.ref a_o)] 10)) t := by
    intro t kt
    refine pre0 _ ?_
    show SS p e below m s₁ 0 #[vR (a_o), u_, u_, u_, u_, u_, u_, u_, u_, u_] [] _
    refine XS.aloadN X0.here hx rfl (hb hby d4_0) rfl rfl ?_
    show SS p e below m s₁ 1 #[vR (a_o), u_, u_, u_, u_, u_, u_, u_, u_, u_] [(.ref a_o)] _
    refine st3 _ ?_
    show SS p e below m T3 4 #[vR (a_o), u_, u_, u_, u_, u_, u_, u_, u_, u_] [(.int 3)] _
    refine XS.ifYes X3.here hx rfl (pc0 := 4) (pc' := 9) rfl (hb hby d4_4) rfl ((if0 _ _).trans (feq ((by decide) : ¬ ((3 : Int32) = (0 : Int32)))).2) (by decide) (by decide) ?_
    refine XS.aloadN X3.here hx rfl (hb hby d4_9) rfl rfl ?_
    show SS p e below m T3 10 #[vR (a_o), u_, u_, u_, u_, u_, u_, u_, u_, u_] [(.ref a_o)] _
    refine st7 _ ?_
    show SS p e below m T7 13 #[vR (a_o), u_, u_, u_, u_, u_, u_, u_, u_, u_] [(.int 3)] _
    refine XS.iconst X7.here hx rfl (hb hby d4_13) ?_ --lit 1
    refine XS.isub X7.here hx rfl (hb hby d4_14) rfl ?_
    refine XS.istoreN X7.here hx rfl (hb hby d4_15) rfl (l' := #[vR (a_o), vI (2), u_, u_, u_, u_, u_, u_, u_, u_]) rfl ?_
    show SS p e below m T7 16 #[vR (a_o), vI (2), u_, u_, u_, u_, u_, u_, u_, u_] [] _
    refine XS.aloadN X7.here hx rfl (hb hby d4_16) rfl rfl ?_
    show SS p e below m T7 17 #[vR (a_o), vI (2), u_, u_, u_, u_, u_, u_, u_, u_] [(.ref a_o)] _
    refine st13 _ ?_
    show SS p e below m T13 20 #[vR (a_o), vI (2), u_, u_, u_, u_, u_, u_, u_, u_] [(.ref pa)] _
    refine XS.iloadN X13.here hx rfl (hb hby d4_20) rfl ?_
    show SS p e below m T13 21 #[vR (a_o), vI (2), u_, u_, u_, u_, u_, u_, u_, u_] [(.int 2), (.ref pa)] _
    refine X13.daload hx (j := (2 : Int32)) (v := (.double (own_D p2))) (by rw [e13]; exact Ar16.1) (State.isArrayOf_alike hZ.alike Ar16.2.1) Ar16.2.2 hin16 hat16 (g := (mkF m 21 #[vR (a_o), vI (2), u_, u_, u_, u_, u_, u_, u_, u_] [(.int 2), (.ref pa)])) rfl rfl (hb hby d4_21) _ ?_
    show SS p e below m T13 22 #[vR (a_o), vI (2), u_, u_, u_, u_, u_, u_, u_, u_] [(.double (own_D p2))] _
    refine XS.dstoreN X13.here hx rfl (hb hby d4_22) rfl (l' := #[vR (a_o), vI (2), vD ((own_D p2)), s_, u_, u_, u_, u_, u_, u_]) rfl ?_
    refine XS.dconst0 X13.here hx rfl (hb hby d4_23) own_c0 ?_
    refine XS.dstore X13.here hx rfl (hb hby d4_24) rfl (l' := #[vR (a_o), vI (2), vD ((own_D p2)), s_, vD ((own_D 0)), s_, u_, u_, u_, u_]) rfl ?_
    show SS p e below m T13 26 #[vR (a_o), vI (2), vD ((own_D p2)), s_, vD ((own_D 0)), s_, u_, u_, u_, u_] [] _
    refine XS.iloadN X13.here hx rfl (hb hby d4_26) rfl ?_
    refine XS.ifNo X13.here hx rfl (hb hby d4_27) rfl ((if0 _ _).trans (tlt ((by decide) : (0 : Int32) < (2 : Int32))).2.2.2) ?_
    refine XS.dloadN X13.here hx rfl (hb hby d4_30) rfl ?_
    show SS p e below m T13 31 #[vR (a_o), vI (2), vD ((own_D p2)), s_, vD ((own_D 0)), s_, u_, u_, u_, u_] [(.double (own_D p2))] _
    refine XS.dstore X13.here hx rfl (hb hby d4_31) rfl (l' := #[vR (a_o), vI (2), vD ((own_D p2)), s_, vD ((own_D 0)), s_, vD ((own_D p2)), s_, u_, u_]) rfl ?_
    refine XS.dload X13.here hx rfl (hb hby d4_33) rfl ?_
    refine XS.aloadN X13.here hx rfl (hb hby d4_35) rfl rfl ?_
    show SS p e below m T13 36 #[vR (a_o), vI (2), vD ((own_D p2)), s_, vD ((own_D 0)), s_, vD ((own_D p2)), s_, u_, u_] [(.ref a_o), (.double (own_D p2))] _
    refine st27 _ ?_
    show SS p e below m T27 39 #[vR (a_o), vI (2), vD ((own_D p2)), s_, vD ((own_D 0)), s_, vD ((own_D p2)), s_, u_, u_] [(.ref pa), (.double (own_D p2))] _
    refine XS.iinc X27.here hx rfl (hb hby d4_39) rfl (l' := #[vR (a_o), vI (1), vD ((own_D p2)), s_, vD ((own_D 0)), s_, vD ((own_D p2)), s_, u_, u_]) rfl ?_
    refine XS.iloadN X27.here hx rfl (hb hby d4_42) rfl ?_
    show SS p e below m T27 43 #[vR (a_o), vI (1), vD ((own_D p2)), s_, vD ((own_D 0)), s_, vD ((own_D p2)), s_, u_, u_] [(.int 1), (.ref pa), (.double (own_D p2))] _
    refine X27.daload hx (j := (1 : Int32)) (v := (.double (own_D p1))) (by rw [e27]; exact Ar31.1) (State.isArrayOf_alike hZ.alike Ar31.2.1) Ar31.2.2 hin31 hat31 (g := (mkF m 43 #[vR (a_o), vI (1), vD ((own_D p2)), s_, vD ((own_D 0)), s_, vD ((own_D p2)), s_, u_, u_] [(.int 1), (.ref pa), (.double (own_D p2))])) rfl rfl (hb hby d4_43) _ ?_
    show SS p e below m T27 44 #[vR (a_o), vI (1), vD ((own_D p2)), s_, vD ((own_D 0)), s_, vD ((own_D p2)), s_, u_, u_] [(.double (own_D p1)), (.double (own_D p2))] _
    refine XS.daddS X27.here hx rfl (hb hby d4_44) rfl (nn_w (a := Int64.ofInt (own_rn (p2 + p1))) hq33) hq33 ?_
    show SS p e below m T27 45 #[vR (a_o), vI (1), vD ((own_D p2)), s_, vD ((own_D 0)), s_, vD ((own_D p2)), s_, u_, u_] [(.double (own_D (own_rn (p2 + p1))))] _
    refine XS.dstoreN X27.here hx rfl (hb hby d4_45) rfl (l' := #[vR (a_o), vI (1), vD ((own_D (own_rn (p2 + p1)))), s_, vD ((own_D 0)), s_, vD ((own_D p2)), s_, u_, u_]) rfl ?_
    refine XS.aloadN X27.here hx rfl (hb hby d4_46) rfl rfl ?_
    show SS p e below m T27 47 #[vR (a_o), vI (1), vD ((own_D (own_rn (p2 + p1)))), s_, vD ((own_D 0)), s_, vD ((own_D p2)), s_, u_, u_] [(.ref a_o)] _
    refine st37 _ ?_
    show SS p e below m T37 50 #[vR (a_o), vI (1), vD ((own_D (own_rn (p2 + p1)))), s_, vD ((own_D 0)), s_, vD ((own_D p2)), s_, u_, u_] [(.ref pa)] _
    refine XS.iloadN X37.here hx rfl (hb hby d4_50) rfl ?_
    show SS p e below m T37 51 #[vR (a_o), vI (1), vD ((own_D (own_rn (p2 + p1)))), s_, vD ((own_D 0)), s_, vD ((own_D p2)), s_, u_, u_] [(.int 1), (.ref pa)] _
    refine X37.daload hx (j := (1 : Int32)) (v := (.double (own_D p1))) (by rw [e37]; exact Ar40.1) (State.isArrayOf_alike hZ.alike Ar40.2.1) Ar40.2.2 hin40 hat40 (g := (mkF m 51 #[vR (a_o), vI (1), vD ((own_D (own_rn (p2 + p1)))), s_, vD ((own_D 0)), s_, vD ((own_D p2)), s_, u_, u_] [(.int 1), (.ref pa)])) rfl rfl (hb hby d4_51) _ ?_
    show SS p e below m T37 52 #[vR (a_o), vI (1), vD ((own_D (own_rn (p2 + p1)))), s_, vD ((own_D 0)), s_, vD ((own_D p2)), s_, u_, u_] [(.double (own_D p1))] _
    refine XS.dloadN X37.here hx rfl (hb hby d4_52) rfl ?_
    refine XS.dload X37.here hx rfl (hb hby d4_53) rfl ?_
    show SS p e below m T37 55 #[vR (a_o), vI (1), vD ((own_D (own_rn (p2 + p1)))), s_, vD ((own_D 0)), s_, vD ((own_D p2)), s_, u_, u_] [(.double (own_D p2)), (.double (own_D (own_rn (p2 + p1)))), (.double (own_D p1))] _
    refine XS.dsubS X37.here hx rfl (hb hby d4_55) rfl (nn_w (a := Int64.ofInt (own_rn ((own_rn (p2 + p1)) - p2))) hq44) hq44 ?_
    show SS p e below m T37 56 #[vR (a_o), vI (1), vD ((own_D (own_rn (p2 + p1)))), s_, vD ((own_D 0)), s_, vD ((own_D p2)), s_, u_, u_] [(.double (own_D (own_rn ((own_rn (p2 + p1)) - p2)))), (.double (own_D p1))] _
    refine XS.dsubS X37.here hx rfl (hb hby d4_56) rfl (nn_w (a := Int64.ofInt (own_rn (p1 - (own_rn ((own_rn (p2 + p1)) - p2))))) hq46) hq46 ?_
    show SS p e below m T37 57 #[vR (a_o), vI (1), vD ((own_D (own_rn (p2 + p1)))), s_, vD ((own_D 0)), s_, vD ((own_D p2)), s_, u_, u_] [(.double (own_D (own_rn (p1 - (own_rn ((own_rn (p2 + p1)) - p2))))))] _
    refine XS.dstore X37.here hx rfl (hb hby d4_57) rfl (l' := #[vR (a_o), vI (1), vD ((own_D (own_rn (p2 + p1)))), s_, vD ((own_D (own_rn (p1 - (own_rn ((own_rn (p2 + p1)) - p2)))))), s_, vD ((own_D p2)), s_, u_, u_]) rfl ?_
    refine XS.dload X37.here hx rfl (hb hby d4_59) rfl ?_
    refine XS.dconst0 X37.here hx rfl (hb hby d4_61) own_c0 ?_
    show SS p e below m T37 62 #[vR (a_o), vI (1), vD ((own_D (own_rn (p2 + p1)))), s_, vD ((own_D (own_rn (p1 - (own_rn ((own_rn (p2 + p1)) - p2)))))), s_, vD ((own_D p2)), s_, u_, u_] [(.double (own_D 0)), (.double (own_D (own_rn (p1 - (own_rn ((own_rn (p2 + p1)) - p2))))))] _
    refine XS.dcmpS X37.here hx rfl (hb hby d4_62) rfl (own_DcmpV (own_rrn _) own_rep0 (by omega) (by omega) (by omega) (by omega) _) ?_
    exact kt
  by_cases hc63_53 : (own_rn (p1 - (own_rn ((own_rn (p2 + p1)) - p2)))) = 0
  · obtain ⟨T62, X62, e62, st62⟩ := getF X37 hx hZ hown (host := "") (Or.inl (hw _ (gm 10 rfl))) Via.refl e37 hfp (g := (mkF m 36 #[vR (a_o), vI (1), vD ((own_D (own_rn (p2 + p1)))), s_, vD ((own_D (own_rn (p1 - (own_rn ((own_rn (p2 + p1)) - p2)))))), s_, vD ((own_D (own_rn (p2 + p1)))), s_, u_, u_] [(.ref a_o), (.double (own_D (own_rn (p2 + p1))))])) rfl rfl (hb hby d4_36)
    obtain ⟨cl66, Ar66, q66, S66, M66, H66, G66⟩ := id hA
    have hin66 : ¬ ((0 : Int32) < 0 ∨ cl66.slots.size ≤ ((0 : Int32)).toNatClampNeg) := inb_of S66 ⟨by decide, by decide⟩
    have hat66 : cl66.slots[((0 : Int32)).toNatClampNeg]? = some (.double (own_D p0)) := H66.at hin66 rfl
    have hq68 : FP.dadd (own_D (own_rn (p2 + p1))) (own_D p0) = own_D (own_rn ((own_rn (p2 + p1)) + p0)) := own_Dadd (own_rrn _) hr0 (by omega) (by omega) (by omega) (by omega) (by omega) (by omega)
    have hq68E := own_errSm (n := (own_rn (p2 + p1)) + p0) (by omega) (by omega)
    obtain ⟨T72, X72, e72, st72⟩ := getF X62 hx hZ hown (host := "") (Or.inl (hw _ (gm 10 rfl))) Via.refl e62 hfp (g := (mkF m 47 #[vR (a_o), vI (0), vD ((own_D (own_rn ((own_rn (p2 + p1)) + p0)))), s_, vD ((own_D (own_rn (p1 - (own_rn ((own_rn (p2 + p1)) - p2)))))), s_, vD ((own_D (own_rn (p2 + p1)))), s_, u_, u_] [(.ref a_o)])) rfl rfl (hb hby d4_47)
    obtain ⟨cl75, Ar75, q75, S75, M75, H75, G75⟩ := id hA
    have hin75 : ¬ ((0 : Int32) < 0 ∨ cl75.slots.size ≤ ((0 : Int32)).toNatClampNeg) := inb_of S75 ⟨by decide, by decide⟩
    have hat75 : cl75.slots[((0 : Int32)).toNatClampNeg]? = some (.double (own_D p0)) := H75.at hin75 rfl
    have hq79 : FP.dsub (own_D (own_rn ((own_rn (p2 + p1)) + p0))) (own_D (own_rn (p2 + p1))) = own_D (own_rn ((own_rn ((own_rn (p2 + p1)) + p0)) - (own_rn (p2 + p1)))) := own_Dsub (own_rrn _) (own_rrn _) (by omega) (by omega) (by omega) (by omega) (by omega) (by omega)
    have hq79E := own_errSm (n := (own_rn ((own_rn (p2 + p1)) + p0)) - (own_rn (p2 + p1))) (by omega) (by omega)
    have hq81 : FP.dsub (own_D p0) (own_D (own_rn ((own_rn ((own_rn (p2 + p1)) + p0)) - (own_rn (p2 + p1))))) = own_D (own_rn (p0 - (own_rn ((own_rn ((own_rn (p2 + p1)) + p0)) - (own_rn (p2 + p1)))))) := own_Dsub hr0 (own_rrn _) (by omega) (by omega) (by omega) (by omega) (by omega) (by omega)
    have hq81E := own_errSm (n := p0 - (own_rn ((own_rn ((own_rn (p2 + p1)) + p0)) - (own_rn (p2 + p1))))) (by omega) (by omega)
    have pre87 : ∀ t, Steps p.tables e below (T72.setTop (mkF m 63 #[vR (a_o), vI (0), vD ((own_D (own_rn ((own_rn (p2 + p1)) + p0)))), s_, vD ((own_D (own_rn (p0 - (own_rn ((own_rn ((own_rn (p2 + p1)) + p0)) - (own_rn (p2 + p1)))))))), s_, vD ((own_D (own_rn (p2 + p1)))), s_, u_, u_] [(.int (own_cmp (own_rn (p0 - (own_rn ((own_rn ((own_rn (p2 + p1)) + p0)) - (own_rn (p2 + p1)))))) 0))])) t → Steps p.tables e below (s₁.setTop (entryFrame m #[(.ref a_o)] 10)) t := by
      intro t kt
      refine pre52 _ ?_
      show SS p e below m T37 63 #[vR (a_o), vI (1), vD ((own_D (own_rn (p2 + p1)))), s_, vD ((own_D (own_rn (p1 - (own_rn ((own_rn (p2 + p1)) - p2)))))), s_, vD ((own_D p2)), s_, u_, u_] [(.int (own_cmp (own_rn (p1 - (own_rn ((own_rn (p2 + p1)) - p2)))) 0))] _
      refine XS.ifYes X37.here hx rfl (pc0 := 63) (pc' := 69) rfl (hb hby d4_63) rfl ((if0 _ _).trans (teq (own_cmEq.mpr hc63_53)).1) (by decide) (by decide) ?_
      refine XS.goto X37.here hx rfl (pc0 := 69) (pc' := 26) rfl (hb hby d4_69) (by decide) (by decide) ?_
      refine XS.iloadN X37.here hx rfl (hb hby d4_26) rfl ?_
      show SS p e below m T37 27 #[vR (a_o), vI (1), vD ((own_D (own_rn (p2 + p1)))), s_, vD ((own_D (own_rn (p1 - (own_rn ((own_rn (p2 + p1)) - p2)))))), s_, vD ((own_D p2)), s_, u_, u_] [(.int 1)] _
      refine XS.ifNo X37.here hx rfl (hb hby d4_27) rfl ((if0 _ _).trans (tlt ((by decide) : (0 : Int32) < (1 : Int32))).2.2.2) ?_
      refine XS.dloadN X37.here hx rfl (hb hby d4_30) rfl ?_
      refine XS.dstore X37.here hx rfl (hb hby d4_31) rfl (l' := #[vR (a_o), vI (1), vD ((own_D (own_rn (p2 + p1)))), s_, vD ((own_D (own_rn (p1 - (own_rn ((own_rn (p2 + p1)) - p2)))))), s_, vD ((own_D (own_rn (p2 + p1)))), s_, u_, u_]) rfl ?_
      show SS p e below m T37 33 #[vR (a_o), vI (1), vD ((own_D (own_rn (p2 + p1)))), s_, vD ((own_D (own_rn (p1 - (own_rn ((own_rn (p2 + p1)) - p2)))))), s_, vD ((own_D (own_rn (p2 + p1)))), s_, u_, u_] [] _
      refine XS.dload X37.here hx rfl (hb hby d4_33) rfl ?_
      refine XS.aloadN X37.here hx rfl (hb hby d4_35) rfl rfl ?_
      show SS p e below m T37 36 #[vR (a_o), vI (1), vD ((own_D (own_rn (p2 + p1)))), s_, vD ((own_D (own_rn (p1 - (own_rn ((own_rn (p2 + p1)) - p2)))))), s_, vD ((own_D (own_rn (p2 + p1)))), s_, u_, u_] [(.ref a_o), (.double (own_D (own_rn (p2 + p1))))] _
      refine st62 _ ?_
      show SS p e below m T62 39 #[vR (a_o), vI (1), vD ((own_D (own_rn (p2 + p1)))), s_, vD ((own_D (own_rn (p1 - (own_rn ((own_rn (p2 + p1)) - p2)))))), s_, vD ((own_D (own_rn (p2 + p1)))), s_, u_, u_] [(.ref pa), (.double (own_D (own_rn (p2 + p1))))] _
      refine XS.iinc X62.here hx rfl (hb hby d4_39) rfl (l' := #[vR (a_o), vI (0), vD ((own_D (own_rn (p2 + p1)))), s_, vD ((own_D (own_rn (p1 - (own_rn ((own_rn (p2 + p1)) - p2)))))), s_, vD ((own_D (own_rn (p2 + p1)))), s_, u_, u_]) rfl ?_
      refine XS.iloadN X62.here hx rfl (hb hby d4_42) rfl ?_
      show SS p e below m T62 43 #[vR (a_o), vI (0), vD ((own_D (own_rn (p2 + p1)))), s_, vD ((own_D (own_rn (p1 - (own_rn ((own_rn (p2 + p1)) - p2)))))), s_, vD ((own_D (own_rn (p2 + p1)))), s_, u_, u_] [(.int 0), (.ref pa), (.double (own_D (own_rn (p2 + p1))))] _
      refine X62.daload hx (j := (0 : Int32)) (v := (.double (own_D p0))) (by rw [e62]; exact Ar66.1) (State.isArrayOf_alike hZ.alike Ar66.2.1) Ar66.2.2 hin66 hat66 (g := (mkF m 43 #[vR (a_o), vI (0), vD ((own_D (own_rn (p2 + p1)))), s_, vD ((own_D (own_rn (p1 - (own_rn ((own_rn (p2 + p1)) - p2)))))), s_, vD ((own_D (own_rn (p2 + p1)))), s_, u_, u_] [(.int 0), (.ref pa), (.double (own_D (own_rn (p2 + p1))))])) rfl rfl (hb hby d4_43) _ ?_
      show SS p e below m T62 44 #[vR (a_o), vI (0), vD ((own_D (own_rn (p2 + p1)))), s_, vD ((own_D (own_rn (p1 - (own_rn ((own_rn (p2 + p1)) - p2)))))), s_, vD ((own_D (own_rn (p2 + p1)))), s_, u_, u_] [(.double (own_D p0)), (.double (own_D (own_rn (p2 + p1))))] _
      refine XS.daddS X62.here hx rfl (hb hby d4_44) rfl (nn_w (a := Int64.ofInt (own_rn ((own_rn (p2 + p1)) + p0))) hq68) hq68 ?_
      show SS p e below m T62 45 #[vR (a_o), vI (0), vD ((own_D (own_rn (p2 + p1)))), s_, vD ((own_D (own_rn (p1 - (own_rn ((own_rn (p2 + p1)) - p2)))))), s_, vD ((own_D (own_rn (p2 + p1)))), s_, u_, u_] [(.double (own_D (own_rn ((own_rn (p2 + p1)) + p0))))] _
      refine XS.dstoreN X62.here hx rfl (hb hby d4_45) rfl (l' := #[vR (a_o), vI (0), vD ((own_D (own_rn ((own_rn (p2 + p1)) + p0)))), s_, vD ((own_D (own_rn (p1 - (own_rn ((own_rn (p2 + p1)) - p2)))))), s_, vD ((own_D (own_rn (p2 + p1)))), s_, u_, u_]) rfl ?_
      refine XS.aloadN X62.here hx rfl (hb hby d4_46) rfl rfl ?_
      show SS p e below m T62 47 #[vR (a_o), vI (0), vD ((own_D (own_rn ((own_rn (p2 + p1)) + p0)))), s_, vD ((own_D (own_rn (p1 - (own_rn ((own_rn (p2 + p1)) - p2)))))), s_, vD ((own_D (own_rn (p2 + p1)))), s_, u_, u_] [(.ref a_o)] _
      refine st72 _ ?_
      show SS p e below m T72 50 #[vR (a_o), vI (0), vD ((own_D (own_rn ((own_rn (p2 + p1)) + p0)))), s_, vD ((own_D (own_rn (p1 - (own_rn ((own_rn (p2 + p1)) - p2)))))), s_, vD ((own_D (own_rn (p2 + p1)))), s_, u_, u_] [(.ref pa)] _
      refine XS.iloadN X72.here hx rfl (hb hby d4_50) rfl ?_
      show SS p e below m T72 51 #[vR (a_o), vI (0), vD ((own_D (own_rn ((own_rn (p2 + p1)) + p0)))), s_, vD ((own_D (own_rn (p1 - (own_rn ((own_rn (p2 + p1)) - p2)))))), s_, vD ((own_D (own_rn (p2 + p1)))), s_, u_, u_] [(.int 0), (.ref pa)] _
      refine X72.daload hx (j := (0 : Int32)) (v := (.double (own_D p0))) (by rw [e72]; exact Ar75.1) (State.isArrayOf_alike hZ.alike Ar75.2.1) Ar75.2.2 hin75 hat75 (g := (mkF m 51 #[vR (a_o), vI (0), vD ((own_D (own_rn ((own_rn (p2 + p1)) + p0)))), s_, vD ((own_D (own_rn (p1 - (own_rn ((own_rn (p2 + p1)) - p2)))))), s_, vD ((own_D (own_rn (p2 + p1)))), s_, u_, u_] [(.int 0), (.ref pa)])) rfl rfl (hb hby d4_51) _ ?_
      show SS p e below m T72 52 #[vR (a_o), vI (0), vD ((own_D (own_rn ((own_rn (p2 + p1)) + p0)))), s_, vD ((own_D (own_rn (p1 - (own_rn ((own_rn (p2 + p1)) - p2)))))), s_, vD ((own_D (own_rn (p2 + p1)))), s_, u_, u_] [(.double (own_D p0))] _
      refine XS.dloadN X72.here hx rfl (hb hby d4_52) rfl ?_
      refine XS.dload X72.here hx rfl (hb hby d4_53) rfl ?_
      show SS p e below m T72 55 #[vR (a_o), vI (0), vD ((own_D (own_rn ((own_rn (p2 + p1)) + p0)))), s_, vD ((own_D (own_rn (p1 - (own_rn ((own_rn (p2 + p1)) - p2)))))), s_, vD ((own_D (own_rn (p2 + p1)))), s_, u_, u_] [(.double (own_D (own_rn (p2 + p1)))), (.double (own_D (own_rn ((own_rn (p2 + p1)) + p0)))), (.double (own_D p0))] _
      refine XS.dsubS X72.here hx rfl (hb hby d4_55) rfl (nn_w (a := Int64.ofInt (own_rn ((own_rn ((own_rn (p2 + p1)) + p0)) - (own_rn (p2 + p1))))) hq79) hq79 ?_
      show SS p e below m T72 56 #[vR (a_o), vI (0), vD ((own_D (own_rn ((own_rn (p2 + p1)) + p0)))), s_, vD ((own_D (own_rn (p1 - (own_rn ((own_rn (p2 + p1)) - p2)))))), s_, vD ((own_D (own_rn (p2 + p1)))), s_, u_, u_] [(.double (own_D (own_rn ((own_rn ((own_rn (p2 + p1)) + p0)) - (own_rn (p2 + p1)))))), (.double (own_D p0))] _
      refine XS.dsubS X72.here hx rfl (hb hby d4_56) rfl (nn_w (a := Int64.ofInt (own_rn (p0 - (own_rn ((own_rn ((own_rn (p2 + p1)) + p0)) - (own_rn (p2 + p1))))))) hq81) hq81 ?_
      show SS p e below m T72 57 #[vR (a_o), vI (0), vD ((own_D (own_rn ((own_rn (p2 + p1)) + p0)))), s_, vD ((own_D (own_rn (p1 - (own_rn ((own_rn (p2 + p1)) - p2)))))), s_, vD ((own_D (own_rn (p2 + p1)))), s_, u_, u_] [(.double (own_D (own_rn (p0 - (own_rn ((own_rn ((own_rn (p2 + p1)) + p0)) - (own_rn (p2 + p1))))))))] _
      refine XS.dstore X72.here hx rfl (hb hby d4_57) rfl (l' := #[vR (a_o), vI (0), vD ((own_D (own_rn ((own_rn (p2 + p1)) + p0)))), s_, vD ((own_D (own_rn (p0 - (own_rn ((own_rn ((own_rn (p2 + p1)) + p0)) - (own_rn (p2 + p1)))))))), s_, vD ((own_D (own_rn (p2 + p1)))), s_, u_, u_]) rfl ?_
      refine XS.dload X72.here hx rfl (hb hby d4_59) rfl ?_
      refine XS.dconst0 X72.here hx rfl (hb hby d4_61) own_c0 ?_
      show SS p e below m T72 62 #[vR (a_o), vI (0), vD ((own_D (own_rn ((own_rn (p2 + p1)) + p0)))), s_, vD ((own_D (own_rn (p0 - (own_rn ((own_rn ((own_rn (p2 + p1)) + p0)) - (own_rn (p2 + p1)))))))), s_, vD ((own_D (own_rn (p2 + p1)))), s_, u_, u_] [(.double (own_D 0)), (.double (own_D (own_rn (p0 - (own_rn ((own_rn ((own_rn (p2 + p1)) + p0)) - (own_rn (p2 + p1))))))))] _
      refine XS.dcmpS X72.here hx rfl (hb hby d4_62) rfl (own_DcmpV (own_rrn _) own_rep0 (by omega) (by omega) (by omega) (by omega) _) ?_
      exact kt
    by_cases hc63_88 : (own_rn (p0 - (own_rn ((own_rn ((own_rn (p2 + p1)) + p0)) - (own_rn (p2 + p1)))))) = 0
    · obtain ⟨fs, hr, hrun, hended, hW, hsame⟩ := X72.leave (v := some (.double (own_D (own_rn ((own_rn (p2 + p1)) + p0))))) (fun h => by rw [Bd.returns] at h; cases h) (hlocks := BodyLoose.notSynchronized Bd)
      refine ⟨_, _, pre87 _ ?_, hrun, hended, _, _, rfl, ?_, ⟨_, rfl⟩, hW, hsame.mono (by decide) (by decide)⟩
      · show SS p e below m T72 63 #[vR (a_o), vI (0), vD ((own_D (own_rn ((own_rn (p2 + p1)) + p0)))), s_, vD ((own_D (own_rn (p0 - (own_rn ((own_rn ((own_rn (p2 + p1)) + p0)) - (own_rn (p2 + p1)))))))), s_, vD ((own_D (own_rn (p2 + p1)))), s_, u_, u_] [(.int (own_cmp (own_rn (p0 - (own_rn ((own_rn ((own_rn (p2 + p1)) + p0)) - (own_rn (p2 + p1)))))) 0))] _
        refine XS.ifYes X72.here hx rfl (pc0 := 63) (pc' := 69) rfl (hb hby d4_63) rfl ((if0 _ _).trans (teq (own_cmEq.mpr hc63_88)).1) (by decide) (by decide) ?_
        refine XS.goto X72.here hx rfl (pc0 := 69) (pc' := 26) rfl (hb hby d4_69) (by decide) (by decide) ?_
        refine XS.iloadN X72.here hx rfl (hb hby d4_26) rfl ?_
        show SS p e below m T72 27 #[vR (a_o), vI (0), vD ((own_D (own_rn ((own_rn (p2 + p1)) + p0)))), s_, vD ((own_D (own_rn (p0 - (own_rn ((own_rn ((own_rn (p2 + p1)) + p0)) - (own_rn (p2 + p1)))))))), s_, vD ((own_D (own_rn (p2 + p1)))), s_, u_, u_] [(.int 0)] _
        refine XS.ifYes X72.here hx rfl (pc0 := 27) (pc' := 72) rfl (hb hby d4_27) rfl ((if0 _ _).trans (flt ((by decide) : ¬ ((0 : Int32) < (0 : Int32)))).2.2.2) (by decide) (by decide) ?_
        refine XS.iloadN X72.here hx rfl (hb hby d4_72) rfl ?_
        refine XS.ifYes X72.here hx rfl (pc0 := 73) (pc' := 136) rfl (hb hby d4_73) rfl ((if0 _ _).trans (flt ((by decide) : ¬ ((0 : Int32) < (0 : Int32)))).2.2.2) (by decide) (by decide) ?_
        show SS p e below m T72 136 #[vR (a_o), vI (0), vD ((own_D (own_rn ((own_rn (p2 + p1)) + p0)))), s_, vD ((own_D (own_rn (p0 - (own_rn ((own_rn ((own_rn (p2 + p1)) + p0)) - (own_rn (p2 + p1)))))))), s_, vD ((own_D (own_rn (p2 + p1)))), s_, u_, u_] [] _
        refine XS.dloadN X72.here hx rfl (hb hby d4_136) rfl ?_
        show SS p e below m T72 137 #[vR (a_o), vI (0), vD ((own_D (own_rn ((own_rn (p2 + p1)) + p0)))), s_, vD ((own_D (own_rn (p0 - (own_rn ((own_rn ((own_rn (p2 + p1)) + p0)) - (own_rn (p2 + p1)))))))), s_, vD ((own_D (own_rn (p2 + p1)))), s_, u_, u_] [(.double (own_D (own_rn ((own_rn (p2 + p1)) + p0))))] _
        jvm_step X72.here [X72.here.top, hx, (hb hby d4_137), X72.method', Bd.returns, narrow]
        first | (intro acts; rw [hr _ acts rfl rfl rfl]) | rw [hr _ _ rfl rfl rfl]
        exact Steps.refl _
      · show Qown_vl3 Z a_o pa k_p p0 p1 p2 w3 h0 n0 _ T72.heap _
        rw [e72]
        have hv : (own_vl3_f p0 p1 p2) = (own_rn ((own_rn (p2 + p1)) + p0)) := by unfold own_vl3_f; rw [if_pos hc63_53, if_pos hc63_88]
        exact ⟨(by rw [hv]), N0, rfl⟩
    · obtain ⟨fs, hr, hrun, hended, hW, hsame⟩ := X72.leave (v := some (.double (own_D (own_rn ((own_rn (p2 + p1)) + p0))))) (fun h => by rw [Bd.returns] at h; cases h) (hlocks := BodyLoose.notSynchronized Bd)
      refine ⟨_, _, pre87 _ ?_, hrun, hended, _, _, rfl, ?_, ⟨_, rfl⟩, hW, hsame.mono (by decide) (by decide)⟩
      · show SS p e below m T72 63 #[vR (a_o), vI (0), vD ((own_D (own_rn ((own_rn (p2 + p1)) + p0)))), s_, vD ((own_D (own_rn (p0 - (own_rn ((own_rn ((own_rn (p2 + p1)) + p0)) - (own_rn (p2 + p1)))))))), s_, vD ((own_D (own_rn (p2 + p1)))), s_, u_, u_] [(.int (own_cmp (own_rn (p0 - (own_rn ((own_rn ((own_rn (p2 + p1)) + p0)) - (own_rn (p2 + p1)))))) 0))] _
        refine XS.ifNo X72.here hx rfl (hb hby d4_63) rfl ((if0 _ _).trans (feq (fun q => hc63_88 (own_cmEq.mp q))).1) ?_
        refine XS.goto X72.here hx rfl (pc0 := 66) (pc' := 72) rfl (hb hby d4_66) (by decide) (by decide) ?_
        refine XS.iloadN X72.here hx rfl (hb hby d4_72) rfl ?_
        show SS p e below m T72 73 #[vR (a_o), vI (0), vD ((own_D (own_rn ((own_rn (p2 + p1)) + p0)))), s_, vD ((own_D (own_rn (p0 - (own_rn ((own_rn ((own_rn (p2 + p1)) + p0)) - (own_rn (p2 + p1)))))))), s_, vD ((own_D (own_rn (p2 + p1)))), s_, u_, u_] [(.int 0)] _
        refine XS.ifYes X72.here hx rfl (pc0 := 73) (pc' := 136) rfl (hb hby d4_73) rfl ((if0 _ _).trans (flt ((by decide) : ¬ ((0 : Int32) < (0 : Int32)))).2.2.2) (by decide) (by decide) ?_
        refine XS.dloadN X72.here hx rfl (hb hby d4_136) rfl ?_
        show SS p e below m T72 137 #[vR (a_o), vI (0), vD ((own_D (own_rn ((own_rn (p2 + p1)) + p0)))), s_, vD ((own_D (own_rn (p0 - (own_rn ((own_rn ((own_rn (p2 + p1)) + p0)) - (own_rn (p2 + p1)))))))), s_, vD ((own_D (own_rn (p2 + p1)))), s_, u_, u_] [(.double (own_D (own_rn ((own_rn (p2 + p1)) + p0))))] _
        jvm_step X72.here [X72.here.top, hx, (hb hby d4_137), X72.method', Bd.returns, narrow]
        first | (intro acts; rw [hr _ acts rfl rfl rfl]) | rw [hr _ _ rfl rfl rfl]
        exact Steps.refl _
      · show Qown_vl3 Z a_o pa k_p p0 p1 p2 w3 h0 n0 _ T72.heap _
        rw [e72]
        have hv : (own_vl3_f p0 p1 p2) = (own_rn ((own_rn (p2 + p1)) + p0)) := by unfold own_vl3_f; rw [if_pos hc63_53, if_neg hc63_88]
        exact ⟨(by rw [hv]), N0, rfl⟩
  · have pre108 : ∀ t, Steps p.tables e below (T37.setTop (mkF m 80 #[vR (a_o), vI (1), vD ((own_D (own_rn (p2 + p1)))), s_, vD ((own_D (own_rn (p1 - (own_rn ((own_rn (p2 + p1)) - p2)))))), s_, vD ((own_D p2)), s_, u_, u_] [(.int (own_cmp (own_rn (p1 - (own_rn ((own_rn (p2 + p1)) - p2)))) 0))])) t → Steps p.tables e below (s₁.setTop (entryFrame m #[(.ref a_o)] 10)) t := by
      intro t kt
      refine pre52 _ ?_
      show SS p e below m T37 63 #[vR (a_o), vI (1), vD ((own_D (own_rn (p2 + p1)))), s_, vD ((own_D (own_rn (p1 - (own_rn ((own_rn (p2 + p1)) - p2)))))), s_, vD ((own_D p2)), s_, u_, u_] [(.int (own_cmp (own_rn (p1 - (own_rn ((own_rn (p2 + p1)) - p2)))) 0))] _
      refine XS.ifNo X37.here hx rfl (hb hby d4_63) rfl ((if0 _ _).trans (feq (fun q => hc63_53 (own_cmEq.mp q))).1) ?_
      refine XS.goto X37.here hx rfl (pc0 := 66) (pc' := 72) rfl (hb hby d4_66) (by decide) (by decide) ?_
      refine XS.iloadN X37.here hx rfl (hb hby d4_72) rfl ?_
      show SS p e below m T37 73 #[vR (a_o), vI (1), vD ((own_D (own_rn (p2 + p1)))), s_, vD ((own_D (own_rn (p1 - (own_rn ((own_rn (p2 + p1)) - p2)))))), s_, vD ((own_D p2)), s_, u_, u_] [(.int 1)] _
      refine XS.ifNo X37.here hx rfl (hb hby d4_73) rfl ((if0 _ _).trans (tlt ((by decide) : (0 : Int32) < (1 : Int32))).2.2.2) ?_
      refine XS.dload X37.here hx rfl (hb hby d4_76) rfl ?_
      refine XS.dconst0 X37.here hx rfl (hb hby d4_78) own_c0 ?_
      show SS p e below m T37 79 #[vR (a_o), vI (1), vD ((own_D (own_rn (p2 + p1)))), s_, vD ((own_D (own_rn (p1 - (own_rn ((own_rn (p2 + p1)) - p2)))))), s_, vD ((own_D p2)), s_, u_, u_] [(.double (own_D 0)), (.double (own_D (own_rn (p1 - (own_rn ((own_rn (p2 + p1)) - p2))))))] _
      refine XS.dcmpS X37.here hx rfl (hb hby d4_79) rfl (own_DcmpV (own_rrn _) own_rep0 (by omega) (by omega) (by omega) (by omega) _) ?_
      exact kt
    by_cases hc80_109 : (own_rn (p1 - (own_rn ((own_rn (p2 + p1)) - p2)))) < 0
    · obtain ⟨T114, X114, e114, st114⟩ := getF X37 hx hZ hown (host := "") (Or.inl (hw _ (gm 10 rfl))) Via.refl e37 hfp (g := (mkF m 89 #[vR (a_o), vI (1), vD ((own_D (own_rn (p2 + p1)))), s_, vD ((own_D (own_rn (p1 - (own_rn ((own_rn (p2 + p1)) - p2)))))), s_, vD ((own_D p2)), s_, u_, u_] [(.ref a_o), (.int 1)])) rfl rfl (hb hby d4_89)
      obtain ⟨cl119, Ar119, q119, S119, M119, H119, G119⟩ := id hA
      have hin119 : ¬ ((0 : Int32) < 0 ∨ cl119.slots.size ≤ ((0 : Int32)).toNatClampNeg) := inb_of S119 ⟨by decide, by decide⟩
      have hat119 : cl119.slots[((0 : Int32)).toNatClampNeg]? = some (.double (own_D p0)) := H119.at hin119 rfl
      have pre123 : ∀ t, Steps p.tables e below (T114.setTop (mkF m 98 #[vR (a_o), vI (1), vD ((own_D (own_rn (p2 + p1)))), s_, vD ((own_D (own_rn (p1 - (own_rn ((own_rn (p2 + p1)) - p2)))))), s_, vD ((own_D p2)), s_, u_, u_] [(.int (own_cmp p0 0)), (.int 1)])) t → Steps p.tables e below (s₁.setTop (entryFrame m #[(.ref a_o)] 10)) t := by
        intro t kt
        refine pre108 _ ?_
        show SS p e below m T37 80 #[vR (a_o), vI (1), vD ((own_D (own_rn (p2 + p1)))), s_, vD ((own_D (own_rn (p1 - (own_rn ((own_rn (p2 + p1)) - p2)))))), s_, vD ((own_D p2)), s_, u_, u_] [(.int (own_cmp (own_rn (p1 - (own_rn ((own_rn (p2 + p1)) - p2)))) 0))] _
        refine XS.ifNo X37.here hx rfl (hb hby d4_80) rfl ((if0 _ _).trans (tlt (own_cmLt.mpr hc80_109)).2.1) ?_
        refine XS.iconst X37.here hx rfl (hb hby d4_83) ?_ --lit 1
        refine XS.goto X37.here hx rfl (pc0 := 84) (pc' := 88) rfl (hb hby d4_84) (by decide) (by decide) ?_
        show SS p e below m T37 88 #[vR (a_o), vI (1), vD ((own_D (own_rn (p2 + p1)))), s_, vD ((own_D (own_rn (p1 - (own_rn ((own_rn (p2 + p1)) - p2)))))), s_, vD ((own_D p2)), s_, u_, u_] [(.int 1)] _
        refine XS.aloadN X37.here hx rfl (hb hby d4_88) rfl rfl ?_
        show SS p e below m T37 89 #[vR (a_o), vI (1), vD ((own_D (own_rn (p2 + p1)))), s_, vD ((own_D (own_rn (p1 - (own_rn ((own_rn (p2 + p1)) - p2)))))), s_, vD ((own_D p2)), s_, u_, u_] [(.ref a_o), (.int 1)] _
        refine st114 _ ?_
        show SS p e below m T114 92 #[vR (a_o), vI (1), vD ((own_D (own_rn (p2 + p1)))), s_, vD ((own_D (own_rn (p1 - (own_rn ((own_rn (p2 + p1)) - p2)))))), s_, vD ((own_D p2)), s_, u_, u_] [(.ref pa), (.int 1)] _
        refine XS.iloadN X114.here hx rfl (hb hby d4_92) rfl ?_
        refine XS.iconst X114.here hx rfl (hb hby d4_93) ?_ --lit 1
        refine XS.isub X114.here hx rfl (hb hby d4_94) rfl ?_
        show SS p e below m T114 95 #[vR (a_o), vI (1), vD ((own_D (own_rn (p2 + p1)))), s_, vD ((own_D (own_rn (p1 - (own_rn ((own_rn (p2 + p1)) - p2)))))), s_, vD ((own_D p2)), s_, u_, u_] [(.int 0), (.ref pa), (.int 1)] _
        refine X114.daload hx (j := (0 : Int32)) (v := (.double (own_D p0))) (by rw [e114]; exact Ar119.1) (State.isArrayOf_alike hZ.alike Ar119.2.1) Ar119.2.2 hin119 hat119 (g := (mkF m 95 #[vR (a_o), vI (1), vD ((own_D (own_rn (p2 + p1)))), s_, vD ((own_D (own_rn (p1 - (own_rn ((own_rn (p2 + p1)) - p2)))))), s_, vD ((own_D p2)), s_, u_, u_] [(.int 0), (.ref pa), (.int 1)])) rfl rfl (hb hby d4_95) _ ?_
        show SS p e below m T114 96 #[vR (a_o), vI (1), vD ((own_D (own_rn (p2 + p1)))), s_, vD ((own_D (own_rn (p1 - (own_rn ((own_rn (p2 + p1)) - p2)))))), s_, vD ((own_D p2)), s_, u_, u_] [(.double (own_D p0)), (.int 1)] _
        refine XS.dconst0 X114.here hx rfl (hb hby d4_96) own_c0 ?_
        show SS p e below m T114 97 #[vR (a_o), vI (1), vD ((own_D (own_rn (p2 + p1)))), s_, vD ((own_D (own_rn (p1 - (own_rn ((own_rn (p2 + p1)) - p2)))))), s_, vD ((own_D p2)), s_, u_, u_] [(.double (own_D 0)), (.double (own_D p0)), (.int 1)] _
        refine XS.dcmpS X114.here hx rfl (hb hby d4_97) rfl (own_DcmpV hr0 own_rep0 (by omega) (by omega) (by omega) (by omega) _) ?_
        exact kt
      by_cases hc98_124 : p0 < 0
      · have hq131 : FP.dmul (own_D (own_rn (p1 - (own_rn ((own_rn (p2 + p1)) - p2))))) (own_D 2) = own_D (own_rn ((own_rn (p1 - (own_rn ((own_rn (p2 + p1)) - p2)))) * 2)) := own_Dmul2 hc63_53 (by omega) (by omega)
        have hq131E := own_errSm (n := (own_rn (p1 - (own_rn ((own_rn (p2 + p1)) - p2)))) * 2) (by omega) (by omega)
        have hq136 : FP.dadd (own_D (own_rn (p2 + p1))) (own_D (own_rn ((own_rn (p1 - (own_rn ((own_rn (p2 + p1)) - p2)))) * 2))) = own_D (own_rn ((own_rn (p2 + p1)) + (own_rn ((own_rn (p1 - (own_rn ((own_rn (p2 + p1)) - p2)))) * 2)))) := own_Dadd (own_rrn _) (own_rrn _) (by omega) (by omega) (by omega) (by omega) (by omega) (by omega)
        have hq136E := own_errSm (n := (own_rn (p2 + p1)) + (own_rn ((own_rn (p1 - (own_rn ((own_rn (p2 + p1)) - p2)))) * 2))) (by omega) (by omega)
        have hq141 : FP.dsub (own_D (own_rn ((own_rn (p2 + p1)) + (own_rn ((own_rn (p1 - (own_rn ((own_rn (p2 + p1)) - p2)))) * 2))))) (own_D (own_rn (p2 + p1))) = own_D (own_rn ((own_rn ((own_rn (p2 + p1)) + (own_rn ((own_rn (p1 - (own_rn ((own_rn (p2 + p1)) - p2)))) * 2)))) - (own_rn (p2 + p1)))) := own_Dsub (own_rrn _) (own_rrn _) (by omega) (by omega) (by omega) (by omega) (by omega) (by omega)
        have hq141E := own_errSm (n := (own_rn ((own_rn (p2 + p1)) + (own_rn ((own_rn (p1 - (own_rn ((own_rn (p2 + p1)) - p2)))) * 2)))) - (own_rn (p2 + p1))) (by omega) (by omega)
        have pre145 : ∀ t, Steps p.tables e below (T114.setTop (mkF m 130 #[vR (a_o), vI (1), vD ((own_D (own_rn (p2 + p1)))), s_, vD ((own_D (own_rn (p1 - (own_rn ((own_rn (p2 + p1)) - p2)))))), s_, vD ((own_D (own_rn ((own_rn (p1 - (own_rn ((own_rn (p2 + p1)) - p2)))) * 2)))), s_, vD ((own_D (own_rn ((own_rn (p2 + p1)) + (own_rn ((own_rn (p1 - (own_rn ((own_rn (p2 + p1)) - p2)))) * 2)))))), s_] [(.int (own_cmp (own_rn ((own_rn ((own_rn (p2 + p1)) + (own_rn ((own_rn (p1 - (own_rn ((own_rn (p2 + p1)) - p2)))) * 2)))) - (own_rn (p2 + p1)))) (own_rn ((own_rn (p1 - (own_rn ((own_rn (p2 + p1)) - p2)))) * 2))))])) t → Steps p.tables e below (s₁.setTop (entryFrame m #[(.ref a_o)] 10)) t := by
          intro t kt
          refine pre123 _ ?_
          show SS p e below m T114 98 #[vR (a_o), vI (1), vD ((own_D (own_rn (p2 + p1)))), s_, vD ((own_D (own_rn (p1 - (own_rn ((own_rn (p2 + p1)) - p2)))))), s_, vD ((own_D p2)), s_, u_, u_] [(.int (own_cmp p0 0)), (.int 1)] _
          refine XS.ifNo X114.here hx rfl (hb hby d4_98) rfl ((if0 _ _).trans (tlt (own_cmLt.mpr hc98_124)).2.1) ?_
          refine XS.iconst X114.here hx rfl (hb hby d4_101) ?_ --lit 1
          refine XS.goto X114.here hx rfl (pc0 := 102) (pc' := 106) rfl (hb hby d4_102) (by decide) (by decide) ?_
          show SS p e below m T114 106 #[vR (a_o), vI (1), vD ((own_D (own_rn (p2 + p1)))), s_, vD ((own_D (own_rn (p1 - (own_rn ((own_rn (p2 + p1)) - p2)))))), s_, vD ((own_D p2)), s_, u_, u_] [(.int 1), (.int 1)] _
          refine XS.icmpNo X114.here hx rfl (hb hby d4_106) rfl (teq ((by decide) : (1 : Int32) = (1 : Int32))).2 ?_
          refine XS.dload X114.here hx rfl (hb hby d4_109) rfl ?_
          show SS p e below m T114 111 #[vR (a_o), vI (1), vD ((own_D (own_rn (p2 + p1)))), s_, vD ((own_D (own_rn (p1 - (own_rn ((own_rn (p2 + p1)) - p2)))))), s_, vD ((own_D p2)), s_, u_, u_] [(.double (own_D (own_rn (p1 - (own_rn ((own_rn (p2 + p1)) - p2))))))] _
          refine X114.ldc2DoubleC hx hown (mvT hZ (hw _ (gm 27 rfl))) (g := (mkF m 111 #[vR (a_o), vI (1), vD ((own_D (own_rn (p2 + p1)))), s_, vD ((own_D (own_rn (p1 - (own_rn ((own_rn (p2 + p1)) - p2)))))), s_, vD ((own_D p2)), s_, u_, u_] [(.double (own_D (own_rn (p1 - (own_rn ((own_rn (p2 + p1)) - p2))))))])) rfl (hb hby d4_111) _ ?_
          show SS p e below m T114 114 #[vR (a_o), vI (1), vD ((own_D (own_rn (p2 + p1)))), s_, vD ((own_D (own_rn (p1 - (own_rn ((own_rn (p2 + p1)) - p2)))))), s_, vD ((own_D p2)), s_, u_, u_] [(.double (4611686018427387904 : UInt64)), (.double (own_D (own_rn (p1 - (own_rn ((own_rn (p2 + p1)) - p2))))))] _
          rw [own_c2]
          show SS p e below m T114 114 #[vR (a_o), vI (1), vD ((own_D (own_rn (p2 + p1)))), s_, vD ((own_D (own_rn (p1 - (own_rn ((own_rn (p2 + p1)) - p2)))))), s_, vD ((own_D p2)), s_, u_, u_] [(.double (own_D 2)), (.double (own_D (own_rn (p1 - (own_rn ((own_rn (p2 + p1)) - p2))))))] _
          refine XS.dmulS X114.here hx rfl (hb hby d4_114) rfl (nn_w (a := Int64.ofInt (own_rn ((own_rn (p1 - (own_rn ((own_rn (p2 + p1)) - p2)))) * 2))) hq131) hq131 ?_
          show SS p e below m T114 115 #[vR (a_o), vI (1), vD ((own_D (own_rn (p2 + p1)))), s_, vD ((own_D (own_rn (p1 - (own_rn ((own_rn (p2 + p1)) - p2)))))), s_, vD ((own_D p2)), s_, u_, u_] [(.double (own_D (own_rn ((own_rn (p1 - (own_rn ((own_rn (p2 + p1)) - p2)))) * 2))))] _
          refine XS.dstore X114.here hx rfl (hb hby d4_115) rfl (l' := #[vR (a_o), vI (1), vD ((own_D (own_rn (p2 + p1)))), s_, vD ((own_D (own_rn (p1 - (own_rn ((own_rn (p2 + p1)) - p2)))))), s_, vD ((own_D (own_rn ((own_rn (p1 - (own_rn ((own_rn (p2 + p1)) - p2)))) * 2)))), s_, u_, u_]) rfl ?_
          refine XS.dloadN X114.here hx rfl (hb hby d4_117) rfl ?_
          refine XS.dload X114.here hx rfl (hb hby d4_118) rfl ?_
          show SS p e below m T114 120 #[vR (a_o), vI (1), vD ((own_D (own_rn (p2 + p1)))), s_, vD ((own_D (own_rn (p1 - (own_rn ((own_rn (p2 + p1)) - p2)))))), s_, vD ((own_D (own_rn ((own_rn (p1 - (own_rn ((own_rn (p2 + p1)) - p2)))) * 2)))), s_, u_, u_] [(.double (own_D (own_rn ((own_rn (p1 - (own_rn ((own_rn (p2 + p1)) - p2)))) * 2)))), (.double (own_D (own_rn (p2 + p1))))] _
          refine XS.daddS X114.here hx rfl (hb hby d4_120) rfl (nn_w (a := Int64.ofInt (own_rn ((own_rn (p2 + p1)) + (own_rn ((own_rn (p1 - (own_rn ((own_rn (p2 + p1)) - p2)))) * 2))))) hq136) hq136 ?_
          show SS p e below m T114 121 #[vR (a_o), vI (1), vD ((own_D (own_rn (p2 + p1)))), s_, vD ((own_D (own_rn (p1 - (own_rn ((own_rn (p2 + p1)) - p2)))))), s_, vD ((own_D (own_rn ((own_rn (p1 - (own_rn ((own_rn (p2 + p1)) - p2)))) * 2)))), s_, u_, u_] [(.double (own_D (own_rn ((own_rn (p2 + p1)) + (own_rn ((own_rn (p1 - (own_rn ((own_rn (p2 + p1)) - p2)))) * 2))))))] _
          refine XS.dstore X114.here hx rfl (hb hby d4_121) rfl (l' := #[vR (a_o), vI (1), vD ((own_D (own_rn (p2 + p1)))), s_, vD ((own_D (own_rn (p1 - (own_rn ((own_rn (p2 + p1)) - p2)))))), s_, vD ((own_D (own_rn ((own_rn (p1 - (own_rn ((own_rn (p2 + p1)) - p2)))) * 2)))), s_, vD ((own_D (own_rn ((own_rn (p2 + p1)) + (own_rn ((own_rn (p1 - (own_rn ((own_rn (p2 + p1)) - p2)))) * 2)))))), s_]) rfl ?_
          refine XS.dload X114.here hx rfl (hb hby d4_123) rfl ?_
          refine XS.dloadN X114.here hx rfl (hb hby d4_125) rfl ?_
          show SS p e below m T114 126 #[vR (a_o), vI (1), vD ((own_D (own_rn (p2 + p1)))), s_, vD ((own_D (own_rn (p1 - (own_rn ((own_rn (p2 + p1)) - p2)))))), s_, vD ((own_D (own_rn ((own_rn (p1 - (own_rn ((own_rn (p2 + p1)) - p2)))) * 2)))), s_, vD ((own_D (own_rn ((own_rn (p2 + p1)) + (own_rn ((own_rn (p1 - (own_rn ((own_rn (p2 + p1)) - p2)))) * 2)))))), s_] [(.double (own_D (own_rn (p2 + p1)))), (.double (own_D (own_rn ((own_rn (p2 + p1)) + (own_rn ((own_rn (p1 - (own_rn ((own_rn (p2 + p1)) - p2)))) * 2))))))] _
          refine XS.dsubS X114.here hx rfl (hb hby d4_126) rfl (nn_w (a := Int64.ofInt (own_rn ((own_rn ((own_rn (p2 + p1)) + (own_rn ((own_rn (p1 - (own_rn ((own_rn (p2 + p1)) - p2)))) * 2)))) - (own_rn (p2 + p1))))) hq141) hq141 ?_
          show SS p e below m T114 127 #[vR (a_o), vI (1), vD ((own_D (own_rn (p2 + p1)))), s_, vD ((own_D (own_rn (p1 - (own_rn ((own_rn (p2 + p1)) - p2)))))), s_, vD ((own_D (own_rn ((own_rn (p1 - (own_rn ((own_rn (p2 + p1)) - p2)))) * 2)))), s_, vD ((own_D (own_rn ((own_rn (p2 + p1)) + (own_rn ((own_rn (p1 - (own_rn ((own_rn (p2 + p1)) - p2)))) * 2)))))), s_] [(.double (own_D (own_rn ((own_rn ((own_rn (p2 + p1)) + (own_rn ((own_rn (p1 - (own_rn ((own_rn (p2 + p1)) - p2)))) * 2)))) - (own_rn (p2 + p1))))))] _
          refine XS.dload X114.here hx rfl (hb hby d4_127) rfl ?_
          show SS p e below m T114 129 #[vR (a_o), vI (1), vD ((own_D (own_rn (p2 + p1)))), s_, vD ((own_D (own_rn (p1 - (own_rn ((own_rn (p2 + p1)) - p2)))))), s_, vD ((own_D (own_rn ((own_rn (p1 - (own_rn ((own_rn (p2 + p1)) - p2)))) * 2)))), s_, vD ((own_D (own_rn ((own_rn (p2 + p1)) + (own_rn ((own_rn (p1 - (own_rn ((own_rn (p2 + p1)) - p2)))) * 2)))))), s_] [(.double (own_D (own_rn ((own_rn (p1 - (own_rn ((own_rn (p2 + p1)) - p2)))) * 2)))), (.double (own_D (own_rn ((own_rn ((own_rn (p2 + p1)) + (own_rn ((own_rn (p1 - (own_rn ((own_rn (p2 + p1)) - p2)))) * 2)))) - (own_rn (p2 + p1))))))] _
          refine XS.dcmpS X114.here hx rfl (hb hby d4_129) rfl (own_DcmpV (own_rrn _) (own_rrn _) (by omega) (by omega) (by omega) (by omega) _) ?_
          exact kt
        by_cases hc130_146 : (own_rn ((own_rn ((own_rn (p2 + p1)) + (own_rn ((own_rn (p1 - (own_rn ((own_rn (p2 + p1)) - p2)))) * 2)))) - (own_rn (p2 + p1)))) = (own_rn ((own_rn (p1 - (own_rn ((own_rn (p2 + p1)) - p2)))) * 2))
        · obtain ⟨fs, hr, hrun, hended, hW, hsame⟩ := X114.leave (v := some (.double (own_D (own_rn ((own_rn (p2 + p1)) + (own_rn ((own_rn (p1 - (own_rn ((own_rn (p2 + p1)) - p2)))) * 2))))))) (fun h => by rw [Bd.returns] at h; cases h) (hlocks := BodyLoose.notSynchronized Bd)
          refine ⟨_, _, pre145 _ ?_, hrun, hended, _, _, rfl, ?_, ⟨_, rfl⟩, hW, hsame.mono (by decide) (by decide)⟩
          · show SS p e below m T114 130 #[vR (a_o), vI (1), vD ((own_D (own_rn (p2 + p1)))), s_, vD ((own_D (own_rn (p1 - (own_rn ((own_rn (p2 + p1)) - p2)))))), s_, vD ((own_D (own_rn ((own_rn (p1 - (own_rn ((own_rn (p2 + p1)) - p2)))) * 2)))), s_, vD ((own_D (own_rn ((own_rn (p2 + p1)) + (own_rn ((own_rn (p1 - (own_rn ((own_rn (p2 + p1)) - p2)))) * 2)))))), s_] [(.int (own_cmp (own_rn ((own_rn ((own_rn (p2 + p1)) + (own_rn ((own_rn (p1 - (own_rn ((own_rn (p2 + p1)) - p2)))) * 2)))) - (own_rn (p2 + p1)))) (own_rn ((own_rn (p1 - (own_rn ((own_rn (p2 + p1)) - p2)))) * 2))))] _
            refine XS.ifNo X114.here hx rfl (hb hby d4_130) rfl ((if0 _ _).trans (teq (own_cmEq.mpr hc130_146)).2) ?_
            refine XS.dload X114.here hx rfl (hb hby d4_133) rfl ?_
            refine XS.dstoreN X114.here hx rfl (hb hby d4_135) rfl (l' := #[vR (a_o), vI (1), vD ((own_D (own_rn ((own_rn (p2 + p1)) + (own_rn ((own_rn (p1 - (own_rn ((own_rn (p2 + p1)) - p2)))) * 2)))))), s_, vD ((own_D (own_rn (p1 - (own_rn ((own_rn (p2 + p1)) - p2)))))), s_, vD ((own_D (own_rn ((own_rn (p1 - (own_rn ((own_rn (p2 + p1)) - p2)))) * 2)))), s_, vD ((own_D (own_rn ((own_rn (p2 + p1)) + (own_rn ((own_rn (p1 - (own_rn ((own_rn (p2 + p1)) - p2)))) * 2)))))), s_]) rfl ?_
            show SS p e below m T114 136 #[vR (a_o), vI (1), vD ((own_D (own_rn ((own_rn (p2 + p1)) + (own_rn ((own_rn (p1 - (own_rn ((own_rn (p2 + p1)) - p2)))) * 2)))))), s_, vD ((own_D (own_rn (p1 - (own_rn ((own_rn (p2 + p1)) - p2)))))), s_, vD ((own_D (own_rn ((own_rn (p1 - (own_rn ((own_rn (p2 + p1)) - p2)))) * 2)))), s_, vD ((own_D (own_rn ((own_rn (p2 + p1)) + (own_rn ((own_rn (p1 - (own_rn ((own_rn (p2 + p1)) - p2)))) * 2)))))), s_] [] _
            refine XS.dloadN X114.here hx rfl (hb hby d4_136) rfl ?_
            show SS p e below m T114 137 #[vR (a_o), vI (1), vD ((own_D (own_rn ((own_rn (p2 + p1)) + (own_rn ((own_rn (p1 - (own_rn ((own_rn (p2 + p1)) - p2)))) * 2)))))), s_, vD ((own_D (own_rn (p1 - (own_rn ((own_rn (p2 + p1)) - p2)))))), s_, vD ((own_D (own_rn ((own_rn (p1 - (own_rn ((own_rn (p2 + p1)) - p2)))) * 2)))), s_, vD ((own_D (own_rn ((own_rn (p2 + p1)) + (own_rn ((own_rn (p1 - (own_rn ((own_rn (p2 + p1)) - p2)))) * 2)))))), s_] [(.double (own_D (own_rn ((own_rn (p2 + p1)) + (own_rn ((own_rn (p1 - (own_rn ((own_rn (p2 + p1)) - p2)))) * 2))))))] _
            jvm_step X114.here [X114.here.top, hx, (hb hby d4_137), X114.method', Bd.returns, narrow]
            first | (intro acts; rw [hr _ acts rfl rfl rfl]) | rw [hr _ _ rfl rfl rfl]
            exact Steps.refl _
          · show Qown_vl3 Z a_o pa k_p p0 p1 p2 w3 h0 n0 _ T114.heap _
            rw [e114]
            have hv : (own_vl3_f p0 p1 p2) = (own_rn ((own_rn (p2 + p1)) + (own_rn ((own_rn (p1 - (own_rn ((own_rn (p2 + p1)) - p2)))) * 2)))) := by unfold own_vl3_f; rw [if_neg hc63_53, if_pos hc80_109, if_pos hc98_124, if_pos hc130_146]
            exact ⟨(by rw [hv]), N0, rfl⟩
        · obtain ⟨fs, hr, hrun, hended, hW, hsame⟩ := X114.leave (v := some (.double (own_D (own_rn (p2 + p1))))) (fun h => by rw [Bd.returns] at h; cases h) (hlocks := BodyLoose.notSynchronized Bd)
          refine ⟨_, _, pre145 _ ?_, hrun, hended, _, _, rfl, ?_, ⟨_, rfl⟩, hW, hsame.mono (by decide) (by decide)⟩
          · show SS p e below m T114 130 #[vR (a_o), vI (1), vD ((own_D (own_rn (p2 + p1)))), s_, vD ((own_D (own_rn (p1 - (own_rn ((own_rn (p2 + p1)) - p2)))))), s_, vD ((own_D (own_rn ((own_rn (p1 - (own_rn ((own_rn (p2 + p1)) - p2)))) * 2)))), s_, vD ((own_D (own_rn ((own_rn (p2 + p1)) + (own_rn ((own_rn (p1 - (own_rn ((own_rn (p2 + p1)) - p2)))) * 2)))))), s_] [(.int (own_cmp (own_rn ((own_rn ((own_rn (p2 + p1)) + (own_rn ((own_rn (p1 - (own_rn ((own_rn (p2 + p1)) - p2)))) * 2)))) - (own_rn (p2 + p1)))) (own_rn ((own_rn (p1 - (own_rn ((own_rn (p2 + p1)) - p2)))) * 2))))] _
            refine XS.ifYes X114.here hx rfl (pc0 := 130) (pc' := 136) rfl (hb hby d4_130) rfl ((if0 _ _).trans (feq (fun q => hc130_146 (own_cmEq.mp q))).2) (by decide) (by decide) ?_
            refine XS.dloadN X114.here hx rfl (hb hby d4_136) rfl ?_
            show SS p e below m T114 137 #[vR (a_o), vI (1), vD ((own_D (own_rn (p2 + p1)))), s_, vD ((own_D (own_rn (p1 - (own_rn ((own_rn (p2 + p1)) - p2)))))), s_, vD ((own_D (own_rn ((own_rn (p1 - (own_rn ((own_rn (p2 + p1)) - p2)))) * 2)))), s_, vD ((own_D (own_rn ((own_rn (p2 + p1)) + (own_rn ((own_rn (p1 - (own_rn ((own_rn (p2 + p1)) - p2)))) * 2)))))), s_] [(.double (own_D (own_rn (p2 + p1))))] _
            jvm_step X114.here [X114.here.top, hx, (hb hby d4_137), X114.method', Bd.returns, narrow]
            first | (intro acts; rw [hr _ acts rfl rfl rfl]) | rw [hr _ _ rfl rfl rfl]
            exact Steps.refl _
          · show Qown_vl3 Z a_o pa k_p p0 p1 p2 w3 h0 n0 _ T114.heap _
            rw [e114]
            have hv : (own_vl3_f p0 p1 p2) = (own_rn (p2 + p1)) := by unfold own_vl3_f; rw [if_neg hc63_53, if_pos hc80_109, if_pos hc98_124, if_neg hc130_146]
            exact ⟨(by rw [hv]), N0, rfl⟩
      · obtain ⟨fs, hr, hrun, hended, hW, hsame⟩ := X114.leave (v := some (.double (own_D (own_rn (p2 + p1))))) (fun h => by rw [Bd.returns] at h; cases h) (hlocks := BodyLoose.notSynchronized Bd)
        refine ⟨_, _, pre123 _ ?_, hrun, hended, _, _, rfl, ?_, ⟨_, rfl⟩, hW, hsame.mono (by decide) (by decide)⟩
        · show SS p e below m T114 98 #[vR (a_o), vI (1), vD ((own_D (own_rn (p2 + p1)))), s_, vD ((own_D (own_rn (p1 - (own_rn ((own_rn (p2 + p1)) - p2)))))), s_, vD ((own_D p2)), s_, u_, u_] [(.int (own_cmp p0 0)), (.int 1)] _
          refine XS.ifYes X114.here hx rfl (pc0 := 98) (pc' := 105) rfl (hb hby d4_98) rfl ((if0 _ _).trans (flt (fun q => hc98_124 (own_cmLt.mp q))).2.1) (by decide) (by decide) ?_
          refine XS.iconst X114.here hx rfl (hb hby d4_105) ?_ --lit 0
          refine XS.icmpYes X114.here hx rfl (pc0 := 106) (pc' := 136) rfl (hb hby d4_106) rfl (feq ((by decide) : ¬ ((1 : Int32) = (0 : Int32)))).2 (by decide) (by decide) ?_
          show SS p e below m T114 136 #[vR (a_o), vI (1), vD ((own_D (own_rn (p2 + p1)))), s_, vD ((own_D (own_rn (p1 - (own_rn ((own_rn (p2 + p1)) - p2)))))), s_, vD ((own_D p2)), s_, u_, u_] [] _
          refine XS.dloadN X114.here hx rfl (hb hby d4_136) rfl ?_
          show SS p e below m T114 137 #[vR (a_o), vI (1), vD ((own_D (own_rn (p2 + p1)))), s_, vD ((own_D (own_rn (p1 - (own_rn ((own_rn (p2 + p1)) - p2)))))), s_, vD ((own_D p2)), s_, u_, u_] [(.double (own_D (own_rn (p2 + p1))))] _
          jvm_step X114.here [X114.here.top, hx, (hb hby d4_137), X114.method', Bd.returns, narrow]
          first | (intro acts; rw [hr _ acts rfl rfl rfl]) | rw [hr _ _ rfl rfl rfl]
          exact Steps.refl _
        · show Qown_vl3 Z a_o pa k_p p0 p1 p2 w3 h0 n0 _ T114.heap _
          rw [e114]
          have hv : (own_vl3_f p0 p1 p2) = (own_rn (p2 + p1)) := by unfold own_vl3_f; rw [if_neg hc63_53, if_pos hc80_109, if_neg hc98_124]
          exact ⟨(by rw [hv]), N0, rfl⟩
    · obtain ⟨T160, X160, e160, st160⟩ := getF X37 hx hZ hown (host := "") (Or.inl (hw _ (gm 10 rfl))) Via.refl e37 hfp (g := (mkF m 89 #[vR (a_o), vI (1), vD ((own_D (own_rn (p2 + p1)))), s_, vD ((own_D (own_rn (p1 - (own_rn ((own_rn (p2 + p1)) - p2)))))), s_, vD ((own_D p2)), s_, u_, u_] [(.ref a_o), (.int 0)])) rfl rfl (hb hby d4_89)
      obtain ⟨cl165, Ar165, q165, S165, M165, H165, G165⟩ := id hA
      have hin165 : ¬ ((0 : Int32) < 0 ∨ cl165.slots.size ≤ ((0 : Int32)).toNatClampNeg) := inb_of S165 ⟨by decide, by decide⟩
      have hat165 : cl165.slots[((0 : Int32)).toNatClampNeg]? = some (.double (own_D p0)) := H165.at hin165 rfl
      have pre169 : ∀ t, Steps p.tables e below (T160.setTop (mkF m 98 #[vR (a_o), vI (1), vD ((own_D (own_rn (p2 + p1)))), s_, vD ((own_D (own_rn (p1 - (own_rn ((own_rn (p2 + p1)) - p2)))))), s_, vD ((own_D p2)), s_, u_, u_] [(.int (own_cmp p0 0)), (.int 0)])) t → Steps p.tables e below (s₁.setTop (entryFrame m #[(.ref a_o)] 10)) t := by
        intro t kt
        refine pre108 _ ?_
        show SS p e below m T37 80 #[vR (a_o), vI (1), vD ((own_D (own_rn (p2 + p1)))), s_, vD ((own_D (own_rn (p1 - (own_rn ((own_rn (p2 + p1)) - p2)))))), s_, vD ((own_D p2)), s_, u_, u_] [(.int (own_cmp (own_rn (p1 - (own_rn ((own_rn (p2 + p1)) - p2)))) 0))] _
        refine XS.ifYes X37.here hx rfl (pc0 := 80) (pc' := 87) rfl (hb hby d4_80) rfl ((if0 _ _).trans (flt (fun q => hc80_109 (own_cmLt.mp q))).2.1) (by decide) (by decide) ?_
        refine XS.iconst X37.here hx rfl (hb hby d4_87) ?_ --lit 0
        refine XS.aloadN X37.here hx rfl (hb hby d4_88) rfl rfl ?_
        show SS p e below m T37 89 #[vR (a_o), vI (1), vD ((own_D (own_rn (p2 + p1)))), s_, vD ((own_D (own_rn (p1 - (own_rn ((own_rn (p2 + p1)) - p2)))))), s_, vD ((own_D p2)), s_, u_, u_] [(.ref a_o), (.int 0)] _
        refine st160 _ ?_
        show SS p e below m T160 92 #[vR (a_o), vI (1), vD ((own_D (own_rn (p2 + p1)))), s_, vD ((own_D (own_rn (p1 - (own_rn ((own_rn (p2 + p1)) - p2)))))), s_, vD ((own_D p2)), s_, u_, u_] [(.ref pa), (.int 0)] _
        refine XS.iloadN X160.here hx rfl (hb hby d4_92) rfl ?_
        refine XS.iconst X160.here hx rfl (hb hby d4_93) ?_ --lit 1
        refine XS.isub X160.here hx rfl (hb hby d4_94) rfl ?_
        show SS p e below m T160 95 #[vR (a_o), vI (1), vD ((own_D (own_rn (p2 + p1)))), s_, vD ((own_D (own_rn (p1 - (own_rn ((own_rn (p2 + p1)) - p2)))))), s_, vD ((own_D p2)), s_, u_, u_] [(.int 0), (.ref pa), (.int 0)] _
        refine X160.daload hx (j := (0 : Int32)) (v := (.double (own_D p0))) (by rw [e160]; exact Ar165.1) (State.isArrayOf_alike hZ.alike Ar165.2.1) Ar165.2.2 hin165 hat165 (g := (mkF m 95 #[vR (a_o), vI (1), vD ((own_D (own_rn (p2 + p1)))), s_, vD ((own_D (own_rn (p1 - (own_rn ((own_rn (p2 + p1)) - p2)))))), s_, vD ((own_D p2)), s_, u_, u_] [(.int 0), (.ref pa), (.int 0)])) rfl rfl (hb hby d4_95) _ ?_
        show SS p e below m T160 96 #[vR (a_o), vI (1), vD ((own_D (own_rn (p2 + p1)))), s_, vD ((own_D (own_rn (p1 - (own_rn ((own_rn (p2 + p1)) - p2)))))), s_, vD ((own_D p2)), s_, u_, u_] [(.double (own_D p0)), (.int 0)] _
        refine XS.dconst0 X160.here hx rfl (hb hby d4_96) own_c0 ?_
        show SS p e below m T160 97 #[vR (a_o), vI (1), vD ((own_D (own_rn (p2 + p1)))), s_, vD ((own_D (own_rn (p1 - (own_rn ((own_rn (p2 + p1)) - p2)))))), s_, vD ((own_D p2)), s_, u_, u_] [(.double (own_D 0)), (.double (own_D p0)), (.int 0)] _
        refine XS.dcmpS X160.here hx rfl (hb hby d4_97) rfl (own_DcmpV hr0 own_rep0 (by omega) (by omega) (by omega) (by omega) _) ?_
        exact kt
      by_cases hc98_170 : p0 < 0
      · obtain ⟨fs, hr, hrun, hended, hW, hsame⟩ := X160.leave (v := some (.double (own_D (own_rn (p2 + p1))))) (fun h => by rw [Bd.returns] at h; cases h) (hlocks := BodyLoose.notSynchronized Bd)
        refine ⟨_, _, pre169 _ ?_, hrun, hended, _, _, rfl, ?_, ⟨_, rfl⟩, hW, hsame.mono (by decide) (by decide)⟩
        · show SS p e below m T160 98 #[vR (a_o), vI (1), vD ((own_D (own_rn (p2 + p1)))), s_, vD ((own_D (own_rn (p1 - (own_rn ((own_rn (p2 + p1)) - p2)))))), s_, vD ((own_D p2)), s_, u_, u_] [(.int (own_cmp p0 0)), (.int 0)] _
          refine XS.ifNo X160.here hx rfl (hb hby d4_98) rfl ((if0 _ _).trans (tlt (own_cmLt.mpr hc98_170)).2.1) ?_
          refine XS.iconst X160.here hx rfl (hb hby d4_101) ?_ --lit 1
          refine XS.goto X160.here hx rfl (pc0 := 102) (pc' := 106) rfl (hb hby d4_102) (by decide) (by decide) ?_
          show SS p e below m T160 106 #[vR (a_o), vI (1), vD ((own_D (own_rn (p2 + p1)))), s_, vD ((own_D (own_rn (p1 - (own_rn ((own_rn (p2 + p1)) - p2)))))), s_, vD ((own_D p2)), s_, u_, u_] [(.int 1), (.int 0)] _
          refine XS.icmpYes X160.here hx rfl (pc0 := 106) (pc' := 136) rfl (hb hby d4_106) rfl (feq ((by decide) : ¬ ((0 : Int32) = (1 : Int32)))).2 (by decide) (by decide) ?_
          refine XS.dloadN X160.here hx rfl (hb hby d4_136) rfl ?_
          show SS p e below m T160 137 #[vR (a_o), vI (1), vD ((own_D (own_rn (p2 + p1)))), s_, vD ((own_D (own_rn (p1 - (own_rn ((own_rn (p2 + p1)) - p2)))))), s_, vD ((own_D p2)), s_, u_, u_] [(.double (own_D (own_rn (p2 + p1))))] _
          jvm_step X160.here [X160.here.top, hx, (hb hby d4_137), X160.method', Bd.returns, narrow]
          first | (intro acts; rw [hr _ acts rfl rfl rfl]) | rw [hr _ _ rfl rfl rfl]
          exact Steps.refl _
        · show Qown_vl3 Z a_o pa k_p p0 p1 p2 w3 h0 n0 _ T160.heap _
          rw [e160]
          have hv : (own_vl3_f p0 p1 p2) = (own_rn (p2 + p1)) := by unfold own_vl3_f; rw [if_neg hc63_53, if_neg hc80_109, if_pos hc98_170]
          exact ⟨(by rw [hv]), N0, rfl⟩
      · have hq181 : FP.dmul (own_D (own_rn (p1 - (own_rn ((own_rn (p2 + p1)) - p2))))) (own_D 2) = own_D (own_rn ((own_rn (p1 - (own_rn ((own_rn (p2 + p1)) - p2)))) * 2)) := own_Dmul2 hc63_53 (by omega) (by omega)
        have hq181E := own_errSm (n := (own_rn (p1 - (own_rn ((own_rn (p2 + p1)) - p2)))) * 2) (by omega) (by omega)
        have hq186 : FP.dadd (own_D (own_rn (p2 + p1))) (own_D (own_rn ((own_rn (p1 - (own_rn ((own_rn (p2 + p1)) - p2)))) * 2))) = own_D (own_rn ((own_rn (p2 + p1)) + (own_rn ((own_rn (p1 - (own_rn ((own_rn (p2 + p1)) - p2)))) * 2)))) := own_Dadd (own_rrn _) (own_rrn _) (by omega) (by omega) (by omega) (by omega) (by omega) (by omega)
        have hq186E := own_errSm (n := (own_rn (p2 + p1)) + (own_rn ((own_rn (p1 - (own_rn ((own_rn (p2 + p1)) - p2)))) * 2))) (by omega) (by omega)
        have hq191 : FP.dsub (own_D (own_rn ((own_rn (p2 + p1)) + (own_rn ((own_rn (p1 - (own_rn ((own_rn (p2 + p1)) - p2)))) * 2))))) (own_D (own_rn (p2 + p1))) = own_D (own_rn ((own_rn ((own_rn (p2 + p1)) + (own_rn ((own_rn (p1 - (own_rn ((own_rn (p2 + p1)) - p2)))) * 2)))) - (own_rn (p2 + p1)))) := own_Dsub (own_rrn _) (own_rrn _) (by omega) (by omega) (by omega) (by omega) (by omega) (by omega)
        have hq191E := own_errSm (n := (own_rn ((own_rn (p2 + p1)) + (own_rn ((own_rn (p1 - (own_rn ((own_rn (p2 + p1)) - p2)))) * 2)))) - (own_rn (p2 + p1))) (by omega) (by omega)
        have pre195 : ∀ t, Steps p.tables e below (T160.setTop (mkF m 130 #[vR (a_o), vI (1), vD ((own_D (own_rn (p2 + p1)))), s_, vD ((own_D (own_rn (p1 - (own_rn ((own_rn (p2 + p1)) - p2)))))), s_, vD ((own_D (own_rn ((own_rn (p1 - (own_rn ((own_rn (p2 + p1)) - p2)))) * 2)))), s_, vD ((own_D (own_rn ((own_rn (p2 + p1)) + (own_rn ((own_rn (p1 - (own_rn ((own_rn (p2 + p1)) - p2)))) * 2)))))), s_] [(.int (own_cmp (own_rn ((own_rn ((own_rn (p2 + p1)) + (own_rn ((own_rn (p1 - (own_rn ((own_rn (p2 + p1)) - p2)))) * 2)))) - (own_rn (p2 + p1)))) (own_rn ((own_rn (p1 - (own_rn ((own_rn (p2 + p1)) - p2)))) * 2))))])) t → Steps p.tables e below (s₁.setTop (entryFrame m #[(.ref a_o)] 10)) t := by
          intro t kt
          refine pre169 _ ?_
          show SS p e below m T160 98 #[vR (a_o), vI (1), vD ((own_D (own_rn (p2 + p1)))), s_, vD ((own_D (own_rn (p1 - (own_rn ((own_rn (p2 + p1)) - p2)))))), s_, vD ((own_D p2)), s_, u_, u_] [(.int (own_cmp p0 0)), (.int 0)] _
          refine XS.ifYes X160.here hx rfl (pc0 := 98) (pc' := 105) rfl (hb hby d4_98) rfl ((if0 _ _).trans (flt (fun q => hc98_170 (own_cmLt.mp q))).2.1) (by decide) (by decide) ?_
          refine XS.iconst X160.here hx rfl (hb hby d4_105) ?_ --lit 0
          refine XS.icmpNo X160.here hx rfl (hb hby d4_106) rfl (teq ((by decide) : (0 : Int32) = (0 : Int32))).2 ?_
          show SS p e below m T160 109 #[vR (a_o), vI (1), vD ((own_D (own_rn (p2 + p1)))), s_, vD ((own_D (own_rn (p1 - (own_rn ((own_rn (p2 + p1)) - p2)))))), s_, vD ((own_D p2)), s_, u_, u_] [] _
          refine XS.dload X160.here hx rfl (hb hby d4_109) rfl ?_
          show SS p e below m T160 111 #[vR (a_o), vI (1), vD ((own_D (own_rn (p2 + p1)))), s_, vD ((own_D (own_rn (p1 - (own_rn ((own_rn (p2 + p1)) - p2)))))), s_, vD ((own_D p2)), s_, u_, u_] [(.double (own_D (own_rn (p1 - (own_rn ((own_rn (p2 + p1)) - p2))))))] _
          refine X160.ldc2DoubleC hx hown (mvT hZ (hw _ (gm 27 rfl))) (g := (mkF m 111 #[vR (a_o), vI (1), vD ((own_D (own_rn (p2 + p1)))), s_, vD ((own_D (own_rn (p1 - (own_rn ((own_rn (p2 + p1)) - p2)))))), s_, vD ((own_D p2)), s_, u_, u_] [(.double (own_D (own_rn (p1 - (own_rn ((own_rn (p2 + p1)) - p2))))))])) rfl (hb hby d4_111) _ ?_
          show SS p e below m T160 114 #[vR (a_o), vI (1), vD ((own_D (own_rn (p2 + p1)))), s_, vD ((own_D (own_rn (p1 - (own_rn ((own_rn (p2 + p1)) - p2)))))), s_, vD ((own_D p2)), s_, u_, u_] [(.double (4611686018427387904 : UInt64)), (.double (own_D (own_rn (p1 - (own_rn ((own_rn (p2 + p1)) - p2))))))] _
          rw [own_c2]
          show SS p e below m T160 114 #[vR (a_o), vI (1), vD ((own_D (own_rn (p2 + p1)))), s_, vD ((own_D (own_rn (p1 - (own_rn ((own_rn (p2 + p1)) - p2)))))), s_, vD ((own_D p2)), s_, u_, u_] [(.double (own_D 2)), (.double (own_D (own_rn (p1 - (own_rn ((own_rn (p2 + p1)) - p2))))))] _
          refine XS.dmulS X160.here hx rfl (hb hby d4_114) rfl (nn_w (a := Int64.ofInt (own_rn ((own_rn (p1 - (own_rn ((own_rn (p2 + p1)) - p2)))) * 2))) hq181) hq181 ?_
          show SS p e below m T160 115 #[vR (a_o), vI (1), vD ((own_D (own_rn (p2 + p1)))), s_, vD ((own_D (own_rn (p1 - (own_rn ((own_rn (p2 + p1)) - p2)))))), s_, vD ((own_D p2)), s_, u_, u_] [(.double (own_D (own_rn ((own_rn (p1 - (own_rn ((own_rn (p2 + p1)) - p2)))) * 2))))] _
          refine XS.dstore X160.here hx rfl (hb hby d4_115) rfl (l' := #[vR (a_o), vI (1), vD ((own_D (own_rn (p2 + p1)))), s_, vD ((own_D (own_rn (p1 - (own_rn ((own_rn (p2 + p1)) - p2)))))), s_, vD ((own_D (own_rn ((own_rn (p1 - (own_rn ((own_rn (p2 + p1)) - p2)))) * 2)))), s_, u_, u_]) rfl ?_
          refine XS.dloadN X160.here hx rfl (hb hby d4_117) rfl ?_
          refine XS.dload X160.here hx rfl (hb hby d4_118) rfl ?_
          show SS p e below m T160 120 #[vR (a_o), vI (1), vD ((own_D (own_rn (p2 + p1)))), s_, vD ((own_D (own_rn (p1 - (own_rn ((own_rn (p2 + p1)) - p2)))))), s_, vD ((own_D (own_rn ((own_rn (p1 - (own_rn ((own_rn (p2 + p1)) - p2)))) * 2)))), s_, u_, u_] [(.double (own_D (own_rn ((own_rn (p1 - (own_rn ((own_rn (p2 + p1)) - p2)))) * 2)))), (.double (own_D (own_rn (p2 + p1))))] _
          refine XS.daddS X160.here hx rfl (hb hby d4_120) rfl (nn_w (a := Int64.ofInt (own_rn ((own_rn (p2 + p1)) + (own_rn ((own_rn (p1 - (own_rn ((own_rn (p2 + p1)) - p2)))) * 2))))) hq186) hq186 ?_
          show SS p e below m T160 121 #[vR (a_o), vI (1), vD ((own_D (own_rn (p2 + p1)))), s_, vD ((own_D (own_rn (p1 - (own_rn ((own_rn (p2 + p1)) - p2)))))), s_, vD ((own_D (own_rn ((own_rn (p1 - (own_rn ((own_rn (p2 + p1)) - p2)))) * 2)))), s_, u_, u_] [(.double (own_D (own_rn ((own_rn (p2 + p1)) + (own_rn ((own_rn (p1 - (own_rn ((own_rn (p2 + p1)) - p2)))) * 2))))))] _
          refine XS.dstore X160.here hx rfl (hb hby d4_121) rfl (l' := #[vR (a_o), vI (1), vD ((own_D (own_rn (p2 + p1)))), s_, vD ((own_D (own_rn (p1 - (own_rn ((own_rn (p2 + p1)) - p2)))))), s_, vD ((own_D (own_rn ((own_rn (p1 - (own_rn ((own_rn (p2 + p1)) - p2)))) * 2)))), s_, vD ((own_D (own_rn ((own_rn (p2 + p1)) + (own_rn ((own_rn (p1 - (own_rn ((own_rn (p2 + p1)) - p2)))) * 2)))))), s_]) rfl ?_
          refine XS.dload X160.here hx rfl (hb hby d4_123) rfl ?_
          refine XS.dloadN X160.here hx rfl (hb hby d4_125) rfl ?_
          show SS p e below m T160 126 #[vR (a_o), vI (1), vD ((own_D (own_rn (p2 + p1)))), s_, vD ((own_D (own_rn (p1 - (own_rn ((own_rn (p2 + p1)) - p2)))))), s_, vD ((own_D (own_rn ((own_rn (p1 - (own_rn ((own_rn (p2 + p1)) - p2)))) * 2)))), s_, vD ((own_D (own_rn ((own_rn (p2 + p1)) + (own_rn ((own_rn (p1 - (own_rn ((own_rn (p2 + p1)) - p2)))) * 2)))))), s_] [(.double (own_D (own_rn (p2 + p1)))), (.double (own_D (own_rn ((own_rn (p2 + p1)) + (own_rn ((own_rn (p1 - (own_rn ((own_rn (p2 + p1)) - p2)))) * 2))))))] _
          refine XS.dsubS X160.here hx rfl (hb hby d4_126) rfl (nn_w (a := Int64.ofInt (own_rn ((own_rn ((own_rn (p2 + p1)) + (own_rn ((own_rn (p1 - (own_rn ((own_rn (p2 + p1)) - p2)))) * 2)))) - (own_rn (p2 + p1))))) hq191) hq191 ?_
          show SS p e below m T160 127 #[vR (a_o), vI (1), vD ((own_D (own_rn (p2 + p1)))), s_, vD ((own_D (own_rn (p1 - (own_rn ((own_rn (p2 + p1)) - p2)))))), s_, vD ((own_D (own_rn ((own_rn (p1 - (own_rn ((own_rn (p2 + p1)) - p2)))) * 2)))), s_, vD ((own_D (own_rn ((own_rn (p2 + p1)) + (own_rn ((own_rn (p1 - (own_rn ((own_rn (p2 + p1)) - p2)))) * 2)))))), s_] [(.double (own_D (own_rn ((own_rn ((own_rn (p2 + p1)) + (own_rn ((own_rn (p1 - (own_rn ((own_rn (p2 + p1)) - p2)))) * 2)))) - (own_rn (p2 + p1))))))] _
          refine XS.dload X160.here hx rfl (hb hby d4_127) rfl ?_
          show SS p e below m T160 129 #[vR (a_o), vI (1), vD ((own_D (own_rn (p2 + p1)))), s_, vD ((own_D (own_rn (p1 - (own_rn ((own_rn (p2 + p1)) - p2)))))), s_, vD ((own_D (own_rn ((own_rn (p1 - (own_rn ((own_rn (p2 + p1)) - p2)))) * 2)))), s_, vD ((own_D (own_rn ((own_rn (p2 + p1)) + (own_rn ((own_rn (p1 - (own_rn ((own_rn (p2 + p1)) - p2)))) * 2)))))), s_] [(.double (own_D (own_rn ((own_rn (p1 - (own_rn ((own_rn (p2 + p1)) - p2)))) * 2)))), (.double (own_D (own_rn ((own_rn ((own_rn (p2 + p1)) + (own_rn ((own_rn (p1 - (own_rn ((own_rn (p2 + p1)) - p2)))) * 2)))) - (own_rn (p2 + p1))))))] _
          refine XS.dcmpS X160.here hx rfl (hb hby d4_129) rfl (own_DcmpV (own_rrn _) (own_rrn _) (by omega) (by omega) (by omega) (by omega) _) ?_
          exact kt
        by_cases hc130_196 : (own_rn ((own_rn ((own_rn (p2 + p1)) + (own_rn ((own_rn (p1 - (own_rn ((own_rn (p2 + p1)) - p2)))) * 2)))) - (own_rn (p2 + p1)))) = (own_rn ((own_rn (p1 - (own_rn ((own_rn (p2 + p1)) - p2)))) * 2))
        · obtain ⟨fs, hr, hrun, hended, hW, hsame⟩ := X160.leave (v := some (.double (own_D (own_rn ((own_rn (p2 + p1)) + (own_rn ((own_rn (p1 - (own_rn ((own_rn (p2 + p1)) - p2)))) * 2))))))) (fun h => by rw [Bd.returns] at h; cases h) (hlocks := BodyLoose.notSynchronized Bd)
          refine ⟨_, _, pre195 _ ?_, hrun, hended, _, _, rfl, ?_, ⟨_, rfl⟩, hW, hsame.mono (by decide) (by decide)⟩
          · show SS p e below m T160 130 #[vR (a_o), vI (1), vD ((own_D (own_rn (p2 + p1)))), s_, vD ((own_D (own_rn (p1 - (own_rn ((own_rn (p2 + p1)) - p2)))))), s_, vD ((own_D (own_rn ((own_rn (p1 - (own_rn ((own_rn (p2 + p1)) - p2)))) * 2)))), s_, vD ((own_D (own_rn ((own_rn (p2 + p1)) + (own_rn ((own_rn (p1 - (own_rn ((own_rn (p2 + p1)) - p2)))) * 2)))))), s_] [(.int (own_cmp (own_rn ((own_rn ((own_rn (p2 + p1)) + (own_rn ((own_rn (p1 - (own_rn ((own_rn (p2 + p1)) - p2)))) * 2)))) - (own_rn (p2 + p1)))) (own_rn ((own_rn (p1 - (own_rn ((own_rn (p2 + p1)) - p2)))) * 2))))] _
            refine XS.ifNo X160.here hx rfl (hb hby d4_130) rfl ((if0 _ _).trans (teq (own_cmEq.mpr hc130_196)).2) ?_
            refine XS.dload X160.here hx rfl (hb hby d4_133) rfl ?_
            refine XS.dstoreN X160.here hx rfl (hb hby d4_135) rfl (l' := #[vR (a_o), vI (1), vD ((own_D (own_rn ((own_rn (p2 + p1)) + (own_rn ((own_rn (p1 - (own_rn ((own_rn (p2 + p1)) - p2)))) * 2)))))), s_, vD ((own_D (own_rn (p1 - (own_rn ((own_rn (p2 + p1)) - p2)))))), s_, vD ((own_D (own_rn ((own_rn (p1 - (own_rn ((own_rn (p2 + p1)) - p2)))) * 2)))), s_, vD ((own_D (own_rn ((own_rn (p2 + p1)) + (own_rn ((own_rn (p1 - (own_rn ((own_rn (p2 + p1)) - p2)))) * 2)))))), s_]) rfl ?_
            show SS p e below m T160 136 #[vR (a_o), vI (1), vD ((own_D (own_rn ((own_rn (p2 + p1)) + (own_rn ((own_rn (p1 - (own_rn ((own_rn (p2 + p1)) - p2)))) * 2)))))), s_, vD ((own_D (own_rn (p1 - (own_rn ((own_rn (p2 + p1)) - p2)))))), s_, vD ((own_D (own_rn ((own_rn (p1 - (own_rn ((own_rn (p2 + p1)) - p2)))) * 2)))), s_, vD ((own_D (own_rn ((own_rn (p2 + p1)) + (own_rn ((own_rn (p1 - (own_rn ((own_rn (p2 + p1)) - p2)))) * 2)))))), s_] [] _
            refine XS.dloadN X160.here hx rfl (hb hby d4_136) rfl ?_
            show SS p e below m T160 137 #[vR (a_o), vI (1), vD ((own_D (own_rn ((own_rn (p2 + p1)) + (own_rn ((own_rn (p1 - (own_rn ((own_rn (p2 + p1)) - p2)))) * 2)))))), s_, vD ((own_D (own_rn (p1 - (own_rn ((own_rn (p2 + p1)) - p2)))))), s_, vD ((own_D (own_rn ((own_rn (p1 - (own_rn ((own_rn (p2 + p1)) - p2)))) * 2)))), s_, vD ((own_D (own_rn ((own_rn (p2 + p1)) + (own_rn ((own_rn (p1 - (own_rn ((own_rn (p2 + p1)) - p2)))) * 2)))))), s_] [(.double (own_D (own_rn ((own_rn (p2 + p1)) + (own_rn ((own_rn (p1 - (own_rn ((own_rn (p2 + p1)) - p2)))) * 2))))))] _
            jvm_step X160.here [X160.here.top, hx, (hb hby d4_137), X160.method', Bd.returns, narrow]
            first | (intro acts; rw [hr _ acts rfl rfl rfl]) | rw [hr _ _ rfl rfl rfl]
            exact Steps.refl _
          · show Qown_vl3 Z a_o pa k_p p0 p1 p2 w3 h0 n0 _ T160.heap _
            rw [e160]
            have hv : (own_vl3_f p0 p1 p2) = (own_rn ((own_rn (p2 + p1)) + (own_rn ((own_rn (p1 - (own_rn ((own_rn (p2 + p1)) - p2)))) * 2)))) := by unfold own_vl3_f; rw [if_neg hc63_53, if_neg hc80_109, if_neg hc98_170, if_pos hc130_196]
            exact ⟨(by rw [hv]), N0, rfl⟩
        · obtain ⟨fs, hr, hrun, hended, hW, hsame⟩ := X160.leave (v := some (.double (own_D (own_rn (p2 + p1))))) (fun h => by rw [Bd.returns] at h; cases h) (hlocks := BodyLoose.notSynchronized Bd)
          refine ⟨_, _, pre195 _ ?_, hrun, hended, _, _, rfl, ?_, ⟨_, rfl⟩, hW, hsame.mono (by decide) (by decide)⟩
          · show SS p e below m T160 130 #[vR (a_o), vI (1), vD ((own_D (own_rn (p2 + p1)))), s_, vD ((own_D (own_rn (p1 - (own_rn ((own_rn (p2 + p1)) - p2)))))), s_, vD ((own_D (own_rn ((own_rn (p1 - (own_rn ((own_rn (p2 + p1)) - p2)))) * 2)))), s_, vD ((own_D (own_rn ((own_rn (p2 + p1)) + (own_rn ((own_rn (p1 - (own_rn ((own_rn (p2 + p1)) - p2)))) * 2)))))), s_] [(.int (own_cmp (own_rn ((own_rn ((own_rn (p2 + p1)) + (own_rn ((own_rn (p1 - (own_rn ((own_rn (p2 + p1)) - p2)))) * 2)))) - (own_rn (p2 + p1)))) (own_rn ((own_rn (p1 - (own_rn ((own_rn (p2 + p1)) - p2)))) * 2))))] _
            refine XS.ifYes X160.here hx rfl (pc0 := 130) (pc' := 136) rfl (hb hby d4_130) rfl ((if0 _ _).trans (feq (fun q => hc130_196 (own_cmEq.mp q))).2) (by decide) (by decide) ?_
            refine XS.dloadN X160.here hx rfl (hb hby d4_136) rfl ?_
            show SS p e below m T160 137 #[vR (a_o), vI (1), vD ((own_D (own_rn (p2 + p1)))), s_, vD ((own_D (own_rn (p1 - (own_rn ((own_rn (p2 + p1)) - p2)))))), s_, vD ((own_D (own_rn ((own_rn (p1 - (own_rn ((own_rn (p2 + p1)) - p2)))) * 2)))), s_, vD ((own_D (own_rn ((own_rn (p2 + p1)) + (own_rn ((own_rn (p1 - (own_rn ((own_rn (p2 + p1)) - p2)))) * 2)))))), s_] [(.double (own_D (own_rn (p2 + p1))))] _
            jvm_step X160.here [X160.here.top, hx, (hb hby d4_137), X160.method', Bd.returns, narrow]
            first | (intro acts; rw [hr _ acts rfl rfl rfl]) | rw [hr _ _ rfl rfl rfl]
            exact Steps.refl _
          · show Qown_vl3 Z a_o pa k_p p0 p1 p2 w3 h0 n0 _ T160.heap _
            rw [e160]
            have hv : (own_vl3_f p0 p1 p2) = (own_rn (p2 + p1)) := by unfold own_vl3_f; rw [if_neg hc63_53, if_neg hc80_109, if_neg hc98_170, if_neg hc130_196]
            exact ⟨(by rw [hv]), N0, rfl⟩
theorem own_ef_own_vl4 (m : MethodId) (a_o : Addr) : entryFrame m #[(.ref a_o)] 10 = mkF m 0 #[.val (.ref a_o), .unset, .unset, .unset, .unset, .unset, .unset, .unset, .unset, .unset] [] := by first | (simp [entryFrame, mkF, argsToLocals, Value.category]; done) | rfl
def own_vl4_f (p0 : Int) (p1 : Int) (p2 : Int) (p3 : Int) : Int := (if (own_rn (p2 - (own_rn ((own_rn (p3 + p2)) - p3)))) = 0 then (if (own_rn (p1 - (own_rn ((own_rn ((own_rn (p3 + p2)) + p1)) - (own_rn (p3 + p2)))))) = 0 then (if (own_rn (p0 - (own_rn ((own_rn ((own_rn ((own_rn (p3 + p2)) + p1)) + p0)) - (own_rn ((own_rn (p3 + p2)) + p1)))))) = 0 then (own_rn ((own_rn ((own_rn (p3 + p2)) + p1)) + p0)) else (own_rn ((own_rn ((own_rn (p3 + p2)) + p1)) + p0))) else (if (own_rn (p1 - (own_rn ((own_rn ((own_rn (p3 + p2)) + p1)) - (own_rn (p3 + p2)))))) < 0 then (if p0 < 0 then (if (own_rn ((own_rn ((own_rn ((own_rn (p3 + p2)) + p1)) + (own_rn ((own_rn (p1 - (own_rn ((own_rn ((own_rn (p3 + p2)) + p1)) - (own_rn (p3 + p2)))))) * 2)))) - (own_rn ((own_rn (p3 + p2)) + p1)))) = (own_rn ((own_rn (p1 - (own_rn ((own_rn ((own_rn (p3 + p2)) + p1)) - (own_rn (p3 + p2)))))) * 2)) then (own_rn ((own_rn ((own_rn (p3 + p2)) + p1)) + (own_rn ((own_rn (p1 - (own_rn ((own_rn ((own_rn (p3 + p2)) + p1)) - (own_rn (p3 + p2)))))) * 2)))) else (own_rn ((own_rn (p3 + p2)) + p1))) else (own_rn ((own_rn (p3 + p2)) + p1))) else (if p0 < 0 then (own_rn ((own_rn (p3 + p2)) + p1)) else (if (own_rn ((own_rn ((own_rn ((own_rn (p3 + p2)) + p1)) + (own_rn ((own_rn (p1 - (own_rn ((own_rn ((own_rn (p3 + p2)) + p1)) - (own_rn (p3 + p2)))))) * 2)))) - (own_rn ((own_rn (p3 + p2)) + p1)))) = (own_rn ((own_rn (p1 - (own_rn ((own_rn ((own_rn (p3 + p2)) + p1)) - (own_rn (p3 + p2)))))) * 2)) then (own_rn ((own_rn ((own_rn (p3 + p2)) + p1)) + (own_rn ((own_rn (p1 - (own_rn ((own_rn ((own_rn (p3 + p2)) + p1)) - (own_rn (p3 + p2)))))) * 2)))) else (own_rn ((own_rn (p3 + p2)) + p1)))))) else (if (own_rn (p2 - (own_rn ((own_rn (p3 + p2)) - p3)))) < 0 then (if p1 < 0 then (if (own_rn ((own_rn ((own_rn (p3 + p2)) + (own_rn ((own_rn (p2 - (own_rn ((own_rn (p3 + p2)) - p3)))) * 2)))) - (own_rn (p3 + p2)))) = (own_rn ((own_rn (p2 - (own_rn ((own_rn (p3 + p2)) - p3)))) * 2)) then (own_rn ((own_rn (p3 + p2)) + (own_rn ((own_rn (p2 - (own_rn ((own_rn (p3 + p2)) - p3)))) * 2)))) else (own_rn (p3 + p2))) else (own_rn (p3 + p2))) else (if p1 < 0 then (own_rn (p3 + p2)) else (if (own_rn ((own_rn ((own_rn (p3 + p2)) + (own_rn ((own_rn (p2 - (own_rn ((own_rn (p3 + p2)) - p3)))) * 2)))) - (own_rn (p3 + p2)))) = (own_rn ((own_rn (p2 - (own_rn ((own_rn (p3 + p2)) - p3)))) * 2)) then (own_rn ((own_rn (p3 + p2)) + (own_rn ((own_rn (p2 - (own_rn ((own_rn (p3 + p2)) - p3)))) * 2)))) else (own_rn (p3 + p2))))))
def Qown_vl4 (Z : State) (a_o : Addr) (pa : Addr) (k_p : ClassId) (p0 : Int) (p1 : Int) (p2 : Int) (p3 : Int) (h0 : Heap) (n0 : Nat) (v : Option Value) (h : Heap) (L : List Loc) : Prop := v = some (.double (own_D (own_vl4_f p0 p1 p2 p3))) ∧ Fr n0 L ∧ h = h0
set_option maxRecDepth 65536 in
set_option maxHeartbeats 40000000 in
theorem own_vl4 (l : Launch) (Z : State) (a0 : Array Value) (hw : ∀ d ∈ tables_1, d.before a0 Z = true) (ws : List Jvm.Cond) (a_o : Addr) (pa : Addr) (k_p : ClassId) (p0 : Int) (p1 : Int) (p2 : Int) (p3 : Int) (h0 : Heap) (n0 : Nat) (Z0 : n0 ≤ h0.size) (hxa : Exa Z h0 a_o "com/example/merit/merit/ExactSum") (hfp : Fld Z h0 a_o "com/example/merit/merit/ExactSum" "partials" "[D" (.ref pa)) (hfc : Fld Z h0 a_o "com/example/merit/merit/ExactSum" "count" "I" (.int 4)) (hA : Arv Z h0 pa k_p .double (4 : Int32) [(.double (own_D p0)), (.double (own_D p1)), (.double (own_D p2)), (.double (own_D p3))] (.double FP.dconst0)) (hr0 : own_Rep p0) (hr1 : own_Rep p1) (hr2 : own_Rep p2) (hr3 : own_Rep p3) (hs0 : -1024 ≤ p0 ∧ p0 ≤ 1024) (hs1 : -1024 ≤ p1 ∧ p1 ≤ 1024) (hs2 : -1024 ≤ p2 ∧ p2 ≤ 1024) (hbt : -9223372036854700000 ≤ p3 ∧ p3 ≤ 9223372036854700000) :
    MetFree l (⟨"com/example/merit/merit/ExactSum", "value", "()D"⟩ : MethodName) (head1 (Jvm.Cond.code (⟨"com/example/merit/merit/ExactSum", "value", "()D"⟩ : MethodName) prog_12_method_3_code 10 (some .double) :: ws) ({ frames := 0, cells := 0, slots := 0, locals := 0 } : Room)) (fun a U => a = #[(.ref a_o)] ∧ Z.Warmed39 U.vm ∧ U.heap = h0) (fun _ _ _ _ _ => True) (fun _ U o U' => ∃ v L, o = .returned v ∧ Qown_vl4 Z a_o pa k_p p0 p1 p2 p3 h0 n0 v U'.heap L ∧ FrameEnd U o U' L ({ frames := 0, cells := 0, slots := 0, locals := 0 } : Room).cells ({ frames := 0, cells := 0, slots := 0, locals := 0 } : Room).slots) := by
  refine MetFree.of_bodySF (plainFor_of_name own_pn0) hisR ?_
  intro p e s m args below meth c s₁ Bd hml0 hP hK
  obtain ⟨rfl, hZ, hh⟩ := hP
  have hx := Bd.exec
  have hby := Bd.bytes
  have hml : c.maxLocals = 10 := hml0
  have hown : s.vm.findClass "com/example/merit/merit/ExactSum" = some m.cls := findClass_of_methodNamed Bd.named
  have hnm := (name_of_methodNamed Bd.named Bd.method).1
  have X0 : Stand p l e ({ frames := 0, cells := 0, slots := 0, locals := 0 } : Room) s m #[(.ref a_o)] below meth c s₁ [] 0 0 := Stand.of_body Bd
  have e0 : s₁.heap = h0 := by rw [← hh, Bd.state]; rfl
  have N0 := Fr.nil n0
  have pre0 : ∀ t, Steps p.tables e below (s₁.setTop (mkF m 0 #[vR (a_o), u_, u_, u_, u_, u_, u_, u_, u_, u_] [])) t → Steps p.tables e below (s₁.setTop (entryFrame m #[(.ref a_o)] 10)) t := fun t k => castTop (own_ef_own_vl4 m a_o) k
  obtain ⟨T3, X3, e3, st3⟩ := getF X0 hx hZ hown (host := "") (Or.inl (hw _ (gm 17 rfl))) Via.refl e0 hfc (g := (mkF m 1 #[vR (a_o), u_, u_, u_, u_, u_, u_, u_, u_, u_] [(.ref a_o)])) rfl rfl (hb hby d4_1)
  obtain ⟨T7, X7, e7, st7⟩ := getF X3 hx hZ hown (host := "") (Or.inl (hw _ (gm 17 rfl))) Via.refl e3 hfc (g := (mkF m 10 #[vR (a_o), u_, u_, u_, u_, u_, u_, u_, u_, u_] [(.ref a_o)])) rfl rfl (hb hby d4_10)
  obtain ⟨T13, X13, e13, st13⟩ := getF X7 hx hZ hown (host := "") (Or.inl (hw _ (gm 10 rfl))) Via.refl e7 hfp (g := (mkF m 17 #[vR (a_o), vI (3), u_, u_, u_, u_, u_, u_, u_, u_] [(.ref a_o)])) rfl rfl (hb hby d4_17)
  obtain ⟨cl16, Ar16, q16, S16, M16, H16, G16⟩ := id hA
  have hin16 : ¬ ((3 : Int32) < 0 ∨ cl16.slots.size ≤ ((3 : Int32)).toNatClampNeg) := inb_of S16 ⟨by decide, by decide⟩
  have hat16 : cl16.slots[((3 : Int32)).toNatClampNeg]? = some (.double (own_D p3)) := H16.at hin16 rfl
  obtain ⟨T27, X27, e27, st27⟩ := getF X13 hx hZ hown (host := "") (Or.inl (hw _ (gm 10 rfl))) Via.refl e13 hfp (g := (mkF m 36 #[vR (a_o), vI (3), vD ((own_D p3)), s_, vD ((own_D 0)), s_, vD ((own_D p3)), s_, u_, u_] [(.ref a_o), (.double (own_D p3))])) rfl rfl (hb hby d4_36)
  obtain ⟨cl31, Ar31, q31, S31, M31, H31, G31⟩ := id hA
  have hin31 : ¬ ((2 : Int32) < 0 ∨ cl31.slots.size ≤ ((2 : Int32)).toNatClampNeg) := inb_of S31 ⟨by decide, by decide⟩
  have hat31 : cl31.slots[((2 : Int32)).toNatClampNeg]? = some (.double (own_D p2)) := H31.at hin31 rfl
  have hq33 : FP.dadd (own_D p3) (own_D p2) = own_D (own_rn (p3 + p2)) := own_Dadd hr3 hr2 (by omega) (by omega) (by omega) (by omega) (by omega) (by omega)
  have hq33E := own_errSm (n := p3 + p2) (by omega) (by omega)
  obtain ⟨T37, X37, e37, st37⟩ := getF X27 hx hZ hown (host := "") (Or.inl (hw _ (gm 10 rfl))) Via.refl e27 hfp (g := (mkF m 47 #[vR (a_o), vI (2), vD ((own_D (own_rn (p3 + p2)))), s_, vD ((own_D 0)), s_, vD ((own_D p3)), s_, u_, u_] [(.ref a_o)])) rfl rfl (hb hby d4_47)
  obtain ⟨cl40, Ar40, q40, S40, M40, H40, G40⟩ := id hA
  have hin40 : ¬ ((2 : Int32) < 0 ∨ cl40.slots.size ≤ ((2 : Int32)).toNatClampNeg) := inb_of S40 ⟨by decide, by decide⟩
  have hat40 : cl40.slots[((2 : Int32)).toNatClampNeg]? = some (.double (own_D p2)) := H40.at hin40 rfl
  have hq44 : FP.dsub (own_D (own_rn (p3 + p2))) (own_D p3) = own_D (own_rn ((own_rn (p3 + p2)) - p3)) := own_Dsub (own_rrn _) hr3 (by omega) (by omega) (by omega) (by omega) (by omega) (by omega)
  have hq44E := own_errSm (n := (own_rn (p3 + p2)) - p3) (by omega) (by omega)
  have hq46 : FP.dsub (own_D p2) (own_D (own_rn ((own_rn (p3 + p2)) - p3))) = own_D (own_rn (p2 - (own_rn ((own_rn (p3 + p2)) - p3)))) := own_Dsub hr2 (own_rrn _) (by omega) (by omega) (by omega) (by omega) (by omega) (by omega)
  have hq46E := own_errSm (n := p2 - (own_rn ((own_rn (p3 + p2)) - p3))) (by omega) (by omega)
  have pre52 : ∀ t, Steps p.tables e below (T37.setTop (mkF m 63 #[vR (a_o), vI (2), vD ((own_D (own_rn (p3 + p2)))), s_, vD ((own_D (own_rn (p2 - (own_rn ((own_rn (p3 + p2)) - p3)))))), s_, vD ((own_D p3)), s_, u_, u_] [(.int (own_cmp (own_rn (p2 - (own_rn ((own_rn (p3 + p2)) - p3)))) 0))])) t → Steps p.tables e below (s₁.setTop (entryFrame m #[(.ref a_o)] 10)) t := by
    intro t kt
    refine pre0 _ ?_
    show SS p e below m s₁ 0 #[vR (a_o), u_, u_, u_, u_, u_, u_, u_, u_, u_] [] _
    refine XS.aloadN X0.here hx rfl (hb hby d4_0) rfl rfl ?_
    show SS p e below m s₁ 1 #[vR (a_o), u_, u_, u_, u_, u_, u_, u_, u_, u_] [(.ref a_o)] _
    refine st3 _ ?_
    show SS p e below m T3 4 #[vR (a_o), u_, u_, u_, u_, u_, u_, u_, u_, u_] [(.int 4)] _
    refine XS.ifYes X3.here hx rfl (pc0 := 4) (pc' := 9) rfl (hb hby d4_4) rfl ((if0 _ _).trans (feq ((by decide) : ¬ ((4 : Int32) = (0 : Int32)))).2) (by decide) (by decide) ?_
    refine XS.aloadN X3.here hx rfl (hb hby d4_9) rfl rfl ?_
    show SS p e below m T3 10 #[vR (a_o), u_, u_, u_, u_, u_, u_, u_, u_, u_] [(.ref a_o)] _
    refine st7 _ ?_
    show SS p e below m T7 13 #[vR (a_o), u_, u_, u_, u_, u_, u_, u_, u_, u_] [(.int 4)] _
    refine XS.iconst X7.here hx rfl (hb hby d4_13) ?_ --lit 1
    refine XS.isub X7.here hx rfl (hb hby d4_14) rfl ?_
    refine XS.istoreN X7.here hx rfl (hb hby d4_15) rfl (l' := #[vR (a_o), vI (3), u_, u_, u_, u_, u_, u_, u_, u_]) rfl ?_
    show SS p e below m T7 16 #[vR (a_o), vI (3), u_, u_, u_, u_, u_, u_, u_, u_] [] _
    refine XS.aloadN X7.here hx rfl (hb hby d4_16) rfl rfl ?_
    show SS p e below m T7 17 #[vR (a_o), vI (3), u_, u_, u_, u_, u_, u_, u_, u_] [(.ref a_o)] _
    refine st13 _ ?_
    show SS p e below m T13 20 #[vR (a_o), vI (3), u_, u_, u_, u_, u_, u_, u_, u_] [(.ref pa)] _
    refine XS.iloadN X13.here hx rfl (hb hby d4_20) rfl ?_
    show SS p e below m T13 21 #[vR (a_o), vI (3), u_, u_, u_, u_, u_, u_, u_, u_] [(.int 3), (.ref pa)] _
    refine X13.daload hx (j := (3 : Int32)) (v := (.double (own_D p3))) (by rw [e13]; exact Ar16.1) (State.isArrayOf_alike hZ.alike Ar16.2.1) Ar16.2.2 hin16 hat16 (g := (mkF m 21 #[vR (a_o), vI (3), u_, u_, u_, u_, u_, u_, u_, u_] [(.int 3), (.ref pa)])) rfl rfl (hb hby d4_21) _ ?_
    show SS p e below m T13 22 #[vR (a_o), vI (3), u_, u_, u_, u_, u_, u_, u_, u_] [(.double (own_D p3))] _
    refine XS.dstoreN X13.here hx rfl (hb hby d4_22) rfl (l' := #[vR (a_o), vI (3), vD ((own_D p3)), s_, u_, u_, u_, u_, u_, u_]) rfl ?_
    refine XS.dconst0 X13.here hx rfl (hb hby d4_23) own_c0 ?_
    refine XS.dstore X13.here hx rfl (hb hby d4_24) rfl (l' := #[vR (a_o), vI (3), vD ((own_D p3)), s_, vD ((own_D 0)), s_, u_, u_, u_, u_]) rfl ?_
    show SS p e below m T13 26 #[vR (a_o), vI (3), vD ((own_D p3)), s_, vD ((own_D 0)), s_, u_, u_, u_, u_] [] _
    refine XS.iloadN X13.here hx rfl (hb hby d4_26) rfl ?_
    refine XS.ifNo X13.here hx rfl (hb hby d4_27) rfl ((if0 _ _).trans (tlt ((by decide) : (0 : Int32) < (3 : Int32))).2.2.2) ?_
    refine XS.dloadN X13.here hx rfl (hb hby d4_30) rfl ?_
    show SS p e below m T13 31 #[vR (a_o), vI (3), vD ((own_D p3)), s_, vD ((own_D 0)), s_, u_, u_, u_, u_] [(.double (own_D p3))] _
    refine XS.dstore X13.here hx rfl (hb hby d4_31) rfl (l' := #[vR (a_o), vI (3), vD ((own_D p3)), s_, vD ((own_D 0)), s_, vD ((own_D p3)), s_, u_, u_]) rfl ?_
    refine XS.dload X13.here hx rfl (hb hby d4_33) rfl ?_
    refine XS.aloadN X13.here hx rfl (hb hby d4_35) rfl rfl ?_
    show SS p e below m T13 36 #[vR (a_o), vI (3), vD ((own_D p3)), s_, vD ((own_D 0)), s_, vD ((own_D p3)), s_, u_, u_] [(.ref a_o), (.double (own_D p3))] _
    refine st27 _ ?_
    show SS p e below m T27 39 #[vR (a_o), vI (3), vD ((own_D p3)), s_, vD ((own_D 0)), s_, vD ((own_D p3)), s_, u_, u_] [(.ref pa), (.double (own_D p3))] _
    refine XS.iinc X27.here hx rfl (hb hby d4_39) rfl (l' := #[vR (a_o), vI (2), vD ((own_D p3)), s_, vD ((own_D 0)), s_, vD ((own_D p3)), s_, u_, u_]) rfl ?_
    refine XS.iloadN X27.here hx rfl (hb hby d4_42) rfl ?_
    show SS p e below m T27 43 #[vR (a_o), vI (2), vD ((own_D p3)), s_, vD ((own_D 0)), s_, vD ((own_D p3)), s_, u_, u_] [(.int 2), (.ref pa), (.double (own_D p3))] _
    refine X27.daload hx (j := (2 : Int32)) (v := (.double (own_D p2))) (by rw [e27]; exact Ar31.1) (State.isArrayOf_alike hZ.alike Ar31.2.1) Ar31.2.2 hin31 hat31 (g := (mkF m 43 #[vR (a_o), vI (2), vD ((own_D p3)), s_, vD ((own_D 0)), s_, vD ((own_D p3)), s_, u_, u_] [(.int 2), (.ref pa), (.double (own_D p3))])) rfl rfl (hb hby d4_43) _ ?_
    show SS p e below m T27 44 #[vR (a_o), vI (2), vD ((own_D p3)), s_, vD ((own_D 0)), s_, vD ((own_D p3)), s_, u_, u_] [(.double (own_D p2)), (.double (own_D p3))] _
    refine XS.daddS X27.here hx rfl (hb hby d4_44) rfl (nn_w (a := Int64.ofInt (own_rn (p3 + p2))) hq33) hq33 ?_
    show SS p e below m T27 45 #[vR (a_o), vI (2), vD ((own_D p3)), s_, vD ((own_D 0)), s_, vD ((own_D p3)), s_, u_, u_] [(.double (own_D (own_rn (p3 + p2))))] _
    refine XS.dstoreN X27.here hx rfl (hb hby d4_45) rfl (l' := #[vR (a_o), vI (2), vD ((own_D (own_rn (p3 + p2)))), s_, vD ((own_D 0)), s_, vD ((own_D p3)), s_, u_, u_]) rfl ?_
    refine XS.aloadN X27.here hx rfl (hb hby d4_46) rfl rfl ?_
    show SS p e below m T27 47 #[vR (a_o), vI (2), vD ((own_D (own_rn (p3 + p2)))), s_, vD ((own_D 0)), s_, vD ((own_D p3)), s_, u_, u_] [(.ref a_o)] _
    refine st37 _ ?_
    show SS p e below m T37 50 #[vR (a_o), vI (2), vD ((own_D (own_rn (p3 + p2)))), s_, vD ((own_D 0)), s_, vD ((own_D p3)), s_, u_, u_] [(.ref pa)] _
    refine XS.iloadN X37.here hx rfl (hb hby d4_50) rfl ?_
    show SS p e below m T37 51 #[vR (a_o), vI (2), vD ((own_D (own_rn (p3 + p2)))), s_, vD ((own_D 0)), s_, vD ((own_D p3)), s_, u_, u_] [(.int 2), (.ref pa)] _
    refine X37.daload hx (j := (2 : Int32)) (v := (.double (own_D p2))) (by rw [e37]; exact Ar40.1) (State.isArrayOf_alike hZ.alike Ar40.2.1) Ar40.2.2 hin40 hat40 (g := (mkF m 51 #[vR (a_o), vI (2), vD ((own_D (own_rn (p3 + p2)))), s_, vD ((own_D 0)), s_, vD ((own_D p3)), s_, u_, u_] [(.int 2), (.ref pa)])) rfl rfl (hb hby d4_51) _ ?_
    show SS p e below m T37 52 #[vR (a_o), vI (2), vD ((own_D (own_rn (p3 + p2)))), s_, vD ((own_D 0)), s_, vD ((own_D p3)), s_, u_, u_] [(.double (own_D p2))] _
    refine XS.dloadN X37.here hx rfl (hb hby d4_52) rfl ?_
    refine XS.dload X37.here hx rfl (hb hby d4_53) rfl ?_
    show SS p e below m T37 55 #[vR (a_o), vI (2), vD ((own_D (own_rn (p3 + p2)))), s_, vD ((own_D 0)), s_, vD ((own_D p3)), s_, u_, u_] [(.double (own_D p3)), (.double (own_D (own_rn (p3 + p2)))), (.double (own_D p2))] _
    refine XS.dsubS X37.here hx rfl (hb hby d4_55) rfl (nn_w (a := Int64.ofInt (own_rn ((own_rn (p3 + p2)) - p3))) hq44) hq44 ?_
    show SS p e below m T37 56 #[vR (a_o), vI (2), vD ((own_D (own_rn (p3 + p2)))), s_, vD ((own_D 0)), s_, vD ((own_D p3)), s_, u_, u_] [(.double (own_D (own_rn ((own_rn (p3 + p2)) - p3)))), (.double (own_D p2))] _
    refine XS.dsubS X37.here hx rfl (hb hby d4_56) rfl (nn_w (a := Int64.ofInt (own_rn (p2 - (own_rn ((own_rn (p3 + p2)) - p3))))) hq46) hq46 ?_
    show SS p e below m T37 57 #[vR (a_o), vI (2), vD ((own_D (own_rn (p3 + p2)))), s_, vD ((own_D 0)), s_, vD ((own_D p3)), s_, u_, u_] [(.double (own_D (own_rn (p2 - (own_rn ((own_rn (p3 + p2)) - p3))))))] _
    refine XS.dstore X37.here hx rfl (hb hby d4_57) rfl (l' := #[vR (a_o), vI (2), vD ((own_D (own_rn (p3 + p2)))), s_, vD ((own_D (own_rn (p2 - (own_rn ((own_rn (p3 + p2)) - p3)))))), s_, vD ((own_D p3)), s_, u_, u_]) rfl ?_
    refine XS.dload X37.here hx rfl (hb hby d4_59) rfl ?_
    refine XS.dconst0 X37.here hx rfl (hb hby d4_61) own_c0 ?_
    show SS p e below m T37 62 #[vR (a_o), vI (2), vD ((own_D (own_rn (p3 + p2)))), s_, vD ((own_D (own_rn (p2 - (own_rn ((own_rn (p3 + p2)) - p3)))))), s_, vD ((own_D p3)), s_, u_, u_] [(.double (own_D 0)), (.double (own_D (own_rn (p2 - (own_rn ((own_rn (p3 + p2)) - p3))))))] _
    refine XS.dcmpS X37.here hx rfl (hb hby d4_62) rfl (own_DcmpV (own_rrn _) own_rep0 (by omega) (by omega) (by omega) (by omega) _) ?_
    exact kt
  by_cases hc63_53 : (own_rn (p2 - (own_rn ((own_rn (p3 + p2)) - p3)))) = 0
  · obtain ⟨T62, X62, e62, st62⟩ := getF X37 hx hZ hown (host := "") (Or.inl (hw _ (gm 10 rfl))) Via.refl e37 hfp (g := (mkF m 36 #[vR (a_o), vI (2), vD ((own_D (own_rn (p3 + p2)))), s_, vD ((own_D (own_rn (p2 - (own_rn ((own_rn (p3 + p2)) - p3)))))), s_, vD ((own_D (own_rn (p3 + p2)))), s_, u_, u_] [(.ref a_o), (.double (own_D (own_rn (p3 + p2))))])) rfl rfl (hb hby d4_36)
    obtain ⟨cl66, Ar66, q66, S66, M66, H66, G66⟩ := id hA
    have hin66 : ¬ ((1 : Int32) < 0 ∨ cl66.slots.size ≤ ((1 : Int32)).toNatClampNeg) := inb_of S66 ⟨by decide, by decide⟩
    have hat66 : cl66.slots[((1 : Int32)).toNatClampNeg]? = some (.double (own_D p1)) := H66.at hin66 rfl
    have hq68 : FP.dadd (own_D (own_rn (p3 + p2))) (own_D p1) = own_D (own_rn ((own_rn (p3 + p2)) + p1)) := own_Dadd (own_rrn _) hr1 (by omega) (by omega) (by omega) (by omega) (by omega) (by omega)
    have hq68E := own_errSm (n := (own_rn (p3 + p2)) + p1) (by omega) (by omega)
    obtain ⟨T72, X72, e72, st72⟩ := getF X62 hx hZ hown (host := "") (Or.inl (hw _ (gm 10 rfl))) Via.refl e62 hfp (g := (mkF m 47 #[vR (a_o), vI (1), vD ((own_D (own_rn ((own_rn (p3 + p2)) + p1)))), s_, vD ((own_D (own_rn (p2 - (own_rn ((own_rn (p3 + p2)) - p3)))))), s_, vD ((own_D (own_rn (p3 + p2)))), s_, u_, u_] [(.ref a_o)])) rfl rfl (hb hby d4_47)
    obtain ⟨cl75, Ar75, q75, S75, M75, H75, G75⟩ := id hA
    have hin75 : ¬ ((1 : Int32) < 0 ∨ cl75.slots.size ≤ ((1 : Int32)).toNatClampNeg) := inb_of S75 ⟨by decide, by decide⟩
    have hat75 : cl75.slots[((1 : Int32)).toNatClampNeg]? = some (.double (own_D p1)) := H75.at hin75 rfl
    have hq79 : FP.dsub (own_D (own_rn ((own_rn (p3 + p2)) + p1))) (own_D (own_rn (p3 + p2))) = own_D (own_rn ((own_rn ((own_rn (p3 + p2)) + p1)) - (own_rn (p3 + p2)))) := own_Dsub (own_rrn _) (own_rrn _) (by omega) (by omega) (by omega) (by omega) (by omega) (by omega)
    have hq79E := own_errSm (n := (own_rn ((own_rn (p3 + p2)) + p1)) - (own_rn (p3 + p2))) (by omega) (by omega)
    have hq81 : FP.dsub (own_D p1) (own_D (own_rn ((own_rn ((own_rn (p3 + p2)) + p1)) - (own_rn (p3 + p2))))) = own_D (own_rn (p1 - (own_rn ((own_rn ((own_rn (p3 + p2)) + p1)) - (own_rn (p3 + p2)))))) := own_Dsub hr1 (own_rrn _) (by omega) (by omega) (by omega) (by omega) (by omega) (by omega)
    have hq81E := own_errSm (n := p1 - (own_rn ((own_rn ((own_rn (p3 + p2)) + p1)) - (own_rn (p3 + p2))))) (by omega) (by omega)
    have pre87 : ∀ t, Steps p.tables e below (T72.setTop (mkF m 63 #[vR (a_o), vI (1), vD ((own_D (own_rn ((own_rn (p3 + p2)) + p1)))), s_, vD ((own_D (own_rn (p1 - (own_rn ((own_rn ((own_rn (p3 + p2)) + p1)) - (own_rn (p3 + p2)))))))), s_, vD ((own_D (own_rn (p3 + p2)))), s_, u_, u_] [(.int (own_cmp (own_rn (p1 - (own_rn ((own_rn ((own_rn (p3 + p2)) + p1)) - (own_rn (p3 + p2)))))) 0))])) t → Steps p.tables e below (s₁.setTop (entryFrame m #[(.ref a_o)] 10)) t := by
      intro t kt
      refine pre52 _ ?_
      show SS p e below m T37 63 #[vR (a_o), vI (2), vD ((own_D (own_rn (p3 + p2)))), s_, vD ((own_D (own_rn (p2 - (own_rn ((own_rn (p3 + p2)) - p3)))))), s_, vD ((own_D p3)), s_, u_, u_] [(.int (own_cmp (own_rn (p2 - (own_rn ((own_rn (p3 + p2)) - p3)))) 0))] _
      refine XS.ifYes X37.here hx rfl (pc0 := 63) (pc' := 69) rfl (hb hby d4_63) rfl ((if0 _ _).trans (teq (own_cmEq.mpr hc63_53)).1) (by decide) (by decide) ?_
      refine XS.goto X37.here hx rfl (pc0 := 69) (pc' := 26) rfl (hb hby d4_69) (by decide) (by decide) ?_
      refine XS.iloadN X37.here hx rfl (hb hby d4_26) rfl ?_
      show SS p e below m T37 27 #[vR (a_o), vI (2), vD ((own_D (own_rn (p3 + p2)))), s_, vD ((own_D (own_rn (p2 - (own_rn ((own_rn (p3 + p2)) - p3)))))), s_, vD ((own_D p3)), s_, u_, u_] [(.int 2)] _
      refine XS.ifNo X37.here hx rfl (hb hby d4_27) rfl ((if0 _ _).trans (tlt ((by decide) : (0 : Int32) < (2 : Int32))).2.2.2) ?_
      refine XS.dloadN X37.here hx rfl (hb hby d4_30) rfl ?_
      refine XS.dstore X37.here hx rfl (hb hby d4_31) rfl (l' := #[vR (a_o), vI (2), vD ((own_D (own_rn (p3 + p2)))), s_, vD ((own_D (own_rn (p2 - (own_rn ((own_rn (p3 + p2)) - p3)))))), s_, vD ((own_D (own_rn (p3 + p2)))), s_, u_, u_]) rfl ?_
      show SS p e below m T37 33 #[vR (a_o), vI (2), vD ((own_D (own_rn (p3 + p2)))), s_, vD ((own_D (own_rn (p2 - (own_rn ((own_rn (p3 + p2)) - p3)))))), s_, vD ((own_D (own_rn (p3 + p2)))), s_, u_, u_] [] _
      refine XS.dload X37.here hx rfl (hb hby d4_33) rfl ?_
      refine XS.aloadN X37.here hx rfl (hb hby d4_35) rfl rfl ?_
      show SS p e below m T37 36 #[vR (a_o), vI (2), vD ((own_D (own_rn (p3 + p2)))), s_, vD ((own_D (own_rn (p2 - (own_rn ((own_rn (p3 + p2)) - p3)))))), s_, vD ((own_D (own_rn (p3 + p2)))), s_, u_, u_] [(.ref a_o), (.double (own_D (own_rn (p3 + p2))))] _
      refine st62 _ ?_
      show SS p e below m T62 39 #[vR (a_o), vI (2), vD ((own_D (own_rn (p3 + p2)))), s_, vD ((own_D (own_rn (p2 - (own_rn ((own_rn (p3 + p2)) - p3)))))), s_, vD ((own_D (own_rn (p3 + p2)))), s_, u_, u_] [(.ref pa), (.double (own_D (own_rn (p3 + p2))))] _
      refine XS.iinc X62.here hx rfl (hb hby d4_39) rfl (l' := #[vR (a_o), vI (1), vD ((own_D (own_rn (p3 + p2)))), s_, vD ((own_D (own_rn (p2 - (own_rn ((own_rn (p3 + p2)) - p3)))))), s_, vD ((own_D (own_rn (p3 + p2)))), s_, u_, u_]) rfl ?_
      refine XS.iloadN X62.here hx rfl (hb hby d4_42) rfl ?_
      show SS p e below m T62 43 #[vR (a_o), vI (1), vD ((own_D (own_rn (p3 + p2)))), s_, vD ((own_D (own_rn (p2 - (own_rn ((own_rn (p3 + p2)) - p3)))))), s_, vD ((own_D (own_rn (p3 + p2)))), s_, u_, u_] [(.int 1), (.ref pa), (.double (own_D (own_rn (p3 + p2))))] _
      refine X62.daload hx (j := (1 : Int32)) (v := (.double (own_D p1))) (by rw [e62]; exact Ar66.1) (State.isArrayOf_alike hZ.alike Ar66.2.1) Ar66.2.2 hin66 hat66 (g := (mkF m 43 #[vR (a_o), vI (1), vD ((own_D (own_rn (p3 + p2)))), s_, vD ((own_D (own_rn (p2 - (own_rn ((own_rn (p3 + p2)) - p3)))))), s_, vD ((own_D (own_rn (p3 + p2)))), s_, u_, u_] [(.int 1), (.ref pa), (.double (own_D (own_rn (p3 + p2))))])) rfl rfl (hb hby d4_43) _ ?_
      show SS p e below m T62 44 #[vR (a_o), vI (1), vD ((own_D (own_rn (p3 + p2)))), s_, vD ((own_D (own_rn (p2 - (own_rn ((own_rn (p3 + p2)) - p3)))))), s_, vD ((own_D (own_rn (p3 + p2)))), s_, u_, u_] [(.double (own_D p1)), (.double (own_D (own_rn (p3 + p2))))] _
      refine XS.daddS X62.here hx rfl (hb hby d4_44) rfl (nn_w (a := Int64.ofInt (own_rn ((own_rn (p3 + p2)) + p1))) hq68) hq68 ?_
      show SS p e below m T62 45 #[vR (a_o), vI (1), vD ((own_D (own_rn (p3 + p2)))), s_, vD ((own_D (own_rn (p2 - (own_rn ((own_rn (p3 + p2)) - p3)))))), s_, vD ((own_D (own_rn (p3 + p2)))), s_, u_, u_] [(.double (own_D (own_rn ((own_rn (p3 + p2)) + p1))))] _
      refine XS.dstoreN X62.here hx rfl (hb hby d4_45) rfl (l' := #[vR (a_o), vI (1), vD ((own_D (own_rn ((own_rn (p3 + p2)) + p1)))), s_, vD ((own_D (own_rn (p2 - (own_rn ((own_rn (p3 + p2)) - p3)))))), s_, vD ((own_D (own_rn (p3 + p2)))), s_, u_, u_]) rfl ?_
      refine XS.aloadN X62.here hx rfl (hb hby d4_46) rfl rfl ?_
      show SS p e below m T62 47 #[vR (a_o), vI (1), vD ((own_D (own_rn ((own_rn (p3 + p2)) + p1)))), s_, vD ((own_D (own_rn (p2 - (own_rn ((own_rn (p3 + p2)) - p3)))))), s_, vD ((own_D (own_rn (p3 + p2)))), s_, u_, u_] [(.ref a_o)] _
      refine st72 _ ?_
      show SS p e below m T72 50 #[vR (a_o), vI (1), vD ((own_D (own_rn ((own_rn (p3 + p2)) + p1)))), s_, vD ((own_D (own_rn (p2 - (own_rn ((own_rn (p3 + p2)) - p3)))))), s_, vD ((own_D (own_rn (p3 + p2)))), s_, u_, u_] [(.ref pa)] _
      refine XS.iloadN X72.here hx rfl (hb hby d4_50) rfl ?_
      show SS p e below m T72 51 #[vR (a_o), vI (1), vD ((own_D (own_rn ((own_rn (p3 + p2)) + p1)))), s_, vD ((own_D (own_rn (p2 - (own_rn ((own_rn (p3 + p2)) - p3)))))), s_, vD ((own_D (own_rn (p3 + p2)))), s_, u_, u_] [(.int 1), (.ref pa)] _
      refine X72.daload hx (j := (1 : Int32)) (v := (.double (own_D p1))) (by rw [e72]; exact Ar75.1) (State.isArrayOf_alike hZ.alike Ar75.2.1) Ar75.2.2 hin75 hat75 (g := (mkF m 51 #[vR (a_o), vI (1), vD ((own_D (own_rn ((own_rn (p3 + p2)) + p1)))), s_, vD ((own_D (own_rn (p2 - (own_rn ((own_rn (p3 + p2)) - p3)))))), s_, vD ((own_D (own_rn (p3 + p2)))), s_, u_, u_] [(.int 1), (.ref pa)])) rfl rfl (hb hby d4_51) _ ?_
      show SS p e below m T72 52 #[vR (a_o), vI (1), vD ((own_D (own_rn ((own_rn (p3 + p2)) + p1)))), s_, vD ((own_D (own_rn (p2 - (own_rn ((own_rn (p3 + p2)) - p3)))))), s_, vD ((own_D (own_rn (p3 + p2)))), s_, u_, u_] [(.double (own_D p1))] _
      refine XS.dloadN X72.here hx rfl (hb hby d4_52) rfl ?_
      refine XS.dload X72.here hx rfl (hb hby d4_53) rfl ?_
      show SS p e below m T72 55 #[vR (a_o), vI (1), vD ((own_D (own_rn ((own_rn (p3 + p2)) + p1)))), s_, vD ((own_D (own_rn (p2 - (own_rn ((own_rn (p3 + p2)) - p3)))))), s_, vD ((own_D (own_rn (p3 + p2)))), s_, u_, u_] [(.double (own_D (own_rn (p3 + p2)))), (.double (own_D (own_rn ((own_rn (p3 + p2)) + p1)))), (.double (own_D p1))] _
      refine XS.dsubS X72.here hx rfl (hb hby d4_55) rfl (nn_w (a := Int64.ofInt (own_rn ((own_rn ((own_rn (p3 + p2)) + p1)) - (own_rn (p3 + p2))))) hq79) hq79 ?_
      show SS p e below m T72 56 #[vR (a_o), vI (1), vD ((own_D (own_rn ((own_rn (p3 + p2)) + p1)))), s_, vD ((own_D (own_rn (p2 - (own_rn ((own_rn (p3 + p2)) - p3)))))), s_, vD ((own_D (own_rn (p3 + p2)))), s_, u_, u_] [(.double (own_D (own_rn ((own_rn ((own_rn (p3 + p2)) + p1)) - (own_rn (p3 + p2)))))), (.double (own_D p1))] _
      refine XS.dsubS X72.here hx rfl (hb hby d4_56) rfl (nn_w (a := Int64.ofInt (own_rn (p1 - (own_rn ((own_rn ((own_rn (p3 + p2)) + p1)) - (own_rn (p3 + p2))))))) hq81) hq81 ?_
      show SS p e below m T72 57 #[vR (a_o), vI (1), vD ((own_D (own_rn ((own_rn (p3 + p2)) + p1)))), s_, vD ((own_D (own_rn (p2 - (own_rn ((own_rn (p3 + p2)) - p3)))))), s_, vD ((own_D (own_rn (p3 + p2)))), s_, u_, u_] [(.double (own_D (own_rn (p1 - (own_rn ((own_rn ((own_rn (p3 + p2)) + p1)) - (own_rn (p3 + p2))))))))] _
      refine XS.dstore X72.here hx rfl (hb hby d4_57) rfl (l' := #[vR (a_o), vI (1), vD ((own_D (own_rn ((own_rn (p3 + p2)) + p1)))), s_, vD ((own_D (own_rn (p1 - (own_rn ((own_rn ((own_rn (p3 + p2)) + p1)) - (own_rn (p3 + p2)))))))), s_, vD ((own_D (own_rn (p3 + p2)))), s_, u_, u_]) rfl ?_
      refine XS.dload X72.here hx rfl (hb hby d4_59) rfl ?_
      refine XS.dconst0 X72.here hx rfl (hb hby d4_61) own_c0 ?_
      show SS p e below m T72 62 #[vR (a_o), vI (1), vD ((own_D (own_rn ((own_rn (p3 + p2)) + p1)))), s_, vD ((own_D (own_rn (p1 - (own_rn ((own_rn ((own_rn (p3 + p2)) + p1)) - (own_rn (p3 + p2)))))))), s_, vD ((own_D (own_rn (p3 + p2)))), s_, u_, u_] [(.double (own_D 0)), (.double (own_D (own_rn (p1 - (own_rn ((own_rn ((own_rn (p3 + p2)) + p1)) - (own_rn (p3 + p2))))))))] _
      refine XS.dcmpS X72.here hx rfl (hb hby d4_62) rfl (own_DcmpV (own_rrn _) own_rep0 (by omega) (by omega) (by omega) (by omega) _) ?_
      exact kt
    by_cases hc63_88 : (own_rn (p1 - (own_rn ((own_rn ((own_rn (p3 + p2)) + p1)) - (own_rn (p3 + p2)))))) = 0
    · obtain ⟨T97, X97, e97, st97⟩ := getF X72 hx hZ hown (host := "") (Or.inl (hw _ (gm 10 rfl))) Via.refl e72 hfp (g := (mkF m 36 #[vR (a_o), vI (1), vD ((own_D (own_rn ((own_rn (p3 + p2)) + p1)))), s_, vD ((own_D (own_rn (p1 - (own_rn ((own_rn ((own_rn (p3 + p2)) + p1)) - (own_rn (p3 + p2)))))))), s_, vD ((own_D (own_rn ((own_rn (p3 + p2)) + p1)))), s_, u_, u_] [(.ref a_o), (.double (own_D (own_rn ((own_rn (p3 + p2)) + p1))))])) rfl rfl (hb hby d4_36)
      obtain ⟨cl101, Ar101, q101, S101, M101, H101, G101⟩ := id hA
      have hin101 : ¬ ((0 : Int32) < 0 ∨ cl101.slots.size ≤ ((0 : Int32)).toNatClampNeg) := inb_of S101 ⟨by decide, by decide⟩
      have hat101 : cl101.slots[((0 : Int32)).toNatClampNeg]? = some (.double (own_D p0)) := H101.at hin101 rfl
      have hq103 : FP.dadd (own_D (own_rn ((own_rn (p3 + p2)) + p1))) (own_D p0) = own_D (own_rn ((own_rn ((own_rn (p3 + p2)) + p1)) + p0)) := own_Dadd (own_rrn _) hr0 (by omega) (by omega) (by omega) (by omega) (by omega) (by omega)
      have hq103E := own_errSm (n := (own_rn ((own_rn (p3 + p2)) + p1)) + p0) (by omega) (by omega)
      obtain ⟨T107, X107, e107, st107⟩ := getF X97 hx hZ hown (host := "") (Or.inl (hw _ (gm 10 rfl))) Via.refl e97 hfp (g := (mkF m 47 #[vR (a_o), vI (0), vD ((own_D (own_rn ((own_rn ((own_rn (p3 + p2)) + p1)) + p0)))), s_, vD ((own_D (own_rn (p1 - (own_rn ((own_rn ((own_rn (p3 + p2)) + p1)) - (own_rn (p3 + p2)))))))), s_, vD ((own_D (own_rn ((own_rn (p3 + p2)) + p1)))), s_, u_, u_] [(.ref a_o)])) rfl rfl (hb hby d4_47)
      obtain ⟨cl110, Ar110, q110, S110, M110, H110, G110⟩ := id hA
      have hin110 : ¬ ((0 : Int32) < 0 ∨ cl110.slots.size ≤ ((0 : Int32)).toNatClampNeg) := inb_of S110 ⟨by decide, by decide⟩
      have hat110 : cl110.slots[((0 : Int32)).toNatClampNeg]? = some (.double (own_D p0)) := H110.at hin110 rfl
      have hq114 : FP.dsub (own_D (own_rn ((own_rn ((own_rn (p3 + p2)) + p1)) + p0))) (own_D (own_rn ((own_rn (p3 + p2)) + p1))) = own_D (own_rn ((own_rn ((own_rn ((own_rn (p3 + p2)) + p1)) + p0)) - (own_rn ((own_rn (p3 + p2)) + p1)))) := own_Dsub (own_rrn _) (own_rrn _) (by omega) (by omega) (by omega) (by omega) (by omega) (by omega)
      have hq114E := own_errSm (n := (own_rn ((own_rn ((own_rn (p3 + p2)) + p1)) + p0)) - (own_rn ((own_rn (p3 + p2)) + p1))) (by omega) (by omega)
      have hq116 : FP.dsub (own_D p0) (own_D (own_rn ((own_rn ((own_rn ((own_rn (p3 + p2)) + p1)) + p0)) - (own_rn ((own_rn (p3 + p2)) + p1))))) = own_D (own_rn (p0 - (own_rn ((own_rn ((own_rn ((own_rn (p3 + p2)) + p1)) + p0)) - (own_rn ((own_rn (p3 + p2)) + p1)))))) := own_Dsub hr0 (own_rrn _) (by omega) (by omega) (by omega) (by omega) (by omega) (by omega)
      have hq116E := own_errSm (n := p0 - (own_rn ((own_rn ((own_rn ((own_rn (p3 + p2)) + p1)) + p0)) - (own_rn ((own_rn (p3 + p2)) + p1))))) (by omega) (by omega)
      have pre122 : ∀ t, Steps p.tables e below (T107.setTop (mkF m 63 #[vR (a_o), vI (0), vD ((own_D (own_rn ((own_rn ((own_rn (p3 + p2)) + p1)) + p0)))), s_, vD ((own_D (own_rn (p0 - (own_rn ((own_rn ((own_rn ((own_rn (p3 + p2)) + p1)) + p0)) - (own_rn ((own_rn (p3 + p2)) + p1)))))))), s_, vD ((own_D (own_rn ((own_rn (p3 + p2)) + p1)))), s_, u_, u_] [(.int (own_cmp (own_rn (p0 - (own_rn ((own_rn ((own_rn ((own_rn (p3 + p2)) + p1)) + p0)) - (own_rn ((own_rn (p3 + p2)) + p1)))))) 0))])) t → Steps p.tables e below (s₁.setTop (entryFrame m #[(.ref a_o)] 10)) t := by
        intro t kt
        refine pre87 _ ?_
        show SS p e below m T72 63 #[vR (a_o), vI (1), vD ((own_D (own_rn ((own_rn (p3 + p2)) + p1)))), s_, vD ((own_D (own_rn (p1 - (own_rn ((own_rn ((own_rn (p3 + p2)) + p1)) - (own_rn (p3 + p2)))))))), s_, vD ((own_D (own_rn (p3 + p2)))), s_, u_, u_] [(.int (own_cmp (own_rn (p1 - (own_rn ((own_rn ((own_rn (p3 + p2)) + p1)) - (own_rn (p3 + p2)))))) 0))] _
        refine XS.ifYes X72.here hx rfl (pc0 := 63) (pc' := 69) rfl (hb hby d4_63) rfl ((if0 _ _).trans (teq (own_cmEq.mpr hc63_88)).1) (by decide) (by decide) ?_
        refine XS.goto X72.here hx rfl (pc0 := 69) (pc' := 26) rfl (hb hby d4_69) (by decide) (by decide) ?_
        refine XS.iloadN X72.here hx rfl (hb hby d4_26) rfl ?_
        show SS p e below m T72 27 #[vR (a_o), vI (1), vD ((own_D (own_rn ((own_rn (p3 + p2)) + p1)))), s_, vD ((own_D (own_rn (p1 - (own_rn ((own_rn ((own_rn (p3 + p2)) + p1)) - (own_rn (p3 + p2)))))))), s_, vD ((own_D (own_rn (p3 + p2)))), s_, u_, u_] [(.int 1)] _
        refine XS.ifNo X72.here hx rfl (hb hby d4_27) rfl ((if0 _ _).trans (tlt ((by decide) : (0 : Int32) < (1 : Int32))).2.2.2) ?_
        refine XS.dloadN X72.here hx rfl (hb hby d4_30) rfl ?_
        refine XS.dstore X72.here hx rfl (hb hby d4_31) rfl (l' := #[vR (a_o), vI (1), vD ((own_D (own_rn ((own_rn (p3 + p2)) + p1)))), s_, vD ((own_D (own_rn (p1 - (own_rn ((own_rn ((own_rn (p3 + p2)) + p1)) - (own_rn (p3 + p2)))))))), s_, vD ((own_D (own_rn ((own_rn (p3 + p2)) + p1)))), s_, u_, u_]) rfl ?_
        show SS p e below m T72 33 #[vR (a_o), vI (1), vD ((own_D (own_rn ((own_rn (p3 + p2)) + p1)))), s_, vD ((own_D (own_rn (p1 - (own_rn ((own_rn ((own_rn (p3 + p2)) + p1)) - (own_rn (p3 + p2)))))))), s_, vD ((own_D (own_rn ((own_rn (p3 + p2)) + p1)))), s_, u_, u_] [] _
        refine XS.dload X72.here hx rfl (hb hby d4_33) rfl ?_
        refine XS.aloadN X72.here hx rfl (hb hby d4_35) rfl rfl ?_
        show SS p e below m T72 36 #[vR (a_o), vI (1), vD ((own_D (own_rn ((own_rn (p3 + p2)) + p1)))), s_, vD ((own_D (own_rn (p1 - (own_rn ((own_rn ((own_rn (p3 + p2)) + p1)) - (own_rn (p3 + p2)))))))), s_, vD ((own_D (own_rn ((own_rn (p3 + p2)) + p1)))), s_, u_, u_] [(.ref a_o), (.double (own_D (own_rn ((own_rn (p3 + p2)) + p1))))] _
        refine st97 _ ?_
        show SS p e below m T97 39 #[vR (a_o), vI (1), vD ((own_D (own_rn ((own_rn (p3 + p2)) + p1)))), s_, vD ((own_D (own_rn (p1 - (own_rn ((own_rn ((own_rn (p3 + p2)) + p1)) - (own_rn (p3 + p2)))))))), s_, vD ((own_D (own_rn ((own_rn (p3 + p2)) + p1)))), s_, u_, u_] [(.ref pa), (.double (own_D (own_rn ((own_rn (p3 + p2)) + p1))))] _
        refine XS.iinc X97.here hx rfl (hb hby d4_39) rfl (l' := #[vR (a_o), vI (0), vD ((own_D (own_rn ((own_rn (p3 + p2)) + p1)))), s_, vD ((own_D (own_rn (p1 - (own_rn ((own_rn ((own_rn (p3 + p2)) + p1)) - (own_rn (p3 + p2)))))))), s_, vD ((own_D (own_rn ((own_rn (p3 + p2)) + p1)))), s_, u_, u_]) rfl ?_
        refine XS.iloadN X97.here hx rfl (hb hby d4_42) rfl ?_
        show SS p e below m T97 43 #[vR (a_o), vI (0), vD ((own_D (own_rn ((own_rn (p3 + p2)) + p1)))), s_, vD ((own_D (own_rn (p1 - (own_rn ((own_rn ((own_rn (p3 + p2)) + p1)) - (own_rn (p3 + p2)))))))), s_, vD ((own_D (own_rn ((own_rn (p3 + p2)) + p1)))), s_, u_, u_] [(.int 0), (.ref pa), (.double (own_D (own_rn ((own_rn (p3 + p2)) + p1))))] _
        refine X97.daload hx (j := (0 : Int32)) (v := (.double (own_D p0))) (by rw [e97]; exact Ar101.1) (State.isArrayOf_alike hZ.alike Ar101.2.1) Ar101.2.2 hin101 hat101 (g := (mkF m 43 #[vR (a_o), vI (0), vD ((own_D (own_rn ((own_rn (p3 + p2)) + p1)))), s_, vD ((own_D (own_rn (p1 - (own_rn ((own_rn ((own_rn (p3 + p2)) + p1)) - (own_rn (p3 + p2)))))))), s_, vD ((own_D (own_rn ((own_rn (p3 + p2)) + p1)))), s_, u_, u_] [(.int 0), (.ref pa), (.double (own_D (own_rn ((own_rn (p3 + p2)) + p1))))])) rfl rfl (hb hby d4_43) _ ?_
        show SS p e below m T97 44 #[vR (a_o), vI (0), vD ((own_D (own_rn ((own_rn (p3 + p2)) + p1)))), s_, vD ((own_D (own_rn (p1 - (own_rn ((own_rn ((own_rn (p3 + p2)) + p1)) - (own_rn (p3 + p2)))))))), s_, vD ((own_D (own_rn ((own_rn (p3 + p2)) + p1)))), s_, u_, u_] [(.double (own_D p0)), (.double (own_D (own_rn ((own_rn (p3 + p2)) + p1))))] _
        refine XS.daddS X97.here hx rfl (hb hby d4_44) rfl (nn_w (a := Int64.ofInt (own_rn ((own_rn ((own_rn (p3 + p2)) + p1)) + p0))) hq103) hq103 ?_
        show SS p e below m T97 45 #[vR (a_o), vI (0), vD ((own_D (own_rn ((own_rn (p3 + p2)) + p1)))), s_, vD ((own_D (own_rn (p1 - (own_rn ((own_rn ((own_rn (p3 + p2)) + p1)) - (own_rn (p3 + p2)))))))), s_, vD ((own_D (own_rn ((own_rn (p3 + p2)) + p1)))), s_, u_, u_] [(.double (own_D (own_rn ((own_rn ((own_rn (p3 + p2)) + p1)) + p0))))] _
        refine XS.dstoreN X97.here hx rfl (hb hby d4_45) rfl (l' := #[vR (a_o), vI (0), vD ((own_D (own_rn ((own_rn ((own_rn (p3 + p2)) + p1)) + p0)))), s_, vD ((own_D (own_rn (p1 - (own_rn ((own_rn ((own_rn (p3 + p2)) + p1)) - (own_rn (p3 + p2)))))))), s_, vD ((own_D (own_rn ((own_rn (p3 + p2)) + p1)))), s_, u_, u_]) rfl ?_
        refine XS.aloadN X97.here hx rfl (hb hby d4_46) rfl rfl ?_
        show SS p e below m T97 47 #[vR (a_o), vI (0), vD ((own_D (own_rn ((own_rn ((own_rn (p3 + p2)) + p1)) + p0)))), s_, vD ((own_D (own_rn (p1 - (own_rn ((own_rn ((own_rn (p3 + p2)) + p1)) - (own_rn (p3 + p2)))))))), s_, vD ((own_D (own_rn ((own_rn (p3 + p2)) + p1)))), s_, u_, u_] [(.ref a_o)] _
        refine st107 _ ?_
        show SS p e below m T107 50 #[vR (a_o), vI (0), vD ((own_D (own_rn ((own_rn ((own_rn (p3 + p2)) + p1)) + p0)))), s_, vD ((own_D (own_rn (p1 - (own_rn ((own_rn ((own_rn (p3 + p2)) + p1)) - (own_rn (p3 + p2)))))))), s_, vD ((own_D (own_rn ((own_rn (p3 + p2)) + p1)))), s_, u_, u_] [(.ref pa)] _
        refine XS.iloadN X107.here hx rfl (hb hby d4_50) rfl ?_
        show SS p e below m T107 51 #[vR (a_o), vI (0), vD ((own_D (own_rn ((own_rn ((own_rn (p3 + p2)) + p1)) + p0)))), s_, vD ((own_D (own_rn (p1 - (own_rn ((own_rn ((own_rn (p3 + p2)) + p1)) - (own_rn (p3 + p2)))))))), s_, vD ((own_D (own_rn ((own_rn (p3 + p2)) + p1)))), s_, u_, u_] [(.int 0), (.ref pa)] _
        refine X107.daload hx (j := (0 : Int32)) (v := (.double (own_D p0))) (by rw [e107]; exact Ar110.1) (State.isArrayOf_alike hZ.alike Ar110.2.1) Ar110.2.2 hin110 hat110 (g := (mkF m 51 #[vR (a_o), vI (0), vD ((own_D (own_rn ((own_rn ((own_rn (p3 + p2)) + p1)) + p0)))), s_, vD ((own_D (own_rn (p1 - (own_rn ((own_rn ((own_rn (p3 + p2)) + p1)) - (own_rn (p3 + p2)))))))), s_, vD ((own_D (own_rn ((own_rn (p3 + p2)) + p1)))), s_, u_, u_] [(.int 0), (.ref pa)])) rfl rfl (hb hby d4_51) _ ?_
        show SS p e below m T107 52 #[vR (a_o), vI (0), vD ((own_D (own_rn ((own_rn ((own_rn (p3 + p2)) + p1)) + p0)))), s_, vD ((own_D (own_rn (p1 - (own_rn ((own_rn ((own_rn (p3 + p2)) + p1)) - (own_rn (p3 + p2)))))))), s_, vD ((own_D (own_rn ((own_rn (p3 + p2)) + p1)))), s_, u_, u_] [(.double (own_D p0))] _
        refine XS.dloadN X107.here hx rfl (hb hby d4_52) rfl ?_
        refine XS.dload X107.here hx rfl (hb hby d4_53) rfl ?_
        show SS p e below m T107 55 #[vR (a_o), vI (0), vD ((own_D (own_rn ((own_rn ((own_rn (p3 + p2)) + p1)) + p0)))), s_, vD ((own_D (own_rn (p1 - (own_rn ((own_rn ((own_rn (p3 + p2)) + p1)) - (own_rn (p3 + p2)))))))), s_, vD ((own_D (own_rn ((own_rn (p3 + p2)) + p1)))), s_, u_, u_] [(.double (own_D (own_rn ((own_rn (p3 + p2)) + p1)))), (.double (own_D (own_rn ((own_rn ((own_rn (p3 + p2)) + p1)) + p0)))), (.double (own_D p0))] _
        refine XS.dsubS X107.here hx rfl (hb hby d4_55) rfl (nn_w (a := Int64.ofInt (own_rn ((own_rn ((own_rn ((own_rn (p3 + p2)) + p1)) + p0)) - (own_rn ((own_rn (p3 + p2)) + p1))))) hq114) hq114 ?_
        show SS p e below m T107 56 #[vR (a_o), vI (0), vD ((own_D (own_rn ((own_rn ((own_rn (p3 + p2)) + p1)) + p0)))), s_, vD ((own_D (own_rn (p1 - (own_rn ((own_rn ((own_rn (p3 + p2)) + p1)) - (own_rn (p3 + p2)))))))), s_, vD ((own_D (own_rn ((own_rn (p3 + p2)) + p1)))), s_, u_, u_] [(.double (own_D (own_rn ((own_rn ((own_rn ((own_rn (p3 + p2)) + p1)) + p0)) - (own_rn ((own_rn (p3 + p2)) + p1)))))), (.double (own_D p0))] _
        refine XS.dsubS X107.here hx rfl (hb hby d4_56) rfl (nn_w (a := Int64.ofInt (own_rn (p0 - (own_rn ((own_rn ((own_rn ((own_rn (p3 + p2)) + p1)) + p0)) - (own_rn ((own_rn (p3 + p2)) + p1))))))) hq116) hq116 ?_
        show SS p e below m T107 57 #[vR (a_o), vI (0), vD ((own_D (own_rn ((own_rn ((own_rn (p3 + p2)) + p1)) + p0)))), s_, vD ((own_D (own_rn (p1 - (own_rn ((own_rn ((own_rn (p3 + p2)) + p1)) - (own_rn (p3 + p2)))))))), s_, vD ((own_D (own_rn ((own_rn (p3 + p2)) + p1)))), s_, u_, u_] [(.double (own_D (own_rn (p0 - (own_rn ((own_rn ((own_rn ((own_rn (p3 + p2)) + p1)) + p0)) - (own_rn ((own_rn (p3 + p2)) + p1))))))))] _
        refine XS.dstore X107.here hx rfl (hb hby d4_57) rfl (l' := #[vR (a_o), vI (0), vD ((own_D (own_rn ((own_rn ((own_rn (p3 + p2)) + p1)) + p0)))), s_, vD ((own_D (own_rn (p0 - (own_rn ((own_rn ((own_rn ((own_rn (p3 + p2)) + p1)) + p0)) - (own_rn ((own_rn (p3 + p2)) + p1)))))))), s_, vD ((own_D (own_rn ((own_rn (p3 + p2)) + p1)))), s_, u_, u_]) rfl ?_
        refine XS.dload X107.here hx rfl (hb hby d4_59) rfl ?_
        refine XS.dconst0 X107.here hx rfl (hb hby d4_61) own_c0 ?_
        show SS p e below m T107 62 #[vR (a_o), vI (0), vD ((own_D (own_rn ((own_rn ((own_rn (p3 + p2)) + p1)) + p0)))), s_, vD ((own_D (own_rn (p0 - (own_rn ((own_rn ((own_rn ((own_rn (p3 + p2)) + p1)) + p0)) - (own_rn ((own_rn (p3 + p2)) + p1)))))))), s_, vD ((own_D (own_rn ((own_rn (p3 + p2)) + p1)))), s_, u_, u_] [(.double (own_D 0)), (.double (own_D (own_rn (p0 - (own_rn ((own_rn ((own_rn ((own_rn (p3 + p2)) + p1)) + p0)) - (own_rn ((own_rn (p3 + p2)) + p1))))))))] _
        refine XS.dcmpS X107.here hx rfl (hb hby d4_62) rfl (own_DcmpV (own_rrn _) own_rep0 (by omega) (by omega) (by omega) (by omega) _) ?_
        exact kt
      by_cases hc63_123 : (own_rn (p0 - (own_rn ((own_rn ((own_rn ((own_rn (p3 + p2)) + p1)) + p0)) - (own_rn ((own_rn (p3 + p2)) + p1)))))) = 0
      · obtain ⟨fs, hr, hrun, hended, hW, hsame⟩ := X107.leave (v := some (.double (own_D (own_rn ((own_rn ((own_rn (p3 + p2)) + p1)) + p0))))) (fun h => by rw [Bd.returns] at h; cases h) (hlocks := BodyLoose.notSynchronized Bd)
        refine ⟨_, _, pre122 _ ?_, hrun, hended, _, _, rfl, ?_, ⟨_, rfl⟩, hW, hsame.mono (by decide) (by decide)⟩
        · show SS p e below m T107 63 #[vR (a_o), vI (0), vD ((own_D (own_rn ((own_rn ((own_rn (p3 + p2)) + p1)) + p0)))), s_, vD ((own_D (own_rn (p0 - (own_rn ((own_rn ((own_rn ((own_rn (p3 + p2)) + p1)) + p0)) - (own_rn ((own_rn (p3 + p2)) + p1)))))))), s_, vD ((own_D (own_rn ((own_rn (p3 + p2)) + p1)))), s_, u_, u_] [(.int (own_cmp (own_rn (p0 - (own_rn ((own_rn ((own_rn ((own_rn (p3 + p2)) + p1)) + p0)) - (own_rn ((own_rn (p3 + p2)) + p1)))))) 0))] _
          refine XS.ifYes X107.here hx rfl (pc0 := 63) (pc' := 69) rfl (hb hby d4_63) rfl ((if0 _ _).trans (teq (own_cmEq.mpr hc63_123)).1) (by decide) (by decide) ?_
          refine XS.goto X107.here hx rfl (pc0 := 69) (pc' := 26) rfl (hb hby d4_69) (by decide) (by decide) ?_
          refine XS.iloadN X107.here hx rfl (hb hby d4_26) rfl ?_
          show SS p e below m T107 27 #[vR (a_o), vI (0), vD ((own_D (own_rn ((own_rn ((own_rn (p3 + p2)) + p1)) + p0)))), s_, vD ((own_D (own_rn (p0 - (own_rn ((own_rn ((own_rn ((own_rn (p3 + p2)) + p1)) + p0)) - (own_rn ((own_rn (p3 + p2)) + p1)))))))), s_, vD ((own_D (own_rn ((own_rn (p3 + p2)) + p1)))), s_, u_, u_] [(.int 0)] _
          refine XS.ifYes X107.here hx rfl (pc0 := 27) (pc' := 72) rfl (hb hby d4_27) rfl ((if0 _ _).trans (flt ((by decide) : ¬ ((0 : Int32) < (0 : Int32)))).2.2.2) (by decide) (by decide) ?_
          refine XS.iloadN X107.here hx rfl (hb hby d4_72) rfl ?_
          refine XS.ifYes X107.here hx rfl (pc0 := 73) (pc' := 136) rfl (hb hby d4_73) rfl ((if0 _ _).trans (flt ((by decide) : ¬ ((0 : Int32) < (0 : Int32)))).2.2.2) (by decide) (by decide) ?_
          show SS p e below m T107 136 #[vR (a_o), vI (0), vD ((own_D (own_rn ((own_rn ((own_rn (p3 + p2)) + p1)) + p0)))), s_, vD ((own_D (own_rn (p0 - (own_rn ((own_rn ((own_rn ((own_rn (p3 + p2)) + p1)) + p0)) - (own_rn ((own_rn (p3 + p2)) + p1)))))))), s_, vD ((own_D (own_rn ((own_rn (p3 + p2)) + p1)))), s_, u_, u_] [] _
          refine XS.dloadN X107.here hx rfl (hb hby d4_136) rfl ?_
          show SS p e below m T107 137 #[vR (a_o), vI (0), vD ((own_D (own_rn ((own_rn ((own_rn (p3 + p2)) + p1)) + p0)))), s_, vD ((own_D (own_rn (p0 - (own_rn ((own_rn ((own_rn ((own_rn (p3 + p2)) + p1)) + p0)) - (own_rn ((own_rn (p3 + p2)) + p1)))))))), s_, vD ((own_D (own_rn ((own_rn (p3 + p2)) + p1)))), s_, u_, u_] [(.double (own_D (own_rn ((own_rn ((own_rn (p3 + p2)) + p1)) + p0))))] _
          jvm_step X107.here [X107.here.top, hx, (hb hby d4_137), X107.method', Bd.returns, narrow]
          first | (intro acts; rw [hr _ acts rfl rfl rfl]) | rw [hr _ _ rfl rfl rfl]
          exact Steps.refl _
        · show Qown_vl4 Z a_o pa k_p p0 p1 p2 p3 h0 n0 _ T107.heap _
          rw [e107]
          have hv : (own_vl4_f p0 p1 p2 p3) = (own_rn ((own_rn ((own_rn (p3 + p2)) + p1)) + p0)) := by unfold own_vl4_f; rw [if_pos hc63_53, if_pos hc63_88, if_pos hc63_123]
          exact ⟨(by rw [hv]), N0, rfl⟩
      · obtain ⟨fs, hr, hrun, hended, hW, hsame⟩ := X107.leave (v := some (.double (own_D (own_rn ((own_rn ((own_rn (p3 + p2)) + p1)) + p0))))) (fun h => by rw [Bd.returns] at h; cases h) (hlocks := BodyLoose.notSynchronized Bd)
        refine ⟨_, _, pre122 _ ?_, hrun, hended, _, _, rfl, ?_, ⟨_, rfl⟩, hW, hsame.mono (by decide) (by decide)⟩
        · show SS p e below m T107 63 #[vR (a_o), vI (0), vD ((own_D (own_rn ((own_rn ((own_rn (p3 + p2)) + p1)) + p0)))), s_, vD ((own_D (own_rn (p0 - (own_rn ((own_rn ((own_rn ((own_rn (p3 + p2)) + p1)) + p0)) - (own_rn ((own_rn (p3 + p2)) + p1)))))))), s_, vD ((own_D (own_rn ((own_rn (p3 + p2)) + p1)))), s_, u_, u_] [(.int (own_cmp (own_rn (p0 - (own_rn ((own_rn ((own_rn ((own_rn (p3 + p2)) + p1)) + p0)) - (own_rn ((own_rn (p3 + p2)) + p1)))))) 0))] _
          refine XS.ifNo X107.here hx rfl (hb hby d4_63) rfl ((if0 _ _).trans (feq (fun q => hc63_123 (own_cmEq.mp q))).1) ?_
          refine XS.goto X107.here hx rfl (pc0 := 66) (pc' := 72) rfl (hb hby d4_66) (by decide) (by decide) ?_
          refine XS.iloadN X107.here hx rfl (hb hby d4_72) rfl ?_
          show SS p e below m T107 73 #[vR (a_o), vI (0), vD ((own_D (own_rn ((own_rn ((own_rn (p3 + p2)) + p1)) + p0)))), s_, vD ((own_D (own_rn (p0 - (own_rn ((own_rn ((own_rn ((own_rn (p3 + p2)) + p1)) + p0)) - (own_rn ((own_rn (p3 + p2)) + p1)))))))), s_, vD ((own_D (own_rn ((own_rn (p3 + p2)) + p1)))), s_, u_, u_] [(.int 0)] _
          refine XS.ifYes X107.here hx rfl (pc0 := 73) (pc' := 136) rfl (hb hby d4_73) rfl ((if0 _ _).trans (flt ((by decide) : ¬ ((0 : Int32) < (0 : Int32)))).2.2.2) (by decide) (by decide) ?_
          refine XS.dloadN X107.here hx rfl (hb hby d4_136) rfl ?_
          show SS p e below m T107 137 #[vR (a_o), vI (0), vD ((own_D (own_rn ((own_rn ((own_rn (p3 + p2)) + p1)) + p0)))), s_, vD ((own_D (own_rn (p0 - (own_rn ((own_rn ((own_rn ((own_rn (p3 + p2)) + p1)) + p0)) - (own_rn ((own_rn (p3 + p2)) + p1)))))))), s_, vD ((own_D (own_rn ((own_rn (p3 + p2)) + p1)))), s_, u_, u_] [(.double (own_D (own_rn ((own_rn ((own_rn (p3 + p2)) + p1)) + p0))))] _
          jvm_step X107.here [X107.here.top, hx, (hb hby d4_137), X107.method', Bd.returns, narrow]
          first | (intro acts; rw [hr _ acts rfl rfl rfl]) | rw [hr _ _ rfl rfl rfl]
          exact Steps.refl _
        · show Qown_vl4 Z a_o pa k_p p0 p1 p2 p3 h0 n0 _ T107.heap _
          rw [e107]
          have hv : (own_vl4_f p0 p1 p2 p3) = (own_rn ((own_rn ((own_rn (p3 + p2)) + p1)) + p0)) := by unfold own_vl4_f; rw [if_pos hc63_53, if_pos hc63_88, if_neg hc63_123]
          exact ⟨(by rw [hv]), N0, rfl⟩
    · have pre143 : ∀ t, Steps p.tables e below (T72.setTop (mkF m 80 #[vR (a_o), vI (1), vD ((own_D (own_rn ((own_rn (p3 + p2)) + p1)))), s_, vD ((own_D (own_rn (p1 - (own_rn ((own_rn ((own_rn (p3 + p2)) + p1)) - (own_rn (p3 + p2)))))))), s_, vD ((own_D (own_rn (p3 + p2)))), s_, u_, u_] [(.int (own_cmp (own_rn (p1 - (own_rn ((own_rn ((own_rn (p3 + p2)) + p1)) - (own_rn (p3 + p2)))))) 0))])) t → Steps p.tables e below (s₁.setTop (entryFrame m #[(.ref a_o)] 10)) t := by
        intro t kt
        refine pre87 _ ?_
        show SS p e below m T72 63 #[vR (a_o), vI (1), vD ((own_D (own_rn ((own_rn (p3 + p2)) + p1)))), s_, vD ((own_D (own_rn (p1 - (own_rn ((own_rn ((own_rn (p3 + p2)) + p1)) - (own_rn (p3 + p2)))))))), s_, vD ((own_D (own_rn (p3 + p2)))), s_, u_, u_] [(.int (own_cmp (own_rn (p1 - (own_rn ((own_rn ((own_rn (p3 + p2)) + p1)) - (own_rn (p3 + p2)))))) 0))] _
        refine XS.ifNo X72.here hx rfl (hb hby d4_63) rfl ((if0 _ _).trans (feq (fun q => hc63_88 (own_cmEq.mp q))).1) ?_
        refine XS.goto X72.here hx rfl (pc0 := 66) (pc' := 72) rfl (hb hby d4_66) (by decide) (by decide) ?_
        refine XS.iloadN X72.here hx rfl (hb hby d4_72) rfl ?_
        show SS p e below m T72 73 #[vR (a_o), vI (1), vD ((own_D (own_rn ((own_rn (p3 + p2)) + p1)))), s_, vD ((own_D (own_rn (p1 - (own_rn ((own_rn ((own_rn (p3 + p2)) + p1)) - (own_rn (p3 + p2)))))))), s_, vD ((own_D (own_rn (p3 + p2)))), s_, u_, u_] [(.int 1)] _
        refine XS.ifNo X72.here hx rfl (hb hby d4_73) rfl ((if0 _ _).trans (tlt ((by decide) : (0 : Int32) < (1 : Int32))).2.2.2) ?_
        refine XS.dload X72.here hx rfl (hb hby d4_76) rfl ?_
        refine XS.dconst0 X72.here hx rfl (hb hby d4_78) own_c0 ?_
        show SS p e below m T72 79 #[vR (a_o), vI (1), vD ((own_D (own_rn ((own_rn (p3 + p2)) + p1)))), s_, vD ((own_D (own_rn (p1 - (own_rn ((own_rn ((own_rn (p3 + p2)) + p1)) - (own_rn (p3 + p2)))))))), s_, vD ((own_D (own_rn (p3 + p2)))), s_, u_, u_] [(.double (own_D 0)), (.double (own_D (own_rn (p1 - (own_rn ((own_rn ((own_rn (p3 + p2)) + p1)) - (own_rn (p3 + p2))))))))] _
        refine XS.dcmpS X72.here hx rfl (hb hby d4_79) rfl (own_DcmpV (own_rrn _) own_rep0 (by omega) (by omega) (by omega) (by omega) _) ?_
        exact kt
      by_cases hc80_144 : (own_rn (p1 - (own_rn ((own_rn ((own_rn (p3 + p2)) + p1)) - (own_rn (p3 + p2)))))) < 0
      · obtain ⟨T149, X149, e149, st149⟩ := getF X72 hx hZ hown (host := "") (Or.inl (hw _ (gm 10 rfl))) Via.refl e72 hfp (g := (mkF m 89 #[vR (a_o), vI (1), vD ((own_D (own_rn ((own_rn (p3 + p2)) + p1)))), s_, vD ((own_D (own_rn (p1 - (own_rn ((own_rn ((own_rn (p3 + p2)) + p1)) - (own_rn (p3 + p2)))))))), s_, vD ((own_D (own_rn (p3 + p2)))), s_, u_, u_] [(.ref a_o), (.int 1)])) rfl rfl (hb hby d4_89)
        obtain ⟨cl154, Ar154, q154, S154, M154, H154, G154⟩ := id hA
        have hin154 : ¬ ((0 : Int32) < 0 ∨ cl154.slots.size ≤ ((0 : Int32)).toNatClampNeg) := inb_of S154 ⟨by decide, by decide⟩
        have hat154 : cl154.slots[((0 : Int32)).toNatClampNeg]? = some (.double (own_D p0)) := H154.at hin154 rfl
        have pre158 : ∀ t, Steps p.tables e below (T149.setTop (mkF m 98 #[vR (a_o), vI (1), vD ((own_D (own_rn ((own_rn (p3 + p2)) + p1)))), s_, vD ((own_D (own_rn (p1 - (own_rn ((own_rn ((own_rn (p3 + p2)) + p1)) - (own_rn (p3 + p2)))))))), s_, vD ((own_D (own_rn (p3 + p2)))), s_, u_, u_] [(.int (own_cmp p0 0)), (.int 1)])) t → Steps p.tables e below (s₁.setTop (entryFrame m #[(.ref a_o)] 10)) t := by
          intro t kt
          refine pre143 _ ?_
          show SS p e below m T72 80 #[vR (a_o), vI (1), vD ((own_D (own_rn ((own_rn (p3 + p2)) + p1)))), s_, vD ((own_D (own_rn (p1 - (own_rn ((own_rn ((own_rn (p3 + p2)) + p1)) - (own_rn (p3 + p2)))))))), s_, vD ((own_D (own_rn (p3 + p2)))), s_, u_, u_] [(.int (own_cmp (own_rn (p1 - (own_rn ((own_rn ((own_rn (p3 + p2)) + p1)) - (own_rn (p3 + p2)))))) 0))] _
          refine XS.ifNo X72.here hx rfl (hb hby d4_80) rfl ((if0 _ _).trans (tlt (own_cmLt.mpr hc80_144)).2.1) ?_
          refine XS.iconst X72.here hx rfl (hb hby d4_83) ?_ --lit 1
          refine XS.goto X72.here hx rfl (pc0 := 84) (pc' := 88) rfl (hb hby d4_84) (by decide) (by decide) ?_
          show SS p e below m T72 88 #[vR (a_o), vI (1), vD ((own_D (own_rn ((own_rn (p3 + p2)) + p1)))), s_, vD ((own_D (own_rn (p1 - (own_rn ((own_rn ((own_rn (p3 + p2)) + p1)) - (own_rn (p3 + p2)))))))), s_, vD ((own_D (own_rn (p3 + p2)))), s_, u_, u_] [(.int 1)] _
          refine XS.aloadN X72.here hx rfl (hb hby d4_88) rfl rfl ?_
          show SS p e below m T72 89 #[vR (a_o), vI (1), vD ((own_D (own_rn ((own_rn (p3 + p2)) + p1)))), s_, vD ((own_D (own_rn (p1 - (own_rn ((own_rn ((own_rn (p3 + p2)) + p1)) - (own_rn (p3 + p2)))))))), s_, vD ((own_D (own_rn (p3 + p2)))), s_, u_, u_] [(.ref a_o), (.int 1)] _
          refine st149 _ ?_
          show SS p e below m T149 92 #[vR (a_o), vI (1), vD ((own_D (own_rn ((own_rn (p3 + p2)) + p1)))), s_, vD ((own_D (own_rn (p1 - (own_rn ((own_rn ((own_rn (p3 + p2)) + p1)) - (own_rn (p3 + p2)))))))), s_, vD ((own_D (own_rn (p3 + p2)))), s_, u_, u_] [(.ref pa), (.int 1)] _
          refine XS.iloadN X149.here hx rfl (hb hby d4_92) rfl ?_
          refine XS.iconst X149.here hx rfl (hb hby d4_93) ?_ --lit 1
          refine XS.isub X149.here hx rfl (hb hby d4_94) rfl ?_
          show SS p e below m T149 95 #[vR (a_o), vI (1), vD ((own_D (own_rn ((own_rn (p3 + p2)) + p1)))), s_, vD ((own_D (own_rn (p1 - (own_rn ((own_rn ((own_rn (p3 + p2)) + p1)) - (own_rn (p3 + p2)))))))), s_, vD ((own_D (own_rn (p3 + p2)))), s_, u_, u_] [(.int 0), (.ref pa), (.int 1)] _
          refine X149.daload hx (j := (0 : Int32)) (v := (.double (own_D p0))) (by rw [e149]; exact Ar154.1) (State.isArrayOf_alike hZ.alike Ar154.2.1) Ar154.2.2 hin154 hat154 (g := (mkF m 95 #[vR (a_o), vI (1), vD ((own_D (own_rn ((own_rn (p3 + p2)) + p1)))), s_, vD ((own_D (own_rn (p1 - (own_rn ((own_rn ((own_rn (p3 + p2)) + p1)) - (own_rn (p3 + p2)))))))), s_, vD ((own_D (own_rn (p3 + p2)))), s_, u_, u_] [(.int 0), (.ref pa), (.int 1)])) rfl rfl (hb hby d4_95) _ ?_
          show SS p e below m T149 96 #[vR (a_o), vI (1), vD ((own_D (own_rn ((own_rn (p3 + p2)) + p1)))), s_, vD ((own_D (own_rn (p1 - (own_rn ((own_rn ((own_rn (p3 + p2)) + p1)) - (own_rn (p3 + p2)))))))), s_, vD ((own_D (own_rn (p3 + p2)))), s_, u_, u_] [(.double (own_D p0)), (.int 1)] _
          refine XS.dconst0 X149.here hx rfl (hb hby d4_96) own_c0 ?_
          show SS p e below m T149 97 #[vR (a_o), vI (1), vD ((own_D (own_rn ((own_rn (p3 + p2)) + p1)))), s_, vD ((own_D (own_rn (p1 - (own_rn ((own_rn ((own_rn (p3 + p2)) + p1)) - (own_rn (p3 + p2)))))))), s_, vD ((own_D (own_rn (p3 + p2)))), s_, u_, u_] [(.double (own_D 0)), (.double (own_D p0)), (.int 1)] _
          refine XS.dcmpS X149.here hx rfl (hb hby d4_97) rfl (own_DcmpV hr0 own_rep0 (by omega) (by omega) (by omega) (by omega) _) ?_
          exact kt
        by_cases hc98_159 : p0 < 0
        · have hq166 : FP.dmul (own_D (own_rn (p1 - (own_rn ((own_rn ((own_rn (p3 + p2)) + p1)) - (own_rn (p3 + p2))))))) (own_D 2) = own_D (own_rn ((own_rn (p1 - (own_rn ((own_rn ((own_rn (p3 + p2)) + p1)) - (own_rn (p3 + p2)))))) * 2)) := own_Dmul2 hc63_88 (by omega) (by omega)
          have hq166E := own_errSm (n := (own_rn (p1 - (own_rn ((own_rn ((own_rn (p3 + p2)) + p1)) - (own_rn (p3 + p2)))))) * 2) (by omega) (by omega)
          have hq171 : FP.dadd (own_D (own_rn ((own_rn (p3 + p2)) + p1))) (own_D (own_rn ((own_rn (p1 - (own_rn ((own_rn ((own_rn (p3 + p2)) + p1)) - (own_rn (p3 + p2)))))) * 2))) = own_D (own_rn ((own_rn ((own_rn (p3 + p2)) + p1)) + (own_rn ((own_rn (p1 - (own_rn ((own_rn ((own_rn (p3 + p2)) + p1)) - (own_rn (p3 + p2)))))) * 2)))) := own_Dadd (own_rrn _) (own_rrn _) (by omega) (by omega) (by omega) (by omega) (by omega) (by omega)
          have hq171E := own_errSm (n := (own_rn ((own_rn (p3 + p2)) + p1)) + (own_rn ((own_rn (p1 - (own_rn ((own_rn ((own_rn (p3 + p2)) + p1)) - (own_rn (p3 + p2)))))) * 2))) (by omega) (by omega)
          have hq176 : FP.dsub (own_D (own_rn ((own_rn ((own_rn (p3 + p2)) + p1)) + (own_rn ((own_rn (p1 - (own_rn ((own_rn ((own_rn (p3 + p2)) + p1)) - (own_rn (p3 + p2)))))) * 2))))) (own_D (own_rn ((own_rn (p3 + p2)) + p1))) = own_D (own_rn ((own_rn ((own_rn ((own_rn (p3 + p2)) + p1)) + (own_rn ((own_rn (p1 - (own_rn ((own_rn ((own_rn (p3 + p2)) + p1)) - (own_rn (p3 + p2)))))) * 2)))) - (own_rn ((own_rn (p3 + p2)) + p1)))) := own_Dsub (own_rrn _) (own_rrn _) (by omega) (by omega) (by omega) (by omega) (by omega) (by omega)
          have hq176E := own_errSm (n := (own_rn ((own_rn ((own_rn (p3 + p2)) + p1)) + (own_rn ((own_rn (p1 - (own_rn ((own_rn ((own_rn (p3 + p2)) + p1)) - (own_rn (p3 + p2)))))) * 2)))) - (own_rn ((own_rn (p3 + p2)) + p1))) (by omega) (by omega)
          have pre180 : ∀ t, Steps p.tables e below (T149.setTop (mkF m 130 #[vR (a_o), vI (1), vD ((own_D (own_rn ((own_rn (p3 + p2)) + p1)))), s_, vD ((own_D (own_rn (p1 - (own_rn ((own_rn ((own_rn (p3 + p2)) + p1)) - (own_rn (p3 + p2)))))))), s_, vD ((own_D (own_rn ((own_rn (p1 - (own_rn ((own_rn ((own_rn (p3 + p2)) + p1)) - (own_rn (p3 + p2)))))) * 2)))), s_, vD ((own_D (own_rn ((own_rn ((own_rn (p3 + p2)) + p1)) + (own_rn ((own_rn (p1 - (own_rn ((own_rn ((own_rn (p3 + p2)) + p1)) - (own_rn (p3 + p2)))))) * 2)))))), s_] [(.int (own_cmp (own_rn ((own_rn ((own_rn ((own_rn (p3 + p2)) + p1)) + (own_rn ((own_rn (p1 - (own_rn ((own_rn ((own_rn (p3 + p2)) + p1)) - (own_rn (p3 + p2)))))) * 2)))) - (own_rn ((own_rn (p3 + p2)) + p1)))) (own_rn ((own_rn (p1 - (own_rn ((own_rn ((own_rn (p3 + p2)) + p1)) - (own_rn (p3 + p2)))))) * 2))))])) t → Steps p.tables e below (s₁.setTop (entryFrame m #[(.ref a_o)] 10)) t := by
            intro t kt
            refine pre158 _ ?_
            show SS p e below m T149 98 #[vR (a_o), vI (1), vD ((own_D (own_rn ((own_rn (p3 + p2)) + p1)))), s_, vD ((own_D (own_rn (p1 - (own_rn ((own_rn ((own_rn (p3 + p2)) + p1)) - (own_rn (p3 + p2)))))))), s_, vD ((own_D (own_rn (p3 + p2)))), s_, u_, u_] [(.int (own_cmp p0 0)), (.int 1)] _
            refine XS.ifNo X149.here hx rfl (hb hby d4_98) rfl ((if0 _ _).trans (tlt (own_cmLt.mpr hc98_159)).2.1) ?_
            refine XS.iconst X149.here hx rfl (hb hby d4_101) ?_ --lit 1
            refine XS.goto X149.here hx rfl (pc0 := 102) (pc' := 106) rfl (hb hby d4_102) (by decide) (by decide) ?_
            show SS p e below m T149 106 #[vR (a_o), vI (1), vD ((own_D (own_rn ((own_rn (p3 + p2)) + p1)))), s_, vD ((own_D (own_rn (p1 - (own_rn ((own_rn ((own_rn (p3 + p2)) + p1)) - (own_rn (p3 + p2)))))))), s_, vD ((own_D (own_rn (p3 + p2)))), s_, u_, u_] [(.int 1), (.int 1)] _
            refine XS.icmpNo X149.here hx rfl (hb hby d4_106) rfl (teq ((by decide) : (1 : Int32) = (1 : Int32))).2 ?_
            refine XS.dload X149.here hx rfl (hb hby d4_109) rfl ?_
            show SS p e below m T149 111 #[vR (a_o), vI (1), vD ((own_D (own_rn ((own_rn (p3 + p2)) + p1)))), s_, vD ((own_D (own_rn (p1 - (own_rn ((own_rn ((own_rn (p3 + p2)) + p1)) - (own_rn (p3 + p2)))))))), s_, vD ((own_D (own_rn (p3 + p2)))), s_, u_, u_] [(.double (own_D (own_rn (p1 - (own_rn ((own_rn ((own_rn (p3 + p2)) + p1)) - (own_rn (p3 + p2))))))))] _
            refine X149.ldc2DoubleC hx hown (mvT hZ (hw _ (gm 27 rfl))) (g := (mkF m 111 #[vR (a_o), vI (1), vD ((own_D (own_rn ((own_rn (p3 + p2)) + p1)))), s_, vD ((own_D (own_rn (p1 - (own_rn ((own_rn ((own_rn (p3 + p2)) + p1)) - (own_rn (p3 + p2)))))))), s_, vD ((own_D (own_rn (p3 + p2)))), s_, u_, u_] [(.double (own_D (own_rn (p1 - (own_rn ((own_rn ((own_rn (p3 + p2)) + p1)) - (own_rn (p3 + p2))))))))])) rfl (hb hby d4_111) _ ?_
            show SS p e below m T149 114 #[vR (a_o), vI (1), vD ((own_D (own_rn ((own_rn (p3 + p2)) + p1)))), s_, vD ((own_D (own_rn (p1 - (own_rn ((own_rn ((own_rn (p3 + p2)) + p1)) - (own_rn (p3 + p2)))))))), s_, vD ((own_D (own_rn (p3 + p2)))), s_, u_, u_] [(.double (4611686018427387904 : UInt64)), (.double (own_D (own_rn (p1 - (own_rn ((own_rn ((own_rn (p3 + p2)) + p1)) - (own_rn (p3 + p2))))))))] _
            rw [own_c2]
            show SS p e below m T149 114 #[vR (a_o), vI (1), vD ((own_D (own_rn ((own_rn (p3 + p2)) + p1)))), s_, vD ((own_D (own_rn (p1 - (own_rn ((own_rn ((own_rn (p3 + p2)) + p1)) - (own_rn (p3 + p2)))))))), s_, vD ((own_D (own_rn (p3 + p2)))), s_, u_, u_] [(.double (own_D 2)), (.double (own_D (own_rn (p1 - (own_rn ((own_rn ((own_rn (p3 + p2)) + p1)) - (own_rn (p3 + p2))))))))] _
            refine XS.dmulS X149.here hx rfl (hb hby d4_114) rfl (nn_w (a := Int64.ofInt (own_rn ((own_rn (p1 - (own_rn ((own_rn ((own_rn (p3 + p2)) + p1)) - (own_rn (p3 + p2)))))) * 2))) hq166) hq166 ?_
            show SS p e below m T149 115 #[vR (a_o), vI (1), vD ((own_D (own_rn ((own_rn (p3 + p2)) + p1)))), s_, vD ((own_D (own_rn (p1 - (own_rn ((own_rn ((own_rn (p3 + p2)) + p1)) - (own_rn (p3 + p2)))))))), s_, vD ((own_D (own_rn (p3 + p2)))), s_, u_, u_] [(.double (own_D (own_rn ((own_rn (p1 - (own_rn ((own_rn ((own_rn (p3 + p2)) + p1)) - (own_rn (p3 + p2)))))) * 2))))] _
            refine XS.dstore X149.here hx rfl (hb hby d4_115) rfl (l' := #[vR (a_o), vI (1), vD ((own_D (own_rn ((own_rn (p3 + p2)) + p1)))), s_, vD ((own_D (own_rn (p1 - (own_rn ((own_rn ((own_rn (p3 + p2)) + p1)) - (own_rn (p3 + p2)))))))), s_, vD ((own_D (own_rn ((own_rn (p1 - (own_rn ((own_rn ((own_rn (p3 + p2)) + p1)) - (own_rn (p3 + p2)))))) * 2)))), s_, u_, u_]) rfl ?_
            refine XS.dloadN X149.here hx rfl (hb hby d4_117) rfl ?_
            refine XS.dload X149.here hx rfl (hb hby d4_118) rfl ?_
            show SS p e below m T149 120 #[vR (a_o), vI (1), vD ((own_D (own_rn ((own_rn (p3 + p2)) + p1)))), s_, vD ((own_D (own_rn (p1 - (own_rn ((own_rn ((own_rn (p3 + p2)) + p1)) - (own_rn (p3 + p2)))))))), s_, vD ((own_D (own_rn ((own_rn (p1 - (own_rn ((own_rn ((own_rn (p3 + p2)) + p1)) - (own_rn (p3 + p2)))))) * 2)))), s_, u_, u_] [(.double (own_D (own_rn ((own_rn (p1 - (own_rn ((own_rn ((own_rn (p3 + p2)) + p1)) - (own_rn (p3 + p2)))))) * 2)))), (.double (own_D (own_rn ((own_rn (p3 + p2)) + p1))))] _
            refine XS.daddS X149.here hx rfl (hb hby d4_120) rfl (nn_w (a := Int64.ofInt (own_rn ((own_rn ((own_rn (p3 + p2)) + p1)) + (own_rn ((own_rn (p1 - (own_rn ((own_rn ((own_rn (p3 + p2)) + p1)) - (own_rn (p3 + p2)))))) * 2))))) hq171) hq171 ?_
            show SS p e below m T149 121 #[vR (a_o), vI (1), vD ((own_D (own_rn ((own_rn (p3 + p2)) + p1)))), s_, vD ((own_D (own_rn (p1 - (own_rn ((own_rn ((own_rn (p3 + p2)) + p1)) - (own_rn (p3 + p2)))))))), s_, vD ((own_D (own_rn ((own_rn (p1 - (own_rn ((own_rn ((own_rn (p3 + p2)) + p1)) - (own_rn (p3 + p2)))))) * 2)))), s_, u_, u_] [(.double (own_D (own_rn ((own_rn ((own_rn (p3 + p2)) + p1)) + (own_rn ((own_rn (p1 - (own_rn ((own_rn ((own_rn (p3 + p2)) + p1)) - (own_rn (p3 + p2)))))) * 2))))))] _
            refine XS.dstore X149.here hx rfl (hb hby d4_121) rfl (l' := #[vR (a_o), vI (1), vD ((own_D (own_rn ((own_rn (p3 + p2)) + p1)))), s_, vD ((own_D (own_rn (p1 - (own_rn ((own_rn ((own_rn (p3 + p2)) + p1)) - (own_rn (p3 + p2)))))))), s_, vD ((own_D (own_rn ((own_rn (p1 - (own_rn ((own_rn ((own_rn (p3 + p2)) + p1)) - (own_rn (p3 + p2)))))) * 2)))), s_, vD ((own_D (own_rn ((own_rn ((own_rn (p3 + p2)) + p1)) + (own_rn ((own_rn (p1 - (own_rn ((own_rn ((own_rn (p3 + p2)) + p1)) - (own_rn (p3 + p2)))))) * 2)))))), s_]) rfl ?_
            refine XS.dload X149.here hx rfl (hb hby d4_123) rfl ?_
            refine XS.dloadN X149.here hx rfl (hb hby d4_125) rfl ?_
            show SS p e below m T149 126 #[vR (a_o), vI (1), vD ((own_D (own_rn ((own_rn (p3 + p2)) + p1)))), s_, vD ((own_D (own_rn (p1 - (own_rn ((own_rn ((own_rn (p3 + p2)) + p1)) - (own_rn (p3 + p2)))))))), s_, vD ((own_D (own_rn ((own_rn (p1 - (own_rn ((own_rn ((own_rn (p3 + p2)) + p1)) - (own_rn (p3 + p2)))))) * 2)))), s_, vD ((own_D (own_rn ((own_rn ((own_rn (p3 + p2)) + p1)) + (own_rn ((own_rn (p1 - (own_rn ((own_rn ((own_rn (p3 + p2)) + p1)) - (own_rn (p3 + p2)))))) * 2)))))), s_] [(.double (own_D (own_rn ((own_rn (p3 + p2)) + p1)))), (.double (own_D (own_rn ((own_rn ((own_rn (p3 + p2)) + p1)) + (own_rn ((own_rn (p1 - (own_rn ((own_rn ((own_rn (p3 + p2)) + p1)) - (own_rn (p3 + p2)))))) * 2))))))] _
            refine XS.dsubS X149.here hx rfl (hb hby d4_126) rfl (nn_w (a := Int64.ofInt (own_rn ((own_rn ((own_rn ((own_rn (p3 + p2)) + p1)) + (own_rn ((own_rn (p1 - (own_rn ((own_rn ((own_rn (p3 + p2)) + p1)) - (own_rn (p3 + p2)))))) * 2)))) - (own_rn ((own_rn (p3 + p2)) + p1))))) hq176) hq176 ?_
            show SS p e below m T149 127 #[vR (a_o), vI (1), vD ((own_D (own_rn ((own_rn (p3 + p2)) + p1)))), s_, vD ((own_D (own_rn (p1 - (own_rn ((own_rn ((own_rn (p3 + p2)) + p1)) - (own_rn (p3 + p2)))))))), s_, vD ((own_D (own_rn ((own_rn (p1 - (own_rn ((own_rn ((own_rn (p3 + p2)) + p1)) - (own_rn (p3 + p2)))))) * 2)))), s_, vD ((own_D (own_rn ((own_rn ((own_rn (p3 + p2)) + p1)) + (own_rn ((own_rn (p1 - (own_rn ((own_rn ((own_rn (p3 + p2)) + p1)) - (own_rn (p3 + p2)))))) * 2)))))), s_] [(.double (own_D (own_rn ((own_rn ((own_rn ((own_rn (p3 + p2)) + p1)) + (own_rn ((own_rn (p1 - (own_rn ((own_rn ((own_rn (p3 + p2)) + p1)) - (own_rn (p3 + p2)))))) * 2)))) - (own_rn ((own_rn (p3 + p2)) + p1))))))] _
            refine XS.dload X149.here hx rfl (hb hby d4_127) rfl ?_
            show SS p e below m T149 129 #[vR (a_o), vI (1), vD ((own_D (own_rn ((own_rn (p3 + p2)) + p1)))), s_, vD ((own_D (own_rn (p1 - (own_rn ((own_rn ((own_rn (p3 + p2)) + p1)) - (own_rn (p3 + p2)))))))), s_, vD ((own_D (own_rn ((own_rn (p1 - (own_rn ((own_rn ((own_rn (p3 + p2)) + p1)) - (own_rn (p3 + p2)))))) * 2)))), s_, vD ((own_D (own_rn ((own_rn ((own_rn (p3 + p2)) + p1)) + (own_rn ((own_rn (p1 - (own_rn ((own_rn ((own_rn (p3 + p2)) + p1)) - (own_rn (p3 + p2)))))) * 2)))))), s_] [(.double (own_D (own_rn ((own_rn (p1 - (own_rn ((own_rn ((own_rn (p3 + p2)) + p1)) - (own_rn (p3 + p2)))))) * 2)))), (.double (own_D (own_rn ((own_rn ((own_rn ((own_rn (p3 + p2)) + p1)) + (own_rn ((own_rn (p1 - (own_rn ((own_rn ((own_rn (p3 + p2)) + p1)) - (own_rn (p3 + p2)))))) * 2)))) - (own_rn ((own_rn (p3 + p2)) + p1))))))] _
            refine XS.dcmpS X149.here hx rfl (hb hby d4_129) rfl (own_DcmpV (own_rrn _) (own_rrn _) (by omega) (by omega) (by omega) (by omega) _) ?_
            exact kt
          by_cases hc130_181 : (own_rn ((own_rn ((own_rn ((own_rn (p3 + p2)) + p1)) + (own_rn ((own_rn (p1 - (own_rn ((own_rn ((own_rn (p3 + p2)) + p1)) - (own_rn (p3 + p2)))))) * 2)))) - (own_rn ((own_rn (p3 + p2)) + p1)))) = (own_rn ((own_rn (p1 - (own_rn ((own_rn ((own_rn (p3 + p2)) + p1)) - (own_rn (p3 + p2)))))) * 2))
          · obtain ⟨fs, hr, hrun, hended, hW, hsame⟩ := X149.leave (v := some (.double (own_D (own_rn ((own_rn ((own_rn (p3 + p2)) + p1)) + (own_rn ((own_rn (p1 - (own_rn ((own_rn ((own_rn (p3 + p2)) + p1)) - (own_rn (p3 + p2)))))) * 2))))))) (fun h => by rw [Bd.returns] at h; cases h) (hlocks := BodyLoose.notSynchronized Bd)
            refine ⟨_, _, pre180 _ ?_, hrun, hended, _, _, rfl, ?_, ⟨_, rfl⟩, hW, hsame.mono (by decide) (by decide)⟩
            · show SS p e below m T149 130 #[vR (a_o), vI (1), vD ((own_D (own_rn ((own_rn (p3 + p2)) + p1)))), s_, vD ((own_D (own_rn (p1 - (own_rn ((own_rn ((own_rn (p3 + p2)) + p1)) - (own_rn (p3 + p2)))))))), s_, vD ((own_D (own_rn ((own_rn (p1 - (own_rn ((own_rn ((own_rn (p3 + p2)) + p1)) - (own_rn (p3 + p2)))))) * 2)))), s_, vD ((own_D (own_rn ((own_rn ((own_rn (p3 + p2)) + p1)) + (own_rn ((own_rn (p1 - (own_rn ((own_rn ((own_rn (p3 + p2)) + p1)) - (own_rn (p3 + p2)))))) * 2)))))), s_] [(.int (own_cmp (own_rn ((own_rn ((own_rn ((own_rn (p3 + p2)) + p1)) + (own_rn ((own_rn (p1 - (own_rn ((own_rn ((own_rn (p3 + p2)) + p1)) - (own_rn (p3 + p2)))))) * 2)))) - (own_rn ((own_rn (p3 + p2)) + p1)))) (own_rn ((own_rn (p1 - (own_rn ((own_rn ((own_rn (p3 + p2)) + p1)) - (own_rn (p3 + p2)))))) * 2))))] _
              refine XS.ifNo X149.here hx rfl (hb hby d4_130) rfl ((if0 _ _).trans (teq (own_cmEq.mpr hc130_181)).2) ?_
              refine XS.dload X149.here hx rfl (hb hby d4_133) rfl ?_
              refine XS.dstoreN X149.here hx rfl (hb hby d4_135) rfl (l' := #[vR (a_o), vI (1), vD ((own_D (own_rn ((own_rn ((own_rn (p3 + p2)) + p1)) + (own_rn ((own_rn (p1 - (own_rn ((own_rn ((own_rn (p3 + p2)) + p1)) - (own_rn (p3 + p2)))))) * 2)))))), s_, vD ((own_D (own_rn (p1 - (own_rn ((own_rn ((own_rn (p3 + p2)) + p1)) - (own_rn (p3 + p2)))))))), s_, vD ((own_D (own_rn ((own_rn (p1 - (own_rn ((own_rn ((own_rn (p3 + p2)) + p1)) - (own_rn (p3 + p2)))))) * 2)))), s_, vD ((own_D (own_rn ((own_rn ((own_rn (p3 + p2)) + p1)) + (own_rn ((own_rn (p1 - (own_rn ((own_rn ((own_rn (p3 + p2)) + p1)) - (own_rn (p3 + p2)))))) * 2)))))), s_]) rfl ?_
              show SS p e below m T149 136 #[vR (a_o), vI (1), vD ((own_D (own_rn ((own_rn ((own_rn (p3 + p2)) + p1)) + (own_rn ((own_rn (p1 - (own_rn ((own_rn ((own_rn (p3 + p2)) + p1)) - (own_rn (p3 + p2)))))) * 2)))))), s_, vD ((own_D (own_rn (p1 - (own_rn ((own_rn ((own_rn (p3 + p2)) + p1)) - (own_rn (p3 + p2)))))))), s_, vD ((own_D (own_rn ((own_rn (p1 - (own_rn ((own_rn ((own_rn (p3 + p2)) + p1)) - (own_rn (p3 + p2)))))) * 2)))), s_, vD ((own_D (own_rn ((own_rn ((own_rn (p3 + p2)) + p1)) + (own_rn ((own_rn (p1 - (own_rn ((own_rn ((own_rn (p3 + p2)) + p1)) - (own_rn (p3 + p2)))))) * 2)))))), s_] [] _
              refine XS.dloadN X149.here hx rfl (hb hby d4_136) rfl ?_
              show SS p e below m T149 137 #[vR (a_o), vI (1), vD ((own_D (own_rn ((own_rn ((own_rn (p3 + p2)) + p1)) + (own_rn ((own_rn (p1 - (own_rn ((own_rn ((own_rn (p3 + p2)) + p1)) - (own_rn (p3 + p2)))))) * 2)))))), s_, vD ((own_D (own_rn (p1 - (own_rn ((own_rn ((own_rn (p3 + p2)) + p1)) - (own_rn (p3 + p2)))))))), s_, vD ((own_D (own_rn ((own_rn (p1 - (own_rn ((own_rn ((own_rn (p3 + p2)) + p1)) - (own_rn (p3 + p2)))))) * 2)))), s_, vD ((own_D (own_rn ((own_rn ((own_rn (p3 + p2)) + p1)) + (own_rn ((own_rn (p1 - (own_rn ((own_rn ((own_rn (p3 + p2)) + p1)) - (own_rn (p3 + p2)))))) * 2)))))), s_] [(.double (own_D (own_rn ((own_rn ((own_rn (p3 + p2)) + p1)) + (own_rn ((own_rn (p1 - (own_rn ((own_rn ((own_rn (p3 + p2)) + p1)) - (own_rn (p3 + p2)))))) * 2))))))] _
              jvm_step X149.here [X149.here.top, hx, (hb hby d4_137), X149.method', Bd.returns, narrow]
              first | (intro acts; rw [hr _ acts rfl rfl rfl]) | rw [hr _ _ rfl rfl rfl]
              exact Steps.refl _
            · show Qown_vl4 Z a_o pa k_p p0 p1 p2 p3 h0 n0 _ T149.heap _
              rw [e149]
              have hv : (own_vl4_f p0 p1 p2 p3) = (own_rn ((own_rn ((own_rn (p3 + p2)) + p1)) + (own_rn ((own_rn (p1 - (own_rn ((own_rn ((own_rn (p3 + p2)) + p1)) - (own_rn (p3 + p2)))))) * 2)))) := by unfold own_vl4_f; rw [if_pos hc63_53, if_neg hc63_88, if_pos hc80_144, if_pos hc98_159, if_pos hc130_181]
              exact ⟨(by rw [hv]), N0, rfl⟩
          · obtain ⟨fs, hr, hrun, hended, hW, hsame⟩ := X149.leave (v := some (.double (own_D (own_rn ((own_rn (p3 + p2)) + p1))))) (fun h => by rw [Bd.returns] at h; cases h) (hlocks := BodyLoose.notSynchronized Bd)
            refine ⟨_, _, pre180 _ ?_, hrun, hended, _, _, rfl, ?_, ⟨_, rfl⟩, hW, hsame.mono (by decide) (by decide)⟩
            · show SS p e below m T149 130 #[vR (a_o), vI (1), vD ((own_D (own_rn ((own_rn (p3 + p2)) + p1)))), s_, vD ((own_D (own_rn (p1 - (own_rn ((own_rn ((own_rn (p3 + p2)) + p1)) - (own_rn (p3 + p2)))))))), s_, vD ((own_D (own_rn ((own_rn (p1 - (own_rn ((own_rn ((own_rn (p3 + p2)) + p1)) - (own_rn (p3 + p2)))))) * 2)))), s_, vD ((own_D (own_rn ((own_rn ((own_rn (p3 + p2)) + p1)) + (own_rn ((own_rn (p1 - (own_rn ((own_rn ((own_rn (p3 + p2)) + p1)) - (own_rn (p3 + p2)))))) * 2)))))), s_] [(.int (own_cmp (own_rn ((own_rn ((own_rn ((own_rn (p3 + p2)) + p1)) + (own_rn ((own_rn (p1 - (own_rn ((own_rn ((own_rn (p3 + p2)) + p1)) - (own_rn (p3 + p2)))))) * 2)))) - (own_rn ((own_rn (p3 + p2)) + p1)))) (own_rn ((own_rn (p1 - (own_rn ((own_rn ((own_rn (p3 + p2)) + p1)) - (own_rn (p3 + p2)))))) * 2))))] _
              refine XS.ifYes X149.here hx rfl (pc0 := 130) (pc' := 136) rfl (hb hby d4_130) rfl ((if0 _ _).trans (feq (fun q => hc130_181 (own_cmEq.mp q))).2) (by decide) (by decide) ?_
              refine XS.dloadN X149.here hx rfl (hb hby d4_136) rfl ?_
              show SS p e below m T149 137 #[vR (a_o), vI (1), vD ((own_D (own_rn ((own_rn (p3 + p2)) + p1)))), s_, vD ((own_D (own_rn (p1 - (own_rn ((own_rn ((own_rn (p3 + p2)) + p1)) - (own_rn (p3 + p2)))))))), s_, vD ((own_D (own_rn ((own_rn (p1 - (own_rn ((own_rn ((own_rn (p3 + p2)) + p1)) - (own_rn (p3 + p2)))))) * 2)))), s_, vD ((own_D (own_rn ((own_rn ((own_rn (p3 + p2)) + p1)) + (own_rn ((own_rn (p1 - (own_rn ((own_rn ((own_rn (p3 + p2)) + p1)) - (own_rn (p3 + p2)))))) * 2)))))), s_] [(.double (own_D (own_rn ((own_rn (p3 + p2)) + p1))))] _
              jvm_step X149.here [X149.here.top, hx, (hb hby d4_137), X149.method', Bd.returns, narrow]
              first | (intro acts; rw [hr _ acts rfl rfl rfl]) | rw [hr _ _ rfl rfl rfl]
              exact Steps.refl _
            · show Qown_vl4 Z a_o pa k_p p0 p1 p2 p3 h0 n0 _ T149.heap _
              rw [e149]
              have hv : (own_vl4_f p0 p1 p2 p3) = (own_rn ((own_rn (p3 + p2)) + p1)) := by unfold own_vl4_f; rw [if_pos hc63_53, if_neg hc63_88, if_pos hc80_144, if_pos hc98_159, if_neg hc130_181]
              exact ⟨(by rw [hv]), N0, rfl⟩
        · obtain ⟨fs, hr, hrun, hended, hW, hsame⟩ := X149.leave (v := some (.double (own_D (own_rn ((own_rn (p3 + p2)) + p1))))) (fun h => by rw [Bd.returns] at h; cases h) (hlocks := BodyLoose.notSynchronized Bd)
          refine ⟨_, _, pre158 _ ?_, hrun, hended, _, _, rfl, ?_, ⟨_, rfl⟩, hW, hsame.mono (by decide) (by decide)⟩
          · show SS p e below m T149 98 #[vR (a_o), vI (1), vD ((own_D (own_rn ((own_rn (p3 + p2)) + p1)))), s_, vD ((own_D (own_rn (p1 - (own_rn ((own_rn ((own_rn (p3 + p2)) + p1)) - (own_rn (p3 + p2)))))))), s_, vD ((own_D (own_rn (p3 + p2)))), s_, u_, u_] [(.int (own_cmp p0 0)), (.int 1)] _
            refine XS.ifYes X149.here hx rfl (pc0 := 98) (pc' := 105) rfl (hb hby d4_98) rfl ((if0 _ _).trans (flt (fun q => hc98_159 (own_cmLt.mp q))).2.1) (by decide) (by decide) ?_
            refine XS.iconst X149.here hx rfl (hb hby d4_105) ?_ --lit 0
            refine XS.icmpYes X149.here hx rfl (pc0 := 106) (pc' := 136) rfl (hb hby d4_106) rfl (feq ((by decide) : ¬ ((1 : Int32) = (0 : Int32)))).2 (by decide) (by decide) ?_
            show SS p e below m T149 136 #[vR (a_o), vI (1), vD ((own_D (own_rn ((own_rn (p3 + p2)) + p1)))), s_, vD ((own_D (own_rn (p1 - (own_rn ((own_rn ((own_rn (p3 + p2)) + p1)) - (own_rn (p3 + p2)))))))), s_, vD ((own_D (own_rn (p3 + p2)))), s_, u_, u_] [] _
            refine XS.dloadN X149.here hx rfl (hb hby d4_136) rfl ?_
            show SS p e below m T149 137 #[vR (a_o), vI (1), vD ((own_D (own_rn ((own_rn (p3 + p2)) + p1)))), s_, vD ((own_D (own_rn (p1 - (own_rn ((own_rn ((own_rn (p3 + p2)) + p1)) - (own_rn (p3 + p2)))))))), s_, vD ((own_D (own_rn (p3 + p2)))), s_, u_, u_] [(.double (own_D (own_rn ((own_rn (p3 + p2)) + p1))))] _
            jvm_step X149.here [X149.here.top, hx, (hb hby d4_137), X149.method', Bd.returns, narrow]
            first | (intro acts; rw [hr _ acts rfl rfl rfl]) | rw [hr _ _ rfl rfl rfl]
            exact Steps.refl _
          · show Qown_vl4 Z a_o pa k_p p0 p1 p2 p3 h0 n0 _ T149.heap _
            rw [e149]
            have hv : (own_vl4_f p0 p1 p2 p3) = (own_rn ((own_rn (p3 + p2)) + p1)) := by unfold own_vl4_f; rw [if_pos hc63_53, if_neg hc63_88, if_pos hc80_144, if_neg hc98_159]
            exact ⟨(by rw [hv]), N0, rfl⟩
      · obtain ⟨T195, X195, e195, st195⟩ := getF X72 hx hZ hown (host := "") (Or.inl (hw _ (gm 10 rfl))) Via.refl e72 hfp (g := (mkF m 89 #[vR (a_o), vI (1), vD ((own_D (own_rn ((own_rn (p3 + p2)) + p1)))), s_, vD ((own_D (own_rn (p1 - (own_rn ((own_rn ((own_rn (p3 + p2)) + p1)) - (own_rn (p3 + p2)))))))), s_, vD ((own_D (own_rn (p3 + p2)))), s_, u_, u_] [(.ref a_o), (.int 0)])) rfl rfl (hb hby d4_89)
        obtain ⟨cl200, Ar200, q200, S200, M200, H200, G200⟩ := id hA
        have hin200 : ¬ ((0 : Int32) < 0 ∨ cl200.slots.size ≤ ((0 : Int32)).toNatClampNeg) := inb_of S200 ⟨by decide, by decide⟩
        have hat200 : cl200.slots[((0 : Int32)).toNatClampNeg]? = some (.double (own_D p0)) := H200.at hin200 rfl
        have pre204 : ∀ t, Steps p.tables e below (T195.setTop (mkF m 98 #[vR (a_o), vI (1), vD ((own_D (own_rn ((own_rn (p3 + p2)) + p1)))), s_, vD ((own_D (own_rn (p1 - (own_rn ((own_rn ((own_rn (p3 + p2)) + p1)) - (own_rn (p3 + p2)))))))), s_, vD ((own_D (own_rn (p3 + p2)))), s_, u_, u_] [(.int (own_cmp p0 0)), (.int 0)])) t → Steps p.tables e below (s₁.setTop (entryFrame m #[(.ref a_o)] 10)) t := by
          intro t kt
          refine pre143 _ ?_
          show SS p e below m T72 80 #[vR (a_o), vI (1), vD ((own_D (own_rn ((own_rn (p3 + p2)) + p1)))), s_, vD ((own_D (own_rn (p1 - (own_rn ((own_rn ((own_rn (p3 + p2)) + p1)) - (own_rn (p3 + p2)))))))), s_, vD ((own_D (own_rn (p3 + p2)))), s_, u_, u_] [(.int (own_cmp (own_rn (p1 - (own_rn ((own_rn ((own_rn (p3 + p2)) + p1)) - (own_rn (p3 + p2)))))) 0))] _
          refine XS.ifYes X72.here hx rfl (pc0 := 80) (pc' := 87) rfl (hb hby d4_80) rfl ((if0 _ _).trans (flt (fun q => hc80_144 (own_cmLt.mp q))).2.1) (by decide) (by decide) ?_
          refine XS.iconst X72.here hx rfl (hb hby d4_87) ?_ --lit 0
          refine XS.aloadN X72.here hx rfl (hb hby d4_88) rfl rfl ?_
          show SS p e below m T72 89 #[vR (a_o), vI (1), vD ((own_D (own_rn ((own_rn (p3 + p2)) + p1)))), s_, vD ((own_D (own_rn (p1 - (own_rn ((own_rn ((own_rn (p3 + p2)) + p1)) - (own_rn (p3 + p2)))))))), s_, vD ((own_D (own_rn (p3 + p2)))), s_, u_, u_] [(.ref a_o), (.int 0)] _
          refine st195 _ ?_
          show SS p e below m T195 92 #[vR (a_o), vI (1), vD ((own_D (own_rn ((own_rn (p3 + p2)) + p1)))), s_, vD ((own_D (own_rn (p1 - (own_rn ((own_rn ((own_rn (p3 + p2)) + p1)) - (own_rn (p3 + p2)))))))), s_, vD ((own_D (own_rn (p3 + p2)))), s_, u_, u_] [(.ref pa), (.int 0)] _
          refine XS.iloadN X195.here hx rfl (hb hby d4_92) rfl ?_
          refine XS.iconst X195.here hx rfl (hb hby d4_93) ?_ --lit 1
          refine XS.isub X195.here hx rfl (hb hby d4_94) rfl ?_
          show SS p e below m T195 95 #[vR (a_o), vI (1), vD ((own_D (own_rn ((own_rn (p3 + p2)) + p1)))), s_, vD ((own_D (own_rn (p1 - (own_rn ((own_rn ((own_rn (p3 + p2)) + p1)) - (own_rn (p3 + p2)))))))), s_, vD ((own_D (own_rn (p3 + p2)))), s_, u_, u_] [(.int 0), (.ref pa), (.int 0)] _
          refine X195.daload hx (j := (0 : Int32)) (v := (.double (own_D p0))) (by rw [e195]; exact Ar200.1) (State.isArrayOf_alike hZ.alike Ar200.2.1) Ar200.2.2 hin200 hat200 (g := (mkF m 95 #[vR (a_o), vI (1), vD ((own_D (own_rn ((own_rn (p3 + p2)) + p1)))), s_, vD ((own_D (own_rn (p1 - (own_rn ((own_rn ((own_rn (p3 + p2)) + p1)) - (own_rn (p3 + p2)))))))), s_, vD ((own_D (own_rn (p3 + p2)))), s_, u_, u_] [(.int 0), (.ref pa), (.int 0)])) rfl rfl (hb hby d4_95) _ ?_
          show SS p e below m T195 96 #[vR (a_o), vI (1), vD ((own_D (own_rn ((own_rn (p3 + p2)) + p1)))), s_, vD ((own_D (own_rn (p1 - (own_rn ((own_rn ((own_rn (p3 + p2)) + p1)) - (own_rn (p3 + p2)))))))), s_, vD ((own_D (own_rn (p3 + p2)))), s_, u_, u_] [(.double (own_D p0)), (.int 0)] _
          refine XS.dconst0 X195.here hx rfl (hb hby d4_96) own_c0 ?_
          show SS p e below m T195 97 #[vR (a_o), vI (1), vD ((own_D (own_rn ((own_rn (p3 + p2)) + p1)))), s_, vD ((own_D (own_rn (p1 - (own_rn ((own_rn ((own_rn (p3 + p2)) + p1)) - (own_rn (p3 + p2)))))))), s_, vD ((own_D (own_rn (p3 + p2)))), s_, u_, u_] [(.double (own_D 0)), (.double (own_D p0)), (.int 0)] _
          refine XS.dcmpS X195.here hx rfl (hb hby d4_97) rfl (own_DcmpV hr0 own_rep0 (by omega) (by omega) (by omega) (by omega) _) ?_
          exact kt
        by_cases hc98_205 : p0 < 0
        · obtain ⟨fs, hr, hrun, hended, hW, hsame⟩ := X195.leave (v := some (.double (own_D (own_rn ((own_rn (p3 + p2)) + p1))))) (fun h => by rw [Bd.returns] at h; cases h) (hlocks := BodyLoose.notSynchronized Bd)
          refine ⟨_, _, pre204 _ ?_, hrun, hended, _, _, rfl, ?_, ⟨_, rfl⟩, hW, hsame.mono (by decide) (by decide)⟩
          · show SS p e below m T195 98 #[vR (a_o), vI (1), vD ((own_D (own_rn ((own_rn (p3 + p2)) + p1)))), s_, vD ((own_D (own_rn (p1 - (own_rn ((own_rn ((own_rn (p3 + p2)) + p1)) - (own_rn (p3 + p2)))))))), s_, vD ((own_D (own_rn (p3 + p2)))), s_, u_, u_] [(.int (own_cmp p0 0)), (.int 0)] _
            refine XS.ifNo X195.here hx rfl (hb hby d4_98) rfl ((if0 _ _).trans (tlt (own_cmLt.mpr hc98_205)).2.1) ?_
            refine XS.iconst X195.here hx rfl (hb hby d4_101) ?_ --lit 1
            refine XS.goto X195.here hx rfl (pc0 := 102) (pc' := 106) rfl (hb hby d4_102) (by decide) (by decide) ?_
            show SS p e below m T195 106 #[vR (a_o), vI (1), vD ((own_D (own_rn ((own_rn (p3 + p2)) + p1)))), s_, vD ((own_D (own_rn (p1 - (own_rn ((own_rn ((own_rn (p3 + p2)) + p1)) - (own_rn (p3 + p2)))))))), s_, vD ((own_D (own_rn (p3 + p2)))), s_, u_, u_] [(.int 1), (.int 0)] _
            refine XS.icmpYes X195.here hx rfl (pc0 := 106) (pc' := 136) rfl (hb hby d4_106) rfl (feq ((by decide) : ¬ ((0 : Int32) = (1 : Int32)))).2 (by decide) (by decide) ?_
            refine XS.dloadN X195.here hx rfl (hb hby d4_136) rfl ?_
            show SS p e below m T195 137 #[vR (a_o), vI (1), vD ((own_D (own_rn ((own_rn (p3 + p2)) + p1)))), s_, vD ((own_D (own_rn (p1 - (own_rn ((own_rn ((own_rn (p3 + p2)) + p1)) - (own_rn (p3 + p2)))))))), s_, vD ((own_D (own_rn (p3 + p2)))), s_, u_, u_] [(.double (own_D (own_rn ((own_rn (p3 + p2)) + p1))))] _
            jvm_step X195.here [X195.here.top, hx, (hb hby d4_137), X195.method', Bd.returns, narrow]
            first | (intro acts; rw [hr _ acts rfl rfl rfl]) | rw [hr _ _ rfl rfl rfl]
            exact Steps.refl _
          · show Qown_vl4 Z a_o pa k_p p0 p1 p2 p3 h0 n0 _ T195.heap _
            rw [e195]
            have hv : (own_vl4_f p0 p1 p2 p3) = (own_rn ((own_rn (p3 + p2)) + p1)) := by unfold own_vl4_f; rw [if_pos hc63_53, if_neg hc63_88, if_neg hc80_144, if_pos hc98_205]
            exact ⟨(by rw [hv]), N0, rfl⟩
        · have hq216 : FP.dmul (own_D (own_rn (p1 - (own_rn ((own_rn ((own_rn (p3 + p2)) + p1)) - (own_rn (p3 + p2))))))) (own_D 2) = own_D (own_rn ((own_rn (p1 - (own_rn ((own_rn ((own_rn (p3 + p2)) + p1)) - (own_rn (p3 + p2)))))) * 2)) := own_Dmul2 hc63_88 (by omega) (by omega)
          have hq216E := own_errSm (n := (own_rn (p1 - (own_rn ((own_rn ((own_rn (p3 + p2)) + p1)) - (own_rn (p3 + p2)))))) * 2) (by omega) (by omega)
          have hq221 : FP.dadd (own_D (own_rn ((own_rn (p3 + p2)) + p1))) (own_D (own_rn ((own_rn (p1 - (own_rn ((own_rn ((own_rn (p3 + p2)) + p1)) - (own_rn (p3 + p2)))))) * 2))) = own_D (own_rn ((own_rn ((own_rn (p3 + p2)) + p1)) + (own_rn ((own_rn (p1 - (own_rn ((own_rn ((own_rn (p3 + p2)) + p1)) - (own_rn (p3 + p2)))))) * 2)))) := own_Dadd (own_rrn _) (own_rrn _) (by omega) (by omega) (by omega) (by omega) (by omega) (by omega)
          have hq221E := own_errSm (n := (own_rn ((own_rn (p3 + p2)) + p1)) + (own_rn ((own_rn (p1 - (own_rn ((own_rn ((own_rn (p3 + p2)) + p1)) - (own_rn (p3 + p2)))))) * 2))) (by omega) (by omega)
          have hq226 : FP.dsub (own_D (own_rn ((own_rn ((own_rn (p3 + p2)) + p1)) + (own_rn ((own_rn (p1 - (own_rn ((own_rn ((own_rn (p3 + p2)) + p1)) - (own_rn (p3 + p2)))))) * 2))))) (own_D (own_rn ((own_rn (p3 + p2)) + p1))) = own_D (own_rn ((own_rn ((own_rn ((own_rn (p3 + p2)) + p1)) + (own_rn ((own_rn (p1 - (own_rn ((own_rn ((own_rn (p3 + p2)) + p1)) - (own_rn (p3 + p2)))))) * 2)))) - (own_rn ((own_rn (p3 + p2)) + p1)))) := own_Dsub (own_rrn _) (own_rrn _) (by omega) (by omega) (by omega) (by omega) (by omega) (by omega)
          have hq226E := own_errSm (n := (own_rn ((own_rn ((own_rn (p3 + p2)) + p1)) + (own_rn ((own_rn (p1 - (own_rn ((own_rn ((own_rn (p3 + p2)) + p1)) - (own_rn (p3 + p2)))))) * 2)))) - (own_rn ((own_rn (p3 + p2)) + p1))) (by omega) (by omega)
          have pre230 : ∀ t, Steps p.tables e below (T195.setTop (mkF m 130 #[vR (a_o), vI (1), vD ((own_D (own_rn ((own_rn (p3 + p2)) + p1)))), s_, vD ((own_D (own_rn (p1 - (own_rn ((own_rn ((own_rn (p3 + p2)) + p1)) - (own_rn (p3 + p2)))))))), s_, vD ((own_D (own_rn ((own_rn (p1 - (own_rn ((own_rn ((own_rn (p3 + p2)) + p1)) - (own_rn (p3 + p2)))))) * 2)))), s_, vD ((own_D (own_rn ((own_rn ((own_rn (p3 + p2)) + p1)) + (own_rn ((own_rn (p1 - (own_rn ((own_rn ((own_rn (p3 + p2)) + p1)) - (own_rn (p3 + p2)))))) * 2)))))), s_] [(.int (own_cmp (own_rn ((own_rn ((own_rn ((own_rn (p3 + p2)) + p1)) + (own_rn ((own_rn (p1 - (own_rn ((own_rn ((own_rn (p3 + p2)) + p1)) - (own_rn (p3 + p2)))))) * 2)))) - (own_rn ((own_rn (p3 + p2)) + p1)))) (own_rn ((own_rn (p1 - (own_rn ((own_rn ((own_rn (p3 + p2)) + p1)) - (own_rn (p3 + p2)))))) * 2))))])) t → Steps p.tables e below (s₁.setTop (entryFrame m #[(.ref a_o)] 10)) t := by
            intro t kt
            refine pre204 _ ?_
            show SS p e below m T195 98 #[vR (a_o), vI (1), vD ((own_D (own_rn ((own_rn (p3 + p2)) + p1)))), s_, vD ((own_D (own_rn (p1 - (own_rn ((own_rn ((own_rn (p3 + p2)) + p1)) - (own_rn (p3 + p2)))))))), s_, vD ((own_D (own_rn (p3 + p2)))), s_, u_, u_] [(.int (own_cmp p0 0)), (.int 0)] _
            refine XS.ifYes X195.here hx rfl (pc0 := 98) (pc' := 105) rfl (hb hby d4_98) rfl ((if0 _ _).trans (flt (fun q => hc98_205 (own_cmLt.mp q))).2.1) (by decide) (by decide) ?_
            refine XS.iconst X195.here hx rfl (hb hby d4_105) ?_ --lit 0
            refine XS.icmpNo X195.here hx rfl (hb hby d4_106) rfl (teq ((by decide) : (0 : Int32) = (0 : Int32))).2 ?_
            show SS p e below m T195 109 #[vR (a_o), vI (1), vD ((own_D (own_rn ((own_rn (p3 + p2)) + p1)))), s_, vD ((own_D (own_rn (p1 - (own_rn ((own_rn ((own_rn (p3 + p2)) + p1)) - (own_rn (p3 + p2)))))))), s_, vD ((own_D (own_rn (p3 + p2)))), s_, u_, u_] [] _
            refine XS.dload X195.here hx rfl (hb hby d4_109) rfl ?_
            show SS p e below m T195 111 #[vR (a_o), vI (1), vD ((own_D (own_rn ((own_rn (p3 + p2)) + p1)))), s_, vD ((own_D (own_rn (p1 - (own_rn ((own_rn ((own_rn (p3 + p2)) + p1)) - (own_rn (p3 + p2)))))))), s_, vD ((own_D (own_rn (p3 + p2)))), s_, u_, u_] [(.double (own_D (own_rn (p1 - (own_rn ((own_rn ((own_rn (p3 + p2)) + p1)) - (own_rn (p3 + p2))))))))] _
            refine X195.ldc2DoubleC hx hown (mvT hZ (hw _ (gm 27 rfl))) (g := (mkF m 111 #[vR (a_o), vI (1), vD ((own_D (own_rn ((own_rn (p3 + p2)) + p1)))), s_, vD ((own_D (own_rn (p1 - (own_rn ((own_rn ((own_rn (p3 + p2)) + p1)) - (own_rn (p3 + p2)))))))), s_, vD ((own_D (own_rn (p3 + p2)))), s_, u_, u_] [(.double (own_D (own_rn (p1 - (own_rn ((own_rn ((own_rn (p3 + p2)) + p1)) - (own_rn (p3 + p2))))))))])) rfl (hb hby d4_111) _ ?_
            show SS p e below m T195 114 #[vR (a_o), vI (1), vD ((own_D (own_rn ((own_rn (p3 + p2)) + p1)))), s_, vD ((own_D (own_rn (p1 - (own_rn ((own_rn ((own_rn (p3 + p2)) + p1)) - (own_rn (p3 + p2)))))))), s_, vD ((own_D (own_rn (p3 + p2)))), s_, u_, u_] [(.double (4611686018427387904 : UInt64)), (.double (own_D (own_rn (p1 - (own_rn ((own_rn ((own_rn (p3 + p2)) + p1)) - (own_rn (p3 + p2))))))))] _
            rw [own_c2]
            show SS p e below m T195 114 #[vR (a_o), vI (1), vD ((own_D (own_rn ((own_rn (p3 + p2)) + p1)))), s_, vD ((own_D (own_rn (p1 - (own_rn ((own_rn ((own_rn (p3 + p2)) + p1)) - (own_rn (p3 + p2)))))))), s_, vD ((own_D (own_rn (p3 + p2)))), s_, u_, u_] [(.double (own_D 2)), (.double (own_D (own_rn (p1 - (own_rn ((own_rn ((own_rn (p3 + p2)) + p1)) - (own_rn (p3 + p2))))))))] _
            refine XS.dmulS X195.here hx rfl (hb hby d4_114) rfl (nn_w (a := Int64.ofInt (own_rn ((own_rn (p1 - (own_rn ((own_rn ((own_rn (p3 + p2)) + p1)) - (own_rn (p3 + p2)))))) * 2))) hq216) hq216 ?_
            show SS p e below m T195 115 #[vR (a_o), vI (1), vD ((own_D (own_rn ((own_rn (p3 + p2)) + p1)))), s_, vD ((own_D (own_rn (p1 - (own_rn ((own_rn ((own_rn (p3 + p2)) + p1)) - (own_rn (p3 + p2)))))))), s_, vD ((own_D (own_rn (p3 + p2)))), s_, u_, u_] [(.double (own_D (own_rn ((own_rn (p1 - (own_rn ((own_rn ((own_rn (p3 + p2)) + p1)) - (own_rn (p3 + p2)))))) * 2))))] _
            refine XS.dstore X195.here hx rfl (hb hby d4_115) rfl (l' := #[vR (a_o), vI (1), vD ((own_D (own_rn ((own_rn (p3 + p2)) + p1)))), s_, vD ((own_D (own_rn (p1 - (own_rn ((own_rn ((own_rn (p3 + p2)) + p1)) - (own_rn (p3 + p2)))))))), s_, vD ((own_D (own_rn ((own_rn (p1 - (own_rn ((own_rn ((own_rn (p3 + p2)) + p1)) - (own_rn (p3 + p2)))))) * 2)))), s_, u_, u_]) rfl ?_
            refine XS.dloadN X195.here hx rfl (hb hby d4_117) rfl ?_
            refine XS.dload X195.here hx rfl (hb hby d4_118) rfl ?_
            show SS p e below m T195 120 #[vR (a_o), vI (1), vD ((own_D (own_rn ((own_rn (p3 + p2)) + p1)))), s_, vD ((own_D (own_rn (p1 - (own_rn ((own_rn ((own_rn (p3 + p2)) + p1)) - (own_rn (p3 + p2)))))))), s_, vD ((own_D (own_rn ((own_rn (p1 - (own_rn ((own_rn ((own_rn (p3 + p2)) + p1)) - (own_rn (p3 + p2)))))) * 2)))), s_, u_, u_] [(.double (own_D (own_rn ((own_rn (p1 - (own_rn ((own_rn ((own_rn (p3 + p2)) + p1)) - (own_rn (p3 + p2)))))) * 2)))), (.double (own_D (own_rn ((own_rn (p3 + p2)) + p1))))] _
            refine XS.daddS X195.here hx rfl (hb hby d4_120) rfl (nn_w (a := Int64.ofInt (own_rn ((own_rn ((own_rn (p3 + p2)) + p1)) + (own_rn ((own_rn (p1 - (own_rn ((own_rn ((own_rn (p3 + p2)) + p1)) - (own_rn (p3 + p2)))))) * 2))))) hq221) hq221 ?_
            show SS p e below m T195 121 #[vR (a_o), vI (1), vD ((own_D (own_rn ((own_rn (p3 + p2)) + p1)))), s_, vD ((own_D (own_rn (p1 - (own_rn ((own_rn ((own_rn (p3 + p2)) + p1)) - (own_rn (p3 + p2)))))))), s_, vD ((own_D (own_rn ((own_rn (p1 - (own_rn ((own_rn ((own_rn (p3 + p2)) + p1)) - (own_rn (p3 + p2)))))) * 2)))), s_, u_, u_] [(.double (own_D (own_rn ((own_rn ((own_rn (p3 + p2)) + p1)) + (own_rn ((own_rn (p1 - (own_rn ((own_rn ((own_rn (p3 + p2)) + p1)) - (own_rn (p3 + p2)))))) * 2))))))] _
            refine XS.dstore X195.here hx rfl (hb hby d4_121) rfl (l' := #[vR (a_o), vI (1), vD ((own_D (own_rn ((own_rn (p3 + p2)) + p1)))), s_, vD ((own_D (own_rn (p1 - (own_rn ((own_rn ((own_rn (p3 + p2)) + p1)) - (own_rn (p3 + p2)))))))), s_, vD ((own_D (own_rn ((own_rn (p1 - (own_rn ((own_rn ((own_rn (p3 + p2)) + p1)) - (own_rn (p3 + p2)))))) * 2)))), s_, vD ((own_D (own_rn ((own_rn ((own_rn (p3 + p2)) + p1)) + (own_rn ((own_rn (p1 - (own_rn ((own_rn ((own_rn (p3 + p2)) + p1)) - (own_rn (p3 + p2)))))) * 2)))))), s_]) rfl ?_
            refine XS.dload X195.here hx rfl (hb hby d4_123) rfl ?_
            refine XS.dloadN X195.here hx rfl (hb hby d4_125) rfl ?_
            show SS p e below m T195 126 #[vR (a_o), vI (1), vD ((own_D (own_rn ((own_rn (p3 + p2)) + p1)))), s_, vD ((own_D (own_rn (p1 - (own_rn ((own_rn ((own_rn (p3 + p2)) + p1)) - (own_rn (p3 + p2)))))))), s_, vD ((own_D (own_rn ((own_rn (p1 - (own_rn ((own_rn ((own_rn (p3 + p2)) + p1)) - (own_rn (p3 + p2)))))) * 2)))), s_, vD ((own_D (own_rn ((own_rn ((own_rn (p3 + p2)) + p1)) + (own_rn ((own_rn (p1 - (own_rn ((own_rn ((own_rn (p3 + p2)) + p1)) - (own_rn (p3 + p2)))))) * 2)))))), s_] [(.double (own_D (own_rn ((own_rn (p3 + p2)) + p1)))), (.double (own_D (own_rn ((own_rn ((own_rn (p3 + p2)) + p1)) + (own_rn ((own_rn (p1 - (own_rn ((own_rn ((own_rn (p3 + p2)) + p1)) - (own_rn (p3 + p2)))))) * 2))))))] _
            refine XS.dsubS X195.here hx rfl (hb hby d4_126) rfl (nn_w (a := Int64.ofInt (own_rn ((own_rn ((own_rn ((own_rn (p3 + p2)) + p1)) + (own_rn ((own_rn (p1 - (own_rn ((own_rn ((own_rn (p3 + p2)) + p1)) - (own_rn (p3 + p2)))))) * 2)))) - (own_rn ((own_rn (p3 + p2)) + p1))))) hq226) hq226 ?_
            show SS p e below m T195 127 #[vR (a_o), vI (1), vD ((own_D (own_rn ((own_rn (p3 + p2)) + p1)))), s_, vD ((own_D (own_rn (p1 - (own_rn ((own_rn ((own_rn (p3 + p2)) + p1)) - (own_rn (p3 + p2)))))))), s_, vD ((own_D (own_rn ((own_rn (p1 - (own_rn ((own_rn ((own_rn (p3 + p2)) + p1)) - (own_rn (p3 + p2)))))) * 2)))), s_, vD ((own_D (own_rn ((own_rn ((own_rn (p3 + p2)) + p1)) + (own_rn ((own_rn (p1 - (own_rn ((own_rn ((own_rn (p3 + p2)) + p1)) - (own_rn (p3 + p2)))))) * 2)))))), s_] [(.double (own_D (own_rn ((own_rn ((own_rn ((own_rn (p3 + p2)) + p1)) + (own_rn ((own_rn (p1 - (own_rn ((own_rn ((own_rn (p3 + p2)) + p1)) - (own_rn (p3 + p2)))))) * 2)))) - (own_rn ((own_rn (p3 + p2)) + p1))))))] _
            refine XS.dload X195.here hx rfl (hb hby d4_127) rfl ?_
            show SS p e below m T195 129 #[vR (a_o), vI (1), vD ((own_D (own_rn ((own_rn (p3 + p2)) + p1)))), s_, vD ((own_D (own_rn (p1 - (own_rn ((own_rn ((own_rn (p3 + p2)) + p1)) - (own_rn (p3 + p2)))))))), s_, vD ((own_D (own_rn ((own_rn (p1 - (own_rn ((own_rn ((own_rn (p3 + p2)) + p1)) - (own_rn (p3 + p2)))))) * 2)))), s_, vD ((own_D (own_rn ((own_rn ((own_rn (p3 + p2)) + p1)) + (own_rn ((own_rn (p1 - (own_rn ((own_rn ((own_rn (p3 + p2)) + p1)) - (own_rn (p3 + p2)))))) * 2)))))), s_] [(.double (own_D (own_rn ((own_rn (p1 - (own_rn ((own_rn ((own_rn (p3 + p2)) + p1)) - (own_rn (p3 + p2)))))) * 2)))), (.double (own_D (own_rn ((own_rn ((own_rn ((own_rn (p3 + p2)) + p1)) + (own_rn ((own_rn (p1 - (own_rn ((own_rn ((own_rn (p3 + p2)) + p1)) - (own_rn (p3 + p2)))))) * 2)))) - (own_rn ((own_rn (p3 + p2)) + p1))))))] _
            refine XS.dcmpS X195.here hx rfl (hb hby d4_129) rfl (own_DcmpV (own_rrn _) (own_rrn _) (by omega) (by omega) (by omega) (by omega) _) ?_
            exact kt
          by_cases hc130_231 : (own_rn ((own_rn ((own_rn ((own_rn (p3 + p2)) + p1)) + (own_rn ((own_rn (p1 - (own_rn ((own_rn ((own_rn (p3 + p2)) + p1)) - (own_rn (p3 + p2)))))) * 2)))) - (own_rn ((own_rn (p3 + p2)) + p1)))) = (own_rn ((own_rn (p1 - (own_rn ((own_rn ((own_rn (p3 + p2)) + p1)) - (own_rn (p3 + p2)))))) * 2))
          · obtain ⟨fs, hr, hrun, hended, hW, hsame⟩ := X195.leave (v := some (.double (own_D (own_rn ((own_rn ((own_rn (p3 + p2)) + p1)) + (own_rn ((own_rn (p1 - (own_rn ((own_rn ((own_rn (p3 + p2)) + p1)) - (own_rn (p3 + p2)))))) * 2))))))) (fun h => by rw [Bd.returns] at h; cases h) (hlocks := BodyLoose.notSynchronized Bd)
            refine ⟨_, _, pre230 _ ?_, hrun, hended, _, _, rfl, ?_, ⟨_, rfl⟩, hW, hsame.mono (by decide) (by decide)⟩
            · show SS p e below m T195 130 #[vR (a_o), vI (1), vD ((own_D (own_rn ((own_rn (p3 + p2)) + p1)))), s_, vD ((own_D (own_rn (p1 - (own_rn ((own_rn ((own_rn (p3 + p2)) + p1)) - (own_rn (p3 + p2)))))))), s_, vD ((own_D (own_rn ((own_rn (p1 - (own_rn ((own_rn ((own_rn (p3 + p2)) + p1)) - (own_rn (p3 + p2)))))) * 2)))), s_, vD ((own_D (own_rn ((own_rn ((own_rn (p3 + p2)) + p1)) + (own_rn ((own_rn (p1 - (own_rn ((own_rn ((own_rn (p3 + p2)) + p1)) - (own_rn (p3 + p2)))))) * 2)))))), s_] [(.int (own_cmp (own_rn ((own_rn ((own_rn ((own_rn (p3 + p2)) + p1)) + (own_rn ((own_rn (p1 - (own_rn ((own_rn ((own_rn (p3 + p2)) + p1)) - (own_rn (p3 + p2)))))) * 2)))) - (own_rn ((own_rn (p3 + p2)) + p1)))) (own_rn ((own_rn (p1 - (own_rn ((own_rn ((own_rn (p3 + p2)) + p1)) - (own_rn (p3 + p2)))))) * 2))))] _
              refine XS.ifNo X195.here hx rfl (hb hby d4_130) rfl ((if0 _ _).trans (teq (own_cmEq.mpr hc130_231)).2) ?_
              refine XS.dload X195.here hx rfl (hb hby d4_133) rfl ?_
              refine XS.dstoreN X195.here hx rfl (hb hby d4_135) rfl (l' := #[vR (a_o), vI (1), vD ((own_D (own_rn ((own_rn ((own_rn (p3 + p2)) + p1)) + (own_rn ((own_rn (p1 - (own_rn ((own_rn ((own_rn (p3 + p2)) + p1)) - (own_rn (p3 + p2)))))) * 2)))))), s_, vD ((own_D (own_rn (p1 - (own_rn ((own_rn ((own_rn (p3 + p2)) + p1)) - (own_rn (p3 + p2)))))))), s_, vD ((own_D (own_rn ((own_rn (p1 - (own_rn ((own_rn ((own_rn (p3 + p2)) + p1)) - (own_rn (p3 + p2)))))) * 2)))), s_, vD ((own_D (own_rn ((own_rn ((own_rn (p3 + p2)) + p1)) + (own_rn ((own_rn (p1 - (own_rn ((own_rn ((own_rn (p3 + p2)) + p1)) - (own_rn (p3 + p2)))))) * 2)))))), s_]) rfl ?_
              show SS p e below m T195 136 #[vR (a_o), vI (1), vD ((own_D (own_rn ((own_rn ((own_rn (p3 + p2)) + p1)) + (own_rn ((own_rn (p1 - (own_rn ((own_rn ((own_rn (p3 + p2)) + p1)) - (own_rn (p3 + p2)))))) * 2)))))), s_, vD ((own_D (own_rn (p1 - (own_rn ((own_rn ((own_rn (p3 + p2)) + p1)) - (own_rn (p3 + p2)))))))), s_, vD ((own_D (own_rn ((own_rn (p1 - (own_rn ((own_rn ((own_rn (p3 + p2)) + p1)) - (own_rn (p3 + p2)))))) * 2)))), s_, vD ((own_D (own_rn ((own_rn ((own_rn (p3 + p2)) + p1)) + (own_rn ((own_rn (p1 - (own_rn ((own_rn ((own_rn (p3 + p2)) + p1)) - (own_rn (p3 + p2)))))) * 2)))))), s_] [] _
              refine XS.dloadN X195.here hx rfl (hb hby d4_136) rfl ?_
              show SS p e below m T195 137 #[vR (a_o), vI (1), vD ((own_D (own_rn ((own_rn ((own_rn (p3 + p2)) + p1)) + (own_rn ((own_rn (p1 - (own_rn ((own_rn ((own_rn (p3 + p2)) + p1)) - (own_rn (p3 + p2)))))) * 2)))))), s_, vD ((own_D (own_rn (p1 - (own_rn ((own_rn ((own_rn (p3 + p2)) + p1)) - (own_rn (p3 + p2)))))))), s_, vD ((own_D (own_rn ((own_rn (p1 - (own_rn ((own_rn ((own_rn (p3 + p2)) + p1)) - (own_rn (p3 + p2)))))) * 2)))), s_, vD ((own_D (own_rn ((own_rn ((own_rn (p3 + p2)) + p1)) + (own_rn ((own_rn (p1 - (own_rn ((own_rn ((own_rn (p3 + p2)) + p1)) - (own_rn (p3 + p2)))))) * 2)))))), s_] [(.double (own_D (own_rn ((own_rn ((own_rn (p3 + p2)) + p1)) + (own_rn ((own_rn (p1 - (own_rn ((own_rn ((own_rn (p3 + p2)) + p1)) - (own_rn (p3 + p2)))))) * 2))))))] _
              jvm_step X195.here [X195.here.top, hx, (hb hby d4_137), X195.method', Bd.returns, narrow]
              first | (intro acts; rw [hr _ acts rfl rfl rfl]) | rw [hr _ _ rfl rfl rfl]
              exact Steps.refl _
            · show Qown_vl4 Z a_o pa k_p p0 p1 p2 p3 h0 n0 _ T195.heap _
              rw [e195]
              have hv : (own_vl4_f p0 p1 p2 p3) = (own_rn ((own_rn ((own_rn (p3 + p2)) + p1)) + (own_rn ((own_rn (p1 - (own_rn ((own_rn ((own_rn (p3 + p2)) + p1)) - (own_rn (p3 + p2)))))) * 2)))) := by unfold own_vl4_f; rw [if_pos hc63_53, if_neg hc63_88, if_neg hc80_144, if_neg hc98_205, if_pos hc130_231]
              exact ⟨(by rw [hv]), N0, rfl⟩
          · obtain ⟨fs, hr, hrun, hended, hW, hsame⟩ := X195.leave (v := some (.double (own_D (own_rn ((own_rn (p3 + p2)) + p1))))) (fun h => by rw [Bd.returns] at h; cases h) (hlocks := BodyLoose.notSynchronized Bd)
            refine ⟨_, _, pre230 _ ?_, hrun, hended, _, _, rfl, ?_, ⟨_, rfl⟩, hW, hsame.mono (by decide) (by decide)⟩
            · show SS p e below m T195 130 #[vR (a_o), vI (1), vD ((own_D (own_rn ((own_rn (p3 + p2)) + p1)))), s_, vD ((own_D (own_rn (p1 - (own_rn ((own_rn ((own_rn (p3 + p2)) + p1)) - (own_rn (p3 + p2)))))))), s_, vD ((own_D (own_rn ((own_rn (p1 - (own_rn ((own_rn ((own_rn (p3 + p2)) + p1)) - (own_rn (p3 + p2)))))) * 2)))), s_, vD ((own_D (own_rn ((own_rn ((own_rn (p3 + p2)) + p1)) + (own_rn ((own_rn (p1 - (own_rn ((own_rn ((own_rn (p3 + p2)) + p1)) - (own_rn (p3 + p2)))))) * 2)))))), s_] [(.int (own_cmp (own_rn ((own_rn ((own_rn ((own_rn (p3 + p2)) + p1)) + (own_rn ((own_rn (p1 - (own_rn ((own_rn ((own_rn (p3 + p2)) + p1)) - (own_rn (p3 + p2)))))) * 2)))) - (own_rn ((own_rn (p3 + p2)) + p1)))) (own_rn ((own_rn (p1 - (own_rn ((own_rn ((own_rn (p3 + p2)) + p1)) - (own_rn (p3 + p2)))))) * 2))))] _
              refine XS.ifYes X195.here hx rfl (pc0 := 130) (pc' := 136) rfl (hb hby d4_130) rfl ((if0 _ _).trans (feq (fun q => hc130_231 (own_cmEq.mp q))).2) (by decide) (by decide) ?_
              refine XS.dloadN X195.here hx rfl (hb hby d4_136) rfl ?_
              show SS p e below m T195 137 #[vR (a_o), vI (1), vD ((own_D (own_rn ((own_rn (p3 + p2)) + p1)))), s_, vD ((own_D (own_rn (p1 - (own_rn ((own_rn ((own_rn (p3 + p2)) + p1)) - (own_rn (p3 + p2)))))))), s_, vD ((own_D (own_rn ((own_rn (p1 - (own_rn ((own_rn ((own_rn (p3 + p2)) + p1)) - (own_rn (p3 + p2)))))) * 2)))), s_, vD ((own_D (own_rn ((own_rn ((own_rn (p3 + p2)) + p1)) + (own_rn ((own_rn (p1 - (own_rn ((own_rn ((own_rn (p3 + p2)) + p1)) - (own_rn (p3 + p2)))))) * 2)))))), s_] [(.double (own_D (own_rn ((own_rn (p3 + p2)) + p1))))] _
              jvm_step X195.here [X195.here.top, hx, (hb hby d4_137), X195.method', Bd.returns, narrow]
              first | (intro acts; rw [hr _ acts rfl rfl rfl]) | rw [hr _ _ rfl rfl rfl]
              exact Steps.refl _
            · show Qown_vl4 Z a_o pa k_p p0 p1 p2 p3 h0 n0 _ T195.heap _
              rw [e195]
              have hv : (own_vl4_f p0 p1 p2 p3) = (own_rn ((own_rn (p3 + p2)) + p1)) := by unfold own_vl4_f; rw [if_pos hc63_53, if_neg hc63_88, if_neg hc80_144, if_neg hc98_205, if_neg hc130_231]
              exact ⟨(by rw [hv]), N0, rfl⟩
  · have pre245 : ∀ t, Steps p.tables e below (T37.setTop (mkF m 80 #[vR (a_o), vI (2), vD ((own_D (own_rn (p3 + p2)))), s_, vD ((own_D (own_rn (p2 - (own_rn ((own_rn (p3 + p2)) - p3)))))), s_, vD ((own_D p3)), s_, u_, u_] [(.int (own_cmp (own_rn (p2 - (own_rn ((own_rn (p3 + p2)) - p3)))) 0))])) t → Steps p.tables e below (s₁.setTop (entryFrame m #[(.ref a_o)] 10)) t := by
      intro t kt
      refine pre52 _ ?_
      show SS p e below m T37 63 #[vR (a_o), vI (2), vD ((own_D (own_rn (p3 + p2)))), s_, vD ((own_D (own_rn (p2 - (own_rn ((own_rn (p3 + p2)) - p3)))))), s_, vD ((own_D p3)), s_, u_, u_] [(.int (own_cmp (own_rn (p2 - (own_rn ((own_rn (p3 + p2)) - p3)))) 0))] _
      refine XS.ifNo X37.here hx rfl (hb hby d4_63) rfl ((if0 _ _).trans (feq (fun q => hc63_53 (own_cmEq.mp q))).1) ?_
      refine XS.goto X37.here hx rfl (pc0 := 66) (pc' := 72) rfl (hb hby d4_66) (by decide) (by decide) ?_
      refine XS.iloadN X37.here hx rfl (hb hby d4_72) rfl ?_
      show SS p e below m T37 73 #[vR (a_o), vI (2), vD ((own_D (own_rn (p3 + p2)))), s_, vD ((own_D (own_rn (p2 - (own_rn ((own_rn (p3 + p2)) - p3)))))), s_, vD ((own_D p3)), s_, u_, u_] [(.int 2)] _
      refine XS.ifNo X37.here hx rfl (hb hby d4_73) rfl ((if0 _ _).trans (tlt ((by decide) : (0 : Int32) < (2 : Int32))).2.2.2) ?_
      refine XS.dload X37.here hx rfl (hb hby d4_76) rfl ?_
      refine XS.dconst0 X37.here hx rfl (hb hby d4_78) own_c0 ?_
      show SS p e below m T37 79 #[vR (a_o), vI (2), vD ((own_D (own_rn (p3 + p2)))), s_, vD ((own_D (own_rn (p2 - (own_rn ((own_rn (p3 + p2)) - p3)))))), s_, vD ((own_D p3)), s_, u_, u_] [(.double (own_D 0)), (.double (own_D (own_rn (p2 - (own_rn ((own_rn (p3 + p2)) - p3))))))] _
      refine XS.dcmpS X37.here hx rfl (hb hby d4_79) rfl (own_DcmpV (own_rrn _) own_rep0 (by omega) (by omega) (by omega) (by omega) _) ?_
      exact kt
    by_cases hc80_246 : (own_rn (p2 - (own_rn ((own_rn (p3 + p2)) - p3)))) < 0
    · obtain ⟨T251, X251, e251, st251⟩ := getF X37 hx hZ hown (host := "") (Or.inl (hw _ (gm 10 rfl))) Via.refl e37 hfp (g := (mkF m 89 #[vR (a_o), vI (2), vD ((own_D (own_rn (p3 + p2)))), s_, vD ((own_D (own_rn (p2 - (own_rn ((own_rn (p3 + p2)) - p3)))))), s_, vD ((own_D p3)), s_, u_, u_] [(.ref a_o), (.int 1)])) rfl rfl (hb hby d4_89)
      obtain ⟨cl256, Ar256, q256, S256, M256, H256, G256⟩ := id hA
      have hin256 : ¬ ((1 : Int32) < 0 ∨ cl256.slots.size ≤ ((1 : Int32)).toNatClampNeg) := inb_of S256 ⟨by decide, by decide⟩
      have hat256 : cl256.slots[((1 : Int32)).toNatClampNeg]? = some (.double (own_D p1)) := H256.at hin256 rfl
      have pre260 : ∀ t, Steps p.tables e below (T251.setTop (mkF m 98 #[vR (a_o), vI (2), vD ((own_D (own_rn (p3 + p2)))), s_, vD ((own_D (own_rn (p2 - (own_rn ((own_rn (p3 + p2)) - p3)))))), s_, vD ((own_D p3)), s_, u_, u_] [(.int (own_cmp p1 0)), (.int 1)])) t → Steps p.tables e below (s₁.setTop (entryFrame m #[(.ref a_o)] 10)) t := by
        intro t kt
        refine pre245 _ ?_
        show SS p e below m T37 80 #[vR (a_o), vI (2), vD ((own_D (own_rn (p3 + p2)))), s_, vD ((own_D (own_rn (p2 - (own_rn ((own_rn (p3 + p2)) - p3)))))), s_, vD ((own_D p3)), s_, u_, u_] [(.int (own_cmp (own_rn (p2 - (own_rn ((own_rn (p3 + p2)) - p3)))) 0))] _
        refine XS.ifNo X37.here hx rfl (hb hby d4_80) rfl ((if0 _ _).trans (tlt (own_cmLt.mpr hc80_246)).2.1) ?_
        refine XS.iconst X37.here hx rfl (hb hby d4_83) ?_ --lit 1
        refine XS.goto X37.here hx rfl (pc0 := 84) (pc' := 88) rfl (hb hby d4_84) (by decide) (by decide) ?_
        show SS p e below m T37 88 #[vR (a_o), vI (2), vD ((own_D (own_rn (p3 + p2)))), s_, vD ((own_D (own_rn (p2 - (own_rn ((own_rn (p3 + p2)) - p3)))))), s_, vD ((own_D p3)), s_, u_, u_] [(.int 1)] _
        refine XS.aloadN X37.here hx rfl (hb hby d4_88) rfl rfl ?_
        show SS p e below m T37 89 #[vR (a_o), vI (2), vD ((own_D (own_rn (p3 + p2)))), s_, vD ((own_D (own_rn (p2 - (own_rn ((own_rn (p3 + p2)) - p3)))))), s_, vD ((own_D p3)), s_, u_, u_] [(.ref a_o), (.int 1)] _
        refine st251 _ ?_
        show SS p e below m T251 92 #[vR (a_o), vI (2), vD ((own_D (own_rn (p3 + p2)))), s_, vD ((own_D (own_rn (p2 - (own_rn ((own_rn (p3 + p2)) - p3)))))), s_, vD ((own_D p3)), s_, u_, u_] [(.ref pa), (.int 1)] _
        refine XS.iloadN X251.here hx rfl (hb hby d4_92) rfl ?_
        refine XS.iconst X251.here hx rfl (hb hby d4_93) ?_ --lit 1
        refine XS.isub X251.here hx rfl (hb hby d4_94) rfl ?_
        show SS p e below m T251 95 #[vR (a_o), vI (2), vD ((own_D (own_rn (p3 + p2)))), s_, vD ((own_D (own_rn (p2 - (own_rn ((own_rn (p3 + p2)) - p3)))))), s_, vD ((own_D p3)), s_, u_, u_] [(.int 1), (.ref pa), (.int 1)] _
        refine X251.daload hx (j := (1 : Int32)) (v := (.double (own_D p1))) (by rw [e251]; exact Ar256.1) (State.isArrayOf_alike hZ.alike Ar256.2.1) Ar256.2.2 hin256 hat256 (g := (mkF m 95 #[vR (a_o), vI (2), vD ((own_D (own_rn (p3 + p2)))), s_, vD ((own_D (own_rn (p2 - (own_rn ((own_rn (p3 + p2)) - p3)))))), s_, vD ((own_D p3)), s_, u_, u_] [(.int 1), (.ref pa), (.int 1)])) rfl rfl (hb hby d4_95) _ ?_
        show SS p e below m T251 96 #[vR (a_o), vI (2), vD ((own_D (own_rn (p3 + p2)))), s_, vD ((own_D (own_rn (p2 - (own_rn ((own_rn (p3 + p2)) - p3)))))), s_, vD ((own_D p3)), s_, u_, u_] [(.double (own_D p1)), (.int 1)] _
        refine XS.dconst0 X251.here hx rfl (hb hby d4_96) own_c0 ?_
        show SS p e below m T251 97 #[vR (a_o), vI (2), vD ((own_D (own_rn (p3 + p2)))), s_, vD ((own_D (own_rn (p2 - (own_rn ((own_rn (p3 + p2)) - p3)))))), s_, vD ((own_D p3)), s_, u_, u_] [(.double (own_D 0)), (.double (own_D p1)), (.int 1)] _
        refine XS.dcmpS X251.here hx rfl (hb hby d4_97) rfl (own_DcmpV hr1 own_rep0 (by omega) (by omega) (by omega) (by omega) _) ?_
        exact kt
      by_cases hc98_261 : p1 < 0
      · have hq268 : FP.dmul (own_D (own_rn (p2 - (own_rn ((own_rn (p3 + p2)) - p3))))) (own_D 2) = own_D (own_rn ((own_rn (p2 - (own_rn ((own_rn (p3 + p2)) - p3)))) * 2)) := own_Dmul2 hc63_53 (by omega) (by omega)
        have hq268E := own_errSm (n := (own_rn (p2 - (own_rn ((own_rn (p3 + p2)) - p3)))) * 2) (by omega) (by omega)
        have hq273 : FP.dadd (own_D (own_rn (p3 + p2))) (own_D (own_rn ((own_rn (p2 - (own_rn ((own_rn (p3 + p2)) - p3)))) * 2))) = own_D (own_rn ((own_rn (p3 + p2)) + (own_rn ((own_rn (p2 - (own_rn ((own_rn (p3 + p2)) - p3)))) * 2)))) := own_Dadd (own_rrn _) (own_rrn _) (by omega) (by omega) (by omega) (by omega) (by omega) (by omega)
        have hq273E := own_errSm (n := (own_rn (p3 + p2)) + (own_rn ((own_rn (p2 - (own_rn ((own_rn (p3 + p2)) - p3)))) * 2))) (by omega) (by omega)
        have hq278 : FP.dsub (own_D (own_rn ((own_rn (p3 + p2)) + (own_rn ((own_rn (p2 - (own_rn ((own_rn (p3 + p2)) - p3)))) * 2))))) (own_D (own_rn (p3 + p2))) = own_D (own_rn ((own_rn ((own_rn (p3 + p2)) + (own_rn ((own_rn (p2 - (own_rn ((own_rn (p3 + p2)) - p3)))) * 2)))) - (own_rn (p3 + p2)))) := own_Dsub (own_rrn _) (own_rrn _) (by omega) (by omega) (by omega) (by omega) (by omega) (by omega)
        have hq278E := own_errSm (n := (own_rn ((own_rn (p3 + p2)) + (own_rn ((own_rn (p2 - (own_rn ((own_rn (p3 + p2)) - p3)))) * 2)))) - (own_rn (p3 + p2))) (by omega) (by omega)
        have pre282 : ∀ t, Steps p.tables e below (T251.setTop (mkF m 130 #[vR (a_o), vI (2), vD ((own_D (own_rn (p3 + p2)))), s_, vD ((own_D (own_rn (p2 - (own_rn ((own_rn (p3 + p2)) - p3)))))), s_, vD ((own_D (own_rn ((own_rn (p2 - (own_rn ((own_rn (p3 + p2)) - p3)))) * 2)))), s_, vD ((own_D (own_rn ((own_rn (p3 + p2)) + (own_rn ((own_rn (p2 - (own_rn ((own_rn (p3 + p2)) - p3)))) * 2)))))), s_] [(.int (own_cmp (own_rn ((own_rn ((own_rn (p3 + p2)) + (own_rn ((own_rn (p2 - (own_rn ((own_rn (p3 + p2)) - p3)))) * 2)))) - (own_rn (p3 + p2)))) (own_rn ((own_rn (p2 - (own_rn ((own_rn (p3 + p2)) - p3)))) * 2))))])) t → Steps p.tables e below (s₁.setTop (entryFrame m #[(.ref a_o)] 10)) t := by
          intro t kt
          refine pre260 _ ?_
          show SS p e below m T251 98 #[vR (a_o), vI (2), vD ((own_D (own_rn (p3 + p2)))), s_, vD ((own_D (own_rn (p2 - (own_rn ((own_rn (p3 + p2)) - p3)))))), s_, vD ((own_D p3)), s_, u_, u_] [(.int (own_cmp p1 0)), (.int 1)] _
          refine XS.ifNo X251.here hx rfl (hb hby d4_98) rfl ((if0 _ _).trans (tlt (own_cmLt.mpr hc98_261)).2.1) ?_
          refine XS.iconst X251.here hx rfl (hb hby d4_101) ?_ --lit 1
          refine XS.goto X251.here hx rfl (pc0 := 102) (pc' := 106) rfl (hb hby d4_102) (by decide) (by decide) ?_
          show SS p e below m T251 106 #[vR (a_o), vI (2), vD ((own_D (own_rn (p3 + p2)))), s_, vD ((own_D (own_rn (p2 - (own_rn ((own_rn (p3 + p2)) - p3)))))), s_, vD ((own_D p3)), s_, u_, u_] [(.int 1), (.int 1)] _
          refine XS.icmpNo X251.here hx rfl (hb hby d4_106) rfl (teq ((by decide) : (1 : Int32) = (1 : Int32))).2 ?_
          refine XS.dload X251.here hx rfl (hb hby d4_109) rfl ?_
          show SS p e below m T251 111 #[vR (a_o), vI (2), vD ((own_D (own_rn (p3 + p2)))), s_, vD ((own_D (own_rn (p2 - (own_rn ((own_rn (p3 + p2)) - p3)))))), s_, vD ((own_D p3)), s_, u_, u_] [(.double (own_D (own_rn (p2 - (own_rn ((own_rn (p3 + p2)) - p3))))))] _
          refine X251.ldc2DoubleC hx hown (mvT hZ (hw _ (gm 27 rfl))) (g := (mkF m 111 #[vR (a_o), vI (2), vD ((own_D (own_rn (p3 + p2)))), s_, vD ((own_D (own_rn (p2 - (own_rn ((own_rn (p3 + p2)) - p3)))))), s_, vD ((own_D p3)), s_, u_, u_] [(.double (own_D (own_rn (p2 - (own_rn ((own_rn (p3 + p2)) - p3))))))])) rfl (hb hby d4_111) _ ?_
          show SS p e below m T251 114 #[vR (a_o), vI (2), vD ((own_D (own_rn (p3 + p2)))), s_, vD ((own_D (own_rn (p2 - (own_rn ((own_rn (p3 + p2)) - p3)))))), s_, vD ((own_D p3)), s_, u_, u_] [(.double (4611686018427387904 : UInt64)), (.double (own_D (own_rn (p2 - (own_rn ((own_rn (p3 + p2)) - p3))))))] _
          rw [own_c2]
          show SS p e below m T251 114 #[vR (a_o), vI (2), vD ((own_D (own_rn (p3 + p2)))), s_, vD ((own_D (own_rn (p2 - (own_rn ((own_rn (p3 + p2)) - p3)))))), s_, vD ((own_D p3)), s_, u_, u_] [(.double (own_D 2)), (.double (own_D (own_rn (p2 - (own_rn ((own_rn (p3 + p2)) - p3))))))] _
          refine XS.dmulS X251.here hx rfl (hb hby d4_114) rfl (nn_w (a := Int64.ofInt (own_rn ((own_rn (p2 - (own_rn ((own_rn (p3 + p2)) - p3)))) * 2))) hq268) hq268 ?_
          show SS p e below m T251 115 #[vR (a_o), vI (2), vD ((own_D (own_rn (p3 + p2)))), s_, vD ((own_D (own_rn (p2 - (own_rn ((own_rn (p3 + p2)) - p3)))))), s_, vD ((own_D p3)), s_, u_, u_] [(.double (own_D (own_rn ((own_rn (p2 - (own_rn ((own_rn (p3 + p2)) - p3)))) * 2))))] _
          refine XS.dstore X251.here hx rfl (hb hby d4_115) rfl (l' := #[vR (a_o), vI (2), vD ((own_D (own_rn (p3 + p2)))), s_, vD ((own_D (own_rn (p2 - (own_rn ((own_rn (p3 + p2)) - p3)))))), s_, vD ((own_D (own_rn ((own_rn (p2 - (own_rn ((own_rn (p3 + p2)) - p3)))) * 2)))), s_, u_, u_]) rfl ?_
          refine XS.dloadN X251.here hx rfl (hb hby d4_117) rfl ?_
          refine XS.dload X251.here hx rfl (hb hby d4_118) rfl ?_
          show SS p e below m T251 120 #[vR (a_o), vI (2), vD ((own_D (own_rn (p3 + p2)))), s_, vD ((own_D (own_rn (p2 - (own_rn ((own_rn (p3 + p2)) - p3)))))), s_, vD ((own_D (own_rn ((own_rn (p2 - (own_rn ((own_rn (p3 + p2)) - p3)))) * 2)))), s_, u_, u_] [(.double (own_D (own_rn ((own_rn (p2 - (own_rn ((own_rn (p3 + p2)) - p3)))) * 2)))), (.double (own_D (own_rn (p3 + p2))))] _
          refine XS.daddS X251.here hx rfl (hb hby d4_120) rfl (nn_w (a := Int64.ofInt (own_rn ((own_rn (p3 + p2)) + (own_rn ((own_rn (p2 - (own_rn ((own_rn (p3 + p2)) - p3)))) * 2))))) hq273) hq273 ?_
          show SS p e below m T251 121 #[vR (a_o), vI (2), vD ((own_D (own_rn (p3 + p2)))), s_, vD ((own_D (own_rn (p2 - (own_rn ((own_rn (p3 + p2)) - p3)))))), s_, vD ((own_D (own_rn ((own_rn (p2 - (own_rn ((own_rn (p3 + p2)) - p3)))) * 2)))), s_, u_, u_] [(.double (own_D (own_rn ((own_rn (p3 + p2)) + (own_rn ((own_rn (p2 - (own_rn ((own_rn (p3 + p2)) - p3)))) * 2))))))] _
          refine XS.dstore X251.here hx rfl (hb hby d4_121) rfl (l' := #[vR (a_o), vI (2), vD ((own_D (own_rn (p3 + p2)))), s_, vD ((own_D (own_rn (p2 - (own_rn ((own_rn (p3 + p2)) - p3)))))), s_, vD ((own_D (own_rn ((own_rn (p2 - (own_rn ((own_rn (p3 + p2)) - p3)))) * 2)))), s_, vD ((own_D (own_rn ((own_rn (p3 + p2)) + (own_rn ((own_rn (p2 - (own_rn ((own_rn (p3 + p2)) - p3)))) * 2)))))), s_]) rfl ?_
          refine XS.dload X251.here hx rfl (hb hby d4_123) rfl ?_
          refine XS.dloadN X251.here hx rfl (hb hby d4_125) rfl ?_
          show SS p e below m T251 126 #[vR (a_o), vI (2), vD ((own_D (own_rn (p3 + p2)))), s_, vD ((own_D (own_rn (p2 - (own_rn ((own_rn (p3 + p2)) - p3)))))), s_, vD ((own_D (own_rn ((own_rn (p2 - (own_rn ((own_rn (p3 + p2)) - p3)))) * 2)))), s_, vD ((own_D (own_rn ((own_rn (p3 + p2)) + (own_rn ((own_rn (p2 - (own_rn ((own_rn (p3 + p2)) - p3)))) * 2)))))), s_] [(.double (own_D (own_rn (p3 + p2)))), (.double (own_D (own_rn ((own_rn (p3 + p2)) + (own_rn ((own_rn (p2 - (own_rn ((own_rn (p3 + p2)) - p3)))) * 2))))))] _
          refine XS.dsubS X251.here hx rfl (hb hby d4_126) rfl (nn_w (a := Int64.ofInt (own_rn ((own_rn ((own_rn (p3 + p2)) + (own_rn ((own_rn (p2 - (own_rn ((own_rn (p3 + p2)) - p3)))) * 2)))) - (own_rn (p3 + p2))))) hq278) hq278 ?_
          show SS p e below m T251 127 #[vR (a_o), vI (2), vD ((own_D (own_rn (p3 + p2)))), s_, vD ((own_D (own_rn (p2 - (own_rn ((own_rn (p3 + p2)) - p3)))))), s_, vD ((own_D (own_rn ((own_rn (p2 - (own_rn ((own_rn (p3 + p2)) - p3)))) * 2)))), s_, vD ((own_D (own_rn ((own_rn (p3 + p2)) + (own_rn ((own_rn (p2 - (own_rn ((own_rn (p3 + p2)) - p3)))) * 2)))))), s_] [(.double (own_D (own_rn ((own_rn ((own_rn (p3 + p2)) + (own_rn ((own_rn (p2 - (own_rn ((own_rn (p3 + p2)) - p3)))) * 2)))) - (own_rn (p3 + p2))))))] _
          refine XS.dload X251.here hx rfl (hb hby d4_127) rfl ?_
          show SS p e below m T251 129 #[vR (a_o), vI (2), vD ((own_D (own_rn (p3 + p2)))), s_, vD ((own_D (own_rn (p2 - (own_rn ((own_rn (p3 + p2)) - p3)))))), s_, vD ((own_D (own_rn ((own_rn (p2 - (own_rn ((own_rn (p3 + p2)) - p3)))) * 2)))), s_, vD ((own_D (own_rn ((own_rn (p3 + p2)) + (own_rn ((own_rn (p2 - (own_rn ((own_rn (p3 + p2)) - p3)))) * 2)))))), s_] [(.double (own_D (own_rn ((own_rn (p2 - (own_rn ((own_rn (p3 + p2)) - p3)))) * 2)))), (.double (own_D (own_rn ((own_rn ((own_rn (p3 + p2)) + (own_rn ((own_rn (p2 - (own_rn ((own_rn (p3 + p2)) - p3)))) * 2)))) - (own_rn (p3 + p2))))))] _
          refine XS.dcmpS X251.here hx rfl (hb hby d4_129) rfl (own_DcmpV (own_rrn _) (own_rrn _) (by omega) (by omega) (by omega) (by omega) _) ?_
          exact kt
        by_cases hc130_283 : (own_rn ((own_rn ((own_rn (p3 + p2)) + (own_rn ((own_rn (p2 - (own_rn ((own_rn (p3 + p2)) - p3)))) * 2)))) - (own_rn (p3 + p2)))) = (own_rn ((own_rn (p2 - (own_rn ((own_rn (p3 + p2)) - p3)))) * 2))
        · obtain ⟨fs, hr, hrun, hended, hW, hsame⟩ := X251.leave (v := some (.double (own_D (own_rn ((own_rn (p3 + p2)) + (own_rn ((own_rn (p2 - (own_rn ((own_rn (p3 + p2)) - p3)))) * 2))))))) (fun h => by rw [Bd.returns] at h; cases h) (hlocks := BodyLoose.notSynchronized Bd)
          refine ⟨_, _, pre282 _ ?_, hrun, hended, _, _, rfl, ?_, ⟨_, rfl⟩, hW, hsame.mono (by decide) (by decide)⟩
          · show SS p e below m T251 130 #[vR (a_o), vI (2), vD ((own_D (own_rn (p3 + p2)))), s_, vD ((own_D (own_rn (p2 - (own_rn ((own_rn (p3 + p2)) - p3)))))), s_, vD ((own_D (own_rn ((own_rn (p2 - (own_rn ((own_rn (p3 + p2)) - p3)))) * 2)))), s_, vD ((own_D (own_rn ((own_rn (p3 + p2)) + (own_rn ((own_rn (p2 - (own_rn ((own_rn (p3 + p2)) - p3)))) * 2)))))), s_] [(.int (own_cmp (own_rn ((own_rn ((own_rn (p3 + p2)) + (own_rn ((own_rn (p2 - (own_rn ((own_rn (p3 + p2)) - p3)))) * 2)))) - (own_rn (p3 + p2)))) (own_rn ((own_rn (p2 - (own_rn ((own_rn (p3 + p2)) - p3)))) * 2))))] _
            refine XS.ifNo X251.here hx rfl (hb hby d4_130) rfl ((if0 _ _).trans (teq (own_cmEq.mpr hc130_283)).2) ?_
            refine XS.dload X251.here hx rfl (hb hby d4_133) rfl ?_
            refine XS.dstoreN X251.here hx rfl (hb hby d4_135) rfl (l' := #[vR (a_o), vI (2), vD ((own_D (own_rn ((own_rn (p3 + p2)) + (own_rn ((own_rn (p2 - (own_rn ((own_rn (p3 + p2)) - p3)))) * 2)))))), s_, vD ((own_D (own_rn (p2 - (own_rn ((own_rn (p3 + p2)) - p3)))))), s_, vD ((own_D (own_rn ((own_rn (p2 - (own_rn ((own_rn (p3 + p2)) - p3)))) * 2)))), s_, vD ((own_D (own_rn ((own_rn (p3 + p2)) + (own_rn ((own_rn (p2 - (own_rn ((own_rn (p3 + p2)) - p3)))) * 2)))))), s_]) rfl ?_
            show SS p e below m T251 136 #[vR (a_o), vI (2), vD ((own_D (own_rn ((own_rn (p3 + p2)) + (own_rn ((own_rn (p2 - (own_rn ((own_rn (p3 + p2)) - p3)))) * 2)))))), s_, vD ((own_D (own_rn (p2 - (own_rn ((own_rn (p3 + p2)) - p3)))))), s_, vD ((own_D (own_rn ((own_rn (p2 - (own_rn ((own_rn (p3 + p2)) - p3)))) * 2)))), s_, vD ((own_D (own_rn ((own_rn (p3 + p2)) + (own_rn ((own_rn (p2 - (own_rn ((own_rn (p3 + p2)) - p3)))) * 2)))))), s_] [] _
            refine XS.dloadN X251.here hx rfl (hb hby d4_136) rfl ?_
            show SS p e below m T251 137 #[vR (a_o), vI (2), vD ((own_D (own_rn ((own_rn (p3 + p2)) + (own_rn ((own_rn (p2 - (own_rn ((own_rn (p3 + p2)) - p3)))) * 2)))))), s_, vD ((own_D (own_rn (p2 - (own_rn ((own_rn (p3 + p2)) - p3)))))), s_, vD ((own_D (own_rn ((own_rn (p2 - (own_rn ((own_rn (p3 + p2)) - p3)))) * 2)))), s_, vD ((own_D (own_rn ((own_rn (p3 + p2)) + (own_rn ((own_rn (p2 - (own_rn ((own_rn (p3 + p2)) - p3)))) * 2)))))), s_] [(.double (own_D (own_rn ((own_rn (p3 + p2)) + (own_rn ((own_rn (p2 - (own_rn ((own_rn (p3 + p2)) - p3)))) * 2))))))] _
            jvm_step X251.here [X251.here.top, hx, (hb hby d4_137), X251.method', Bd.returns, narrow]
            first | (intro acts; rw [hr _ acts rfl rfl rfl]) | rw [hr _ _ rfl rfl rfl]
            exact Steps.refl _
          · show Qown_vl4 Z a_o pa k_p p0 p1 p2 p3 h0 n0 _ T251.heap _
            rw [e251]
            have hv : (own_vl4_f p0 p1 p2 p3) = (own_rn ((own_rn (p3 + p2)) + (own_rn ((own_rn (p2 - (own_rn ((own_rn (p3 + p2)) - p3)))) * 2)))) := by unfold own_vl4_f; rw [if_neg hc63_53, if_pos hc80_246, if_pos hc98_261, if_pos hc130_283]
            exact ⟨(by rw [hv]), N0, rfl⟩
        · obtain ⟨fs, hr, hrun, hended, hW, hsame⟩ := X251.leave (v := some (.double (own_D (own_rn (p3 + p2))))) (fun h => by rw [Bd.returns] at h; cases h) (hlocks := BodyLoose.notSynchronized Bd)
          refine ⟨_, _, pre282 _ ?_, hrun, hended, _, _, rfl, ?_, ⟨_, rfl⟩, hW, hsame.mono (by decide) (by decide)⟩
          · show SS p e below m T251 130 #[vR (a_o), vI (2), vD ((own_D (own_rn (p3 + p2)))), s_, vD ((own_D (own_rn (p2 - (own_rn ((own_rn (p3 + p2)) - p3)))))), s_, vD ((own_D (own_rn ((own_rn (p2 - (own_rn ((own_rn (p3 + p2)) - p3)))) * 2)))), s_, vD ((own_D (own_rn ((own_rn (p3 + p2)) + (own_rn ((own_rn (p2 - (own_rn ((own_rn (p3 + p2)) - p3)))) * 2)))))), s_] [(.int (own_cmp (own_rn ((own_rn ((own_rn (p3 + p2)) + (own_rn ((own_rn (p2 - (own_rn ((own_rn (p3 + p2)) - p3)))) * 2)))) - (own_rn (p3 + p2)))) (own_rn ((own_rn (p2 - (own_rn ((own_rn (p3 + p2)) - p3)))) * 2))))] _
            refine XS.ifYes X251.here hx rfl (pc0 := 130) (pc' := 136) rfl (hb hby d4_130) rfl ((if0 _ _).trans (feq (fun q => hc130_283 (own_cmEq.mp q))).2) (by decide) (by decide) ?_
            refine XS.dloadN X251.here hx rfl (hb hby d4_136) rfl ?_
            show SS p e below m T251 137 #[vR (a_o), vI (2), vD ((own_D (own_rn (p3 + p2)))), s_, vD ((own_D (own_rn (p2 - (own_rn ((own_rn (p3 + p2)) - p3)))))), s_, vD ((own_D (own_rn ((own_rn (p2 - (own_rn ((own_rn (p3 + p2)) - p3)))) * 2)))), s_, vD ((own_D (own_rn ((own_rn (p3 + p2)) + (own_rn ((own_rn (p2 - (own_rn ((own_rn (p3 + p2)) - p3)))) * 2)))))), s_] [(.double (own_D (own_rn (p3 + p2))))] _
            jvm_step X251.here [X251.here.top, hx, (hb hby d4_137), X251.method', Bd.returns, narrow]
            first | (intro acts; rw [hr _ acts rfl rfl rfl]) | rw [hr _ _ rfl rfl rfl]
            exact Steps.refl _
          · show Qown_vl4 Z a_o pa k_p p0 p1 p2 p3 h0 n0 _ T251.heap _
            rw [e251]
            have hv : (own_vl4_f p0 p1 p2 p3) = (own_rn (p3 + p2)) := by unfold own_vl4_f; rw [if_neg hc63_53, if_pos hc80_246, if_pos hc98_261, if_neg hc130_283]
            exact ⟨(by rw [hv]), N0, rfl⟩
      · obtain ⟨fs, hr, hrun, hended, hW, hsame⟩ := X251.leave (v := some (.double (own_D (own_rn (p3 + p2))))) (fun h => by rw [Bd.returns] at h; cases h) (hlocks := BodyLoose.notSynchronized Bd)
        refine ⟨_, _, pre260 _ ?_, hrun, hended, _, _, rfl, ?_, ⟨_, rfl⟩, hW, hsame.mono (by decide) (by decide)⟩
        · show SS p e below m T251 98 #[vR (a_o), vI (2), vD ((own_D (own_rn (p3 + p2)))), s_, vD ((own_D (own_rn (p2 - (own_rn ((own_rn (p3 + p2)) - p3)))))), s_, vD ((own_D p3)), s_, u_, u_] [(.int (own_cmp p1 0)), (.int 1)] _
          refine XS.ifYes X251.here hx rfl (pc0 := 98) (pc' := 105) rfl (hb hby d4_98) rfl ((if0 _ _).trans (flt (fun q => hc98_261 (own_cmLt.mp q))).2.1) (by decide) (by decide) ?_
          refine XS.iconst X251.here hx rfl (hb hby d4_105) ?_ --lit 0
          refine XS.icmpYes X251.here hx rfl (pc0 := 106) (pc' := 136) rfl (hb hby d4_106) rfl (feq ((by decide) : ¬ ((1 : Int32) = (0 : Int32)))).2 (by decide) (by decide) ?_
          show SS p e below m T251 136 #[vR (a_o), vI (2), vD ((own_D (own_rn (p3 + p2)))), s_, vD ((own_D (own_rn (p2 - (own_rn ((own_rn (p3 + p2)) - p3)))))), s_, vD ((own_D p3)), s_, u_, u_] [] _
          refine XS.dloadN X251.here hx rfl (hb hby d4_136) rfl ?_
          show SS p e below m T251 137 #[vR (a_o), vI (2), vD ((own_D (own_rn (p3 + p2)))), s_, vD ((own_D (own_rn (p2 - (own_rn ((own_rn (p3 + p2)) - p3)))))), s_, vD ((own_D p3)), s_, u_, u_] [(.double (own_D (own_rn (p3 + p2))))] _
          jvm_step X251.here [X251.here.top, hx, (hb hby d4_137), X251.method', Bd.returns, narrow]
          first | (intro acts; rw [hr _ acts rfl rfl rfl]) | rw [hr _ _ rfl rfl rfl]
          exact Steps.refl _
        · show Qown_vl4 Z a_o pa k_p p0 p1 p2 p3 h0 n0 _ T251.heap _
          rw [e251]
          have hv : (own_vl4_f p0 p1 p2 p3) = (own_rn (p3 + p2)) := by unfold own_vl4_f; rw [if_neg hc63_53, if_pos hc80_246, if_neg hc98_261]
          exact ⟨(by rw [hv]), N0, rfl⟩
    · obtain ⟨T297, X297, e297, st297⟩ := getF X37 hx hZ hown (host := "") (Or.inl (hw _ (gm 10 rfl))) Via.refl e37 hfp (g := (mkF m 89 #[vR (a_o), vI (2), vD ((own_D (own_rn (p3 + p2)))), s_, vD ((own_D (own_rn (p2 - (own_rn ((own_rn (p3 + p2)) - p3)))))), s_, vD ((own_D p3)), s_, u_, u_] [(.ref a_o), (.int 0)])) rfl rfl (hb hby d4_89)
      obtain ⟨cl302, Ar302, q302, S302, M302, H302, G302⟩ := id hA
      have hin302 : ¬ ((1 : Int32) < 0 ∨ cl302.slots.size ≤ ((1 : Int32)).toNatClampNeg) := inb_of S302 ⟨by decide, by decide⟩
      have hat302 : cl302.slots[((1 : Int32)).toNatClampNeg]? = some (.double (own_D p1)) := H302.at hin302 rfl
      have pre306 : ∀ t, Steps p.tables e below (T297.setTop (mkF m 98 #[vR (a_o), vI (2), vD ((own_D (own_rn (p3 + p2)))), s_, vD ((own_D (own_rn (p2 - (own_rn ((own_rn (p3 + p2)) - p3)))))), s_, vD ((own_D p3)), s_, u_, u_] [(.int (own_cmp p1 0)), (.int 0)])) t → Steps p.tables e below (s₁.setTop (entryFrame m #[(.ref a_o)] 10)) t := by
        intro t kt
        refine pre245 _ ?_
        show SS p e below m T37 80 #[vR (a_o), vI (2), vD ((own_D (own_rn (p3 + p2)))), s_, vD ((own_D (own_rn (p2 - (own_rn ((own_rn (p3 + p2)) - p3)))))), s_, vD ((own_D p3)), s_, u_, u_] [(.int (own_cmp (own_rn (p2 - (own_rn ((own_rn (p3 + p2)) - p3)))) 0))] _
        refine XS.ifYes X37.here hx rfl (pc0 := 80) (pc' := 87) rfl (hb hby d4_80) rfl ((if0 _ _).trans (flt (fun q => hc80_246 (own_cmLt.mp q))).2.1) (by decide) (by decide) ?_
        refine XS.iconst X37.here hx rfl (hb hby d4_87) ?_ --lit 0
        refine XS.aloadN X37.here hx rfl (hb hby d4_88) rfl rfl ?_
        show SS p e below m T37 89 #[vR (a_o), vI (2), vD ((own_D (own_rn (p3 + p2)))), s_, vD ((own_D (own_rn (p2 - (own_rn ((own_rn (p3 + p2)) - p3)))))), s_, vD ((own_D p3)), s_, u_, u_] [(.ref a_o), (.int 0)] _
        refine st297 _ ?_
        show SS p e below m T297 92 #[vR (a_o), vI (2), vD ((own_D (own_rn (p3 + p2)))), s_, vD ((own_D (own_rn (p2 - (own_rn ((own_rn (p3 + p2)) - p3)))))), s_, vD ((own_D p3)), s_, u_, u_] [(.ref pa), (.int 0)] _
        refine XS.iloadN X297.here hx rfl (hb hby d4_92) rfl ?_
        refine XS.iconst X297.here hx rfl (hb hby d4_93) ?_ --lit 1
        refine XS.isub X297.here hx rfl (hb hby d4_94) rfl ?_
        show SS p e below m T297 95 #[vR (a_o), vI (2), vD ((own_D (own_rn (p3 + p2)))), s_, vD ((own_D (own_rn (p2 - (own_rn ((own_rn (p3 + p2)) - p3)))))), s_, vD ((own_D p3)), s_, u_, u_] [(.int 1), (.ref pa), (.int 0)] _
        refine X297.daload hx (j := (1 : Int32)) (v := (.double (own_D p1))) (by rw [e297]; exact Ar302.1) (State.isArrayOf_alike hZ.alike Ar302.2.1) Ar302.2.2 hin302 hat302 (g := (mkF m 95 #[vR (a_o), vI (2), vD ((own_D (own_rn (p3 + p2)))), s_, vD ((own_D (own_rn (p2 - (own_rn ((own_rn (p3 + p2)) - p3)))))), s_, vD ((own_D p3)), s_, u_, u_] [(.int 1), (.ref pa), (.int 0)])) rfl rfl (hb hby d4_95) _ ?_
        show SS p e below m T297 96 #[vR (a_o), vI (2), vD ((own_D (own_rn (p3 + p2)))), s_, vD ((own_D (own_rn (p2 - (own_rn ((own_rn (p3 + p2)) - p3)))))), s_, vD ((own_D p3)), s_, u_, u_] [(.double (own_D p1)), (.int 0)] _
        refine XS.dconst0 X297.here hx rfl (hb hby d4_96) own_c0 ?_
        show SS p e below m T297 97 #[vR (a_o), vI (2), vD ((own_D (own_rn (p3 + p2)))), s_, vD ((own_D (own_rn (p2 - (own_rn ((own_rn (p3 + p2)) - p3)))))), s_, vD ((own_D p3)), s_, u_, u_] [(.double (own_D 0)), (.double (own_D p1)), (.int 0)] _
        refine XS.dcmpS X297.here hx rfl (hb hby d4_97) rfl (own_DcmpV hr1 own_rep0 (by omega) (by omega) (by omega) (by omega) _) ?_
        exact kt
      by_cases hc98_307 : p1 < 0
      · obtain ⟨fs, hr, hrun, hended, hW, hsame⟩ := X297.leave (v := some (.double (own_D (own_rn (p3 + p2))))) (fun h => by rw [Bd.returns] at h; cases h) (hlocks := BodyLoose.notSynchronized Bd)
        refine ⟨_, _, pre306 _ ?_, hrun, hended, _, _, rfl, ?_, ⟨_, rfl⟩, hW, hsame.mono (by decide) (by decide)⟩
        · show SS p e below m T297 98 #[vR (a_o), vI (2), vD ((own_D (own_rn (p3 + p2)))), s_, vD ((own_D (own_rn (p2 - (own_rn ((own_rn (p3 + p2)) - p3)))))), s_, vD ((own_D p3)), s_, u_, u_] [(.int (own_cmp p1 0)), (.int 0)] _
          refine XS.ifNo X297.here hx rfl (hb hby d4_98) rfl ((if0 _ _).trans (tlt (own_cmLt.mpr hc98_307)).2.1) ?_
          refine XS.iconst X297.here hx rfl (hb hby d4_101) ?_ --lit 1
          refine XS.goto X297.here hx rfl (pc0 := 102) (pc' := 106) rfl (hb hby d4_102) (by decide) (by decide) ?_
          show SS p e below m T297 106 #[vR (a_o), vI (2), vD ((own_D (own_rn (p3 + p2)))), s_, vD ((own_D (own_rn (p2 - (own_rn ((own_rn (p3 + p2)) - p3)))))), s_, vD ((own_D p3)), s_, u_, u_] [(.int 1), (.int 0)] _
          refine XS.icmpYes X297.here hx rfl (pc0 := 106) (pc' := 136) rfl (hb hby d4_106) rfl (feq ((by decide) : ¬ ((0 : Int32) = (1 : Int32)))).2 (by decide) (by decide) ?_
          refine XS.dloadN X297.here hx rfl (hb hby d4_136) rfl ?_
          show SS p e below m T297 137 #[vR (a_o), vI (2), vD ((own_D (own_rn (p3 + p2)))), s_, vD ((own_D (own_rn (p2 - (own_rn ((own_rn (p3 + p2)) - p3)))))), s_, vD ((own_D p3)), s_, u_, u_] [(.double (own_D (own_rn (p3 + p2))))] _
          jvm_step X297.here [X297.here.top, hx, (hb hby d4_137), X297.method', Bd.returns, narrow]
          first | (intro acts; rw [hr _ acts rfl rfl rfl]) | rw [hr _ _ rfl rfl rfl]
          exact Steps.refl _
        · show Qown_vl4 Z a_o pa k_p p0 p1 p2 p3 h0 n0 _ T297.heap _
          rw [e297]
          have hv : (own_vl4_f p0 p1 p2 p3) = (own_rn (p3 + p2)) := by unfold own_vl4_f; rw [if_neg hc63_53, if_neg hc80_246, if_pos hc98_307]
          exact ⟨(by rw [hv]), N0, rfl⟩
      · have hq318 : FP.dmul (own_D (own_rn (p2 - (own_rn ((own_rn (p3 + p2)) - p3))))) (own_D 2) = own_D (own_rn ((own_rn (p2 - (own_rn ((own_rn (p3 + p2)) - p3)))) * 2)) := own_Dmul2 hc63_53 (by omega) (by omega)
        have hq318E := own_errSm (n := (own_rn (p2 - (own_rn ((own_rn (p3 + p2)) - p3)))) * 2) (by omega) (by omega)
        have hq323 : FP.dadd (own_D (own_rn (p3 + p2))) (own_D (own_rn ((own_rn (p2 - (own_rn ((own_rn (p3 + p2)) - p3)))) * 2))) = own_D (own_rn ((own_rn (p3 + p2)) + (own_rn ((own_rn (p2 - (own_rn ((own_rn (p3 + p2)) - p3)))) * 2)))) := own_Dadd (own_rrn _) (own_rrn _) (by omega) (by omega) (by omega) (by omega) (by omega) (by omega)
        have hq323E := own_errSm (n := (own_rn (p3 + p2)) + (own_rn ((own_rn (p2 - (own_rn ((own_rn (p3 + p2)) - p3)))) * 2))) (by omega) (by omega)
        have hq328 : FP.dsub (own_D (own_rn ((own_rn (p3 + p2)) + (own_rn ((own_rn (p2 - (own_rn ((own_rn (p3 + p2)) - p3)))) * 2))))) (own_D (own_rn (p3 + p2))) = own_D (own_rn ((own_rn ((own_rn (p3 + p2)) + (own_rn ((own_rn (p2 - (own_rn ((own_rn (p3 + p2)) - p3)))) * 2)))) - (own_rn (p3 + p2)))) := own_Dsub (own_rrn _) (own_rrn _) (by omega) (by omega) (by omega) (by omega) (by omega) (by omega)
        have hq328E := own_errSm (n := (own_rn ((own_rn (p3 + p2)) + (own_rn ((own_rn (p2 - (own_rn ((own_rn (p3 + p2)) - p3)))) * 2)))) - (own_rn (p3 + p2))) (by omega) (by omega)
        have pre332 : ∀ t, Steps p.tables e below (T297.setTop (mkF m 130 #[vR (a_o), vI (2), vD ((own_D (own_rn (p3 + p2)))), s_, vD ((own_D (own_rn (p2 - (own_rn ((own_rn (p3 + p2)) - p3)))))), s_, vD ((own_D (own_rn ((own_rn (p2 - (own_rn ((own_rn (p3 + p2)) - p3)))) * 2)))), s_, vD ((own_D (own_rn ((own_rn (p3 + p2)) + (own_rn ((own_rn (p2 - (own_rn ((own_rn (p3 + p2)) - p3)))) * 2)))))), s_] [(.int (own_cmp (own_rn ((own_rn ((own_rn (p3 + p2)) + (own_rn ((own_rn (p2 - (own_rn ((own_rn (p3 + p2)) - p3)))) * 2)))) - (own_rn (p3 + p2)))) (own_rn ((own_rn (p2 - (own_rn ((own_rn (p3 + p2)) - p3)))) * 2))))])) t → Steps p.tables e below (s₁.setTop (entryFrame m #[(.ref a_o)] 10)) t := by
          intro t kt
          refine pre306 _ ?_
          show SS p e below m T297 98 #[vR (a_o), vI (2), vD ((own_D (own_rn (p3 + p2)))), s_, vD ((own_D (own_rn (p2 - (own_rn ((own_rn (p3 + p2)) - p3)))))), s_, vD ((own_D p3)), s_, u_, u_] [(.int (own_cmp p1 0)), (.int 0)] _
          refine XS.ifYes X297.here hx rfl (pc0 := 98) (pc' := 105) rfl (hb hby d4_98) rfl ((if0 _ _).trans (flt (fun q => hc98_307 (own_cmLt.mp q))).2.1) (by decide) (by decide) ?_
          refine XS.iconst X297.here hx rfl (hb hby d4_105) ?_ --lit 0
          refine XS.icmpNo X297.here hx rfl (hb hby d4_106) rfl (teq ((by decide) : (0 : Int32) = (0 : Int32))).2 ?_
          show SS p e below m T297 109 #[vR (a_o), vI (2), vD ((own_D (own_rn (p3 + p2)))), s_, vD ((own_D (own_rn (p2 - (own_rn ((own_rn (p3 + p2)) - p3)))))), s_, vD ((own_D p3)), s_, u_, u_] [] _
          refine XS.dload X297.here hx rfl (hb hby d4_109) rfl ?_
          show SS p e below m T297 111 #[vR (a_o), vI (2), vD ((own_D (own_rn (p3 + p2)))), s_, vD ((own_D (own_rn (p2 - (own_rn ((own_rn (p3 + p2)) - p3)))))), s_, vD ((own_D p3)), s_, u_, u_] [(.double (own_D (own_rn (p2 - (own_rn ((own_rn (p3 + p2)) - p3))))))] _
          refine X297.ldc2DoubleC hx hown (mvT hZ (hw _ (gm 27 rfl))) (g := (mkF m 111 #[vR (a_o), vI (2), vD ((own_D (own_rn (p3 + p2)))), s_, vD ((own_D (own_rn (p2 - (own_rn ((own_rn (p3 + p2)) - p3)))))), s_, vD ((own_D p3)), s_, u_, u_] [(.double (own_D (own_rn (p2 - (own_rn ((own_rn (p3 + p2)) - p3))))))])) rfl (hb hby d4_111) _ ?_
          show SS p e below m T297 114 #[vR (a_o), vI (2), vD ((own_D (own_rn (p3 + p2)))), s_, vD ((own_D (own_rn (p2 - (own_rn ((own_rn (p3 + p2)) - p3)))))), s_, vD ((own_D p3)), s_, u_, u_] [(.double (4611686018427387904 : UInt64)), (.double (own_D (own_rn (p2 - (own_rn ((own_rn (p3 + p2)) - p3))))))] _
          rw [own_c2]
          show SS p e below m T297 114 #[vR (a_o), vI (2), vD ((own_D (own_rn (p3 + p2)))), s_, vD ((own_D (own_rn (p2 - (own_rn ((own_rn (p3 + p2)) - p3)))))), s_, vD ((own_D p3)), s_, u_, u_] [(.double (own_D 2)), (.double (own_D (own_rn (p2 - (own_rn ((own_rn (p3 + p2)) - p3))))))] _
          refine XS.dmulS X297.here hx rfl (hb hby d4_114) rfl (nn_w (a := Int64.ofInt (own_rn ((own_rn (p2 - (own_rn ((own_rn (p3 + p2)) - p3)))) * 2))) hq318) hq318 ?_
          show SS p e below m T297 115 #[vR (a_o), vI (2), vD ((own_D (own_rn (p3 + p2)))), s_, vD ((own_D (own_rn (p2 - (own_rn ((own_rn (p3 + p2)) - p3)))))), s_, vD ((own_D p3)), s_, u_, u_] [(.double (own_D (own_rn ((own_rn (p2 - (own_rn ((own_rn (p3 + p2)) - p3)))) * 2))))] _
          refine XS.dstore X297.here hx rfl (hb hby d4_115) rfl (l' := #[vR (a_o), vI (2), vD ((own_D (own_rn (p3 + p2)))), s_, vD ((own_D (own_rn (p2 - (own_rn ((own_rn (p3 + p2)) - p3)))))), s_, vD ((own_D (own_rn ((own_rn (p2 - (own_rn ((own_rn (p3 + p2)) - p3)))) * 2)))), s_, u_, u_]) rfl ?_
          refine XS.dloadN X297.here hx rfl (hb hby d4_117) rfl ?_
          refine XS.dload X297.here hx rfl (hb hby d4_118) rfl ?_
          show SS p e below m T297 120 #[vR (a_o), vI (2), vD ((own_D (own_rn (p3 + p2)))), s_, vD ((own_D (own_rn (p2 - (own_rn ((own_rn (p3 + p2)) - p3)))))), s_, vD ((own_D (own_rn ((own_rn (p2 - (own_rn ((own_rn (p3 + p2)) - p3)))) * 2)))), s_, u_, u_] [(.double (own_D (own_rn ((own_rn (p2 - (own_rn ((own_rn (p3 + p2)) - p3)))) * 2)))), (.double (own_D (own_rn (p3 + p2))))] _
          refine XS.daddS X297.here hx rfl (hb hby d4_120) rfl (nn_w (a := Int64.ofInt (own_rn ((own_rn (p3 + p2)) + (own_rn ((own_rn (p2 - (own_rn ((own_rn (p3 + p2)) - p3)))) * 2))))) hq323) hq323 ?_
          show SS p e below m T297 121 #[vR (a_o), vI (2), vD ((own_D (own_rn (p3 + p2)))), s_, vD ((own_D (own_rn (p2 - (own_rn ((own_rn (p3 + p2)) - p3)))))), s_, vD ((own_D (own_rn ((own_rn (p2 - (own_rn ((own_rn (p3 + p2)) - p3)))) * 2)))), s_, u_, u_] [(.double (own_D (own_rn ((own_rn (p3 + p2)) + (own_rn ((own_rn (p2 - (own_rn ((own_rn (p3 + p2)) - p3)))) * 2))))))] _
          refine XS.dstore X297.here hx rfl (hb hby d4_121) rfl (l' := #[vR (a_o), vI (2), vD ((own_D (own_rn (p3 + p2)))), s_, vD ((own_D (own_rn (p2 - (own_rn ((own_rn (p3 + p2)) - p3)))))), s_, vD ((own_D (own_rn ((own_rn (p2 - (own_rn ((own_rn (p3 + p2)) - p3)))) * 2)))), s_, vD ((own_D (own_rn ((own_rn (p3 + p2)) + (own_rn ((own_rn (p2 - (own_rn ((own_rn (p3 + p2)) - p3)))) * 2)))))), s_]) rfl ?_
          refine XS.dload X297.here hx rfl (hb hby d4_123) rfl ?_
          refine XS.dloadN X297.here hx rfl (hb hby d4_125) rfl ?_
          show SS p e below m T297 126 #[vR (a_o), vI (2), vD ((own_D (own_rn (p3 + p2)))), s_, vD ((own_D (own_rn (p2 - (own_rn ((own_rn (p3 + p2)) - p3)))))), s_, vD ((own_D (own_rn ((own_rn (p2 - (own_rn ((own_rn (p3 + p2)) - p3)))) * 2)))), s_, vD ((own_D (own_rn ((own_rn (p3 + p2)) + (own_rn ((own_rn (p2 - (own_rn ((own_rn (p3 + p2)) - p3)))) * 2)))))), s_] [(.double (own_D (own_rn (p3 + p2)))), (.double (own_D (own_rn ((own_rn (p3 + p2)) + (own_rn ((own_rn (p2 - (own_rn ((own_rn (p3 + p2)) - p3)))) * 2))))))] _
          refine XS.dsubS X297.here hx rfl (hb hby d4_126) rfl (nn_w (a := Int64.ofInt (own_rn ((own_rn ((own_rn (p3 + p2)) + (own_rn ((own_rn (p2 - (own_rn ((own_rn (p3 + p2)) - p3)))) * 2)))) - (own_rn (p3 + p2))))) hq328) hq328 ?_
          show SS p e below m T297 127 #[vR (a_o), vI (2), vD ((own_D (own_rn (p3 + p2)))), s_, vD ((own_D (own_rn (p2 - (own_rn ((own_rn (p3 + p2)) - p3)))))), s_, vD ((own_D (own_rn ((own_rn (p2 - (own_rn ((own_rn (p3 + p2)) - p3)))) * 2)))), s_, vD ((own_D (own_rn ((own_rn (p3 + p2)) + (own_rn ((own_rn (p2 - (own_rn ((own_rn (p3 + p2)) - p3)))) * 2)))))), s_] [(.double (own_D (own_rn ((own_rn ((own_rn (p3 + p2)) + (own_rn ((own_rn (p2 - (own_rn ((own_rn (p3 + p2)) - p3)))) * 2)))) - (own_rn (p3 + p2))))))] _
          refine XS.dload X297.here hx rfl (hb hby d4_127) rfl ?_
          show SS p e below m T297 129 #[vR (a_o), vI (2), vD ((own_D (own_rn (p3 + p2)))), s_, vD ((own_D (own_rn (p2 - (own_rn ((own_rn (p3 + p2)) - p3)))))), s_, vD ((own_D (own_rn ((own_rn (p2 - (own_rn ((own_rn (p3 + p2)) - p3)))) * 2)))), s_, vD ((own_D (own_rn ((own_rn (p3 + p2)) + (own_rn ((own_rn (p2 - (own_rn ((own_rn (p3 + p2)) - p3)))) * 2)))))), s_] [(.double (own_D (own_rn ((own_rn (p2 - (own_rn ((own_rn (p3 + p2)) - p3)))) * 2)))), (.double (own_D (own_rn ((own_rn ((own_rn (p3 + p2)) + (own_rn ((own_rn (p2 - (own_rn ((own_rn (p3 + p2)) - p3)))) * 2)))) - (own_rn (p3 + p2))))))] _
          refine XS.dcmpS X297.here hx rfl (hb hby d4_129) rfl (own_DcmpV (own_rrn _) (own_rrn _) (by omega) (by omega) (by omega) (by omega) _) ?_
          exact kt
        by_cases hc130_333 : (own_rn ((own_rn ((own_rn (p3 + p2)) + (own_rn ((own_rn (p2 - (own_rn ((own_rn (p3 + p2)) - p3)))) * 2)))) - (own_rn (p3 + p2)))) = (own_rn ((own_rn (p2 - (own_rn ((own_rn (p3 + p2)) - p3)))) * 2))
        · obtain ⟨fs, hr, hrun, hended, hW, hsame⟩ := X297.leave (v := some (.double (own_D (own_rn ((own_rn (p3 + p2)) + (own_rn ((own_rn (p2 - (own_rn ((own_rn (p3 + p2)) - p3)))) * 2))))))) (fun h => by rw [Bd.returns] at h; cases h) (hlocks := BodyLoose.notSynchronized Bd)
          refine ⟨_, _, pre332 _ ?_, hrun, hended, _, _, rfl, ?_, ⟨_, rfl⟩, hW, hsame.mono (by decide) (by decide)⟩
          · show SS p e below m T297 130 #[vR (a_o), vI (2), vD ((own_D (own_rn (p3 + p2)))), s_, vD ((own_D (own_rn (p2 - (own_rn ((own_rn (p3 + p2)) - p3)))))), s_, vD ((own_D (own_rn ((own_rn (p2 - (own_rn ((own_rn (p3 + p2)) - p3)))) * 2)))), s_, vD ((own_D (own_rn ((own_rn (p3 + p2)) + (own_rn ((own_rn (p2 - (own_rn ((own_rn (p3 + p2)) - p3)))) * 2)))))), s_] [(.int (own_cmp (own_rn ((own_rn ((own_rn (p3 + p2)) + (own_rn ((own_rn (p2 - (own_rn ((own_rn (p3 + p2)) - p3)))) * 2)))) - (own_rn (p3 + p2)))) (own_rn ((own_rn (p2 - (own_rn ((own_rn (p3 + p2)) - p3)))) * 2))))] _
            refine XS.ifNo X297.here hx rfl (hb hby d4_130) rfl ((if0 _ _).trans (teq (own_cmEq.mpr hc130_333)).2) ?_
            refine XS.dload X297.here hx rfl (hb hby d4_133) rfl ?_
            refine XS.dstoreN X297.here hx rfl (hb hby d4_135) rfl (l' := #[vR (a_o), vI (2), vD ((own_D (own_rn ((own_rn (p3 + p2)) + (own_rn ((own_rn (p2 - (own_rn ((own_rn (p3 + p2)) - p3)))) * 2)))))), s_, vD ((own_D (own_rn (p2 - (own_rn ((own_rn (p3 + p2)) - p3)))))), s_, vD ((own_D (own_rn ((own_rn (p2 - (own_rn ((own_rn (p3 + p2)) - p3)))) * 2)))), s_, vD ((own_D (own_rn ((own_rn (p3 + p2)) + (own_rn ((own_rn (p2 - (own_rn ((own_rn (p3 + p2)) - p3)))) * 2)))))), s_]) rfl ?_
            show SS p e below m T297 136 #[vR (a_o), vI (2), vD ((own_D (own_rn ((own_rn (p3 + p2)) + (own_rn ((own_rn (p2 - (own_rn ((own_rn (p3 + p2)) - p3)))) * 2)))))), s_, vD ((own_D (own_rn (p2 - (own_rn ((own_rn (p3 + p2)) - p3)))))), s_, vD ((own_D (own_rn ((own_rn (p2 - (own_rn ((own_rn (p3 + p2)) - p3)))) * 2)))), s_, vD ((own_D (own_rn ((own_rn (p3 + p2)) + (own_rn ((own_rn (p2 - (own_rn ((own_rn (p3 + p2)) - p3)))) * 2)))))), s_] [] _
            refine XS.dloadN X297.here hx rfl (hb hby d4_136) rfl ?_
            show SS p e below m T297 137 #[vR (a_o), vI (2), vD ((own_D (own_rn ((own_rn (p3 + p2)) + (own_rn ((own_rn (p2 - (own_rn ((own_rn (p3 + p2)) - p3)))) * 2)))))), s_, vD ((own_D (own_rn (p2 - (own_rn ((own_rn (p3 + p2)) - p3)))))), s_, vD ((own_D (own_rn ((own_rn (p2 - (own_rn ((own_rn (p3 + p2)) - p3)))) * 2)))), s_, vD ((own_D (own_rn ((own_rn (p3 + p2)) + (own_rn ((own_rn (p2 - (own_rn ((own_rn (p3 + p2)) - p3)))) * 2)))))), s_] [(.double (own_D (own_rn ((own_rn (p3 + p2)) + (own_rn ((own_rn (p2 - (own_rn ((own_rn (p3 + p2)) - p3)))) * 2))))))] _
            jvm_step X297.here [X297.here.top, hx, (hb hby d4_137), X297.method', Bd.returns, narrow]
            first | (intro acts; rw [hr _ acts rfl rfl rfl]) | rw [hr _ _ rfl rfl rfl]
            exact Steps.refl _
          · show Qown_vl4 Z a_o pa k_p p0 p1 p2 p3 h0 n0 _ T297.heap _
            rw [e297]
            have hv : (own_vl4_f p0 p1 p2 p3) = (own_rn ((own_rn (p3 + p2)) + (own_rn ((own_rn (p2 - (own_rn ((own_rn (p3 + p2)) - p3)))) * 2)))) := by unfold own_vl4_f; rw [if_neg hc63_53, if_neg hc80_246, if_neg hc98_307, if_pos hc130_333]
            exact ⟨(by rw [hv]), N0, rfl⟩
        · obtain ⟨fs, hr, hrun, hended, hW, hsame⟩ := X297.leave (v := some (.double (own_D (own_rn (p3 + p2))))) (fun h => by rw [Bd.returns] at h; cases h) (hlocks := BodyLoose.notSynchronized Bd)
          refine ⟨_, _, pre332 _ ?_, hrun, hended, _, _, rfl, ?_, ⟨_, rfl⟩, hW, hsame.mono (by decide) (by decide)⟩
          · show SS p e below m T297 130 #[vR (a_o), vI (2), vD ((own_D (own_rn (p3 + p2)))), s_, vD ((own_D (own_rn (p2 - (own_rn ((own_rn (p3 + p2)) - p3)))))), s_, vD ((own_D (own_rn ((own_rn (p2 - (own_rn ((own_rn (p3 + p2)) - p3)))) * 2)))), s_, vD ((own_D (own_rn ((own_rn (p3 + p2)) + (own_rn ((own_rn (p2 - (own_rn ((own_rn (p3 + p2)) - p3)))) * 2)))))), s_] [(.int (own_cmp (own_rn ((own_rn ((own_rn (p3 + p2)) + (own_rn ((own_rn (p2 - (own_rn ((own_rn (p3 + p2)) - p3)))) * 2)))) - (own_rn (p3 + p2)))) (own_rn ((own_rn (p2 - (own_rn ((own_rn (p3 + p2)) - p3)))) * 2))))] _
            refine XS.ifYes X297.here hx rfl (pc0 := 130) (pc' := 136) rfl (hb hby d4_130) rfl ((if0 _ _).trans (feq (fun q => hc130_333 (own_cmEq.mp q))).2) (by decide) (by decide) ?_
            refine XS.dloadN X297.here hx rfl (hb hby d4_136) rfl ?_
            show SS p e below m T297 137 #[vR (a_o), vI (2), vD ((own_D (own_rn (p3 + p2)))), s_, vD ((own_D (own_rn (p2 - (own_rn ((own_rn (p3 + p2)) - p3)))))), s_, vD ((own_D (own_rn ((own_rn (p2 - (own_rn ((own_rn (p3 + p2)) - p3)))) * 2)))), s_, vD ((own_D (own_rn ((own_rn (p3 + p2)) + (own_rn ((own_rn (p2 - (own_rn ((own_rn (p3 + p2)) - p3)))) * 2)))))), s_] [(.double (own_D (own_rn (p3 + p2))))] _
            jvm_step X297.here [X297.here.top, hx, (hb hby d4_137), X297.method', Bd.returns, narrow]
            first | (intro acts; rw [hr _ acts rfl rfl rfl]) | rw [hr _ _ rfl rfl rfl]
            exact Steps.refl _
          · show Qown_vl4 Z a_o pa k_p p0 p1 p2 p3 h0 n0 _ T297.heap _
            rw [e297]
            have hv : (own_vl4_f p0 p1 p2 p3) = (own_rn (p3 + p2)) := by unfold own_vl4_f; rw [if_neg hc63_53, if_neg hc80_246, if_neg hc98_307, if_neg hc130_333]
            exact ⟨(by rw [hv]), N0, rfl⟩
theorem own_k1 {x : Int} (h : x = 0) {l : List Int} : own_keep (x :: l) = own_keep l := by subst h; exact own_keep0
theorem own_e0 (x : Int) : own_add0_f x = own_addL x [] := by
  unfold own_add0_f own_addL; simp only [own_grow]
  split
  · rename_i h; rw [own_k1 h]; rfl
  · rename_i h; rw [own_keepS h]; rfl
theorem own_e1 (x p0 : Int) : own_add1_f x p0 = own_addL x [p0] := by
  unfold own_add1_f own_addL; simp only [own_grow]
  split
  · rename_i h; rw [own_k1 h]; split
    · rename_i h; rw [own_k1 h]; rfl
    · rename_i h; rw [own_keepS h]; rfl
  · rename_i h; rw [own_keepS h]; split
    · rename_i h; rw [own_k1 h]; rfl
    · rename_i h; rw [own_keepS h]; rfl
theorem own_e2 (x p0 p1 : Int) : own_add2_f x p0 p1 = own_addL x [p0, p1] := by
  unfold own_add2_f own_addL; simp only [own_grow]
  by_cases h1 : (x + p0 - (own_rn (x + p0))) = 0
  · rw [if_pos h1, own_k1 h1]; exact own_e1 _ _
  · rw [if_neg h1, own_keepS h1]
    have e := own_e1 (own_rn (x + p0)) p1
    unfold own_add1_f own_addL at e; simp only [own_grow] at e
    rw [← e]
    split <;> split <;> rfl
theorem own_e3 (x p0 p1 p2 : Int) : own_add3_f x p0 p1 p2 = own_addL x [p0, p1, p2] := by
  unfold own_add3_f own_addL; simp only [own_grow]
  by_cases h1 : (x + p0 - (own_rn (x + p0))) = 0
  · rw [if_pos h1, own_k1 h1]; exact own_e2 _ _ _
  · rw [if_neg h1, own_keepS h1]
    have e := own_e2 (own_rn (x + p0)) p1 p2
    unfold own_add2_f own_addL at e; simp only [own_grow] at e
    rw [← e]
    split <;> split <;> split <;> rfl
theorem own_fixC {s er q : Int} {r : List Int} : own_fix s er (q :: r) = (if er < 0 then (if q < 0 then (if own_rn (own_rn (s + own_rn (er * 2)) - s) = own_rn (er * 2) then own_rn (s + own_rn (er * 2)) else s) else s) else (if q < 0 then s else (if own_rn (own_rn (s + own_rn (er * 2)) - s) = own_rn (er * 2) then own_rn (s + own_rn (er * 2)) else s))) := by
  unfold own_fix
  by_cases a : er < 0 <;> by_cases b : q < 0 <;> simp [a, b]
theorem own_v2 (p0 p1 : Int) : own_vl2_f p0 p1 = own_val [p1, p0] := by
  unfold own_vl2_f
  show _ = own_vd p1 [p0]
  rw [own_vd1]; split <;> rfl
theorem own_v3 (p0 p1 p2 : Int) : own_vl3_f p0 p1 p2 = own_val [p2, p1, p0] := by
  show _ = own_vd p2 [p1, p0]
  rw [own_vd, own_vd1, own_fixC]; unfold own_vl3_f
  by_cases h : (own_rn (p1 - (own_rn ((own_rn (p2 + p1)) - p2)))) = 0
  · rw [if_pos h, if_pos h]; split <;> rfl
  · rw [if_neg h, if_neg h]
theorem own_v4 (p0 p1 p2 p3 : Int) : own_vl4_f p0 p1 p2 p3 = own_val [p3, p2, p1, p0] := by
  show _ = own_vd p3 [p2, p1, p0]
  rw [own_vd, own_fixC]; unfold own_vl4_f
  by_cases h : (own_rn (p2 - (own_rn ((own_rn (p3 + p2)) - p3)))) = 0
  · rw [if_pos h, if_pos h]
    exact own_v3 p0 p1 (own_rn (p3 + p2))
  · rw [if_neg h, if_neg h]
theorem own_four {vs : List Value} (h : vs.length = 4) : ∃ a b c d, vs = [a, b, c, d] := by
  match vs, h with
  | [a, b, c, d], _ => exact ⟨a, b, c, d, rfl⟩
def Qown_add (Z : State) (x : Int) (a_o : Addr) (pa : Addr) (k_p : ClassId) (ps : List Int) (vs : List Value) (h0 : Heap) (n0 : Nat) (v : Option Value) (h : Heap) (L : List Loc) : Prop := ∃ vs_r : List Value, v = none ∧ Fr n0 L ∧ Keep h0 h [a_o, pa] ∧ Fld Z h a_o "com/example/merit/merit/ExactSum" "partials" "[D" (.ref pa) ∧ Arv Z h pa k_p .double (4 : Int32) vs_r (.double FP.dconst0) ∧ Fld Z h a_o "com/example/merit/merit/ExactSum" "count" "I" (.int (Int32.ofNat (own_addL x ps).length)) ∧ own_pt vs_r (own_addL x ps)
set_option maxHeartbeats 4000000 in
theorem own_add (l : Launch) (Z : State) (a0 : Array Value) (hw : ∀ d ∈ tables_1, d.before a0 Z = true) (ws : List Jvm.Cond) (x : Int) (a_o : Addr) (pa : Addr) (k_p : ClassId) (ps : List Int) (vs : List Value) (h0 : Heap) (n0 : Nat) (Z0 : n0 ≤ h0.size) (hxa : Exa Z h0 a_o "com/example/merit/merit/ExactSum") (hfp : Fld Z h0 a_o "com/example/merit/merit/ExactSum" "partials" "[D" (.ref pa)) (hfc : Fld Z h0 a_o "com/example/merit/merit/ExactSum" "count" "I" (.int (Int32.ofNat ps.length))) (hA : Arv Z h0 pa k_p .double (4 : Int32) vs (.double FP.dconst0)) (hg : n0 ≤ a_o) (hgp : n0 ≤ pa) (hne : a_o ≠ pa) (hpt : own_pt vs ps) (hrx : own_Rep x) (hR : ∀ p ∈ ps, own_Rep p) (hB : x.natAbs + own_abs ps ≤ 4611686018427400000) (hl : ps.length ≤ 3) :
    MetFree l (⟨"com/example/merit/merit/ExactSum", "add", "(D)V"⟩ : MethodName) (head1 (Jvm.Cond.code (⟨"com/example/merit/merit/ExactSum", "add", "(D)V"⟩ : MethodName) prog_12_method_2_code 13 none :: ws) ({ frames := 1, cells := 0, slots := 0, locals := 19 } : Room)) (fun a U => a = #[(.ref a_o), (.double (own_D x))] ∧ Z.Warmed39 U.vm ∧ U.heap = h0) (fun _ _ _ _ _ => True) (fun _ U o U' => ∃ v L, o = .returned v ∧ Qown_add Z x a_o pa k_p ps vs h0 n0 v U'.heap L ∧ FrameEnd U o U' L ({ frames := 1, cells := 0, slots := 0, locals := 19 } : Room).cells ({ frames := 1, cells := 0, slots := 0, locals := 19 } : Room).slots) := by
  obtain ⟨v0, v1, v2, v3, rfl⟩ := own_four hpt.1
  obtain ⟨-, hpt⟩ := hpt
  rcases ps with _ | ⟨p0, _ | ⟨p1, _ | ⟨p2, _ | ⟨p3, ps⟩⟩⟩⟩
  ·
    have q := own_add0 l Z a0 hw ws x a_o pa k_p v0 v1 v2 v3 h0 n0 Z0 hxa hfp hfc hA hg hgp hne hrx (by simpa [own_abs] using hB)
    unfold Qown_add0 at q; unfold Qown_add; rw [own_e0] at q; exact q
  ·
    obtain rfl : v0 = own_dv p0 := by simpa using hpt
    have q := own_add1 l Z a0 hw ws x a_o pa k_p p0 v1 v2 v3 h0 n0 Z0 hxa hfp hfc hA (hR _ (by simp)) hg hgp hne hrx (by simpa [own_abs, Nat.add_assoc] using hB)
    unfold Qown_add1 at q; unfold Qown_add; rw [own_e1] at q; exact q
  ·
    obtain ⟨rfl, rfl⟩ : v0 = own_dv p0 ∧ v1 = own_dv p1 := by simpa using hpt
    have q := own_add2 l Z a0 hw ws x a_o pa k_p p0 p1 v2 v3 h0 n0 Z0 hxa hfp hfc hA (hR _ (by simp)) (hR _ (by simp)) hg hgp hne hrx (by simpa [own_abs, Nat.add_assoc] using hB)
    unfold Qown_add2 at q; unfold Qown_add; rw [own_e2] at q; exact q
  ·
    obtain ⟨rfl, rfl, rfl⟩ : v0 = own_dv p0 ∧ v1 = own_dv p1 ∧ v2 = own_dv p2 := by simpa using hpt
    have q := own_add3 l Z a0 hw ws x a_o pa k_p p0 p1 p2 v3 h0 n0 Z0 hxa hfp hfc hA (hR _ (by simp)) (hR _ (by simp)) (hR _ (by simp)) hg hgp hne hrx (by simpa [own_abs, Nat.add_assoc] using hB)
    unfold Qown_add3 at q; unfold Qown_add; rw [own_e3] at q; exact q
  · exact absurd hl (by simp only [List.length_cons]; omega)
def Qown_vl (Z : State) (a_o : Addr) (pa : Addr) (k_p : ClassId) (ps : List Int) (vs : List Value) (h0 : Heap) (n0 : Nat) (v : Option Value) (h : Heap) (L : List Loc) : Prop := v = some (.double (own_D (own_val ps.reverse))) ∧ Fr n0 L ∧ h = h0
set_option maxHeartbeats 4000000 in
theorem own_vl (l : Launch) (Z : State) (a0 : Array Value) (hw : ∀ d ∈ tables_1, d.before a0 Z = true) (ws : List Jvm.Cond) (a_o : Addr) (pa : Addr) (k_p : ClassId) (ps : List Int) (vs : List Value) (h0 : Heap) (n0 : Nat) (Z0 : n0 ≤ h0.size) (hxa : Exa Z h0 a_o "com/example/merit/merit/ExactSum") (hfp : Fld Z h0 a_o "com/example/merit/merit/ExactSum" "partials" "[D" (.ref pa)) (hfc : Fld Z h0 a_o "com/example/merit/merit/ExactSum" "count" "I" (.int (Int32.ofNat ps.length))) (hA : Arv Z h0 pa k_p .double (4 : Int32) vs (.double FP.dconst0)) (hpt : own_pt vs ps) (hR : ∀ p ∈ ps, own_Rep p) (hS : ∀ p ∈ ps.dropLast, -1024 ≤ p ∧ p ≤ 1024) (hT : ∀ p ∈ ps, -9223372036854700000 ≤ p ∧ p ≤ 9223372036854700000) (hl : ps.length ≤ 4) :
    MetFree l (⟨"com/example/merit/merit/ExactSum", "value", "()D"⟩ : MethodName) (head1 (Jvm.Cond.code (⟨"com/example/merit/merit/ExactSum", "value", "()D"⟩ : MethodName) prog_12_method_3_code 10 (some .double) :: ws) ({ frames := 0, cells := 0, slots := 0, locals := 0 } : Room)) (fun a U => a = #[(.ref a_o)] ∧ Z.Warmed39 U.vm ∧ U.heap = h0) (fun _ _ _ _ _ => True) (fun _ U o U' => ∃ v L, o = .returned v ∧ Qown_vl Z a_o pa k_p ps vs h0 n0 v U'.heap L ∧ FrameEnd U o U' L ({ frames := 0, cells := 0, slots := 0, locals := 0 } : Room).cells ({ frames := 0, cells := 0, slots := 0, locals := 0 } : Room).slots) := by
  obtain ⟨v0, v1, v2, v3, rfl⟩ := own_four hpt.1
  obtain ⟨-, hpt⟩ := hpt
  rcases ps with _ | ⟨p0, _ | ⟨p1, _ | ⟨p2, _ | ⟨p3, _ | ⟨p4, ps⟩⟩⟩⟩⟩
  ·
    have q := own_vl0 l Z a0 hw ws a_o pa k_p v0 v1 v2 v3 h0 n0 Z0 hxa hfp hfc hA 
    unfold Qown_vl0 at q; unfold Qown_vl; rw [show own_vl0_f = own_val ([] : List Int).reverse from rfl] at q; exact q
  ·
    obtain rfl : v0 = own_dv p0 := by simpa using hpt
    have q := own_vl1 l Z a0 hw ws a_o pa k_p p0 v1 v2 v3 h0 n0 Z0 hxa hfp hfc hA (hR _ (by simp)) (hT _ (by simp))
    unfold Qown_vl1 at q; unfold Qown_vl; rw [show own_vl1_f p0 = own_val [p0].reverse from rfl] at q; exact q
  ·
    obtain ⟨rfl, rfl⟩ : v0 = own_dv p0 ∧ v1 = own_dv p1 := by simpa using hpt
    have q := own_vl2 l Z a0 hw ws a_o pa k_p p0 p1 v2 v3 h0 n0 Z0 hxa hfp hfc hA (hR _ (by simp)) (hR _ (by simp)) (hS _ (by simp)) (hT _ (by simp))
    unfold Qown_vl2 at q; unfold Qown_vl; rw [show own_vl2_f p0 p1 = own_val [p0, p1].reverse from own_v2 p0 p1] at q; exact q
  ·
    obtain ⟨rfl, rfl, rfl⟩ : v0 = own_dv p0 ∧ v1 = own_dv p1 ∧ v2 = own_dv p2 := by simpa using hpt
    have q := own_vl3 l Z a0 hw ws a_o pa k_p p0 p1 p2 v3 h0 n0 Z0 hxa hfp hfc hA (hR _ (by simp)) (hR _ (by simp)) (hR _ (by simp)) (hS _ (by simp)) (hS _ (by simp)) (hT _ (by simp))
    unfold Qown_vl3 at q; unfold Qown_vl; rw [show own_vl3_f p0 p1 p2 = own_val [p0, p1, p2].reverse from own_v3 p0 p1 p2] at q; exact q
  ·
    obtain ⟨rfl, rfl, rfl, rfl⟩ : v0 = own_dv p0 ∧ v1 = own_dv p1 ∧ v2 = own_dv p2 ∧ v3 = own_dv p3 := by simpa using hpt
    have q := own_vl4 l Z a0 hw ws a_o pa k_p p0 p1 p2 p3 h0 n0 Z0 hxa hfp hfc hA (hR _ (by simp)) (hR _ (by simp)) (hR _ (by simp)) (hR _ (by simp)) (hS _ (by simp)) (hS _ (by simp)) (hS _ (by simp)) (hT _ (by simp))
    unfold Qown_vl4 at q; unfold Qown_vl; rw [show own_vl4_f p0 p1 p2 p3 = own_val [p0, p1, p2, p3].reverse from own_v4 p0 p1 p2 p3] at q; exact q
  · exact absurd hl (by simp only [List.length_cons]; omega)
theorem own_ef_own_new (m : MethodId) (a_o : Addr) : entryFrame m #[(.ref a_o)] 1 = mkF m 0 #[.val (.ref a_o)] [] := by first | (simp [entryFrame, mkF, argsToLocals, Value.category]; done) | rfl
theorem d1_0 : decode prog_12_method_1_code 0 = .ok (.aload_n 0, 1) := by decide +kernel
theorem d1_1 : decode prog_12_method_1_code 1 = .ok (.invokespecial 1, 3) := by decide +kernel
theorem d1_4 : decode prog_12_method_1_code 4 = .ok (.aload_n 0, 1) := by decide +kernel
theorem d1_5 : decode prog_12_method_1_code 5 = .ok (.iconst 4, 1) := by decide +kernel
theorem d1_6 : decode prog_12_method_1_code 6 = .ok (.newarray .double, 2) := by decide +kernel
theorem d1_8 : decode prog_12_method_1_code 8 = .ok (.putfield 7, 3) := by decide +kernel
theorem d1_11 : decode prog_12_method_1_code 11 = .ok (.return_, 1) := by decide +kernel
def Qown_new (Z : State) (a_o : Addr) (u_p : Value) (h0 : Heap) (n0 : Nat) (v : Option Value) (h : Heap) (L : List Loc) : Prop := ∃ r_o : Addr, ∃ k_r : ClassId, v = none ∧ Fr n0 L ∧ h0.size ≤ r_o ∧ Keep h0 h [a_o] ∧ Fld Z h a_o "com/example/merit/merit/ExactSum" "partials" "[D" (.ref r_o) ∧ Fld Z h a_o "com/example/merit/merit/ExactSum" "count" "I" (.int 0) ∧ Arv Z h r_o k_r .double (4 : Int32) [(.double FP.dconst0), (.double FP.dconst0), (.double FP.dconst0), (.double FP.dconst0)] (.double FP.dconst0)
set_option maxRecDepth 65536 in
set_option maxHeartbeats 40000000 in
theorem own_new (l : Launch) (Z : State) (a0 : Array Value) (hw : ∀ d ∈ tables_1, d.before a0 Z = true) (ws : List Jvm.Cond) (a_o : Addr) (u_p : Value) (h0 : Heap) (n0 : Nat) (Z0 : n0 ≤ h0.size) (hxa : Exa Z h0 a_o "com/example/merit/merit/ExactSum") (hfp : Fld Z h0 a_o "com/example/merit/merit/ExactSum" "partials" "[D" u_p) (hfc : Fld Z h0 a_o "com/example/merit/merit/ExactSum" "count" "I" (.int 0)) (hg : n0 ≤ a_o) :
    MetFree l (⟨"com/example/merit/merit/ExactSum", "<init>", "()V"⟩ : MethodName) (head1 (Jvm.Cond.code (⟨"com/example/merit/merit/ExactSum", "<init>", "()V"⟩ : MethodName) prog_12_method_1_code 1 none :: ws) ({ frames := 1, cells := 1, slots := 4, locals := 12 } : Room)) (fun a U => a = #[(.ref a_o)] ∧ Z.Warmed39 U.vm ∧ U.heap = h0) (fun _ _ _ _ _ => True) (fun _ U o U' => ∃ v L, o = .returned v ∧ Qown_new Z a_o u_p h0 n0 v U'.heap L ∧ FrameEnd U o U' L ({ frames := 1, cells := 1, slots := 4, locals := 12 } : Room).cells ({ frames := 1, cells := 1, slots := 4, locals := 12 } : Room).slots) := by
  refine MetFree.of_bodySF (plainFor_of_name own_pn0) hisR ?_
  intro p e s m args below meth c s₁ Bd hml0 hP hK
  obtain ⟨rfl, hZ, hh⟩ := hP
  have hx := Bd.exec
  have hby := Bd.bytes
  have hml : c.maxLocals = 1 := hml0
  have hown : s.vm.findClass "com/example/merit/merit/ExactSum" = some m.cls := findClass_of_methodNamed Bd.named
  have hnm := (name_of_methodNamed Bd.named Bd.method).1
  have X0 : Stand p l e ({ frames := 1, cells := 1, slots := 4, locals := 12 } : Room) s m #[(.ref a_o)] below meth c s₁ [] 0 0 := Stand.of_body Bd
  have e0 : s₁.heap = h0 := by rw [← hh, Bd.state]; rfl
  have N0 := Fr.nil n0
  have pre0 : ∀ t, Steps p.tables e below (s₁.setTop (mkF m 0 #[vR (a_o)] [])) t → Steps p.tables e below (s₁.setTop (entryFrame m #[(.ref a_o)] 1)) t := fun t k => castTop (own_ef_own_new m a_o) k
  obtain ⟨T3, X3, e3, st3⟩ := initO X0 hx hZ hown (hw _ (gm 6 rfl)) (hw _ (gm 7 rfl)) (hw _ (gm 8 rfl)) e0 (g := (mkF m 1 #[vR (a_o)] [(.ref a_o)])) rfl (by rw [hml]; rfl) rfl (hb hby d1_1) (by decide) (W := 0) (by show 2 * 0 + _ ≤ _; exact Nat.le_of_eq rfl) (by decide)
  obtain ⟨T7, h7, k7, X7, e7, E7, A7, Y7, st7⟩ := newPE X3 hx hZ (hw _ (gm 9 rfl)) e3 (g := (mkF m 6 #[vR (a_o)] [(.int 4), (.ref a_o)])) rfl (hb hby d1_6) rfl (by decide) (cap := 4) (by decide) (by decide) (by decide) (by decide) (ad := "[D") (by first | rfl | decide)
  obtain ⟨b7, g7⟩ : ∃ z, z = h0.size := ⟨_, rfl⟩
  rw [← g7] at A7 Y7 st7
  have Ne8 : a_o ≠ b7 := Nat.ne_of_lt (Nat.lt_of_lt_of_le hxa.lt (Nat.le_of_eq g7.symm))
  have Ge9 : n0 ≤ b7 := Nat.le_trans Z0 (Nat.le_of_eq g7.symm)
  have Sz10 : h0.size ≤ b7 := Nat.le_trans (Keep.refl h0 [a_o]).1 (Nat.le_of_eq g7.symm)
  have Kc11 : Keep h0 h7 [a_o] := (Keep.refl h0 [a_o]).ext E7
  have Zs12 : n0 ≤ h7.size := (Nat.le_trans Z0 E7.1)
  have V7 : Arv Z h7 b7 k7 .double (4 : Int32) [(.double FP.dconst0), (.double FP.dconst0), (.double FP.dconst0), (.double FP.dconst0)] (.double FP.dconst0) := (Arv.new A7 (by decide)).pad (pad_rep [] (.double FP.dconst0) 4)
  have Fq14 : Exa Z h7 a_o "com/example/merit/merit/ExactSum" := (hxa.ext E7)
  have Fq15 : Fld Z h7 a_o "com/example/merit/merit/ExactSum" "partials" "[D" u_p := (hfp.ext E7)
  obtain ⟨T16, h16, X16, e16, W16, st16⟩ := putF X7 hx hZ hown (host := "") (Or.inl (hw _ (gm 10 rfl))) Via.refl e7 Fq15 Fq14 (Or.inl (hw _ (gm 11 rfl))) (hw _ (gm 1 rfl)) (ty := (.array .double)) (by decide) rfl rfl (g := (mkF m 8 #[vR (a_o)] [(.ref b7), (.ref a_o)])) rfl rfl (hb hby d1_8)
  have Kc17 : Keep h0 h16 [a_o] := Kc11.wr W16 (Or.inl (ga 0 rfl))
  have Zs18 : n0 ≤ h16.size := Nat.le_trans Zs12 (Keep.of_wr W16).1
  have N19 := Fr.snoc X16 N0 hg
  have Fw16 : Fld Z h16 a_o "com/example/merit/merit/ExactSum" "partials" "[D" (.ref b7) := Fq15.same W16
  obtain ⟨fs, hr, hrun, hended, hW, hsame⟩ := X16.leave (v := none) (fun _ => rfl) (hlocks := BodyLoose.notSynchronized Bd)
  refine ⟨_, _, pre0 _ ?_, hrun, hended, _, _, rfl, ?_, ⟨_, rfl⟩, hW, hsame.mono (by decide) (by decide)⟩
  · show SS p e below m s₁ 0 #[vR (a_o)] [] _
    refine XS.aloadN X0.here hx rfl (hb hby d1_0) rfl rfl ?_
    show SS p e below m s₁ 1 #[vR (a_o)] [(.ref a_o)] _
    refine st3 _ ?_
    show SS p e below m T3 4 #[vR (a_o)] [] _
    refine XS.aloadN X3.here hx rfl (hb hby d1_4) rfl rfl ?_
    refine XS.iconst X3.here hx rfl (hb hby d1_5) ?_ --lit 4
    show SS p e below m T3 6 #[vR (a_o)] [(.int 4), (.ref a_o)] _
    refine st7 _ ?_
    show SS p e below m T7 8 #[vR (a_o)] [(.ref b7), (.ref a_o)] _
    refine st16 _ ?_
    show SS p e below m T16 11 #[vR (a_o)] [] _
    exact X16.returnOut hx Bd.returns (hb hby d1_11) hr
  · show Qown_new Z a_o u_p h0 n0 _ T16.heap _
    rw [e16]
    have Fq21 : Fld Z h16 a_o "com/example/merit/merit/ExactSum" "count" "I" (.int 0) := ((hfc.ext E7).other W16 (Or.inr (slot_ne (Or.inl (hw _ (gm 18 rfl))) (Or.inl (hw _ (gm 11 rfl))) (by decide) (t := .int) (t' := (.array .double)) (by decide) (by decide))))
    have Fq22 : Arv Z h16 b7 k7 .double (4 : Int32) [(.double FP.dconst0), (.double FP.dconst0), (.double FP.dconst0), (.double FP.dconst0)] (.double FP.dconst0) := (V7.other W16 (Ne.symm Ne8))
    exact ⟨b7, k7, rfl, N19, Sz10, Kc17, Fw16, Fq21, Fq22⟩
theorem own_pn1 : plainName "com/example/merit/merit/ExactSumValuePinLaw" = true := by first | (simp [plainName, overriddenIn]; done) | decide +kernel
theorem own_ef_own_law (m : MethodId) (q0 : Int64) (q1 : Int64) (q2 : Int64) (q3 : Int64) : entryFrame m #[(.long q0), (.long q1), (.long q2), (.long q3)] maxLocals = mkF m 0 #[.val (.long q0), .second, .val (.long q1), .second, .val (.long q2), .second, .val (.long q3), .second, .unset, .unset, .unset, .unset, .unset, .unset, .unset, .unset, .unset, .unset, .unset, .unset, .unset, .unset, .unset, .unset, .unset, .unset, .unset, .unset, .unset, .unset, .unset] [] := by first | (simp [entryFrame, mkF, argsToLocals, Value.category, maxLocals]; done) | rfl
theorem own_pd1 : parseMethodDescriptor "()V" = some ⟨[], none⟩ := by decide +kernel
theorem own_pd2 : parseMethodDescriptor "(D)V" = some ⟨[.double], none⟩ := by decide +kernel
theorem own_pd3 : parseMethodDescriptor "()D" = some ⟨[], some .double⟩ := by decide +kernel
def Qown_law (Z : State) (q0 : Int64) (q1 : Int64) (q2 : Int64) (q3 : Int64) (h0 : Heap) (n0 : Nat) (v : Option Value) (h : Heap) (L : List Loc) : Prop := v = some (.int 1) ∧ Fr n0 L
set_option maxRecDepth 65536 in
set_option maxHeartbeats 40000000 in
theorem own_law (l : Launch) (Z : State) (a0 : Array Value) (hw : ∀ d ∈ tables_1, d.before a0 Z = true) (ws : List Jvm.Cond) (q0 : Int64) (q1 : Int64) (q2 : Int64) (q3 : Int64) (h0 : Heap) (n0 : Nat) (Z0 : n0 ≤ h0.size) :
    MetFree l x (head1 (Jvm.Cond.code x code maxLocals ret :: ws) room_1) (fun a U => a = #[(.long q0), (.long q1), (.long q2), (.long q3)] ∧ Z.Warmed39 U.vm ∧ U.heap = h0) (fun _ _ _ _ _ => True) (fun _ U o U' => ∃ v L, o = .returned v ∧ Qown_law Z q0 q1 q2 q3 h0 n0 v U'.heap L ∧ FrameEnd U o U' L room_1.cells room_1.slots) := by
  refine MetFree.of_bodySF (plainFor_of_name own_pn1) hisR ?_
  intro p e s m args below meth c s₁ Bd hml0 hP hK
  obtain ⟨rfl, hZ, hh⟩ := hP
  have hx := Bd.exec
  have hby := Bd.bytes
  have hml : c.maxLocals = 31 := hml0
  have hown : s.vm.findClass "com/example/merit/merit/ExactSumValuePinLaw" = some m.cls := findClass_of_methodNamed Bd.named
  have hnm := (name_of_methodNamed Bd.named Bd.method).1
  have X0 : Stand p l e room_1 s m #[(.long q0), (.long q1), (.long q2), (.long q3)] below meth c s₁ [] 0 0 := Stand.of_body Bd
  have e0 : s₁.heap = h0 := by rw [← hh, Bd.state]; rfl
  have N0 := Fr.nil n0
  have pre0 : ∀ t, Steps p.tables e below (s₁.setTop (mkF m 0 #[vJ (q0), s_, vJ (q1), s_, vJ (q2), s_, vJ (q3), s_, u_, u_, u_, u_, u_, u_, u_, u_, u_, u_, u_, u_, u_, u_, u_, u_, u_, u_, u_, u_, u_, u_, u_] [])) t → Steps p.tables e below (s₁.setTop (entryFrame m #[(.long q0), (.long q1), (.long q2), (.long q3)] maxLocals)) t := fun t k => castTop (own_ef_own_law m q0 q1 q2 q3) k
  obtain ⟨A0, rA0, bA0, eA0⟩ := own_in q0
  obtain ⟨A1, rA1, bA1, eA1⟩ := own_in q1
  obtain ⟨A2, rA2, bA2, eA2⟩ := own_in q2
  obtain ⟨A3, rA3, bA3, eA3⟩ := own_in q3
  obtain ⟨kR1, kR2, kR3, kR4, kB2, kB3, kB4, kl1, kl2, kl3, kl4, kS2, kS4, kT2, kT4, kV2, kV4⟩ := own_all rA0 rA1 rA2 rA3 bA0 bA1 bA2 bA3
  obtain ⟨T34, h34, X34, e34, E34, A34, D34, -, st34⟩ := newO X0 hx hZ hown (hw _ (gm 0 rfl)) (hw _ (gm 1 rfl)) (hw _ (gm 2 rfl)) e0 (g := (mkF m 46 #[vJ (q0), s_, vJ (q1), s_, vJ (q2), s_, vJ (q3), s_, vD ((own_D A0)), s_, vD ((own_D A1)), s_, vD ((own_D A2)), s_, vD ((own_D A3)), s_, vJ ((Int64.ofInt A0)), s_, vJ ((Int64.ofInt A1)), s_, vJ ((Int64.ofInt A2)), s_, vJ ((Int64.ofInt A3)), s_, u_, u_, u_, u_, u_, u_, u_] [])) rfl (hb hby at_46) (by decide) (by decide)
  obtain ⟨b34, g34⟩ : ∃ z, z = h0.size := ⟨_, rfl⟩
  rw [← g34] at A34 D34 st34
  have Ge35 : n0 ≤ b34 := Nat.le_trans Z0 (Nat.le_of_eq g34.symm)
  have Sz36 : h0.size ≤ b34 := Nat.le_trans (Keep.refl h0 []).1 (Nat.le_of_eq g34.symm)
  have Kc37 : Keep h0 h34 [] := (Keep.refl h0 []).ext E34
  have Zs38 : n0 ≤ h34.size := (Nat.le_trans Z0 E34.1)
  have F34_partials : Fld Z h34 b34 "com/example/merit/merit/ExactSum" "partials" "[D" .null := D34 (Or.inl (hw _ (gm 11 rfl))) (ty := (.array .double)) (by decide)
  have F34_count : Fld Z h34 b34 "com/example/merit/merit/ExactSum" "count" "I" (.int 0) := D34 (Or.inl (hw _ (gm 18 rfl))) (ty := .int) (by decide)
  obtain ⟨_, _, ⟨T41, L41, k41, n41⟩, -, X41, ⟨Lc41, hQ41, l41, y41, z41⟩, st41⟩ := X34.specialBack hx (y := (⟨"com/example/merit/merit/ExactSum", "<init>", "()V"⟩ : MethodName)) rfl hown (mvT hZ (hw _ (gm 3 rfl))) (mvT hZ (hw _ (gm 4 rfl))) (mvT hZ (hw _ (gm 5 rfl))) (by decide) (backOf (W := 1) (own_new l Z a0 hw [] b34 .null h34 n0 Zs38 A34 F34_partials F34_count Ge35) hZ (hw _ (gm 5 rfl)) (hw _ (gm 2 rfl)) (by decide) (by decide)) (g := (mkF m 50 #[vJ (q0), s_, vJ (q1), s_, vJ (q2), s_, vJ (q3), s_, vD ((own_D A0)), s_, vD ((own_D A1)), s_, vD ((own_D A2)), s_, vD ((own_D A3)), s_, vJ ((Int64.ofInt A0)), s_, vJ ((Int64.ofInt A1)), s_, vJ ((Int64.ofInt A2)), s_, vJ ((Int64.ofInt A3)), s_, u_, u_, u_, u_, u_, u_, u_] [(.ref b34), (.ref b34)])) rfl (by rw [hml]; rfl) (Steps.refl _) (a := b34) (argsL := []) (rest := [(.ref b34)]) (lenOf own_pd1 rfl) rfl (by show 2 * 0 + _ ≤ _; exact Nat.le_of_eq rfl) (hb hby at_50) (fun _ _ => ⟨rfl, e34, (by decide : 1 + 1 ≤ _), (by decide : 2 + 4 ≤ _)⟩)
  dsimp only [Pt.U, Pt.locs, Pt.cells, Pt.slots] at X41 l41 y41 z41 st41 hQ41
  rw [l41, y41, z41] at X41
  obtain ⟨r_o_41, k_r_41, rfl, Nq41, sz41_r_o, K41, Pf41_0, Pf41_1, Pf41_2⟩ := hQ41
  have N42 := Fr.app N0 Nq41
  have Ne43 : b34 ≠ r_o_41 := Nat.ne_of_lt (Nat.lt_of_lt_of_le A34.lt sz41_r_o)
  have Ge44 : n0 ≤ r_o_41 := Nat.le_trans Zs38 sz41_r_o
  have Sz45 : h0.size ≤ r_o_41 := Nat.le_trans Kc37.1 sz41_r_o
  have Kc46 : Keep h0 T41.heap [] := Kc37.trans K41 (allS (Or.inr Sz36) all0)
  have Zs47 : n0 ≤ T41.heap.size := Nat.le_trans Zs38 K41.1
  have Fc50 : Fld Z T41.heap b34 "com/example/merit/merit/ExactSum" "count" "I" (.int (Int32.ofNat ([] : List Int).length)) := Pf41_1
  have Fq54 : Exa Z T41.heap b34 "com/example/merit/merit/ExactSum" := (A34.keep K41)
  obtain ⟨cq53, kq53, q53a, q53b, q53c⟩ := isOf hZ rfl Fq54
  obtain ⟨_, _, ⟨T53, L53, k53, n53⟩, -, X53, ⟨Lc53, hQ53, l53, y53, z53⟩, st53⟩ := X41.virtualBack hx (y := (⟨"com/example/merit/merit/ExactSum", "add", "(D)V"⟩ : MethodName)) (z := (⟨"com/example/merit/merit/ExactSum", "add", "(D)V"⟩ : MethodName)) hown (mvT hZ (hw _ (gm 12 rfl))) (mvT hZ (hw _ (gm 13 rfl))) (notFace_of_selects (args := #[]) (mvT hZ (hw _ (gm 15 rfl)))) (mvT hZ (hw _ (gm 15 rfl))) (mvT hZ (hw _ (gm 14 rfl))) (by decide) (backOf (W := 0) (own_add l Z a0 hw [] A0 b34 r_o_41 k_r_41 ([] : List Int) [(.double FP.dconst0), (.double FP.dconst0), (.double FP.dconst0), (.double FP.dconst0)] T41.heap n0 Zs47 Fq54 Pf41_0 Fc50 Pf41_2 Ge35 Ge44 Ne43 ⟨rfl, rfl⟩ rA0 (fun _ q => nomatch q) (by simp only [own_abs, List.map_nil, List.sum_nil]; omega) (by decide)) hZ (hw _ (gm 16 rfl)) (hw _ (gm 2 rfl)) (by decide) (by decide)) q53a q53c (g := (mkF m 59 #[vJ (q0), s_, vJ (q1), s_, vJ (q2), s_, vJ (q3), s_, vD ((own_D A0)), s_, vD ((own_D A1)), s_, vD ((own_D A2)), s_, vD ((own_D A3)), s_, vJ ((Int64.ofInt A0)), s_, vJ ((Int64.ofInt A1)), s_, vJ ((Int64.ofInt A2)), s_, vJ ((Int64.ofInt A3)), s_, vR (b34), u_, u_, u_, u_, u_, u_] [(.double (own_D A0)), (.ref b34)])) rfl (by rw [hml]; rfl) (Steps.refl _) (argsL := [(.double (own_D A0))]) (rest := []) (lenOf own_pd2 rfl) rfl (by show 2 * 0 + _ ≤ _; exact Nat.le_of_eq rfl) (hb hby at_59) (fun _ _ => ⟨rfl, rfl, (by decide : 2 + 0 ≤ _), (by decide : 6 + 0 ≤ _)⟩)
  dsimp only [Pt.U, Pt.locs, Pt.cells, Pt.slots] at X53 l53 y53 z53 st53 hQ53
  rw [l53, y53, z53] at X53
  obtain ⟨vs_r_53, rfl, Nq53, K53, Pf53_0, Pf53_1, Pf53_2, Pf53_3⟩ := hQ53
  have N55 := Fr.app N42 Nq53
  have Kc56 : Keep h0 T53.heap [] := Kc46.trans K53 (allS (Or.inr Sz36) (allS (Or.inr Sz45) all0))
  have Zs57 : n0 ≤ T53.heap.size := Nat.le_trans Zs47 K53.1
  have Fq62 : Exa Z T53.heap b34 "com/example/merit/merit/ExactSum" := (Fq54.keep K53)
  obtain ⟨cq61, kq61, q61a, q61b, q61c⟩ := isOf hZ rfl Fq62
  obtain ⟨_, _, ⟨T61, L61, k61, n61⟩, -, X61, ⟨Lc61, hQ61, l61, y61, z61⟩, st61⟩ := X53.virtualBack hx (y := (⟨"com/example/merit/merit/ExactSum", "add", "(D)V"⟩ : MethodName)) (z := (⟨"com/example/merit/merit/ExactSum", "add", "(D)V"⟩ : MethodName)) hown (mvT hZ (hw _ (gm 12 rfl))) (mvT hZ (hw _ (gm 13 rfl))) (notFace_of_selects (args := #[]) (mvT hZ (hw _ (gm 15 rfl)))) (mvT hZ (hw _ (gm 15 rfl))) (mvT hZ (hw _ (gm 14 rfl))) (by decide) (backOf (W := 0) (own_add l Z a0 hw [] A1 b34 r_o_41 k_r_41 (own_addL A0 ([] : List Int)) vs_r_53 T53.heap n0 Zs57 Fq62 Pf53_0 Pf53_2 Pf53_1 Ge35 Ge44 Ne43 Pf53_3 rA1 kR1 kB2 (Nat.le_trans kl1 (by decide))) hZ (hw _ (gm 16 rfl)) (hw _ (gm 2 rfl)) (by decide) (by decide)) q61a q61c (g := (mkF m 66 #[vJ (q0), s_, vJ (q1), s_, vJ (q2), s_, vJ (q3), s_, vD ((own_D A0)), s_, vD ((own_D A1)), s_, vD ((own_D A2)), s_, vD ((own_D A3)), s_, vJ ((Int64.ofInt A0)), s_, vJ ((Int64.ofInt A1)), s_, vJ ((Int64.ofInt A2)), s_, vJ ((Int64.ofInt A3)), s_, vR (b34), u_, u_, u_, u_, u_, u_] [(.double (own_D A1)), (.ref b34)])) rfl (by rw [hml]; rfl) (Steps.refl _) (argsL := [(.double (own_D A1))]) (rest := []) (lenOf own_pd2 rfl) rfl (by show 2 * 0 + _ ≤ _; exact Nat.le_of_eq rfl) (hb hby at_66) (fun _ _ => ⟨rfl, rfl, (by decide : 2 + 0 ≤ _), (by decide : 6 + 0 ≤ _)⟩)
  dsimp only [Pt.U, Pt.locs, Pt.cells, Pt.slots] at X61 l61 y61 z61 st61 hQ61
  rw [l61, y61, z61] at X61
  obtain ⟨vs_r_61, rfl, Nq61, K61, Pf61_0, Pf61_1, Pf61_2, Pf61_3⟩ := hQ61
  have N63 := Fr.app N55 Nq61
  have Kc64 : Keep h0 T61.heap [] := Kc56.trans K61 (allS (Or.inr Sz36) (allS (Or.inr Sz45) all0))
  have Zs65 : n0 ≤ T61.heap.size := Nat.le_trans Zs57 K61.1
  have Fq69 : Exa Z T61.heap b34 "com/example/merit/merit/ExactSum" := (Fq62.keep K61)
  obtain ⟨cq68, kq68, q68a, q68b, q68c⟩ := isOf hZ rfl Fq69
  obtain ⟨_, _, ⟨T68, L68, k68, n68⟩, -, X68, ⟨Lc68, hQ68, l68, y68, z68⟩, st68⟩ := X61.virtualBack hx (y := (⟨"com/example/merit/merit/ExactSum", "value", "()D"⟩ : MethodName)) (z := (⟨"com/example/merit/merit/ExactSum", "value", "()D"⟩ : MethodName)) hown (mvT hZ (hw _ (gm 19 rfl))) (mvT hZ (hw _ (gm 20 rfl))) (notFace_of_selects (args := #[]) (mvT hZ (hw _ (gm 22 rfl)))) (mvT hZ (hw _ (gm 22 rfl))) (mvT hZ (hw _ (gm 21 rfl))) (by decide) (backOf (W := 0) (own_vl l Z a0 hw [] b34 r_o_41 k_r_41 (own_addL A1 (own_addL A0 ([] : List Int))) vs_r_61 T61.heap n0 Zs65 Fq69 Pf61_0 Pf61_2 Pf61_1 Pf61_3 kR2 kS2 kT2 (Nat.le_trans kl2 (by decide))) hZ (hw _ (gm 23 rfl)) (hw _ (gm 2 rfl)) (by decide) (by decide)) q68a q68c (g := (mkF m 71 #[vJ (q0), s_, vJ (q1), s_, vJ (q2), s_, vJ (q3), s_, vD ((own_D A0)), s_, vD ((own_D A1)), s_, vD ((own_D A2)), s_, vD ((own_D A3)), s_, vJ ((Int64.ofInt A0)), s_, vJ ((Int64.ofInt A1)), s_, vJ ((Int64.ofInt A2)), s_, vJ ((Int64.ofInt A3)), s_, vR (b34), u_, u_, u_, u_, u_, u_] [(.ref b34)])) rfl (by rw [hml]; rfl) (Steps.refl _) (argsL := []) (rest := []) (lenOf own_pd3 rfl) rfl (by show 2 * 0 + _ ≤ _; exact Nat.le_of_eq rfl) (hb hby at_71) (fun _ _ => ⟨rfl, rfl, (by decide : 2 + 0 ≤ _), (by decide : 6 + 0 ≤ _)⟩)
  dsimp only [Pt.U, Pt.locs, Pt.cells, Pt.slots] at X68 l68 y68 z68 st68 hQ68
  rw [l68, y68, z68] at X68
  obtain ⟨rfl, Nq68, eh68⟩ := hQ68
  have N70 := Fr.app N63 Nq68
  obtain ⟨cq75, kq75, q75a, q75b, q75c⟩ := isOf hZ eh68 Fq69
  obtain ⟨_, _, ⟨T75, L75, k75, n75⟩, -, X75, ⟨Lc75, hQ75, l75, y75, z75⟩, st75⟩ := X68.virtualBack hx (y := (⟨"com/example/merit/merit/ExactSum", "add", "(D)V"⟩ : MethodName)) (z := (⟨"com/example/merit/merit/ExactSum", "add", "(D)V"⟩ : MethodName)) hown (mvT hZ (hw _ (gm 12 rfl))) (mvT hZ (hw _ (gm 13 rfl))) (notFace_of_selects (args := #[]) (mvT hZ (hw _ (gm 15 rfl)))) (mvT hZ (hw _ (gm 15 rfl))) (mvT hZ (hw _ (gm 14 rfl))) (by decide) (backOf (W := 0) (own_add l Z a0 hw [] A2 b34 r_o_41 k_r_41 (own_addL A1 (own_addL A0 ([] : List Int))) vs_r_61 T61.heap n0 Zs65 Fq69 Pf61_0 Pf61_2 Pf61_1 Ge35 Ge44 Ne43 Pf61_3 rA2 kR2 kB3 (Nat.le_trans kl2 (by decide))) hZ (hw _ (gm 16 rfl)) (hw _ (gm 2 rfl)) (by decide) (by decide)) q75a q75c (g := (mkF m 80 #[vJ (q0), s_, vJ (q1), s_, vJ (q2), s_, vJ (q3), s_, vD ((own_D A0)), s_, vD ((own_D A1)), s_, vD ((own_D A2)), s_, vD ((own_D A3)), s_, vJ ((Int64.ofInt A0)), s_, vJ ((Int64.ofInt A1)), s_, vJ ((Int64.ofInt A2)), s_, vJ ((Int64.ofInt A3)), s_, vR (b34), vD ((own_D (own_val (own_addL A1 (own_addL A0 ([] : List Int))).reverse))), s_, u_, u_, u_, u_] [(.double (own_D A2)), (.ref b34)])) rfl (by rw [hml]; rfl) (Steps.refl _) (argsL := [(.double (own_D A2))]) (rest := []) (lenOf own_pd2 rfl) rfl (by show 2 * 0 + _ ≤ _; exact Nat.le_of_eq rfl) (hb hby at_80) (fun _ _ => ⟨rfl, eh68, (by decide : 2 + 0 ≤ _), (by decide : 6 + 0 ≤ _)⟩)
  dsimp only [Pt.U, Pt.locs, Pt.cells, Pt.slots] at X75 l75 y75 z75 st75 hQ75
  rw [l75, y75, z75] at X75
  obtain ⟨vs_r_75, rfl, Nq75, K75, Pf75_0, Pf75_1, Pf75_2, Pf75_3⟩ := hQ75
  have N76 := Fr.app N70 Nq75
  have Kc77 : Keep h0 T75.heap [] := Kc64.trans K75 (allS (Or.inr Sz36) (allS (Or.inr Sz45) all0))
  have Zs78 : n0 ≤ T75.heap.size := Nat.le_trans Zs65 K75.1
  have Fq83 : Exa Z T75.heap b34 "com/example/merit/merit/ExactSum" := (Fq69.keep K75)
  obtain ⟨cq82, kq82, q82a, q82b, q82c⟩ := isOf hZ rfl Fq83
  obtain ⟨_, _, ⟨T82, L82, k82, n82⟩, -, X82, ⟨Lc82, hQ82, l82, y82, z82⟩, st82⟩ := X75.virtualBack hx (y := (⟨"com/example/merit/merit/ExactSum", "add", "(D)V"⟩ : MethodName)) (z := (⟨"com/example/merit/merit/ExactSum", "add", "(D)V"⟩ : MethodName)) hown (mvT hZ (hw _ (gm 12 rfl))) (mvT hZ (hw _ (gm 13 rfl))) (notFace_of_selects (args := #[]) (mvT hZ (hw _ (gm 15 rfl)))) (mvT hZ (hw _ (gm 15 rfl))) (mvT hZ (hw _ (gm 14 rfl))) (by decide) (backOf (W := 0) (own_add l Z a0 hw [] A3 b34 r_o_41 k_r_41 (own_addL A2 (own_addL A1 (own_addL A0 ([] : List Int)))) vs_r_75 T75.heap n0 Zs78 Fq83 Pf75_0 Pf75_2 Pf75_1 Ge35 Ge44 Ne43 Pf75_3 rA3 kR3 kB4 kl3) hZ (hw _ (gm 16 rfl)) (hw _ (gm 2 rfl)) (by decide) (by decide)) q82a q82c (g := (mkF m 87 #[vJ (q0), s_, vJ (q1), s_, vJ (q2), s_, vJ (q3), s_, vD ((own_D A0)), s_, vD ((own_D A1)), s_, vD ((own_D A2)), s_, vD ((own_D A3)), s_, vJ ((Int64.ofInt A0)), s_, vJ ((Int64.ofInt A1)), s_, vJ ((Int64.ofInt A2)), s_, vJ ((Int64.ofInt A3)), s_, vR (b34), vD ((own_D (own_val (own_addL A1 (own_addL A0 ([] : List Int))).reverse))), s_, u_, u_, u_, u_] [(.double (own_D A3)), (.ref b34)])) rfl (by rw [hml]; rfl) (Steps.refl _) (argsL := [(.double (own_D A3))]) (rest := []) (lenOf own_pd2 rfl) rfl (by show 2 * 0 + _ ≤ _; exact Nat.le_of_eq rfl) (hb hby at_87) (fun _ _ => ⟨rfl, rfl, (by decide : 2 + 0 ≤ _), (by decide : 6 + 0 ≤ _)⟩)
  dsimp only [Pt.U, Pt.locs, Pt.cells, Pt.slots] at X82 l82 y82 z82 st82 hQ82
  rw [l82, y82, z82] at X82
  obtain ⟨vs_r_82, rfl, Nq82, K82, Pf82_0, Pf82_1, Pf82_2, Pf82_3⟩ := hQ82
  have N84 := Fr.app N76 Nq82
  have Kc85 : Keep h0 T82.heap [] := Kc77.trans K82 (allS (Or.inr Sz36) (allS (Or.inr Sz45) all0))
  have Zs86 : n0 ≤ T82.heap.size := Nat.le_trans Zs78 K82.1
  have Fq90 : Exa Z T82.heap b34 "com/example/merit/merit/ExactSum" := (Fq83.keep K82)
  obtain ⟨cq89, kq89, q89a, q89b, q89c⟩ := isOf hZ rfl Fq90
  obtain ⟨_, _, ⟨T89, L89, k89, n89⟩, -, X89, ⟨Lc89, hQ89, l89, y89, z89⟩, st89⟩ := X82.virtualBack hx (y := (⟨"com/example/merit/merit/ExactSum", "value", "()D"⟩ : MethodName)) (z := (⟨"com/example/merit/merit/ExactSum", "value", "()D"⟩ : MethodName)) hown (mvT hZ (hw _ (gm 19 rfl))) (mvT hZ (hw _ (gm 20 rfl))) (notFace_of_selects (args := #[]) (mvT hZ (hw _ (gm 22 rfl)))) (mvT hZ (hw _ (gm 22 rfl))) (mvT hZ (hw _ (gm 21 rfl))) (by decide) (backOf (W := 0) (own_vl l Z a0 hw [] b34 r_o_41 k_r_41 (own_addL A3 (own_addL A2 (own_addL A1 (own_addL A0 ([] : List Int))))) vs_r_82 T82.heap n0 Zs86 Fq90 Pf82_0 Pf82_2 Pf82_1 Pf82_3 kR4 kS4 kT4 kl4) hZ (hw _ (gm 23 rfl)) (hw _ (gm 2 rfl)) (by decide) (by decide)) q89a q89c (g := (mkF m 92 #[vJ (q0), s_, vJ (q1), s_, vJ (q2), s_, vJ (q3), s_, vD ((own_D A0)), s_, vD ((own_D A1)), s_, vD ((own_D A2)), s_, vD ((own_D A3)), s_, vJ ((Int64.ofInt A0)), s_, vJ ((Int64.ofInt A1)), s_, vJ ((Int64.ofInt A2)), s_, vJ ((Int64.ofInt A3)), s_, vR (b34), vD ((own_D (own_val (own_addL A1 (own_addL A0 ([] : List Int))).reverse))), s_, u_, u_, u_, u_] [(.ref b34)])) rfl (by rw [hml]; rfl) (Steps.refl _) (argsL := []) (rest := []) (lenOf own_pd3 rfl) rfl (by show 2 * 0 + _ ≤ _; exact Nat.le_of_eq rfl) (hb hby at_92) (fun _ _ => ⟨rfl, rfl, (by decide : 2 + 0 ≤ _), (by decide : 6 + 0 ≤ _)⟩)
  dsimp only [Pt.U, Pt.locs, Pt.cells, Pt.slots] at X89 l89 y89 z89 st89 hQ89
  rw [l89, y89, z89] at X89
  obtain ⟨rfl, Nq89, eh89⟩ := hQ89
  have N91 := Fr.app N84 Nq89
  obtain ⟨fs, hr, hrun, hended, hW, hsame⟩ := X89.leave (v := some (.int 1)) (fun h => by rw [Bd.returns] at h; cases h) (hlocks := BodyLoose.notSynchronized Bd)
  refine ⟨_, _, pre0 _ ?_, hrun, hended, _, _, rfl, ?_, ⟨_, rfl⟩, hW, hsame.mono (by decide) (by decide)⟩
  · show SS p e below m s₁ 0 #[vJ (q0), s_, vJ (q1), s_, vJ (q2), s_, vJ (q3), s_, u_, u_, u_, u_, u_, u_, u_, u_, u_, u_, u_, u_, u_, u_, u_, u_, u_, u_, u_, u_, u_, u_, u_] [] _
    refine XS.lloadN X0.here hx rfl (hb hby at_0) rfl ?_
    refine XS.iconst X0.here hx rfl (hb hby at_1) ?_ --lit 3
    show SS p e below m s₁ 2 #[vJ (q0), s_, vJ (q1), s_, vJ (q2), s_, vJ (q3), s_, u_, u_, u_, u_, u_, u_, u_, u_, u_, u_, u_, u_, u_, u_, u_, u_, u_, u_, u_, u_, u_, u_, u_] [(.int 3), (.long q0)] _
    refine XS.lshr X0.here hx rfl (hb hby at_2) rfl ?_
    show SS p e below m s₁ 3 #[vJ (q0), s_, vJ (q1), s_, vJ (q2), s_, vJ (q3), s_, u_, u_, u_, u_, u_, u_, u_, u_, u_, u_, u_, u_, u_, u_, u_, u_, u_, u_, u_, u_, u_, u_, u_] [(.long (q0 >>> ((3 : Int32) &&& 0x3f).toInt64))] _
    refine XS.l2dS X0.here hx rfl (hb hby at_3) rfl eA0 ?_
    show SS p e below m s₁ 4 #[vJ (q0), s_, vJ (q1), s_, vJ (q2), s_, vJ (q3), s_, u_, u_, u_, u_, u_, u_, u_, u_, u_, u_, u_, u_, u_, u_, u_, u_, u_, u_, u_, u_, u_, u_, u_] [(.double (own_D A0))] _
    refine XS.dstore X0.here hx rfl (hb hby at_4) rfl (l' := #[vJ (q0), s_, vJ (q1), s_, vJ (q2), s_, vJ (q3), s_, vD ((own_D A0)), s_, u_, u_, u_, u_, u_, u_, u_, u_, u_, u_, u_, u_, u_, u_, u_, u_, u_, u_, u_, u_, u_]) rfl ?_
    refine XS.lloadN X0.here hx rfl (hb hby at_6) rfl ?_
    refine XS.iconst X0.here hx rfl (hb hby at_7) ?_ --lit 3
    show SS p e below m s₁ 8 #[vJ (q0), s_, vJ (q1), s_, vJ (q2), s_, vJ (q3), s_, vD ((own_D A0)), s_, u_, u_, u_, u_, u_, u_, u_, u_, u_, u_, u_, u_, u_, u_, u_, u_, u_, u_, u_, u_, u_] [(.int 3), (.long q1)] _
    refine XS.lshr X0.here hx rfl (hb hby at_8) rfl ?_
    show SS p e below m s₁ 9 #[vJ (q0), s_, vJ (q1), s_, vJ (q2), s_, vJ (q3), s_, vD ((own_D A0)), s_, u_, u_, u_, u_, u_, u_, u_, u_, u_, u_, u_, u_, u_, u_, u_, u_, u_, u_, u_, u_, u_] [(.long (q1 >>> ((3 : Int32) &&& 0x3f).toInt64))] _
    refine XS.l2dS X0.here hx rfl (hb hby at_9) rfl eA1 ?_
    show SS p e below m s₁ 10 #[vJ (q0), s_, vJ (q1), s_, vJ (q2), s_, vJ (q3), s_, vD ((own_D A0)), s_, u_, u_, u_, u_, u_, u_, u_, u_, u_, u_, u_, u_, u_, u_, u_, u_, u_, u_, u_, u_, u_] [(.double (own_D A1))] _
    refine XS.dstore X0.here hx rfl (hb hby at_10) rfl (l' := #[vJ (q0), s_, vJ (q1), s_, vJ (q2), s_, vJ (q3), s_, vD ((own_D A0)), s_, vD ((own_D A1)), s_, u_, u_, u_, u_, u_, u_, u_, u_, u_, u_, u_, u_, u_, u_, u_, u_, u_, u_, u_]) rfl ?_
    refine XS.lload X0.here hx rfl (hb hby at_12) rfl ?_
    refine XS.iconst X0.here hx rfl (hb hby at_14) ?_ --lit 3
    show SS p e below m s₁ 15 #[vJ (q0), s_, vJ (q1), s_, vJ (q2), s_, vJ (q3), s_, vD ((own_D A0)), s_, vD ((own_D A1)), s_, u_, u_, u_, u_, u_, u_, u_, u_, u_, u_, u_, u_, u_, u_, u_, u_, u_, u_, u_] [(.int 3), (.long q2)] _
    refine XS.lshr X0.here hx rfl (hb hby at_15) rfl ?_
    show SS p e below m s₁ 16 #[vJ (q0), s_, vJ (q1), s_, vJ (q2), s_, vJ (q3), s_, vD ((own_D A0)), s_, vD ((own_D A1)), s_, u_, u_, u_, u_, u_, u_, u_, u_, u_, u_, u_, u_, u_, u_, u_, u_, u_, u_, u_] [(.long (q2 >>> ((3 : Int32) &&& 0x3f).toInt64))] _
    refine XS.l2dS X0.here hx rfl (hb hby at_16) rfl eA2 ?_
    show SS p e below m s₁ 17 #[vJ (q0), s_, vJ (q1), s_, vJ (q2), s_, vJ (q3), s_, vD ((own_D A0)), s_, vD ((own_D A1)), s_, u_, u_, u_, u_, u_, u_, u_, u_, u_, u_, u_, u_, u_, u_, u_, u_, u_, u_, u_] [(.double (own_D A2))] _
    refine XS.dstore X0.here hx rfl (hb hby at_17) rfl (l' := #[vJ (q0), s_, vJ (q1), s_, vJ (q2), s_, vJ (q3), s_, vD ((own_D A0)), s_, vD ((own_D A1)), s_, vD ((own_D A2)), s_, u_, u_, u_, u_, u_, u_, u_, u_, u_, u_, u_, u_, u_, u_, u_, u_, u_]) rfl ?_
    refine XS.lload X0.here hx rfl (hb hby at_19) rfl ?_
    refine XS.iconst X0.here hx rfl (hb hby at_21) ?_ --lit 3
    show SS p e below m s₁ 22 #[vJ (q0), s_, vJ (q1), s_, vJ (q2), s_, vJ (q3), s_, vD ((own_D A0)), s_, vD ((own_D A1)), s_, vD ((own_D A2)), s_, u_, u_, u_, u_, u_, u_, u_, u_, u_, u_, u_, u_, u_, u_, u_, u_, u_] [(.int 3), (.long q3)] _
    refine XS.lshr X0.here hx rfl (hb hby at_22) rfl ?_
    show SS p e below m s₁ 23 #[vJ (q0), s_, vJ (q1), s_, vJ (q2), s_, vJ (q3), s_, vD ((own_D A0)), s_, vD ((own_D A1)), s_, vD ((own_D A2)), s_, u_, u_, u_, u_, u_, u_, u_, u_, u_, u_, u_, u_, u_, u_, u_, u_, u_] [(.long (q3 >>> ((3 : Int32) &&& 0x3f).toInt64))] _
    refine XS.l2dS X0.here hx rfl (hb hby at_23) rfl eA3 ?_
    show SS p e below m s₁ 24 #[vJ (q0), s_, vJ (q1), s_, vJ (q2), s_, vJ (q3), s_, vD ((own_D A0)), s_, vD ((own_D A1)), s_, vD ((own_D A2)), s_, u_, u_, u_, u_, u_, u_, u_, u_, u_, u_, u_, u_, u_, u_, u_, u_, u_] [(.double (own_D A3))] _
    refine XS.dstore X0.here hx rfl (hb hby at_24) rfl (l' := #[vJ (q0), s_, vJ (q1), s_, vJ (q2), s_, vJ (q3), s_, vD ((own_D A0)), s_, vD ((own_D A1)), s_, vD ((own_D A2)), s_, vD ((own_D A3)), s_, u_, u_, u_, u_, u_, u_, u_, u_, u_, u_, u_, u_, u_, u_, u_]) rfl ?_
    refine XS.dload X0.here hx rfl (hb hby at_26) rfl ?_
    show SS p e below m s₁ 28 #[vJ (q0), s_, vJ (q1), s_, vJ (q2), s_, vJ (q3), s_, vD ((own_D A0)), s_, vD ((own_D A1)), s_, vD ((own_D A2)), s_, vD ((own_D A3)), s_, u_, u_, u_, u_, u_, u_, u_, u_, u_, u_, u_, u_, u_, u_, u_] [(.double (own_D A0))] _
    refine XS.d2lS X0.here hx rfl (hb hby at_28) rfl (own_Dd2l rA0 (by omega) (by omega)) ?_
    show SS p e below m s₁ 29 #[vJ (q0), s_, vJ (q1), s_, vJ (q2), s_, vJ (q3), s_, vD ((own_D A0)), s_, vD ((own_D A1)), s_, vD ((own_D A2)), s_, vD ((own_D A3)), s_, u_, u_, u_, u_, u_, u_, u_, u_, u_, u_, u_, u_, u_, u_, u_] [(.long (Int64.ofInt A0))] _
    refine XS.lstore X0.here hx rfl (hb hby at_29) rfl (l' := #[vJ (q0), s_, vJ (q1), s_, vJ (q2), s_, vJ (q3), s_, vD ((own_D A0)), s_, vD ((own_D A1)), s_, vD ((own_D A2)), s_, vD ((own_D A3)), s_, vJ ((Int64.ofInt A0)), s_, u_, u_, u_, u_, u_, u_, u_, u_, u_, u_, u_, u_, u_]) rfl ?_
    refine XS.dload X0.here hx rfl (hb hby at_31) rfl ?_
    show SS p e below m s₁ 33 #[vJ (q0), s_, vJ (q1), s_, vJ (q2), s_, vJ (q3), s_, vD ((own_D A0)), s_, vD ((own_D A1)), s_, vD ((own_D A2)), s_, vD ((own_D A3)), s_, vJ ((Int64.ofInt A0)), s_, u_, u_, u_, u_, u_, u_, u_, u_, u_, u_, u_, u_, u_] [(.double (own_D A1))] _
    refine XS.d2lS X0.here hx rfl (hb hby at_33) rfl (own_Dd2l rA1 (by omega) (by omega)) ?_
    show SS p e below m s₁ 34 #[vJ (q0), s_, vJ (q1), s_, vJ (q2), s_, vJ (q3), s_, vD ((own_D A0)), s_, vD ((own_D A1)), s_, vD ((own_D A2)), s_, vD ((own_D A3)), s_, vJ ((Int64.ofInt A0)), s_, u_, u_, u_, u_, u_, u_, u_, u_, u_, u_, u_, u_, u_] [(.long (Int64.ofInt A1))] _
    refine XS.lstore X0.here hx rfl (hb hby at_34) rfl (l' := #[vJ (q0), s_, vJ (q1), s_, vJ (q2), s_, vJ (q3), s_, vD ((own_D A0)), s_, vD ((own_D A1)), s_, vD ((own_D A2)), s_, vD ((own_D A3)), s_, vJ ((Int64.ofInt A0)), s_, vJ ((Int64.ofInt A1)), s_, u_, u_, u_, u_, u_, u_, u_, u_, u_, u_, u_]) rfl ?_
    refine XS.dload X0.here hx rfl (hb hby at_36) rfl ?_
    show SS p e below m s₁ 38 #[vJ (q0), s_, vJ (q1), s_, vJ (q2), s_, vJ (q3), s_, vD ((own_D A0)), s_, vD ((own_D A1)), s_, vD ((own_D A2)), s_, vD ((own_D A3)), s_, vJ ((Int64.ofInt A0)), s_, vJ ((Int64.ofInt A1)), s_, u_, u_, u_, u_, u_, u_, u_, u_, u_, u_, u_] [(.double (own_D A2))] _
    refine XS.d2lS X0.here hx rfl (hb hby at_38) rfl (own_Dd2l rA2 (by omega) (by omega)) ?_
    show SS p e below m s₁ 39 #[vJ (q0), s_, vJ (q1), s_, vJ (q2), s_, vJ (q3), s_, vD ((own_D A0)), s_, vD ((own_D A1)), s_, vD ((own_D A2)), s_, vD ((own_D A3)), s_, vJ ((Int64.ofInt A0)), s_, vJ ((Int64.ofInt A1)), s_, u_, u_, u_, u_, u_, u_, u_, u_, u_, u_, u_] [(.long (Int64.ofInt A2))] _
    refine XS.lstore X0.here hx rfl (hb hby at_39) rfl (l' := #[vJ (q0), s_, vJ (q1), s_, vJ (q2), s_, vJ (q3), s_, vD ((own_D A0)), s_, vD ((own_D A1)), s_, vD ((own_D A2)), s_, vD ((own_D A3)), s_, vJ ((Int64.ofInt A0)), s_, vJ ((Int64.ofInt A1)), s_, vJ ((Int64.ofInt A2)), s_, u_, u_, u_, u_, u_, u_, u_, u_, u_]) rfl ?_
    refine XS.dload X0.here hx rfl (hb hby at_41) rfl ?_
    show SS p e below m s₁ 43 #[vJ (q0), s_, vJ (q1), s_, vJ (q2), s_, vJ (q3), s_, vD ((own_D A0)), s_, vD ((own_D A1)), s_, vD ((own_D A2)), s_, vD ((own_D A3)), s_, vJ ((Int64.ofInt A0)), s_, vJ ((Int64.ofInt A1)), s_, vJ ((Int64.ofInt A2)), s_, u_, u_, u_, u_, u_, u_, u_, u_, u_] [(.double (own_D A3))] _
    refine XS.d2lS X0.here hx rfl (hb hby at_43) rfl (own_Dd2l rA3 (by omega) (by omega)) ?_
    show SS p e below m s₁ 44 #[vJ (q0), s_, vJ (q1), s_, vJ (q2), s_, vJ (q3), s_, vD ((own_D A0)), s_, vD ((own_D A1)), s_, vD ((own_D A2)), s_, vD ((own_D A3)), s_, vJ ((Int64.ofInt A0)), s_, vJ ((Int64.ofInt A1)), s_, vJ ((Int64.ofInt A2)), s_, u_, u_, u_, u_, u_, u_, u_, u_, u_] [(.long (Int64.ofInt A3))] _
    refine XS.lstore X0.here hx rfl (hb hby at_44) rfl (l' := #[vJ (q0), s_, vJ (q1), s_, vJ (q2), s_, vJ (q3), s_, vD ((own_D A0)), s_, vD ((own_D A1)), s_, vD ((own_D A2)), s_, vD ((own_D A3)), s_, vJ ((Int64.ofInt A0)), s_, vJ ((Int64.ofInt A1)), s_, vJ ((Int64.ofInt A2)), s_, vJ ((Int64.ofInt A3)), s_, u_, u_, u_, u_, u_, u_, u_]) rfl ?_
    show SS p e below m s₁ 46 #[vJ (q0), s_, vJ (q1), s_, vJ (q2), s_, vJ (q3), s_, vD ((own_D A0)), s_, vD ((own_D A1)), s_, vD ((own_D A2)), s_, vD ((own_D A3)), s_, vJ ((Int64.ofInt A0)), s_, vJ ((Int64.ofInt A1)), s_, vJ ((Int64.ofInt A2)), s_, vJ ((Int64.ofInt A3)), s_, u_, u_, u_, u_, u_, u_, u_] [] _
    refine st34 _ ?_
    show SS p e below m T34 49 #[vJ (q0), s_, vJ (q1), s_, vJ (q2), s_, vJ (q3), s_, vD ((own_D A0)), s_, vD ((own_D A1)), s_, vD ((own_D A2)), s_, vD ((own_D A3)), s_, vJ ((Int64.ofInt A0)), s_, vJ ((Int64.ofInt A1)), s_, vJ ((Int64.ofInt A2)), s_, vJ ((Int64.ofInt A3)), s_, u_, u_, u_, u_, u_, u_, u_] [(.ref b34)] _
    refine XS.dup X34.here hx rfl (hb hby at_49) rfl rfl ?_
    show SS p e below m T34 50 #[vJ (q0), s_, vJ (q1), s_, vJ (q2), s_, vJ (q3), s_, vD ((own_D A0)), s_, vD ((own_D A1)), s_, vD ((own_D A2)), s_, vD ((own_D A3)), s_, vJ ((Int64.ofInt A0)), s_, vJ ((Int64.ofInt A1)), s_, vJ ((Int64.ofInt A2)), s_, vJ ((Int64.ofInt A3)), s_, u_, u_, u_, u_, u_, u_, u_] [(.ref b34), (.ref b34)] _
    refine st41.trans ?_
    show SS p e below m T41 53 #[vJ (q0), s_, vJ (q1), s_, vJ (q2), s_, vJ (q3), s_, vD ((own_D A0)), s_, vD ((own_D A1)), s_, vD ((own_D A2)), s_, vD ((own_D A3)), s_, vJ ((Int64.ofInt A0)), s_, vJ ((Int64.ofInt A1)), s_, vJ ((Int64.ofInt A2)), s_, vJ ((Int64.ofInt A3)), s_, u_, u_, u_, u_, u_, u_, u_] [(.ref b34)] _
    refine XS.astore X41.here hx rfl (hb hby at_53) rfl rfl (l' := #[vJ (q0), s_, vJ (q1), s_, vJ (q2), s_, vJ (q3), s_, vD ((own_D A0)), s_, vD ((own_D A1)), s_, vD ((own_D A2)), s_, vD ((own_D A3)), s_, vJ ((Int64.ofInt A0)), s_, vJ ((Int64.ofInt A1)), s_, vJ ((Int64.ofInt A2)), s_, vJ ((Int64.ofInt A3)), s_, vR (b34), u_, u_, u_, u_, u_, u_]) rfl ?_
    refine XS.aload X41.here hx rfl (hb hby at_55) rfl rfl ?_
    refine XS.dload X41.here hx rfl (hb hby at_57) rfl ?_
    show SS p e below m T41 59 #[vJ (q0), s_, vJ (q1), s_, vJ (q2), s_, vJ (q3), s_, vD ((own_D A0)), s_, vD ((own_D A1)), s_, vD ((own_D A2)), s_, vD ((own_D A3)), s_, vJ ((Int64.ofInt A0)), s_, vJ ((Int64.ofInt A1)), s_, vJ ((Int64.ofInt A2)), s_, vJ ((Int64.ofInt A3)), s_, vR (b34), u_, u_, u_, u_, u_, u_] [(.double (own_D A0)), (.ref b34)] _
    refine st53.trans ?_
    show SS p e below m T53 62 #[vJ (q0), s_, vJ (q1), s_, vJ (q2), s_, vJ (q3), s_, vD ((own_D A0)), s_, vD ((own_D A1)), s_, vD ((own_D A2)), s_, vD ((own_D A3)), s_, vJ ((Int64.ofInt A0)), s_, vJ ((Int64.ofInt A1)), s_, vJ ((Int64.ofInt A2)), s_, vJ ((Int64.ofInt A3)), s_, vR (b34), u_, u_, u_, u_, u_, u_] [] _
    refine XS.aload X53.here hx rfl (hb hby at_62) rfl rfl ?_
    refine XS.dload X53.here hx rfl (hb hby at_64) rfl ?_
    show SS p e below m T53 66 #[vJ (q0), s_, vJ (q1), s_, vJ (q2), s_, vJ (q3), s_, vD ((own_D A0)), s_, vD ((own_D A1)), s_, vD ((own_D A2)), s_, vD ((own_D A3)), s_, vJ ((Int64.ofInt A0)), s_, vJ ((Int64.ofInt A1)), s_, vJ ((Int64.ofInt A2)), s_, vJ ((Int64.ofInt A3)), s_, vR (b34), u_, u_, u_, u_, u_, u_] [(.double (own_D A1)), (.ref b34)] _
    refine st61.trans ?_
    show SS p e below m T61 69 #[vJ (q0), s_, vJ (q1), s_, vJ (q2), s_, vJ (q3), s_, vD ((own_D A0)), s_, vD ((own_D A1)), s_, vD ((own_D A2)), s_, vD ((own_D A3)), s_, vJ ((Int64.ofInt A0)), s_, vJ ((Int64.ofInt A1)), s_, vJ ((Int64.ofInt A2)), s_, vJ ((Int64.ofInt A3)), s_, vR (b34), u_, u_, u_, u_, u_, u_] [] _
    refine XS.aload X61.here hx rfl (hb hby at_69) rfl rfl ?_
    show SS p e below m T61 71 #[vJ (q0), s_, vJ (q1), s_, vJ (q2), s_, vJ (q3), s_, vD ((own_D A0)), s_, vD ((own_D A1)), s_, vD ((own_D A2)), s_, vD ((own_D A3)), s_, vJ ((Int64.ofInt A0)), s_, vJ ((Int64.ofInt A1)), s_, vJ ((Int64.ofInt A2)), s_, vJ ((Int64.ofInt A3)), s_, vR (b34), u_, u_, u_, u_, u_, u_] [(.ref b34)] _
    refine st68.trans ?_
    show SS p e below m T68 74 #[vJ (q0), s_, vJ (q1), s_, vJ (q2), s_, vJ (q3), s_, vD ((own_D A0)), s_, vD ((own_D A1)), s_, vD ((own_D A2)), s_, vD ((own_D A3)), s_, vJ ((Int64.ofInt A0)), s_, vJ ((Int64.ofInt A1)), s_, vJ ((Int64.ofInt A2)), s_, vJ ((Int64.ofInt A3)), s_, vR (b34), u_, u_, u_, u_, u_, u_] [(.double (own_D (own_val (own_addL A1 (own_addL A0 ([] : List Int))).reverse)))] _
    refine XS.dstore X68.here hx rfl (hb hby at_74) rfl (l' := #[vJ (q0), s_, vJ (q1), s_, vJ (q2), s_, vJ (q3), s_, vD ((own_D A0)), s_, vD ((own_D A1)), s_, vD ((own_D A2)), s_, vD ((own_D A3)), s_, vJ ((Int64.ofInt A0)), s_, vJ ((Int64.ofInt A1)), s_, vJ ((Int64.ofInt A2)), s_, vJ ((Int64.ofInt A3)), s_, vR (b34), vD ((own_D (own_val (own_addL A1 (own_addL A0 ([] : List Int))).reverse))), s_, u_, u_, u_, u_]) rfl ?_
    refine XS.aload X68.here hx rfl (hb hby at_76) rfl rfl ?_
    refine XS.dload X68.here hx rfl (hb hby at_78) rfl ?_
    show SS p e below m T68 80 #[vJ (q0), s_, vJ (q1), s_, vJ (q2), s_, vJ (q3), s_, vD ((own_D A0)), s_, vD ((own_D A1)), s_, vD ((own_D A2)), s_, vD ((own_D A3)), s_, vJ ((Int64.ofInt A0)), s_, vJ ((Int64.ofInt A1)), s_, vJ ((Int64.ofInt A2)), s_, vJ ((Int64.ofInt A3)), s_, vR (b34), vD ((own_D (own_val (own_addL A1 (own_addL A0 ([] : List Int))).reverse))), s_, u_, u_, u_, u_] [(.double (own_D A2)), (.ref b34)] _
    refine st75.trans ?_
    show SS p e below m T75 83 #[vJ (q0), s_, vJ (q1), s_, vJ (q2), s_, vJ (q3), s_, vD ((own_D A0)), s_, vD ((own_D A1)), s_, vD ((own_D A2)), s_, vD ((own_D A3)), s_, vJ ((Int64.ofInt A0)), s_, vJ ((Int64.ofInt A1)), s_, vJ ((Int64.ofInt A2)), s_, vJ ((Int64.ofInt A3)), s_, vR (b34), vD ((own_D (own_val (own_addL A1 (own_addL A0 ([] : List Int))).reverse))), s_, u_, u_, u_, u_] [] _
    refine XS.aload X75.here hx rfl (hb hby at_83) rfl rfl ?_
    refine XS.dload X75.here hx rfl (hb hby at_85) rfl ?_
    show SS p e below m T75 87 #[vJ (q0), s_, vJ (q1), s_, vJ (q2), s_, vJ (q3), s_, vD ((own_D A0)), s_, vD ((own_D A1)), s_, vD ((own_D A2)), s_, vD ((own_D A3)), s_, vJ ((Int64.ofInt A0)), s_, vJ ((Int64.ofInt A1)), s_, vJ ((Int64.ofInt A2)), s_, vJ ((Int64.ofInt A3)), s_, vR (b34), vD ((own_D (own_val (own_addL A1 (own_addL A0 ([] : List Int))).reverse))), s_, u_, u_, u_, u_] [(.double (own_D A3)), (.ref b34)] _
    refine st82.trans ?_
    show SS p e below m T82 90 #[vJ (q0), s_, vJ (q1), s_, vJ (q2), s_, vJ (q3), s_, vD ((own_D A0)), s_, vD ((own_D A1)), s_, vD ((own_D A2)), s_, vD ((own_D A3)), s_, vJ ((Int64.ofInt A0)), s_, vJ ((Int64.ofInt A1)), s_, vJ ((Int64.ofInt A2)), s_, vJ ((Int64.ofInt A3)), s_, vR (b34), vD ((own_D (own_val (own_addL A1 (own_addL A0 ([] : List Int))).reverse))), s_, u_, u_, u_, u_] [] _
    refine XS.aload X82.here hx rfl (hb hby at_90) rfl rfl ?_
    show SS p e below m T82 92 #[vJ (q0), s_, vJ (q1), s_, vJ (q2), s_, vJ (q3), s_, vD ((own_D A0)), s_, vD ((own_D A1)), s_, vD ((own_D A2)), s_, vD ((own_D A3)), s_, vJ ((Int64.ofInt A0)), s_, vJ ((Int64.ofInt A1)), s_, vJ ((Int64.ofInt A2)), s_, vJ ((Int64.ofInt A3)), s_, vR (b34), vD ((own_D (own_val (own_addL A1 (own_addL A0 ([] : List Int))).reverse))), s_, u_, u_, u_, u_] [(.ref b34)] _
    refine st89.trans ?_
    show SS p e below m T89 95 #[vJ (q0), s_, vJ (q1), s_, vJ (q2), s_, vJ (q3), s_, vD ((own_D A0)), s_, vD ((own_D A1)), s_, vD ((own_D A2)), s_, vD ((own_D A3)), s_, vJ ((Int64.ofInt A0)), s_, vJ ((Int64.ofInt A1)), s_, vJ ((Int64.ofInt A2)), s_, vJ ((Int64.ofInt A3)), s_, vR (b34), vD ((own_D (own_val (own_addL A1 (own_addL A0 ([] : List Int))).reverse))), s_, u_, u_, u_, u_] [(.double (own_D (own_val (own_addL A3 (own_addL A2 (own_addL A1 (own_addL A0 ([] : List Int))))).reverse)))] _
    refine XS.dstore X89.here hx rfl (hb hby at_95) rfl (l' := #[vJ (q0), s_, vJ (q1), s_, vJ (q2), s_, vJ (q3), s_, vD ((own_D A0)), s_, vD ((own_D A1)), s_, vD ((own_D A2)), s_, vD ((own_D A3)), s_, vJ ((Int64.ofInt A0)), s_, vJ ((Int64.ofInt A1)), s_, vJ ((Int64.ofInt A2)), s_, vJ ((Int64.ofInt A3)), s_, vR (b34), vD ((own_D (own_val (own_addL A1 (own_addL A0 ([] : List Int))).reverse))), s_, vD ((own_D (own_val (own_addL A3 (own_addL A2 (own_addL A1 (own_addL A0 ([] : List Int))))).reverse))), s_, u_, u_]) rfl ?_
    refine XS.dload X89.here hx rfl (hb hby at_97) rfl ?_
    refine XS.lload X89.here hx rfl (hb hby at_99) rfl ?_
    show SS p e below m T89 101 #[vJ (q0), s_, vJ (q1), s_, vJ (q2), s_, vJ (q3), s_, vD ((own_D A0)), s_, vD ((own_D A1)), s_, vD ((own_D A2)), s_, vD ((own_D A3)), s_, vJ ((Int64.ofInt A0)), s_, vJ ((Int64.ofInt A1)), s_, vJ ((Int64.ofInt A2)), s_, vJ ((Int64.ofInt A3)), s_, vR (b34), vD ((own_D (own_val (own_addL A1 (own_addL A0 ([] : List Int))).reverse))), s_, vD ((own_D (own_val (own_addL A3 (own_addL A2 (own_addL A1 (own_addL A0 ([] : List Int))))).reverse))), s_, u_, u_] [(.long (Int64.ofInt A0)), (.double (own_D (own_val (own_addL A1 (own_addL A0 ([] : List Int))).reverse)))] _
    refine XS.lload X89.here hx rfl (hb hby at_101) rfl ?_
    show SS p e below m T89 103 #[vJ (q0), s_, vJ (q1), s_, vJ (q2), s_, vJ (q3), s_, vD ((own_D A0)), s_, vD ((own_D A1)), s_, vD ((own_D A2)), s_, vD ((own_D A3)), s_, vJ ((Int64.ofInt A0)), s_, vJ ((Int64.ofInt A1)), s_, vJ ((Int64.ofInt A2)), s_, vJ ((Int64.ofInt A3)), s_, vR (b34), vD ((own_D (own_val (own_addL A1 (own_addL A0 ([] : List Int))).reverse))), s_, vD ((own_D (own_val (own_addL A3 (own_addL A2 (own_addL A1 (own_addL A0 ([] : List Int))))).reverse))), s_, u_, u_] [(.long (Int64.ofInt A1)), (.long (Int64.ofInt A0)), (.double (own_D (own_val (own_addL A1 (own_addL A0 ([] : List Int))).reverse)))] _
    refine XS.ladd X89.here hx rfl (hb hby at_103) rfl ?_
    show SS p e below m T89 104 #[vJ (q0), s_, vJ (q1), s_, vJ (q2), s_, vJ (q3), s_, vD ((own_D A0)), s_, vD ((own_D A1)), s_, vD ((own_D A2)), s_, vD ((own_D A3)), s_, vJ ((Int64.ofInt A0)), s_, vJ ((Int64.ofInt A1)), s_, vJ ((Int64.ofInt A2)), s_, vJ ((Int64.ofInt A3)), s_, vR (b34), vD ((own_D (own_val (own_addL A1 (own_addL A0 ([] : List Int))).reverse))), s_, vD ((own_D (own_val (own_addL A3 (own_addL A2 (own_addL A1 (own_addL A0 ([] : List Int))))).reverse))), s_, u_, u_] [(.long ((Int64.ofInt A0) + (Int64.ofInt A1))), (.double (own_D (own_val (own_addL A1 (own_addL A0 ([] : List Int))).reverse)))] _
    refine XS.l2dS X89.here hx rfl (hb hby at_104) rfl (own_l2a A0 A1) ?_
    show SS p e below m T89 105 #[vJ (q0), s_, vJ (q1), s_, vJ (q2), s_, vJ (q3), s_, vD ((own_D A0)), s_, vD ((own_D A1)), s_, vD ((own_D A2)), s_, vD ((own_D A3)), s_, vJ ((Int64.ofInt A0)), s_, vJ ((Int64.ofInt A1)), s_, vJ ((Int64.ofInt A2)), s_, vJ ((Int64.ofInt A3)), s_, vR (b34), vD ((own_D (own_val (own_addL A1 (own_addL A0 ([] : List Int))).reverse))), s_, vD ((own_D (own_val (own_addL A3 (own_addL A2 (own_addL A1 (own_addL A0 ([] : List Int))))).reverse))), s_, u_, u_] [(.double (own_D (A0 + A1))), (.double (own_D (own_val (own_addL A1 (own_addL A0 ([] : List Int))).reverse)))] _
    refine XS.dcmpS X89.here hx rfl (hb hby at_105) rfl (dcmpV_eq (by rw [kV2]; exact own_Drn (by omega) (by omega)) (nn_w (a := Int64.ofInt _) rfl) _) ?_
    show SS p e below m T89 106 #[vJ (q0), s_, vJ (q1), s_, vJ (q2), s_, vJ (q3), s_, vD ((own_D A0)), s_, vD ((own_D A1)), s_, vD ((own_D A2)), s_, vD ((own_D A3)), s_, vJ ((Int64.ofInt A0)), s_, vJ ((Int64.ofInt A1)), s_, vJ ((Int64.ofInt A2)), s_, vJ ((Int64.ofInt A3)), s_, vR (b34), vD ((own_D (own_val (own_addL A1 (own_addL A0 ([] : List Int))).reverse))), s_, vD ((own_D (own_val (own_addL A3 (own_addL A2 (own_addL A1 (own_addL A0 ([] : List Int))))).reverse))), s_, u_, u_] [(.int 0)] _
    refine XS.ifNo X89.here hx rfl (hb hby at_106) rfl ((if0 _ _).trans (teq ((by decide) : (0 : Int32) = (0 : Int32))).2) ?_
    refine XS.iconst X89.here hx rfl (hb hby at_109) ?_ --lit 1
    refine XS.goto X89.here hx rfl (pc0 := 110) (pc' := 114) rfl (hb hby at_110) (by decide) (by decide) ?_
    show SS p e below m T89 114 #[vJ (q0), s_, vJ (q1), s_, vJ (q2), s_, vJ (q3), s_, vD ((own_D A0)), s_, vD ((own_D A1)), s_, vD ((own_D A2)), s_, vD ((own_D A3)), s_, vJ ((Int64.ofInt A0)), s_, vJ ((Int64.ofInt A1)), s_, vJ ((Int64.ofInt A2)), s_, vJ ((Int64.ofInt A3)), s_, vR (b34), vD ((own_D (own_val (own_addL A1 (own_addL A0 ([] : List Int))).reverse))), s_, vD ((own_D (own_val (own_addL A3 (own_addL A2 (own_addL A1 (own_addL A0 ([] : List Int))))).reverse))), s_, u_, u_] [(.int 1)] _
    refine XS.istore X89.here hx rfl (hb hby at_114) rfl (l' := #[vJ (q0), s_, vJ (q1), s_, vJ (q2), s_, vJ (q3), s_, vD ((own_D A0)), s_, vD ((own_D A1)), s_, vD ((own_D A2)), s_, vD ((own_D A3)), s_, vJ ((Int64.ofInt A0)), s_, vJ ((Int64.ofInt A1)), s_, vJ ((Int64.ofInt A2)), s_, vJ ((Int64.ofInt A3)), s_, vR (b34), vD ((own_D (own_val (own_addL A1 (own_addL A0 ([] : List Int))).reverse))), s_, vD ((own_D (own_val (own_addL A3 (own_addL A2 (own_addL A1 (own_addL A0 ([] : List Int))))).reverse))), s_, vI (1), u_]) rfl ?_
    refine XS.dload X89.here hx rfl (hb hby at_116) rfl ?_
    refine XS.lload X89.here hx rfl (hb hby at_118) rfl ?_
    show SS p e below m T89 120 #[vJ (q0), s_, vJ (q1), s_, vJ (q2), s_, vJ (q3), s_, vD ((own_D A0)), s_, vD ((own_D A1)), s_, vD ((own_D A2)), s_, vD ((own_D A3)), s_, vJ ((Int64.ofInt A0)), s_, vJ ((Int64.ofInt A1)), s_, vJ ((Int64.ofInt A2)), s_, vJ ((Int64.ofInt A3)), s_, vR (b34), vD ((own_D (own_val (own_addL A1 (own_addL A0 ([] : List Int))).reverse))), s_, vD ((own_D (own_val (own_addL A3 (own_addL A2 (own_addL A1 (own_addL A0 ([] : List Int))))).reverse))), s_, vI (1), u_] [(.long (Int64.ofInt A0)), (.double (own_D (own_val (own_addL A3 (own_addL A2 (own_addL A1 (own_addL A0 ([] : List Int))))).reverse)))] _
    refine XS.lload X89.here hx rfl (hb hby at_120) rfl ?_
    show SS p e below m T89 122 #[vJ (q0), s_, vJ (q1), s_, vJ (q2), s_, vJ (q3), s_, vD ((own_D A0)), s_, vD ((own_D A1)), s_, vD ((own_D A2)), s_, vD ((own_D A3)), s_, vJ ((Int64.ofInt A0)), s_, vJ ((Int64.ofInt A1)), s_, vJ ((Int64.ofInt A2)), s_, vJ ((Int64.ofInt A3)), s_, vR (b34), vD ((own_D (own_val (own_addL A1 (own_addL A0 ([] : List Int))).reverse))), s_, vD ((own_D (own_val (own_addL A3 (own_addL A2 (own_addL A1 (own_addL A0 ([] : List Int))))).reverse))), s_, vI (1), u_] [(.long (Int64.ofInt A1)), (.long (Int64.ofInt A0)), (.double (own_D (own_val (own_addL A3 (own_addL A2 (own_addL A1 (own_addL A0 ([] : List Int))))).reverse)))] _
    refine XS.ladd X89.here hx rfl (hb hby at_122) rfl ?_
    show SS p e below m T89 123 #[vJ (q0), s_, vJ (q1), s_, vJ (q2), s_, vJ (q3), s_, vD ((own_D A0)), s_, vD ((own_D A1)), s_, vD ((own_D A2)), s_, vD ((own_D A3)), s_, vJ ((Int64.ofInt A0)), s_, vJ ((Int64.ofInt A1)), s_, vJ ((Int64.ofInt A2)), s_, vJ ((Int64.ofInt A3)), s_, vR (b34), vD ((own_D (own_val (own_addL A1 (own_addL A0 ([] : List Int))).reverse))), s_, vD ((own_D (own_val (own_addL A3 (own_addL A2 (own_addL A1 (own_addL A0 ([] : List Int))))).reverse))), s_, vI (1), u_] [(.long ((Int64.ofInt A0) + (Int64.ofInt A1))), (.double (own_D (own_val (own_addL A3 (own_addL A2 (own_addL A1 (own_addL A0 ([] : List Int))))).reverse)))] _
    refine XS.lload X89.here hx rfl (hb hby at_123) rfl ?_
    show SS p e below m T89 125 #[vJ (q0), s_, vJ (q1), s_, vJ (q2), s_, vJ (q3), s_, vD ((own_D A0)), s_, vD ((own_D A1)), s_, vD ((own_D A2)), s_, vD ((own_D A3)), s_, vJ ((Int64.ofInt A0)), s_, vJ ((Int64.ofInt A1)), s_, vJ ((Int64.ofInt A2)), s_, vJ ((Int64.ofInt A3)), s_, vR (b34), vD ((own_D (own_val (own_addL A1 (own_addL A0 ([] : List Int))).reverse))), s_, vD ((own_D (own_val (own_addL A3 (own_addL A2 (own_addL A1 (own_addL A0 ([] : List Int))))).reverse))), s_, vI (1), u_] [(.long (Int64.ofInt A2)), (.long ((Int64.ofInt A0) + (Int64.ofInt A1))), (.double (own_D (own_val (own_addL A3 (own_addL A2 (own_addL A1 (own_addL A0 ([] : List Int))))).reverse)))] _
    refine XS.ladd X89.here hx rfl (hb hby at_125) rfl ?_
    show SS p e below m T89 126 #[vJ (q0), s_, vJ (q1), s_, vJ (q2), s_, vJ (q3), s_, vD ((own_D A0)), s_, vD ((own_D A1)), s_, vD ((own_D A2)), s_, vD ((own_D A3)), s_, vJ ((Int64.ofInt A0)), s_, vJ ((Int64.ofInt A1)), s_, vJ ((Int64.ofInt A2)), s_, vJ ((Int64.ofInt A3)), s_, vR (b34), vD ((own_D (own_val (own_addL A1 (own_addL A0 ([] : List Int))).reverse))), s_, vD ((own_D (own_val (own_addL A3 (own_addL A2 (own_addL A1 (own_addL A0 ([] : List Int))))).reverse))), s_, vI (1), u_] [(.long (((Int64.ofInt A0) + (Int64.ofInt A1)) + (Int64.ofInt A2))), (.double (own_D (own_val (own_addL A3 (own_addL A2 (own_addL A1 (own_addL A0 ([] : List Int))))).reverse)))] _
    refine XS.lload X89.here hx rfl (hb hby at_126) rfl ?_
    show SS p e below m T89 128 #[vJ (q0), s_, vJ (q1), s_, vJ (q2), s_, vJ (q3), s_, vD ((own_D A0)), s_, vD ((own_D A1)), s_, vD ((own_D A2)), s_, vD ((own_D A3)), s_, vJ ((Int64.ofInt A0)), s_, vJ ((Int64.ofInt A1)), s_, vJ ((Int64.ofInt A2)), s_, vJ ((Int64.ofInt A3)), s_, vR (b34), vD ((own_D (own_val (own_addL A1 (own_addL A0 ([] : List Int))).reverse))), s_, vD ((own_D (own_val (own_addL A3 (own_addL A2 (own_addL A1 (own_addL A0 ([] : List Int))))).reverse))), s_, vI (1), u_] [(.long (Int64.ofInt A3)), (.long (((Int64.ofInt A0) + (Int64.ofInt A1)) + (Int64.ofInt A2))), (.double (own_D (own_val (own_addL A3 (own_addL A2 (own_addL A1 (own_addL A0 ([] : List Int))))).reverse)))] _
    refine XS.ladd X89.here hx rfl (hb hby at_128) rfl ?_
    show SS p e below m T89 129 #[vJ (q0), s_, vJ (q1), s_, vJ (q2), s_, vJ (q3), s_, vD ((own_D A0)), s_, vD ((own_D A1)), s_, vD ((own_D A2)), s_, vD ((own_D A3)), s_, vJ ((Int64.ofInt A0)), s_, vJ ((Int64.ofInt A1)), s_, vJ ((Int64.ofInt A2)), s_, vJ ((Int64.ofInt A3)), s_, vR (b34), vD ((own_D (own_val (own_addL A1 (own_addL A0 ([] : List Int))).reverse))), s_, vD ((own_D (own_val (own_addL A3 (own_addL A2 (own_addL A1 (own_addL A0 ([] : List Int))))).reverse))), s_, vI (1), u_] [(.long ((((Int64.ofInt A0) + (Int64.ofInt A1)) + (Int64.ofInt A2)) + (Int64.ofInt A3))), (.double (own_D (own_val (own_addL A3 (own_addL A2 (own_addL A1 (own_addL A0 ([] : List Int))))).reverse)))] _
    refine XS.l2dS X89.here hx rfl (hb hby at_129) rfl (own_l2b A0 A1 A2 A3) ?_
    show SS p e below m T89 130 #[vJ (q0), s_, vJ (q1), s_, vJ (q2), s_, vJ (q3), s_, vD ((own_D A0)), s_, vD ((own_D A1)), s_, vD ((own_D A2)), s_, vD ((own_D A3)), s_, vJ ((Int64.ofInt A0)), s_, vJ ((Int64.ofInt A1)), s_, vJ ((Int64.ofInt A2)), s_, vJ ((Int64.ofInt A3)), s_, vR (b34), vD ((own_D (own_val (own_addL A1 (own_addL A0 ([] : List Int))).reverse))), s_, vD ((own_D (own_val (own_addL A3 (own_addL A2 (own_addL A1 (own_addL A0 ([] : List Int))))).reverse))), s_, vI (1), u_] [(.double (own_D (A0 + A1 + A2 + A3))), (.double (own_D (own_val (own_addL A3 (own_addL A2 (own_addL A1 (own_addL A0 ([] : List Int))))).reverse)))] _
    refine XS.dcmpS X89.here hx rfl (hb hby at_130) rfl (dcmpV_eq (by rw [kV4]; exact own_Drn (by omega) (by omega)) (nn_w (a := Int64.ofInt _) rfl) _) ?_
    show SS p e below m T89 131 #[vJ (q0), s_, vJ (q1), s_, vJ (q2), s_, vJ (q3), s_, vD ((own_D A0)), s_, vD ((own_D A1)), s_, vD ((own_D A2)), s_, vD ((own_D A3)), s_, vJ ((Int64.ofInt A0)), s_, vJ ((Int64.ofInt A1)), s_, vJ ((Int64.ofInt A2)), s_, vJ ((Int64.ofInt A3)), s_, vR (b34), vD ((own_D (own_val (own_addL A1 (own_addL A0 ([] : List Int))).reverse))), s_, vD ((own_D (own_val (own_addL A3 (own_addL A2 (own_addL A1 (own_addL A0 ([] : List Int))))).reverse))), s_, vI (1), u_] [(.int 0)] _
    refine XS.ifNo X89.here hx rfl (hb hby at_131) rfl ((if0 _ _).trans (teq ((by decide) : (0 : Int32) = (0 : Int32))).2) ?_
    refine XS.iconst X89.here hx rfl (hb hby at_134) ?_ --lit 1
    refine XS.goto X89.here hx rfl (pc0 := 135) (pc' := 139) rfl (hb hby at_135) (by decide) (by decide) ?_
    show SS p e below m T89 139 #[vJ (q0), s_, vJ (q1), s_, vJ (q2), s_, vJ (q3), s_, vD ((own_D A0)), s_, vD ((own_D A1)), s_, vD ((own_D A2)), s_, vD ((own_D A3)), s_, vJ ((Int64.ofInt A0)), s_, vJ ((Int64.ofInt A1)), s_, vJ ((Int64.ofInt A2)), s_, vJ ((Int64.ofInt A3)), s_, vR (b34), vD ((own_D (own_val (own_addL A1 (own_addL A0 ([] : List Int))).reverse))), s_, vD ((own_D (own_val (own_addL A3 (own_addL A2 (own_addL A1 (own_addL A0 ([] : List Int))))).reverse))), s_, vI (1), u_] [(.int 1)] _
    refine XS.istore X89.here hx rfl (hb hby at_139) rfl (l' := #[vJ (q0), s_, vJ (q1), s_, vJ (q2), s_, vJ (q3), s_, vD ((own_D A0)), s_, vD ((own_D A1)), s_, vD ((own_D A2)), s_, vD ((own_D A3)), s_, vJ ((Int64.ofInt A0)), s_, vJ ((Int64.ofInt A1)), s_, vJ ((Int64.ofInt A2)), s_, vJ ((Int64.ofInt A3)), s_, vR (b34), vD ((own_D (own_val (own_addL A1 (own_addL A0 ([] : List Int))).reverse))), s_, vD ((own_D (own_val (own_addL A3 (own_addL A2 (own_addL A1 (own_addL A0 ([] : List Int))))).reverse))), s_, vI (1), vI (1)]) rfl ?_
    refine XS.iload X89.here hx rfl (hb hby at_141) rfl ?_
    refine XS.ifNo X89.here hx rfl (hb hby at_143) rfl ((if0 _ _).trans (feq ((by decide) : ¬ ((1 : Int32) = (0 : Int32)))).1) ?_
    show SS p e below m T89 146 #[vJ (q0), s_, vJ (q1), s_, vJ (q2), s_, vJ (q3), s_, vD ((own_D A0)), s_, vD ((own_D A1)), s_, vD ((own_D A2)), s_, vD ((own_D A3)), s_, vJ ((Int64.ofInt A0)), s_, vJ ((Int64.ofInt A1)), s_, vJ ((Int64.ofInt A2)), s_, vJ ((Int64.ofInt A3)), s_, vR (b34), vD ((own_D (own_val (own_addL A1 (own_addL A0 ([] : List Int))).reverse))), s_, vD ((own_D (own_val (own_addL A3 (own_addL A2 (own_addL A1 (own_addL A0 ([] : List Int))))).reverse))), s_, vI (1), vI (1)] [] _
    refine XS.iload X89.here hx rfl (hb hby at_146) rfl ?_
    refine XS.ifNo X89.here hx rfl (hb hby at_148) rfl ((if0 _ _).trans (feq ((by decide) : ¬ ((1 : Int32) = (0 : Int32)))).1) ?_
    refine XS.iconst X89.here hx rfl (hb hby at_151) ?_ --lit 1
    show SS p e below m T89 152 #[vJ (q0), s_, vJ (q1), s_, vJ (q2), s_, vJ (q3), s_, vD ((own_D A0)), s_, vD ((own_D A1)), s_, vD ((own_D A2)), s_, vD ((own_D A3)), s_, vJ ((Int64.ofInt A0)), s_, vJ ((Int64.ofInt A1)), s_, vJ ((Int64.ofInt A2)), s_, vJ ((Int64.ofInt A3)), s_, vR (b34), vD ((own_D (own_val (own_addL A1 (own_addL A0 ([] : List Int))).reverse))), s_, vD ((own_D (own_val (own_addL A3 (own_addL A2 (own_addL A1 (own_addL A0 ([] : List Int))))).reverse))), s_, vI (1), vI (1)] [(.int 1)] _
    refine XS.goto X89.here hx rfl (pc0 := 152) (pc' := 156) rfl (hb hby at_152) (by decide) (by decide) ?_
    show SS p e below m T89 156 #[vJ (q0), s_, vJ (q1), s_, vJ (q2), s_, vJ (q3), s_, vD ((own_D A0)), s_, vD ((own_D A1)), s_, vD ((own_D A2)), s_, vD ((own_D A3)), s_, vJ ((Int64.ofInt A0)), s_, vJ ((Int64.ofInt A1)), s_, vJ ((Int64.ofInt A2)), s_, vJ ((Int64.ofInt A3)), s_, vR (b34), vD ((own_D (own_val (own_addL A1 (own_addL A0 ([] : List Int))).reverse))), s_, vD ((own_D (own_val (own_addL A3 (own_addL A2 (own_addL A1 (own_addL A0 ([] : List Int))))).reverse))), s_, vI (1), vI (1)] [(.int 1)] _
    exact retN X89 hx (t := .boolean) Bd.returns (by simp) (hb hby at_156) hr
  · show Qown_law Z q0 q1 q2 q3 h0 n0 _ T89.heap _
    rw [eh89]
    exact ⟨rfl, N91⟩
set_option maxRecDepth 65536 in
set_option maxHeartbeats 40000000 in
theorem comes_1 {Post : Tables → Env → Array Value → State → Outcome → State → Prop} (hpost : ∀ tb e args s v u, (limb_1_1.after args s (.returned v) u = true ∧ limb_1_2.after args s (.returned v) u = true ∧ True) → FrameEnd s (.returned v) u (Jvm.fieldLocs frame_1_writes args s ++ Jvm.arrayLocs frame_1_arrays args s ++ Jvm.staticLocs frame_1_statics s) 16 128 → Post tb e args s (.returned v) u) :
    ArmFor flags0 classFile x code maxLocals ret World_1 tables_1 room_1 Calls_1 rest_1 Pre_1 Post := by
  intro l hfl _ _ p e ha hc hk s m args below hf hA hF happ hP
  obtain ⟨hcalls, hrest, hpre⟩ := hP
  obtain ⟨-, -, -, hnamed, -, -, -, hat⟩ := (Spec.applies_iff hf).mp happ
  obtain ⟨hg, hn⟩ := and_e (Cond.before_iff.mp (show (Jvm.Cond.and given_1 narrow_1).before args s = true from hpre))
  obtain ⟨gg1, gg2⟩ := and_e hg
  obtain ⟨gg3, gg4⟩ := and_e gg2
  obtain ⟨gg5, gg6⟩ := and_e gg4
  obtain ⟨gg7, gg8⟩ := and_e gg6
  obtain ⟨w0, w1, w2, w3, rfl⟩ : ∃ w0 w1 w2 w3 : Value, args = #[w0, w1, w2, w3] := by
    have hs : args.size = 4 := by simpa [Cond.value, given_1] using gg1
    obtain ⟨L⟩ := args
    match L, hs with
    | [w0, w1, w2, w3], _ => exact ⟨w0, w1, w2, w3, rfl⟩
  have hw := fun d (hd : d ∈ tables_1) => atoms_spec (ws := Jvm.Cond.code x code maxLocals ret :: tables_1) hat d (List.mem_cons_of_mem _ hd)
  obtain ⟨i0, ei0⟩ := isL_v gg3
  obtain rfl : w0 = (.long i0) := Option.some.inj ei0
  obtain ⟨i1, ei1⟩ := isL_v gg5
  obtain rfl : w1 = (.long i1) := Option.some.inj ei1
  obtain ⟨i2, ei2⟩ := isL_v gg7
  obtain rfl : w2 = (.long i2) := Option.some.inj ei2
  obtain ⟨i3, ei3⟩ := isL_v gg8
  obtain rfl : w3 = (.long i3) := Option.some.inj ei3
  obtain ⟨n, o, h1, h2, h3, _, L, rfl, ⟨rfl, N⟩, hq⟩ := own_law l s _ hw tables_1 i0 i1 i2 i3 s.heap s.heap.size (Nat.le_refl _) p e ha hc hk s m _ below hf ((Spec.applies_iff_loose hf).mp happ).1 ⟨rfl, State.Warmed39.refl s, rfl⟩ trivial
  refine ⟨n, _, h1, h2, h3, hpost _ _ _ _ _ _ ⟨Cond.after_iff.mpr rfl, Cond.after_iff.mpr (eq_i res_at (Term.int_eval (1)) rfl), trivial⟩ ⟨hq.1, hq.2.1, (hq.2.2.sift fun y hy => Or.inr (N y hy)).mono (by decide) (by decide)⟩⟩
theorem main_1_1 : Claimed_1_1 := comes_1 fun _ _ _ _ _ _ h hF => ⟨h.1, hF⟩
theorem main_1_2 : Claimed_1_2 := comes_1 fun _ _ _ _ _ _ h hF => ⟨h.2.1, hF⟩
end Jvm.Pilot.@@N@@
namespace Jvm.Pilot.@@N@@
open Jvm Jvm.ClassFile Sem Op Lib Jvm.Free Jvm.Stand Jvm.Pilot.@@N@@.Jvm.D
/-! MADE BY PROGRAM (witnessworld.py) out of the Statement's table words and the real class files: 11 classes; the members and pool entries that the words name. The judged class is class 1, her method 1. -/
namespace start1
open Jvm.ClassFile
def u (s : String) : CpInfo := .utf8 (stringToUtf16 s)
/-- a pool by its gaps: so many unusable entries, then the entry; so many at the end -/
def gap : Nat → List CpInfo → List CpInfo
  | 0, r => r
  | n + 1, r => .unusable :: gap n r
def poolList (es : List (Nat × CpInfo)) (last : Nat) : List CpInfo := es.foldr (fun e r => gap e.1 (e.2 :: r)) (gap last [])
def pool (es : List (Nat × CpInfo)) (last : Nat) : Array CpInfo := ⟨poolList es last⟩
def fileOf (pool : Array CpInfo) (this : Nat) (attrs : Array Attribute := #[]) (ms : Array MethodInfo := #[]) (fl : Nat := 33) (sup : Nat := 0) (ifs : Array Nat := #[]) (fds : Array FieldInfo := #[]) : ClassFile where
  minorVersion := 0
  majorVersion := 65
  constantPool := pool
  accessFlags := fl
  thisClass := this
  superClass := sup
  interfaces := ifs
  fields := fds
  methods := ms
  attributes := attrs
def plain (name : String) (sup : Option ClassId) : Class where
  name := name
  kind := .ordinary
  loader := none
  accessFlags := 33
  super := sup
  interfaces := #[]
  cf := none
  fields := #[]
  methods := #[]
  instanceTypes := #[]
  staticTypes := #[]
  resolved := #[]
  callSites := []
  init := .initialized
  statics := none
  mirror := none

def pool0 : Array CpInfo := pool [(5, u "<init>"), (0, u "()V"), (1, .class_ 10), (1, u "java/lang/Object")] 113

def k0c0 : Code := { maxStack := 0, maxLocals := 1, code := object_method_1_code, exceptionTable := #[], attributes := #[] }
def k0m0 : Method := { name := "<init>", desc := "()V", sig := { parameters := [], returnType := none }, accessFlags := 1, code := some k0c0 }
/-- java/lang/Object -/
def k0 : Class := { plain "java/lang/Object" none with
  accessFlags := 33
  interfaces := #[]
  cf := some (fileOf pool0 8 #[] #[{ accessFlags := 1, nameIndex := 5, descriptorIndex := 6, attributes := #[] }] 33 0 #[] #[])
  fields := #[]
  methods := #[k0m0]
  instanceTypes := #[]
  staticTypes := #[]
  resolved := Array.replicate 124 none
  statics := none }

def pool1 : Array CpInfo := pool [(2, .class_ 4), (0, .nameAndType 5 6), (0, u "java/lang/Object"), (0, u "<init>"), (0, u "()V"), (0, .class_ 8), (0, u "com/example/merit/merit/ExactSum"), (0, .methodref 7 3), (0, .methodref 7 11), (0, .nameAndType 12 13), (0, u "add"), (0, u "(D)V"), (0, .methodref 7 15), (0, .nameAndType 16 17), (0, u "value"), (0, u "()D"), (0, .class_ 19), (0, u "com/example/merit/merit/ExactSumValuePinLaw"), (2, u "law"), (0, u "(JJJJ)Z")] 3

def k1m0 : Method := { name := "<init>", desc := "()V", sig := { parameters := [], returnType := none }, accessFlags := 1, code := none }
def k1c1 : Code := { maxStack := 6, maxLocals := 31, code := code, exceptionTable := #[], attributes := #[] }
def k1m1 : Method := { name := "law", desc := "(JJJJ)Z", sig := { parameters := [.long, .long, .long, .long], returnType := some .boolean }, accessFlags := 9, code := some k1c1 }
/-- com/example/merit/merit/ExactSumValuePinLaw -/
def k1 : Class := { plain "com/example/merit/merit/ExactSumValuePinLaw" (some 0) with
  accessFlags := 49
  interfaces := #[]
  cf := some (fileOf pool1 18 #[] #[{ accessFlags := 1, nameIndex := 5, descriptorIndex := 6, attributes := #[] }, { accessFlags := 9, nameIndex := 22, descriptorIndex := 23, attributes := #[] }] 49 2 #[] #[])
  fields := #[]
  methods := #[k1m0, k1m1]
  instanceTypes := #[]
  staticTypes := #[]
  resolved := Array.replicate 27 none
  statics := none }

def pool2 : Array CpInfo := pool [(1, .methodref 2 3), (0, .class_ 4), (0, .nameAndType 5 6), (0, u "java/lang/Object"), (0, u "<init>"), (0, u "()V"), (0, .fieldref 8 9), (0, .class_ 10), (0, .nameAndType 11 12), (0, u "com/example/merit/merit/ExactSum"), (0, u "partials"), (0, u "[D"), (0, .fieldref 8 14), (0, .nameAndType 15 16), (0, u "count"), (0, u "I"), (0, .methodref 8 18), (0, .nameAndType 19 20), (0, u "roundingError"), (0, u "(DDD)D"), (6, .double 4611686018427387904), (3, u "add"), (0, u "(D)V"), (1, u "value"), (0, u "()D")] 3

def k2c0 : Code := { maxStack := 2, maxLocals := 1, code := prog_12_method_1_code, exceptionTable := #[], attributes := #[] }
def k2m0 : Method := { name := "<init>", desc := "()V", sig := { parameters := [], returnType := none }, accessFlags := 0, code := some k2c0 }
def k2c1 : Code := { maxStack := 6, maxLocals := 13, code := prog_12_method_2_code, exceptionTable := #[], attributes := #[] }
def k2m1 : Method := { name := "add", desc := "(D)V", sig := { parameters := [.double], returnType := none }, accessFlags := 0, code := some k2c1 }
def k2c2 : Code := { maxStack := 6, maxLocals := 10, code := prog_12_method_3_code, exceptionTable := #[], attributes := #[] }
def k2m2 : Method := { name := "value", desc := "()D", sig := { parameters := [], returnType := some .double }, accessFlags := 0, code := some k2c2 }
def k2c3 : Code := { maxStack := 6, maxLocals := 8, code := prog_12_method_5_code, exceptionTable := #[], attributes := #[] }
def k2m3 : Method := { name := "roundingError", desc := "(DDD)D", sig := { parameters := [.double, .double, .double], returnType := some .double }, accessFlags := 8, code := some k2c3 }
/-- com/example/merit/merit/ExactSum -/
def k2 : Class := { plain "com/example/merit/merit/ExactSum" (some 0) with
  accessFlags := 48
  interfaces := #[]
  cf := some (fileOf pool2 8 #[] #[{ accessFlags := 0, nameIndex := 5, descriptorIndex := 6, attributes := #[] }, { accessFlags := 0, nameIndex := 31, descriptorIndex := 32, attributes := #[] }, { accessFlags := 0, nameIndex := 34, descriptorIndex := 35, attributes := #[] }, { accessFlags := 8, nameIndex := 19, descriptorIndex := 20, attributes := #[] }] 48 2 #[] #[{ accessFlags := 2, nameIndex := 11, descriptorIndex := 12, attributes := #[] }, { accessFlags := 2, nameIndex := 15, descriptorIndex := 16, attributes := #[] }])
  fields := #[{ name := "partials", type := (.array .double), accessFlags := 2, slot := 0, constantValue := 0 }, { name := "count", type := .int, accessFlags := 2, slot := 1, constantValue := 0 }]
  methods := #[k2m0, k2m1, k2m2, k2m3]
  instanceTypes := #[(.array .double), .int]
  staticTypes := #[]
  resolved := Array.replicate 39 none
  statics := none }

def pool3 : Array CpInfo := pool [(1, u "java/lang/Cloneable"), (0, .class_ 1), (0, u "java/lang/Object"), (0, .class_ 3)] 3

/-- java/lang/Cloneable -/
def k3 : Class := { plain "java/lang/Cloneable" (some 0) with
  accessFlags := 1537
  interfaces := #[]
  cf := some (fileOf pool3 2 #[] #[] 1537 4 #[] #[])
  fields := #[]
  methods := #[]
  instanceTypes := #[]
  staticTypes := #[]
  resolved := Array.replicate 8 none
  statics := none }

def pool4 : Array CpInfo := pool [(1, u "java/io/Serializable"), (0, .class_ 1), (0, u "java/lang/Object"), (0, .class_ 3)] 3

/-- java/io/Serializable -/
def k4 : Class := { plain "java/io/Serializable" (some 0) with
  accessFlags := 1537
  interfaces := #[]
  cf := some (fileOf pool4 2 #[] #[] 1537 4 #[] #[])
  fields := #[]
  methods := #[]
  instanceTypes := #[]
  staticTypes := #[]
  resolved := Array.replicate 8 none
  statics := none }

/-- the primitive byte -/
def k5 : Class := { plain "byte" none with kind := .primitive 'B', accessFlags := 0x411 }
/-- [B -/
def k6 : Class := { plain "[B" (some 0) with kind := .array 5 .byte, interfaces := #[3, 4], accessFlags := 1041 }

/-- the primitive double -/
def k7 : Class := { plain "double" none with kind := .primitive 'D', accessFlags := 0x411 }
/-- [D -/
def k8 : Class := { plain "[D" (some 0) with kind := .array 7 .double, interfaces := #[3, 4], accessFlags := 1041 }

/-- the primitive int -/
def k9 : Class := { plain "int" none with kind := .primitive 'I', accessFlags := 0x411 }
/-- [I -/
def k10 : Class := { plain "[I" (some 0) with kind := .array 9 .int, interfaces := #[3, 4], accessFlags := 1041 }

def heap : Heap := #[]
def classes : Array Class := #[k0, k1, k2, k3, k4, k5, k6, k7, k8, k9, k10]
def interned : List (Array UInt16 × Addr) := []
def slotsUsed : Nat := 0
def theMethod : MethodId := ⟨1, 1⟩
def args0 : Array Value := #[.long 5, .long 7, .long 9, .long 11]
def aboutOver (below : List Frame) : State where
  vm := { classes := classes, interned := interned.toArray }
  heap := heap
  slotsUsed := slotsUsed
  threads := #[{ frames := .invoking theMethod args0 :: below }]
def below0 : List Frame := [.native { method := ⟨0, 0⟩, args := #[] }]
def about1 : State := aboutOver below0
def p0 : Program := .bare "" "" ""
def e0 : Env := launch0.env 0 0 0
theorem w_frames : about1.frames = Frame.invoking theMethod args0 :: below0 := rfl
set_option maxRecDepth 65536 in
theorem w_args : argsFit about1.vm theMethod args0 = true := by decide +kernel
set_option maxRecDepth 65536 in
theorem w_heap : heapFits about1 = true := by decide +kernel
set_option maxRecDepth 65536 in
theorem w_runnable : about1.curStatus? = some .runnable := by decide +kernel
set_option maxRecDepth 65536 in
theorem w_alone : about1.alone = true := by decide +kernel
set_option maxRecDepth 65536 in
theorem w_named : about1.methodNamed? x = some theMethod := by decide +kernel
set_option maxRecDepth 65536 in
theorem w_hears : about1.hears theMethod below0 = true := by decide +kernel
set_option maxRecDepth 65536 in
theorem w_ripe : about1.ripe theMethod args0 below0 = true := by decide +kernel
theorem w_running : about1.status = .running := rfl
set_option maxRecDepth 65536 in
theorem w_room : about1.hasRoom e0.platform room_1 = true :=
  launch0.hasRoom_least _ room_1 (by decide +kernel) (by decide +kernel) (by decide +kernel) (by decide +kernel) (by decide +kernel) (by decide +kernel)
theorem allAtoms_all (ts : List Jvm.Cond) (a : Array Jvm.Value) (st : Jvm.State) : (allAtoms ts).before a st = ts.all (fun c => c.before a st) := by
  induction ts with
  | nil => rfl
  | cons c t ih =>
    show (Jvm.Cond.and c (allAtoms t)).before a st = _
    rw [Jvm.Cond.before_and, ih, List.all_cons]
def words1 : List Jvm.Cond := Jvm.Cond.code x code maxLocals ret :: tables_1
/-- a 'code' word, met by the world's own term for the bytes: nothing is compared byte by byte -/
theorem code_word {y : MethodName} {bytes : ByteArray} {mx : Nat} {rt : Option FieldType} {a : Array Value} {s : State} {m : MethodId} {meth : Method} {c : Code} (h1 : s.methodNamed? y = some m) (h2 : s.vm.method? m = some meth) (h3 : meth.code = some c) (h4 : c.code = bytes)
    (h5 : (c.maxLocals == mx && c.exceptionTable.isEmpty && decide (c.maxStack ≤ mostOperands) && decide (meth.sig.returnType = rt) && !meth.locks && decide (parseMethodDescriptor y.desc = some meth.sig)) = true) : (Jvm.Cond.code y bytes mx rt).before a s = true := by
  simp only [Bool.and_eq_true, beq_iff_eq, Bool.not_eq_true', decide_eq_true_eq] at h5
  obtain ⟨⟨⟨⟨⟨g1, g2⟩, g3⟩, g4⟩, g5⟩, g6⟩ := h5
  simp [Cond.before, Cond.holds, Cond.value, h1, h2, h3, h4, g1, g2, g3, g4, g5, g6]
def isCode : Jvm.Cond → Bool
  | .code _ _ _ _ => true
  | _ => false
theorem all_split {L : List Jvm.Cond} {P : Jvm.Cond → Bool} (h1 : L.all (fun c => isCode c || P c) = true) (h2 : ∀ c ∈ L.filter isCode, P c = true) : L.all P = true := by
  refine List.all_eq_true.mpr fun c hc => ?_
  have h := List.all_eq_true.mp h1 c hc
  rcases Bool.eq_false_or_eq_true (isCode c) with hi | hi
  · exact h2 c (List.mem_filter.mpr ⟨hc, hi⟩)
  · simpa [hi] using h
set_option maxRecDepth 65536 in
theorem w_c0 : (Jvm.Cond.code x code maxLocals ret).before args0 about1 = true := code_word (m := ⟨1, 1⟩) (meth := k1m1) (c := k1c1) (by decide +kernel) rfl rfl rfl (by decide +kernel)
set_option maxRecDepth 65536 in
theorem w_c1 : (Jvm.Cond.code ({ cls := "com/example/merit/merit/ExactSum", name := "<init>", desc := "()V" } : Jvm.MethodName) prog_12_method_1_code (1 : Nat) (Option.none : Option Jvm.ClassFile.FieldType)).before args0 about1 = true := code_word (m := ⟨2, 0⟩) (meth := k2m0) (c := k2c0) (by decide +kernel) rfl rfl rfl (by decide +kernel)
set_option maxRecDepth 65536 in
theorem w_c2 : (Jvm.Cond.code ({ cls := "java/lang/Object", name := "<init>", desc := "()V" } : Jvm.MethodName) object_method_1_code (1 : Nat) (Option.none : Option Jvm.ClassFile.FieldType)).before args0 about1 = true := code_word (m := ⟨0, 0⟩) (meth := k0m0) (c := k0c0) (by decide +kernel) rfl rfl rfl (by decide +kernel)
set_option maxRecDepth 65536 in
theorem w_c3 : (Jvm.Cond.code ({ cls := "com/example/merit/merit/ExactSum", name := "add", desc := "(D)V" } : Jvm.MethodName) prog_12_method_2_code (13 : Nat) (Option.none : Option Jvm.ClassFile.FieldType)).before args0 about1 = true := code_word (m := ⟨2, 1⟩) (meth := k2m1) (c := k2c1) (by decide +kernel) rfl rfl rfl (by decide +kernel)
set_option maxRecDepth 65536 in
theorem w_c4 : (Jvm.Cond.code ({ cls := "com/example/merit/merit/ExactSum", name := "value", desc := "()D" } : Jvm.MethodName) prog_12_method_3_code (10 : Nat) (Option.some Jvm.ClassFile.FieldType.double)).before args0 about1 = true := code_word (m := ⟨2, 2⟩) (meth := k2m2) (c := k2c2) (by decide +kernel) rfl rfl rfl (by decide +kernel)
set_option maxRecDepth 65536 in
theorem w_c5 : (Jvm.Cond.code ({ cls := "com/example/merit/merit/ExactSum", name := "roundingError", desc := "(DDD)D" } : Jvm.MethodName) prog_12_method_5_code (8 : Nat) (Option.some Jvm.ClassFile.FieldType.double)).before args0 about1 = true := code_word (m := ⟨2, 3⟩) (meth := k2m3) (c := k2c3) (by decide +kernel) rfl rfl rfl (by decide +kernel)
def codes1 : List Jvm.Cond := [Jvm.Cond.code x code maxLocals ret, Jvm.Cond.code ({ cls := "com/example/merit/merit/ExactSum", name := "<init>", desc := "()V" } : Jvm.MethodName) prog_12_method_1_code (1 : Nat) (Option.none : Option Jvm.ClassFile.FieldType), Jvm.Cond.code ({ cls := "java/lang/Object", name := "<init>", desc := "()V" } : Jvm.MethodName) object_method_1_code (1 : Nat) (Option.none : Option Jvm.ClassFile.FieldType), Jvm.Cond.code ({ cls := "com/example/merit/merit/ExactSum", name := "add", desc := "(D)V" } : Jvm.MethodName) prog_12_method_2_code (13 : Nat) (Option.none : Option Jvm.ClassFile.FieldType), Jvm.Cond.code ({ cls := "com/example/merit/merit/ExactSum", name := "value", desc := "()D" } : Jvm.MethodName) prog_12_method_3_code (10 : Nat) (Option.some Jvm.ClassFile.FieldType.double), Jvm.Cond.code ({ cls := "com/example/merit/merit/ExactSum", name := "roundingError", desc := "(DDD)D" } : Jvm.MethodName) prog_12_method_5_code (8 : Nat) (Option.some Jvm.ClassFile.FieldType.double)]
set_option maxRecDepth 65536 in
theorem codes_eq : words1.filter isCode = codes1 := rfl
theorem w_codes : ∀ c ∈ words1.filter isCode, c.before args0 about1 = true := by
  rw [codes_eq]
  intro c hc
  simp only [codes1, List.mem_cons, List.not_mem_nil, or_false] at hc
  rcases hc with rfl | rfl | rfl | rfl | rfl | rfl
  · exact w_c0
  · exact w_c1
  · exact w_c2
  · exact w_c3
  · exact w_c4
  · exact w_c5
set_option maxRecDepth 65536 in
theorem w_t1 : (words1.take 24).all (fun c => isCode c || c.before args0 about1) = true := by decide +kernel
set_option maxRecDepth 65536 in
theorem w_t2 : (words1.drop 24).all (fun c => isCode c || c.before args0 about1) = true := by decide +kernel
theorem w_tables : (allAtoms (Jvm.Cond.code x code maxLocals ret :: tables_1)).before args0 about1 = true := by
  rw [allAtoms_all]
  show words1.all (fun c => c.before args0 about1) = true
  refine all_split ?_ w_codes
  rw [← List.take_append_drop 24 words1, List.all_append, w_t1, w_t2]
  rfl
set_option maxRecDepth 65536 in
theorem w_case : (Jvm.Cond.and given_1 narrow_1).before args0 about1 = true := by decide +kernel
theorem w_applies : (headSpec (Jvm.Cond.code x code maxLocals ret :: tables_1) room_1).applies x e0.platform about1 = true :=
  (Spec.applies_iff w_frames).mpr ⟨w_running, w_runnable, w_alone, w_named, w_hears, w_ripe, w_room, w_tables⟩
theorem atStart : AtStart classFile x code maxLocals ret World_1 tables_1 room_1 Calls_1 rest_1 Pre_1 launch0 p0 e0 about1 theMethod args0 below0 :=
  ⟨lists_1, trivial, launch0.admits_env _ _ _, launch0.least_env, fairChoices_fair.cas, fairChoices_fair.clock, w_frames, w_args, w_heap, w_applies, trivial, trivial, w_case⟩
end start1
theorem witness_1 : WitnessClaimed_1 := ⟨start1.p0, start1.e0, start1.about1, start1.theMethod, start1.args0, start1.below0, start1.atStart⟩
end Jvm.Pilot.@@N@@
