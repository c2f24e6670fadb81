import JvmDerived
import JvmDerived.Pilot.@@N@@Statement
import JvmDerived.Pilot.@@N@@Code
set_option linter.unusedVariables false
set_option linter.unusedSimpArgs false
namespace Jvm.Pilot.@@N@@
open Jvm Jvm.ClassFile Sem Op Lib Jvm.Free Jvm.Stand Jvm.LawKit Jvm.RoadKit Bundle Jvm.Pilot.@@N@@.Jvm.D
section OwnKit
variable {p : Program} {l : Launch} {e : Env} {R : Room} {s : State} {m : MethodId} {args : Array Value} {below : List Frame} {meth : Method} {c : Code} {T : State} {locs : List Loc} {cells slots : Nat} {Q : Option Value → Heap → List Loc → Prop} {C S : Nat}
/-- from x the run ends, returning, with what Q says -/
def own_End (p : Program) (e : Env) (below : List Frame) (s : State) (Q : Option Value → Heap → List Loc → Prop) (C S : Nat) (x : State) : Prop :=
  ∃ t o, Steps p.tables e below x t ∧ t.status = .running ∧ Ended t below o ∧ ∃ v L, o = .returned v ∧ Q v t.heap L ∧ FrameEnd s o t L C S
theorem own_go {x x' : State} (h : ∀ t, Steps p.tables e below x' t → Steps p.tables e below x t) (k : own_End p e below s Q C S x') : own_End p e below s Q C S x := by
  obtain ⟨t, o, h1, h2⟩ := k
  exact ⟨t, o, h t h1, h2⟩
theorem own_mono {Q' : Option Value → Heap → List Loc → Prop} {x : State} (h : ∀ v h L, Q v h L → Q' v h L) (k : own_End p e below s Q C S x) : own_End p e below s Q' C S x := by
  obtain ⟨t, o, h1, h2, h3, v, L, h4, h5, h6⟩ := k
  exact ⟨t, o, h1, h2, h3, v, L, h4, h _ _ _ h5, h6⟩
theorem own_out (X : Stand p l e R s m args below meth c T locs cells slots) (hlk : meth.locks = false) {v : Option Value} (hv : meth.sig.returnType = none → v = none) {x : State}
    (h : ∀ fs, (∀ (f : JFrame) (acts : List Action), f.method = m → f.locked = none → f.entered = [] → (doReturn e (T.setTop f) acts v).1 = T.setFrames fs) → Steps p.tables e below x (T.setFrames fs))
    (hq : Q v T.heap locs) (hc : cells ≤ C) (hs : slots ≤ S) : own_End p e below s Q C S x := by
  obtain ⟨fs, hr, hrun, hended, hW, hsame⟩ := X.leave hv hlk
  exact ⟨_, _, h fs hr, hrun, hended, _, _, rfl, hq, ⟨_, rfl⟩, hW, hsame.mono hc hs⟩
theorem own_retV (X : Stand p l e R s m args below meth c T locs cells slots) (hx : p.tables.exec = Jvm.exec) (hlk : meth.locks = false) {pc : Nat} {Ls : Array Slot} (hret : meth.sig.returnType = none) (hd : decode c.code pc = .ok (.return_, 1))
    (hq : Q none T.heap locs) (hc : cells ≤ C) (hs : slots ≤ S) : own_End p e below s Q C S (T.setTop (mkF m pc Ls [])) :=
  own_out X hlk (fun _ => rfl) (fun fs hr => X.returnOut hx hret hd hr) hq hc hs
theorem own_retN (X : Stand p l e R s m args below meth c T locs cells slots) (hx : p.tables.exec = Jvm.exec) (hlk : meth.locks = false) {pc : Nat} {Ls : Array Slot} {z w : Int32} {t : FieldType} {rest : List Value} (hret : meth.sig.returnType = some t) (ht : t = .boolean ∨ t = .byte ∨ t = .char ∨ t = .short) (hd : decode c.code pc = .ok (.ireturn, 1))
    (hz : nar t z = w) (hq : Q (some (.int w)) T.heap locs) (hc : cells ≤ C) (hs : slots ≤ S) : own_End p e below s Q C S (T.setTop (mkF m pc Ls (.int z :: rest))) := by
  subst hz
  exact own_out X hlk (fun h => by rw [hret] at h; cases h) (fun fs hr => retN X hx hret ht hd hr) hq hc hs
theorem own_retI (X : Stand p l e R s m args below meth c T locs cells slots) (hx : p.tables.exec = Jvm.exec) (hlk : meth.locks = false) {pc : Nat} {Ls : Array Slot} {z : Int32} {rest : List Value} (hret : meth.sig.returnType = some .int) (hd : decode c.code pc = .ok (.ireturn, 1))
    (hq : Q (some (.int z)) T.heap locs) (hc : cells ≤ C) (hs : slots ≤ S) : own_End p e below s Q C S (T.setTop (mkF m pc Ls (.int z :: rest))) :=
  own_out X hlk (fun h => by rw [hret] at h; cases h) (fun fs hr => retOut X hx hret rfl (Or.inl ⟨rfl, Or.inl rfl, _, rfl⟩) hd hr) hq hc hs
theorem own_retJ (X : Stand p l e R s m args below meth c T locs cells slots) (hx : p.tables.exec = Jvm.exec) (hlk : meth.locks = false) {pc : Nat} {Ls : Array Slot} {z : Int64} {rest : List Value} (hret : meth.sig.returnType = some .long) (hd : decode c.code pc = .ok (.lreturn, 1))
    (hq : Q (some (.long z)) T.heap locs) (hc : cells ≤ C) (hs : slots ≤ S) : own_End p e below s Q C S (T.setTop (mkF m pc Ls (.long z :: rest))) :=
  own_out X hlk (fun h => by rw [hret] at h; cases h) (fun fs hr => retOut X hx hret rfl (Or.inr (Or.inl ⟨rfl, rfl, _, rfl⟩)) hd hr) hq hc hs
theorem own_retR (X : Stand p l e R s m args below meth c T locs cells slots) (hx : p.tables.exec = Jvm.exec) (hlk : meth.locks = false) {pc : Nat} {Ls : Array Slot} {z : Value} {t : FieldType} {rest : List Value} (hret : meth.sig.returnType = some t) (ht : t.isReference = true) (hv : z.isRef = true) (hd : decode c.code pc = .ok (.areturn, 1))
    (hq : Q (some z) T.heap locs) (hc : cells ≤ C) (hs : slots ≤ S) : own_End p e below s Q C S (T.setTop (mkF m pc Ls (z :: rest))) :=
  own_out X hlk (fun h => by rw [hret] at h; cases h) (fun fs hr => retOut X hx hret (by cases t <;> first | rfl | cases ht) (Or.inr (Or.inr (Or.inr (Or.inr ⟨rfl, ht, hv⟩)))) hd hr) hq hc hs
theorem own_w {a0 : Array Value} {Z : State} (hw : ∀ d ∈ tables_1, d.before a0 Z = true) (i : Nat) {d : Jvm.Cond} (h : tables_1[i]? = some d) : d.before a0 Z = true := hw _ (List.mem_of_getElem? h)
end OwnKit
theorem own_st {v t d r : Int} (h1 : 0 ≤ v) (h2 : v < t) (h3 : 0 ≤ d) (h4 : d < r) : 0 ≤ v * r + d ∧ v * r + d < t * r := by
  have a : v * r + r ≤ t * r := by
    have := Int.mul_le_mul_of_nonneg_right (show v + 1 ≤ t by omega) (show 0 ≤ r by omega)
    rw [Int.add_mul, Int.one_mul] at this
    exact this
  have b : 0 ≤ v * r := Int.mul_nonneg h1 (by omega)
  omega
theorem own_tb {t r M : Int} (h0 : 0 ≤ t) (h1 : t ≤ M) (h2 : 0 ≤ r) (h3 : r ≤ 32768) : 0 ≤ t * r ∧ t * r ≤ M * 32768 :=
  ⟨Int.mul_nonneg h0 h2, Int.mul_le_mul h1 h3 h2 (Int.le_trans h0 h1)⟩
theorem own_stepL (v : Int64) (r d : Int32) (t M : Int) (h1 : 0 ≤ v.toInt) (h2 : v.toInt < t) (h3 : 0 ≤ d.toInt) (h4 : d.toInt < r.toInt) (h5 : r.toInt ≤ 32768) (h6 : t ≤ M) (h7 : M ≤ 100000000000000) : (v * r.toInt64 + d.toInt64).toInt = v.toInt * r.toInt + d.toInt := by
  have a := own_st h1 h2 h3 h4
  have b := own_tb (r := r.toInt) (show (0 : Int) ≤ t by omega) h6 (by omega) h5
  have c : 0 ≤ v.toInt * r.toInt := Int.mul_nonneg h1 (by omega)
  have e1 := c_lmul v r.toInt64
  have e2 := c_ladd (v * r.toInt64) d.toInt64
  have e3 := c_i2l r
  have e4 := c_i2l d
  rw [e3] at e1
  rw [e4] at e2
  have r1 := rng64 (v * r.toInt64)
  have r2 := rng64 (v * r.toInt64 + d.toInt64)
  generalize v.toInt * r.toInt = X at *
  generalize t * r.toInt = Y at *
  generalize (v * r.toInt64).toInt = W at *
  omega
theorem own_stepT (t : Int64) (r : Int32) (M : Int) (h1 : 0 ≤ t.toInt) (h2 : t.toInt ≤ M) (h4 : 0 ≤ r.toInt) (h5 : r.toInt ≤ 32768) (h7 : M ≤ 100000000000000) : (t * r.toInt64).toInt = t.toInt * r.toInt := by
  have b := own_tb h1 h2 h4 h5
  have e1 := c_lmul t r.toInt64
  have e3 := c_i2l r
  rw [e3] at e1
  have r1 := rng64 (t * r.toInt64)
  generalize t.toInt * r.toInt = X at *
  omega
/-- a digit below its radix -/
def own_dg (d r : Int32) : Prop := 0 ≤ d.toInt ∧ d.toInt < r.toInt ∧ r.toInt ≤ 32768
theorem own_up {d r : Int32} (h : own_dg d r) : (d + 1).toInt = d.toInt + 1 := by
  obtain ⟨h1, h2, h3⟩ := h
  have e := c_iadd d 1
  have o : (1 : Int32).toInt = 1 := by decide
  have r1 := rng32 (d + 1)
  omega
theorem own_dg1 {d r : Int32} (h : own_dg d r) (c : d + 1 < r) : own_dg (d + 1) r := by
  have u := own_up h
  obtain ⟨h1, h2, h3⟩ := h
  have t := Int32.lt_iff_toInt_lt.mp c
  exact ⟨by omega, t, h3⟩
theorem own_dg0 {d r : Int32} (h : own_dg d r) : own_dg 0 r := by
  obtain ⟨h1, h2, h3⟩ := h
  have o : (0 : Int32).toInt = 0 := by decide
  exact ⟨by omega, by omega, h3⟩
theorem own_mx {d r : Int32} (h : own_dg d r) (c : ¬ d + 1 < r) : d.toInt = r.toInt - 1 := by
  have u := own_up h
  obtain ⟨h1, h2, h3⟩ := h
  have t := mt Int32.lt_iff_toInt_lt.mpr c
  omega
theorem own_v1 {d0 r0 : Int32} (g0 : own_dg d0 r0) : (d0.toInt64).toInt = d0.toInt ∧ 0 ≤ d0.toInt ∧ d0.toInt < r0.toInt := ⟨c_i2l d0, g0.1, g0.2.1⟩
theorem own_v2 {d0 d1 r0 r1 : Int32} (g0 : own_dg d0 r0) (g1 : own_dg d1 r1) : (d0.toInt64 * r1.toInt64 + d1.toInt64).toInt = d0.toInt * r1.toInt + d1.toInt ∧ 0 ≤ d0.toInt * r1.toInt + d1.toInt ∧ d0.toInt * r1.toInt + d1.toInt < r0.toInt * r1.toInt := by
  obtain ⟨a, b, c⟩ := own_v1 g0
  have e := own_stepL d0.toInt64 r1 d1 r0.toInt 32768 (by rw [a]; exact b) (by rw [a]; exact c) g1.1 g1.2.1 g1.2.2 g0.2.2 (by decide)
  rw [a] at e
  exact ⟨e, own_st b c g1.1 g1.2.1⟩
theorem own_v3 {d0 d1 d2 r0 r1 r2 : Int32} (g0 : own_dg d0 r0) (g1 : own_dg d1 r1) (g2 : own_dg d2 r2) : ((d0.toInt64 * r1.toInt64 + d1.toInt64) * r2.toInt64 + d2.toInt64).toInt = (d0.toInt * r1.toInt + d1.toInt) * r2.toInt + d2.toInt ∧ 0 ≤ (d0.toInt * r1.toInt + d1.toInt) * r2.toInt + d2.toInt ∧ (d0.toInt * r1.toInt + d1.toInt) * r2.toInt + d2.toInt < r0.toInt * r1.toInt * r2.toInt := by
  obtain ⟨a, b, c⟩ := own_v2 g0 g1
  have e := own_stepL (d0.toInt64 * r1.toInt64 + d1.toInt64) r2 d2 (r0.toInt * r1.toInt) (32768 * 32768) (by rw [a]; exact b) (by rw [a]; exact c) g2.1 g2.2.1 g2.2.2 (own_tb (by have := g0.1; have := g0.2.1; omega) g0.2.2 (by have := g1.1; have := g1.2.1; omega) g1.2.2).2 (by decide)
  rw [a] at e
  exact ⟨e, own_st b c g2.1 g2.2.1⟩
theorem own_v4 {d0 d1 d2 d3 r0 r1 r2 r3 : Int32} (g0 : own_dg d0 r0) (g1 : own_dg d1 r1) (g2 : own_dg d2 r2) (g3 : own_dg d3 r3) : (((d0.toInt64 * r1.toInt64 + d1.toInt64) * r2.toInt64 + d2.toInt64) * r3.toInt64 + d3.toInt64).toInt = ((d0.toInt * r1.toInt + d1.toInt) * r2.toInt + d2.toInt) * r3.toInt + d3.toInt ∧ 0 ≤ ((d0.toInt * r1.toInt + d1.toInt) * r2.toInt + d2.toInt) * r3.toInt + d3.toInt ∧ ((d0.toInt * r1.toInt + d1.toInt) * r2.toInt + d2.toInt) * r3.toInt + d3.toInt < r0.toInt * r1.toInt * r2.toInt * r3.toInt := by
  obtain ⟨a, b, c⟩ := own_v3 g0 g1 g2
  have q0 : 0 ≤ r0.toInt := by have := g0.1; have := g0.2.1; omega
  have q1 : 0 ≤ r1.toInt := by have := g1.1; have := g1.2.1; omega
  have q2 : 0 ≤ r2.toInt := by have := g2.1; have := g2.2.1; omega
  have t2 := own_tb q0 g0.2.2 q1 g1.2.2
  have t3 := own_tb t2.1 t2.2 q2 g2.2.2
  have e := own_stepL ((d0.toInt64 * r1.toInt64 + d1.toInt64) * r2.toInt64 + d2.toInt64) r3 d3 (r0.toInt * r1.toInt * r2.toInt) (32768 * 32768 * 32768) (by rw [a]; exact b) (by rw [a]; exact c) g3.1 g3.2.1 g3.2.2 t3.2 (by decide)
  rw [a] at e
  exact ⟨e, own_st b c g3.1 g3.2.1⟩
theorem own_t1 {r0 : Int32} (q0 : 0 ≤ r0.toInt) (s0 : r0.toInt ≤ 32768) : ((1 : Int64) * r0.toInt64).toInt = r0.toInt := by
  have e := own_stepT 1 r0 1 (by decide) (by decide) q0 s0 (by decide)
  rw [e, show (1 : Int64).toInt = 1 from rfl, Int.one_mul]
theorem own_t2 {r0 r1 : Int32} (q0 : 0 ≤ r0.toInt) (s0 : r0.toInt ≤ 32768) (q1 : 0 ≤ r1.toInt) (s1 : r1.toInt ≤ 32768) : ((1 : Int64) * r0.toInt64 * r1.toInt64).toInt = r0.toInt * r1.toInt := by
  have a := own_t1 q0 s0
  rw [own_stepT ((1 : Int64) * r0.toInt64) r1 32768 (by rw [a]; exact q0) (by rw [a]; exact s0) q1 s1 (by decide), a]
theorem own_t3 {r0 r1 r2 : Int32} (q0 : 0 ≤ r0.toInt) (s0 : r0.toInt ≤ 32768) (q1 : 0 ≤ r1.toInt) (s1 : r1.toInt ≤ 32768) (q2 : 0 ≤ r2.toInt) (s2 : r2.toInt ≤ 32768) : ((1 : Int64) * r0.toInt64 * r1.toInt64 * r2.toInt64).toInt = r0.toInt * r1.toInt * r2.toInt := by
  have a := own_t2 q0 s0 q1 s1
  have t2 := own_tb q0 s0 q1 s1
  rw [own_stepT _ r2 (32768 * 32768) (by rw [a]; exact t2.1) (by rw [a]; exact t2.2) q2 s2 (by decide), a]
theorem own_t4 {r0 r1 r2 r3 : Int32} (q0 : 0 ≤ r0.toInt) (s0 : r0.toInt ≤ 32768) (q1 : 0 ≤ r1.toInt) (s1 : r1.toInt ≤ 32768) (q2 : 0 ≤ r2.toInt) (s2 : r2.toInt ≤ 32768) (q3 : 0 ≤ r3.toInt) (s3 : r3.toInt ≤ 32768) : ((1 : Int64) * r0.toInt64 * r1.toInt64 * r2.toInt64 * r3.toInt64).toInt = r0.toInt * r1.toInt * r2.toInt * r3.toInt := by
  have a := own_t3 q0 s0 q1 s1 q2 s2
  have t2 := own_tb q0 s0 q1 s1
  have t3 := own_tb t2.1 t2.2 q2 s2
  rw [own_stepT _ r3 (32768 * 32768 * 32768) (by rw [a]; exact t3.1) (by rw [a]; exact t3.2) q3 s3 (by decide), a]
/-- what is owed of value and total, as ints: the numbers v (before), v' (behind), t -/
theorem own_next {v v' t : Int64} {a b T : Int} (e1 : v.toInt = a) (e2 : v'.toInt = b) (e3 : t.toInt = T) (h0 : 0 ≤ a) (hb : b < T) (h : b = a + 1) : v + 1 < t ∧ v' = v + 1 := by
  have o : (1 : Int64).toInt = 1 := by decide
  have e := c_ladd v 1
  have r := rng64 (v + 1)
  have r2 := rng64 v'
  have q : (v + 1).toInt = a + 1 := by omega
  exact ⟨Int64.lt_iff_toInt_lt.mpr (by omega), Int64.toInt_inj.mp (by omega)⟩
theorem own_last {v v' t : Int64} {a b T : Int} (e1 : v.toInt = a) (e2 : v'.toInt = b) (e3 : t.toInt = T) (h0 : 0 ≤ a) (h : a + 1 = T) (hb : b = 0) : ¬ v + 1 < t ∧ v' = 0 := by
  have o : (1 : Int64).toInt = 1 := by decide
  have z : (0 : Int64).toInt = 0 := by decide
  have e := c_ladd v 1
  have r := rng64 (v + 1)
  have r2 := rng64 t
  have q : (v + 1).toInt = a + 1 := by omega
  exact ⟨mt Int64.lt_iff_toInt_lt.mp (by omega), Int64.toInt_inj.mp (by omega)⟩

def own_val_0 (d0 d1 d2 d3 r0 r1 r2 r3 : Int32) : Int64 := (0 : Int64)
theorem d1_0 : decode method_2_code 0 = .ok (.lconst 0, 1) := by decide +kernel
theorem d1_1 : decode method_2_code 1 = .ok (.lstore_n 3, 1) := by decide +kernel
theorem d1_2 : decode method_2_code 2 = .ok (.iload_n 2, 1) := by decide +kernel
theorem d1_3 : decode method_2_code 3 = .ok (.ifCond .le 8, 3) := by decide +kernel
theorem d1_11 : decode method_2_code 11 = .ok (.iload_n 2, 1) := by decide +kernel
theorem d1_12 : decode method_2_code 12 = .ok (.iconst 1, 1) := by decide +kernel
theorem d1_13 : decode method_2_code 13 = .ok (.if_icmp .le 15, 3) := by decide +kernel
theorem d1_28 : decode method_2_code 28 = .ok (.iload_n 2, 1) := by decide +kernel
theorem d1_29 : decode method_2_code 29 = .ok (.iconst 2, 1) := by decide +kernel
theorem d1_30 : decode method_2_code 30 = .ok (.if_icmp .le 15, 3) := by decide +kernel
theorem d1_45 : decode method_2_code 45 = .ok (.iload_n 2, 1) := by decide +kernel
theorem d1_46 : decode method_2_code 46 = .ok (.iconst 3, 1) := by decide +kernel
theorem d1_47 : decode method_2_code 47 = .ok (.if_icmp .le 15, 3) := by decide +kernel
theorem d1_62 : decode method_2_code 62 = .ok (.lload_n 3, 1) := by decide +kernel
theorem d1_63 : decode method_2_code 63 = .ok (.lreturn, 1) := by decide +kernel
def Q_rm1_0 (Z : State) (ao0 ao1 : Addr) (kd kr : ClassId) (d0 d1 d2 d3 r0 r1 r2 r3 : Int32) (h0 : Heap) (n0 : Nat) (v : Option Value) (h : Heap) (L : List Loc) : Prop := v = some (.long (own_val_0 d0 d1 d2 d3 r0 r1 r2 r3)) ∧ Fr n0 L ∧ h = h0
theorem pn_rm1_0 : plainName "com/example/stratgen/stratgen/model/StateSpaceAdvancePinLaw" = true := by first | (simp [plainName, overriddenIn]; done) | decide +kernel
theorem ef_rm1_0 (m : MethodId) (x0 : Addr) (x1 : Addr) (x2 : Int32) : entryFrame m #[(.ref x0), (.ref x1), (.int x2)] 5 = mkF m 0 #[.val (.ref x0), .val (.ref x1), .val (.int x2), .unset, .unset] [] := by first | (simp [entryFrame, mkF, argsToLocals, Value.category]; done) | rfl
set_option maxRecDepth 65536 in
set_option maxHeartbeats 40000000 in
theorem rm1_0 (l : Launch) (Z : State) (a0 : Array Value) (hw : ∀ d ∈ tables_1, d.before a0 Z = true) (ws : List Jvm.Cond) (ao0 ao1 : Addr) (kd kr : ClassId) (d0 d1 d2 d3 r0 r1 r2 r3 : Int32) (h0 : Heap) (n0 : Nat) (Z0 : n0 ≤ h0.size) (V_ao0 : Arv Z h0 ao0 kd .int (4 : Int32) [(.int d0), (.int d1), (.int d2), (.int d3)] (.int (0 : Int32))) (V_ao1 : Arv Z h0 ao1 kr .int (4 : Int32) [(.int r0), (.int r1), (.int r2), (.int r3)] (.int (0 : Int32))) :
    MetFree l (⟨"com/example/stratgen/stratgen/model/StateSpaceAdvancePinLaw", "value", "([I[II)J"⟩ : MethodName) (head1 (Jvm.Cond.code (⟨"com/example/stratgen/stratgen/model/StateSpaceAdvancePinLaw", "value", "([I[II)J"⟩ : MethodName) method_2_code 5 (some .long) :: ws) ({ frames := 0, cells := 0, slots := 0, locals := 0 } : Room)) (fun a U => a = #[(.ref ao0), (.ref ao1), (.int (0 : Int32))] ∧ Z.Warmed39 U.vm ∧ U.heap = h0) (fun _ _ _ _ _ => True) (fun _ U o U' => ∃ v L, o = .returned v ∧ (Q_rm1_0 Z ao0 ao1 kd kr d0 d1 d2 d3 r0 r1 r2 r3 h0 n0) v U'.heap L ∧ FrameEnd U o U' L ({ frames := 0, cells := 0, slots := 0, locals := 0 } : Room).cells ({ frames := 0, cells := 0, slots := 0, locals := 0 } : Room).slots) := by
  refine MetFree.of_bodySF (plainFor_of_name pn_rm1_0) hisR ?_
  intro p e s m args below meth c s₁ Bd hml0 hP hK
  obtain ⟨rfl, hZ, hh⟩ := hP
  have hx := Bd.exec
  have hby := Bd.bytes
  have hlk := BodyLoose.notSynchronized Bd
  have hret := Bd.returns
  have hml : c.maxLocals = 5 := hml0
  have hown : s.vm.findClass "com/example/stratgen/stratgen/model/StateSpaceAdvancePinLaw" = some m.cls := findClass_of_methodNamed Bd.named
  have hnm := (name_of_methodNamed Bd.named Bd.method).1
  have X0 : Stand p l e ({ frames := 0, cells := 0, slots := 0, locals := 0 } : Room) s m #[(.ref ao0), (.ref ao1), (.int (0 : Int32))] below meth c s₁ [] 0 0 := Stand.of_body Bd
  have e0 : s₁.heap = h0 := by rw [← hh, Bd.state]; rfl
  have Nf := Fr.nil n0
  have Zs := Z0
  have Kp : Keep h0 h0 [] := Keep.refl _ _
  show own_End p e below s (Q_rm1_0 Z ao0 ao1 kd kr d0 d1 d2 d3 r0 r1 r2 r3 h0 n0) ({ frames := 0, cells := 0, slots := 0, locals := 0 } : Room).cells ({ frames := 0, cells := 0, slots := 0, locals := 0 } : Room).slots (s₁.setTop (entryFrame m #[(.ref ao0), (.ref ao1), (.int (0 : Int32))] 5))
  refine own_go (x' := s₁.setTop (mkF m 0 #[.val (.ref ao0), .val (.ref ao1), .val (.int (0 : Int32)), .unset, .unset] [])) (fun t k => castTop (ef_rm1_0 m ao0 ao1 (0 : Int32)) k) ?_
  refine own_go (x' := s₁.setTop (mkF m 13 #[.val (.ref ao0), .val (.ref ao1), .val (.int (0 : Int32)), .val (.long (0 : Int64)), .second] [(.int (1 : Int32)), (.int (0 : Int32))])) (fun _ k => XS.lconst X0.here hx rfl (hb hby d1_0) (XS.lstoreN X0.here hx rfl (hb hby d1_1) rfl (l' := #[.val (.ref ao0), .val (.ref ao1), .val (.int (0 : Int32)), .val (.long (0 : Int64)), .second]) rfl (XS.iloadN X0.here hx rfl (hb hby d1_2) rfl (XS.ifYes X0.here hx rfl (pc0 := 3) (pc' := 11) rfl (hb hby d1_3) rfl ((if0 _ _).trans (flt (Int32.lt_irrefl)).2.2.2) (by decide) (by decide) (XS.iloadN X0.here hx rfl (hb hby d1_11) rfl (XS.iconst X0.here hx rfl (hb hby d1_12) k)))))) ?_
  refine own_go (x' := s₁.setTop (mkF m 47 #[.val (.ref ao0), .val (.ref ao1), .val (.int (0 : Int32)), .val (.long (0 : Int64)), .second] [(.int (3 : Int32)), (.int (0 : Int32))])) (fun _ k => XS.icmpYes X0.here hx rfl (pc0 := 13) (pc' := 28) rfl (hb hby d1_13) rfl (flt (by decide +kernel : ¬ ((1 : Int32) < (0 : Int32)))).2.2.2 (by decide) (by decide) (XS.iloadN X0.here hx rfl (hb hby d1_28) rfl (XS.iconst X0.here hx rfl (hb hby d1_29) (XS.icmpYes X0.here hx rfl (pc0 := 30) (pc' := 45) rfl (hb hby d1_30) rfl (flt (by decide +kernel : ¬ ((2 : Int32) < (0 : Int32)))).2.2.2 (by decide) (by decide) (XS.iloadN X0.here hx rfl (hb hby d1_45) rfl (XS.iconst X0.here hx rfl (hb hby d1_46) k)))))) ?_
  refine own_go (x' := s₁.setTop (mkF m 63 #[.val (.ref ao0), .val (.ref ao1), .val (.int (0 : Int32)), .val (.long (0 : Int64)), .second] [(.long (0 : Int64))])) (fun _ k => XS.icmpYes X0.here hx rfl (pc0 := 47) (pc' := 62) rfl (hb hby d1_47) rfl (flt (by decide +kernel : ¬ ((3 : Int32) < (0 : Int32)))).2.2.2 (by decide) (by decide) (XS.lloadN X0.here hx rfl (hb hby d1_62) rfl k)) ?_
  refine own_retJ X0 hx hlk hret (hb hby d1_63) ?_ (by decide) (by decide)
  rw [e0]
  exact ⟨rfl, Nf, rfl⟩
def own_tot_0 (r0 r1 r2 r3 : Int32) : Int64 := (1 : Int64)
theorem d2_0 : decode method_3_code 0 = .ok (.lconst 1, 1) := by decide +kernel
theorem d2_1 : decode method_3_code 1 = .ok (.lstore_n 2, 1) := by decide +kernel
theorem d2_2 : decode method_3_code 2 = .ok (.iload_n 1, 1) := by decide +kernel
theorem d2_3 : decode method_3_code 3 = .ok (.ifCond .le 10, 3) := by decide +kernel
theorem d2_13 : decode method_3_code 13 = .ok (.iload_n 1, 1) := by decide +kernel
theorem d2_14 : decode method_3_code 14 = .ok (.iconst 1, 1) := by decide +kernel
theorem d2_15 : decode method_3_code 15 = .ok (.if_icmp .le 10, 3) := by decide +kernel
theorem d2_25 : decode method_3_code 25 = .ok (.iload_n 1, 1) := by decide +kernel
theorem d2_26 : decode method_3_code 26 = .ok (.iconst 2, 1) := by decide +kernel
theorem d2_27 : decode method_3_code 27 = .ok (.if_icmp .le 10, 3) := by decide +kernel
theorem d2_37 : decode method_3_code 37 = .ok (.iload_n 1, 1) := by decide +kernel
theorem d2_38 : decode method_3_code 38 = .ok (.iconst 3, 1) := by decide +kernel
theorem d2_39 : decode method_3_code 39 = .ok (.if_icmp .le 10, 3) := by decide +kernel
theorem d2_49 : decode method_3_code 49 = .ok (.lload_n 2, 1) := by decide +kernel
theorem d2_50 : decode method_3_code 50 = .ok (.lreturn, 1) := by decide +kernel
def Q_rm2_0 (Z : State) (ao0 : Addr) (kr : ClassId) (r0 r1 r2 r3 : Int32) (h0 : Heap) (n0 : Nat) (v : Option Value) (h : Heap) (L : List Loc) : Prop := v = some (.long (own_tot_0 r0 r1 r2 r3)) ∧ Fr n0 L ∧ h = h0
theorem pn_rm2_0 : plainName "com/example/stratgen/stratgen/model/StateSpaceAdvancePinLaw" = true := by first | (simp [plainName, overriddenIn]; done) | decide +kernel
theorem ef_rm2_0 (m : MethodId) (x0 : Addr) (x1 : Int32) : entryFrame m #[(.ref x0), (.int x1)] 4 = mkF m 0 #[.val (.ref x0), .val (.int x1), .unset, .unset] [] := by first | (simp [entryFrame, mkF, argsToLocals, Value.category]; done) | rfl
set_option maxRecDepth 65536 in
set_option maxHeartbeats 40000000 in
theorem rm2_0 (l : Launch) (Z : State) (a0 : Array Value) (hw : ∀ d ∈ tables_1, d.before a0 Z = true) (ws : List Jvm.Cond) (ao0 : Addr) (kr : ClassId) (r0 r1 r2 r3 : Int32) (h0 : Heap) (n0 : Nat) (Z0 : n0 ≤ h0.size) (V_ao0 : Arv Z h0 ao0 kr .int (4 : Int32) [(.int r0), (.int r1), (.int r2), (.int r3)] (.int (0 : Int32))) :
    MetFree l (⟨"com/example/stratgen/stratgen/model/StateSpaceAdvancePinLaw", "total", "([II)J"⟩ : MethodName) (head1 (Jvm.Cond.code (⟨"com/example/stratgen/stratgen/model/StateSpaceAdvancePinLaw", "total", "([II)J"⟩ : MethodName) method_3_code 4 (some .long) :: ws) ({ frames := 0, cells := 0, slots := 0, locals := 0 } : Room)) (fun a U => a = #[(.ref ao0), (.int (0 : Int32))] ∧ Z.Warmed39 U.vm ∧ U.heap = h0) (fun _ _ _ _ _ => True) (fun _ U o U' => ∃ v L, o = .returned v ∧ (Q_rm2_0 Z ao0 kr r0 r1 r2 r3 h0 n0) v U'.heap L ∧ FrameEnd U o U' L ({ frames := 0, cells := 0, slots := 0, locals := 0 } : Room).cells ({ frames := 0, cells := 0, slots := 0, locals := 0 } : Room).slots) := by
  refine MetFree.of_bodySF (plainFor_of_name pn_rm2_0) hisR ?_
  intro p e s m args below meth c s₁ Bd hml0 hP hK
  obtain ⟨rfl, hZ, hh⟩ := hP
  have hx := Bd.exec
  have hby := Bd.bytes
  have hlk := BodyLoose.notSynchronized Bd
  have hret := Bd.returns
  have hml : c.maxLocals = 4 := hml0
  have hown : s.vm.findClass "com/example/stratgen/stratgen/model/StateSpaceAdvancePinLaw" = some m.cls := findClass_of_methodNamed Bd.named
  have hnm := (name_of_methodNamed Bd.named Bd.method).1
  have X0 : Stand p l e ({ frames := 0, cells := 0, slots := 0, locals := 0 } : Room) s m #[(.ref ao0), (.int (0 : Int32))] below meth c s₁ [] 0 0 := Stand.of_body Bd
  have e0 : s₁.heap = h0 := by rw [← hh, Bd.state]; rfl
  have Nf := Fr.nil n0
  have Zs := Z0
  have Kp : Keep h0 h0 [] := Keep.refl _ _
  show own_End p e below s (Q_rm2_0 Z ao0 kr r0 r1 r2 r3 h0 n0) ({ frames := 0, cells := 0, slots := 0, locals := 0 } : Room).cells ({ frames := 0, cells := 0, slots := 0, locals := 0 } : Room).slots (s₁.setTop (entryFrame m #[(.ref ao0), (.int (0 : Int32))] 4))
  refine own_go (x' := s₁.setTop (mkF m 0 #[.val (.ref ao0), .val (.int (0 : Int32)), .unset, .unset] [])) (fun t k => castTop (ef_rm2_0 m ao0 (0 : Int32)) k) ?_
  refine own_go (x' := s₁.setTop (mkF m 15 #[.val (.ref ao0), .val (.int (0 : Int32)), .val (.long (1 : Int64)), .second] [(.int (1 : Int32)), (.int (0 : Int32))])) (fun _ k => XS.lconst X0.here hx rfl (hb hby d2_0) (XS.lstoreN X0.here hx rfl (hb hby d2_1) rfl (l' := #[.val (.ref ao0), .val (.int (0 : Int32)), .val (.long (1 : Int64)), .second]) rfl (XS.iloadN X0.here hx rfl (hb hby d2_2) rfl (XS.ifYes X0.here hx rfl (pc0 := 3) (pc' := 13) rfl (hb hby d2_3) rfl ((if0 _ _).trans (flt (Int32.lt_irrefl)).2.2.2) (by decide) (by decide) (XS.iloadN X0.here hx rfl (hb hby d2_13) rfl (XS.iconst X0.here hx rfl (hb hby d2_14) k)))))) ?_
  refine own_go (x' := s₁.setTop (mkF m 39 #[.val (.ref ao0), .val (.int (0 : Int32)), .val (.long (1 : Int64)), .second] [(.int (3 : Int32)), (.int (0 : Int32))])) (fun _ k => XS.icmpYes X0.here hx rfl (pc0 := 15) (pc' := 25) rfl (hb hby d2_15) rfl (flt (by decide +kernel : ¬ ((1 : Int32) < (0 : Int32)))).2.2.2 (by decide) (by decide) (XS.iloadN X0.here hx rfl (hb hby d2_25) rfl (XS.iconst X0.here hx rfl (hb hby d2_26) (XS.icmpYes X0.here hx rfl (pc0 := 27) (pc' := 37) rfl (hb hby d2_27) rfl (flt (by decide +kernel : ¬ ((2 : Int32) < (0 : Int32)))).2.2.2 (by decide) (by decide) (XS.iloadN X0.here hx rfl (hb hby d2_37) rfl (XS.iconst X0.here hx rfl (hb hby d2_38) k)))))) ?_
  refine own_go (x' := s₁.setTop (mkF m 50 #[.val (.ref ao0), .val (.int (0 : Int32)), .val (.long (1 : Int64)), .second] [(.long (1 : Int64))])) (fun _ k => XS.icmpYes X0.here hx rfl (pc0 := 39) (pc' := 49) rfl (hb hby d2_39) rfl (flt (by decide +kernel : ¬ ((3 : Int32) < (0 : Int32)))).2.2.2 (by decide) (by decide) (XS.lloadN X0.here hx rfl (hb hby d2_49) rfl k)) ?_
  refine own_retJ X0 hx hlk hret (hb hby d2_50) ?_ (by decide) (by decide)
  rw [e0]
  exact ⟨rfl, Nf, rfl⟩
def own_adv_0_b (d0 d1 d2 d3 r0 r1 r2 r3 : Int32) : Int32 := (0 : Int32)
def own_adv_0_0 (d0 d1 d2 d3 r0 r1 r2 r3 : Int32) : Int32 := d0
def own_adv_0_1 (d0 d1 d2 d3 r0 r1 r2 r3 : Int32) : Int32 := d1
def own_adv_0_2 (d0 d1 d2 d3 r0 r1 r2 r3 : Int32) : Int32 := d2
def own_adv_0_3 (d0 d1 d2 d3 r0 r1 r2 r3 : Int32) : Int32 := d3
theorem d3_0 : decode prog_90_method_21_code 0 = .ok (.iload_n 2, 1) := by decide +kernel
theorem d3_1 : decode prog_90_method_21_code 1 = .ok (.iconst 1, 1) := by decide +kernel
theorem d3_2 : decode prog_90_method_21_code 2 = .ok (.isub, 1) := by decide +kernel
theorem d3_3 : decode prog_90_method_21_code 3 = .ok (.istore_n 3, 1) := by decide +kernel
theorem d3_4 : decode prog_90_method_21_code 4 = .ok (.iload_n 3, 1) := by decide +kernel
theorem d3_5 : decode prog_90_method_21_code 5 = .ok (.ifCond .lt 31, 3) := by decide +kernel
theorem d3_36 : decode prog_90_method_21_code 36 = .ok (.iconst 0, 1) := by decide +kernel
theorem d3_37 : decode prog_90_method_21_code 37 = .ok (.ireturn, 1) := by decide +kernel
def Q_rm3_0 (Z : State) (ao0 ao1 : Addr) (kd kr : ClassId) (d0 d1 d2 d3 r0 r1 r2 r3 : Int32) (h0 : Heap) (n0 : Nat) (v : Option Value) (h : Heap) (L : List Loc) : Prop := v = some (.int (own_adv_0_b d0 d1 d2 d3 r0 r1 r2 r3)) ∧ Fr n0 L ∧ Keep h0 h [ao0] ∧ Arv Z h ao0 kd .int (4 : Int32) [(.int (own_adv_0_0 d0 d1 d2 d3 r0 r1 r2 r3)), (.int (own_adv_0_1 d0 d1 d2 d3 r0 r1 r2 r3)), (.int (own_adv_0_2 d0 d1 d2 d3 r0 r1 r2 r3)), (.int (own_adv_0_3 d0 d1 d2 d3 r0 r1 r2 r3))] (.int (0 : Int32))
theorem pn_rm3_0 : plainName "com/example/stratgen/stratgen/model/StateSpace" = true := by first | (simp [plainName, overriddenIn]; done) | decide +kernel
theorem ef_rm3_0 (m : MethodId) (x0 : Addr) (x1 : Addr) (x2 : Int32) : entryFrame m #[(.ref x0), (.ref x1), (.int x2)] 4 = mkF m 0 #[.val (.ref x0), .val (.ref x1), .val (.int x2), .unset] [] := by first | (simp [entryFrame, mkF, argsToLocals, Value.category]; done) | rfl
set_option maxRecDepth 65536 in
set_option maxHeartbeats 40000000 in
theorem rm3_0 (l : Launch) (Z : State) (a0 : Array Value) (hw : ∀ d ∈ tables_1, d.before a0 Z = true) (ws : List Jvm.Cond) (ao0 ao1 : Addr) (kd kr : ClassId) (d0 d1 d2 d3 r0 r1 r2 r3 : Int32) (h0 : Heap) (n0 : Nat) (Z0 : n0 ≤ h0.size) (V_ao0 : Arv Z h0 ao0 kd .int (4 : Int32) [(.int d0), (.int d1), (.int d2), (.int d3)] (.int (0 : Int32))) (V_ao1 : Arv Z h0 ao1 kr .int (4 : Int32) [(.int r0), (.int r1), (.int r2), (.int r3)] (.int (0 : Int32))) (ne_ao0_ao1 : ao0 ≠ ao1) (g_ao0 : n0 ≤ ao0) :
    MetFree l (⟨"com/example/stratgen/stratgen/model/StateSpace", "advance", "([I[II)Z"⟩ : MethodName) (head1 (Jvm.Cond.code (⟨"com/example/stratgen/stratgen/model/StateSpace", "advance", "([I[II)Z"⟩ : MethodName) prog_90_method_21_code 4 (some .boolean) :: ws) ({ frames := 0, cells := 0, slots := 0, locals := 0 } : Room)) (fun a U => a = #[(.ref ao0), (.ref ao1), (.int (0 : Int32))] ∧ Z.Warmed39 U.vm ∧ U.heap = h0) (fun _ _ _ _ _ => True) (fun _ U o U' => ∃ v L, o = .returned v ∧ (Q_rm3_0 Z ao0 ao1 kd kr d0 d1 d2 d3 r0 r1 r2 r3 h0 n0) v U'.heap L ∧ FrameEnd U o U' L ({ frames := 0, cells := 0, slots := 0, locals := 0 } : Room).cells ({ frames := 0, cells := 0, slots := 0, locals := 0 } : Room).slots) := by
  refine MetFree.of_bodySF (plainFor_of_name pn_rm3_0) hisR ?_
  intro p e s m args below meth c s₁ Bd hml0 hP hK
  obtain ⟨rfl, hZ, hh⟩ := hP
  have hx := Bd.exec
  have hby := Bd.bytes
  have hlk := BodyLoose.notSynchronized Bd
  have hret := Bd.returns
  have hml : c.maxLocals = 4 := hml0
  have hown : s.vm.findClass "com/example/stratgen/stratgen/model/StateSpace" = some m.cls := findClass_of_methodNamed Bd.named
  have hnm := (name_of_methodNamed Bd.named Bd.method).1
  have X0 : Stand p l e ({ frames := 0, cells := 0, slots := 0, locals := 0 } : Room) s m #[(.ref ao0), (.ref ao1), (.int (0 : Int32))] below meth c s₁ [] 0 0 := Stand.of_body Bd
  have e0 : s₁.heap = h0 := by rw [← hh, Bd.state]; rfl
  have Nf := Fr.nil n0
  have Zs := Z0
  have Kp : Keep h0 h0 [ao0] := Keep.refl _ _
  show own_End p e below s (Q_rm3_0 Z ao0 ao1 kd kr d0 d1 d2 d3 r0 r1 r2 r3 h0 n0) ({ frames := 0, cells := 0, slots := 0, locals := 0 } : Room).cells ({ frames := 0, cells := 0, slots := 0, locals := 0 } : Room).slots (s₁.setTop (entryFrame m #[(.ref ao0), (.ref ao1), (.int (0 : Int32))] 4))
  refine own_go (x' := s₁.setTop (mkF m 0 #[.val (.ref ao0), .val (.ref ao1), .val (.int (0 : Int32)), .unset] [])) (fun t k => castTop (ef_rm3_0 m ao0 ao1 (0 : Int32)) k) ?_
  refine own_go (x' := s₁.setTop (mkF m 4 #[.val (.ref ao0), .val (.ref ao1), .val (.int (0 : Int32)), .val (.int ((0 : Int32) - (1 : Int32)))] [])) (fun _ k => XS.iloadN X0.here hx rfl (hb hby d3_0) rfl (XS.iconst X0.here hx rfl (hb hby d3_1) (XS.isub X0.here hx rfl (hb hby d3_2) rfl (XS.istoreN X0.here hx rfl (hb hby d3_3) rfl (l' := #[.val (.ref ao0), .val (.ref ao1), .val (.int (0 : Int32)), .val (.int ((0 : Int32) - (1 : Int32)))]) rfl k)))) ?_
  rw [show ((0 : Int32) - (1 : Int32)) = (-1 : Int32) from by decide +kernel]
  refine own_go (x' := s₁.setTop (mkF m 37 #[.val (.ref ao0), .val (.ref ao1), .val (.int (0 : Int32)), .val (.int (-1 : Int32))] [(.int (0 : Int32))])) (fun _ k => XS.iloadN X0.here hx rfl (hb hby d3_4) rfl (XS.ifYes X0.here hx rfl (pc0 := 5) (pc' := 36) rfl (hb hby d3_5) rfl ((if0 _ _).trans (tlt (by decide +kernel : ((-1 : Int32) < (0 : Int32)))).1) (by decide) (by decide) (XS.iconst X0.here hx rfl (hb hby d3_36) k))) ?_
  refine own_retN X0 hx hlk (t := .boolean) hret (by simp) (hb hby d3_37) (w := (0 : Int32)) rfl ?_ (by decide) (by decide)
  rw [e0]
  refine ⟨by simp only [own_adv_0_b, own_adv_0_0, own_adv_0_1, own_adv_0_2, own_adv_0_3], Nf, Kp, ?_⟩
  simp only [own_adv_0_b, own_adv_0_0, own_adv_0_1, own_adv_0_2, own_adv_0_3]
  exact V_ao0
def own_dok_0_0 (d0 r0 p4 : Int32) : Int32 := (if d0 = p4 then (1 : Int32) else (0 : Int32))
theorem d4_0 : decode method_4_code 0 = .ok (.iload_n 2, 1) := by decide +kernel
theorem d4_1 : decode method_4_code 1 = .ok (.iload_n 3, 1) := by decide +kernel
theorem d4_2 : decode method_4_code 2 = .ok (.if_icmp .ge 24, 3) := by decide +kernel
theorem d4_26 : decode method_4_code 26 = .ok (.aload_n 0, 1) := by decide +kernel
theorem d4_27 : decode method_4_code 27 = .ok (.iload_n 2, 1) := by decide +kernel
theorem d4_28 : decode method_4_code 28 = .ok (.iaload, 1) := by decide +kernel
theorem d4_29 : decode method_4_code 29 = .ok (.iload 4, 2) := by decide +kernel
theorem d4_31 : decode method_4_code 31 = .ok (.if_icmp .ne 7, 3) := by decide +kernel
theorem d4_34 : decode method_4_code 34 = .ok (.iconst 1, 1) := by decide +kernel
theorem d4_35 : decode method_4_code 35 = .ok (.goto 4, 3) := by decide +kernel
theorem d4_38 : decode method_4_code 38 = .ok (.iconst 0, 1) := by decide +kernel
theorem d4_39 : decode method_4_code 39 = .ok (.ireturn, 1) := by decide +kernel
def Q_rm4_0_0 (Z : State) (ao0 ao1 : Addr) (kd kr : ClassId) (d0 d1 d2 d3 r0 r1 r2 r3 : Int32) (p4 : Int32) (h0 : Heap) (n0 : Nat) (v : Option Value) (h : Heap) (L : List Loc) : Prop := v = some (.int (own_dok_0_0 d0 r0 p4)) ∧ Fr n0 L ∧ h = h0
theorem pn_rm4_0_0 : plainName "com/example/stratgen/stratgen/model/StateSpaceAdvancePinLaw" = true := by first | (simp [plainName, overriddenIn]; done) | decide +kernel
theorem ef_rm4_0_0 (m : MethodId) (x0 : Addr) (x1 : Addr) (x2 : Int32) (x3 : Int32) (x4 : Int32) : entryFrame m #[(.ref x0), (.ref x1), (.int x2), (.int x3), (.int x4)] 5 = mkF m 0 #[.val (.ref x0), .val (.ref x1), .val (.int x2), .val (.int x3), .val (.int x4)] [] := by first | (simp [entryFrame, mkF, argsToLocals, Value.category]; done) | rfl
set_option maxRecDepth 65536 in
set_option maxHeartbeats 40000000 in
theorem rm4_0_0 (l : Launch) (Z : State) (a0 : Array Value) (hw : ∀ d ∈ tables_1, d.before a0 Z = true) (ws : List Jvm.Cond) (ao0 ao1 : Addr) (kd kr : ClassId) (d0 d1 d2 d3 r0 r1 r2 r3 : Int32) (p4 : Int32) (h0 : Heap) (n0 : Nat) (Z0 : n0 ≤ h0.size) (V_ao0 : Arv Z h0 ao0 kd .int (4 : Int32) [(.int d0), (.int d1), (.int d2), (.int d3)] (.int (0 : Int32))) (V_ao1 : Arv Z h0 ao1 kr .int (4 : Int32) [(.int r0), (.int r1), (.int r2), (.int r3)] (.int (0 : Int32))) :
    MetFree l (⟨"com/example/stratgen/stratgen/model/StateSpaceAdvancePinLaw", "digitOk", "([I[IIII)Z"⟩ : MethodName) (head1 (Jvm.Cond.code (⟨"com/example/stratgen/stratgen/model/StateSpaceAdvancePinLaw", "digitOk", "([I[IIII)Z"⟩ : MethodName) method_4_code 5 (some .boolean) :: ws) ({ frames := 0, cells := 0, slots := 0, locals := 0 } : Room)) (fun a U => a = #[(.ref ao0), (.ref ao1), (.int (0 : Int32)), (.int (0 : Int32)), (.int p4)] ∧ Z.Warmed39 U.vm ∧ U.heap = h0) (fun _ _ _ _ _ => True) (fun _ U o U' => ∃ v L, o = .returned v ∧ (Q_rm4_0_0 Z ao0 ao1 kd kr d0 d1 d2 d3 r0 r1 r2 r3 p4 h0 n0) v U'.heap L ∧ FrameEnd U o U' L ({ frames := 0, cells := 0, slots := 0, locals := 0 } : Room).cells ({ frames := 0, cells := 0, slots := 0, locals := 0 } : Room).slots) := by
  refine MetFree.of_bodySF (plainFor_of_name pn_rm4_0_0) hisR ?_
  intro p e s m args below meth c s₁ Bd hml0 hP hK
  obtain ⟨rfl, hZ, hh⟩ := hP
  have hx := Bd.exec
  have hby := Bd.bytes
  have hlk := BodyLoose.notSynchronized Bd
  have hret := Bd.returns
  have hml : c.maxLocals = 5 := hml0
  have hown : s.vm.findClass "com/example/stratgen/stratgen/model/StateSpaceAdvancePinLaw" = some m.cls := findClass_of_methodNamed Bd.named
  have hnm := (name_of_methodNamed Bd.named Bd.method).1
  have X0 : Stand p l e ({ frames := 0, cells := 0, slots := 0, locals := 0 } : Room) s m #[(.ref ao0), (.ref ao1), (.int (0 : Int32)), (.int (0 : Int32)), (.int p4)] below meth c s₁ [] 0 0 := Stand.of_body Bd
  have e0 : s₁.heap = h0 := by rw [← hh, Bd.state]; rfl
  have Nf := Fr.nil n0
  have Zs := Z0
  have Kp : Keep h0 h0 [] := Keep.refl _ _
  show own_End p e below s (Q_rm4_0_0 Z ao0 ao1 kd kr d0 d1 d2 d3 r0 r1 r2 r3 p4 h0 n0) ({ frames := 0, cells := 0, slots := 0, locals := 0 } : Room).cells ({ frames := 0, cells := 0, slots := 0, locals := 0 } : Room).slots (s₁.setTop (entryFrame m #[(.ref ao0), (.ref ao1), (.int (0 : Int32)), (.int (0 : Int32)), (.int p4)] 5))
  refine own_go (x' := s₁.setTop (mkF m 0 #[.val (.ref ao0), .val (.ref ao1), .val (.int (0 : Int32)), .val (.int (0 : Int32)), .val (.int p4)] [])) (fun t k => castTop (ef_rm4_0_0 m ao0 ao1 (0 : Int32) (0 : Int32) p4) k) ?_
  refine own_go (x' := s₁.setTop (mkF m 28 #[.val (.ref ao0), .val (.ref ao1), .val (.int (0 : Int32)), .val (.int (0 : Int32)), .val (.int p4)] [(.int (0 : Int32)), (.ref ao0)])) (fun _ k => XS.iloadN X0.here hx rfl (hb hby d4_0) rfl (XS.iloadN X0.here hx rfl (hb hby d4_1) rfl (XS.icmpYes X0.here hx rfl (pc0 := 2) (pc' := 26) rfl (hb hby d4_2) rfl (flt (Int32.lt_irrefl)).2.1 (by decide) (by decide) (XS.aloadN X0.here hx rfl (hb hby d4_26) rfl rfl (XS.iloadN X0.here hx rfl (hb hby d4_27) rfl k))))) ?_
  obtain ⟨cl1, Ar1, q1, Sz1, Nn1, Hh1, Gg1⟩ := id V_ao0
  have hin1 : ¬ ((0 : Int32) < 0 ∨ cl1.slots.size ≤ ((0 : Int32)).toNatClampNeg) := inb_of Sz1 ⟨by decide, by decide⟩
  refine own_go (x' := s₁.setTop (mkF m 29 #[.val (.ref ao0), .val (.ref ao1), .val (.int (0 : Int32)), .val (.int (0 : Int32)), .val (.int p4)] [(.int d0)])) (X0.iaload hx (j := (0 : Int32)) (v := (.int d0)) (by rw [e0]; exact Ar1.1) (State.isArrayOf_alike hZ.alike Ar1.2.1) Ar1.2.2 hin1 (Hh1.at hin1 rfl) (g := (mkF m 28 #[.val (.ref ao0), .val (.ref ao1), .val (.int (0 : Int32)), .val (.int (0 : Int32)), .val (.int p4)] [(.int (0 : Int32)), (.ref ao0)])) rfl rfl (hb hby d4_28)) ?_
  refine own_go (x' := s₁.setTop (mkF m 31 #[.val (.ref ao0), .val (.ref ao1), .val (.int (0 : Int32)), .val (.int (0 : Int32)), .val (.int p4)] [(.int p4), (.int d0)])) (fun _ k => XS.iload X0.here hx rfl (hb hby d4_29) rfl k) ?_
  by_cases hc31 : d0 = p4
  · refine own_go (x' := s₁.setTop (mkF m 39 #[.val (.ref ao0), .val (.ref ao1), .val (.int (0 : Int32)), .val (.int (0 : Int32)), .val (.int p4)] [(.int (1 : Int32))])) (fun _ k => XS.icmpNo X0.here hx rfl (hb hby d4_31) rfl (teq hc31).2 (XS.iconst X0.here hx rfl (hb hby d4_34) (XS.goto X0.here hx rfl (pc0 := 35) (pc' := 39) rfl (hb hby d4_35) (by decide) (by decide) k))) ?_
    refine own_retN X0 hx hlk (t := .boolean) hret (by simp) (hb hby d4_39) (w := (1 : Int32)) rfl ?_ (by decide) (by decide)
    rw [e0]
    exact ⟨by simp only [own_dok_0_0, if_pos hc31], Nf, rfl⟩
  · refine own_go (x' := s₁.setTop (mkF m 39 #[.val (.ref ao0), .val (.ref ao1), .val (.int (0 : Int32)), .val (.int (0 : Int32)), .val (.int p4)] [(.int (0 : Int32))])) (fun _ k => XS.icmpYes X0.here hx rfl (pc0 := 31) (pc' := 38) rfl (hb hby d4_31) rfl (feq hc31).2 (by decide) (by decide) (XS.iconst X0.here hx rfl (hb hby d4_38) k)) ?_
    refine own_retN X0 hx hlk (t := .boolean) hret (by simp) (hb hby d4_39) (w := (0 : Int32)) rfl ?_ (by decide) (by decide)
    rw [e0]
    exact ⟨by simp only [own_dok_0_0, if_neg hc31], Nf, rfl⟩
def own_dok_1_0 (d1 r1 p4 : Int32) : Int32 := (if d1 = p4 then (1 : Int32) else (0 : Int32))
def Q_rm4_1_0 (Z : State) (ao0 ao1 : Addr) (kd kr : ClassId) (d0 d1 d2 d3 r0 r1 r2 r3 : Int32) (p4 : Int32) (h0 : Heap) (n0 : Nat) (v : Option Value) (h : Heap) (L : List Loc) : Prop := v = some (.int (own_dok_1_0 d1 r1 p4)) ∧ Fr n0 L ∧ h = h0
theorem pn_rm4_1_0 : plainName "com/example/stratgen/stratgen/model/StateSpaceAdvancePinLaw" = true := by first | (simp [plainName, overriddenIn]; done) | decide +kernel
theorem ef_rm4_1_0 (m : MethodId) (x0 : Addr) (x1 : Addr) (x2 : Int32) (x3 : Int32) (x4 : Int32) : entryFrame m #[(.ref x0), (.ref x1), (.int x2), (.int x3), (.int x4)] 5 = mkF m 0 #[.val (.ref x0), .val (.ref x1), .val (.int x2), .val (.int x3), .val (.int x4)] [] := by first | (simp [entryFrame, mkF, argsToLocals, Value.category]; done) | rfl
set_option maxRecDepth 65536 in
set_option maxHeartbeats 40000000 in
theorem rm4_1_0 (l : Launch) (Z : State) (a0 : Array Value) (hw : ∀ d ∈ tables_1, d.before a0 Z = true) (ws : List Jvm.Cond) (ao0 ao1 : Addr) (kd kr : ClassId) (d0 d1 d2 d3 r0 r1 r2 r3 : Int32) (p4 : Int32) (h0 : Heap) (n0 : Nat) (Z0 : n0 ≤ h0.size) (V_ao0 : Arv Z h0 ao0 kd .int (4 : Int32) [(.int d0), (.int d1), (.int d2), (.int d3)] (.int (0 : Int32))) (V_ao1 : Arv Z h0 ao1 kr .int (4 : Int32) [(.int r0), (.int r1), (.int r2), (.int r3)] (.int (0 : Int32))) :
    MetFree l (⟨"com/example/stratgen/stratgen/model/StateSpaceAdvancePinLaw", "digitOk", "([I[IIII)Z"⟩ : MethodName) (head1 (Jvm.Cond.code (⟨"com/example/stratgen/stratgen/model/StateSpaceAdvancePinLaw", "digitOk", "([I[IIII)Z"⟩ : MethodName) method_4_code 5 (some .boolean) :: ws) ({ frames := 0, cells := 0, slots := 0, locals := 0 } : Room)) (fun a U => a = #[(.ref ao0), (.ref ao1), (.int (1 : Int32)), (.int (0 : Int32)), (.int p4)] ∧ Z.Warmed39 U.vm ∧ U.heap = h0) (fun _ _ _ _ _ => True) (fun _ U o U' => ∃ v L, o = .returned v ∧ (Q_rm4_1_0 Z ao0 ao1 kd kr d0 d1 d2 d3 r0 r1 r2 r3 p4 h0 n0) v U'.heap L ∧ FrameEnd U o U' L ({ frames := 0, cells := 0, slots := 0, locals := 0 } : Room).cells ({ frames := 0, cells := 0, slots := 0, locals := 0 } : Room).slots) := by
  refine MetFree.of_bodySF (plainFor_of_name pn_rm4_1_0) hisR ?_
  intro p e s m args below meth c s₁ Bd hml0 hP hK
  obtain ⟨rfl, hZ, hh⟩ := hP
  have hx := Bd.exec
  have hby := Bd.bytes
  have hlk := BodyLoose.notSynchronized Bd
  have hret := Bd.returns
  have hml : c.maxLocals = 5 := hml0
  have hown : s.vm.findClass "com/example/stratgen/stratgen/model/StateSpaceAdvancePinLaw" = some m.cls := findClass_of_methodNamed Bd.named
  have hnm := (name_of_methodNamed Bd.named Bd.method).1
  have X0 : Stand p l e ({ frames := 0, cells := 0, slots := 0, locals := 0 } : Room) s m #[(.ref ao0), (.ref ao1), (.int (1 : Int32)), (.int (0 : Int32)), (.int p4)] below meth c s₁ [] 0 0 := Stand.of_body Bd
  have e0 : s₁.heap = h0 := by rw [← hh, Bd.state]; rfl
  have Nf := Fr.nil n0
  have Zs := Z0
  have Kp : Keep h0 h0 [] := Keep.refl _ _
  show own_End p e below s (Q_rm4_1_0 Z ao0 ao1 kd kr d0 d1 d2 d3 r0 r1 r2 r3 p4 h0 n0) ({ frames := 0, cells := 0, slots := 0, locals := 0 } : Room).cells ({ frames := 0, cells := 0, slots := 0, locals := 0 } : Room).slots (s₁.setTop (entryFrame m #[(.ref ao0), (.ref ao1), (.int (1 : Int32)), (.int (0 : Int32)), (.int p4)] 5))
  refine own_go (x' := s₁.setTop (mkF m 0 #[.val (.ref ao0), .val (.ref ao1), .val (.int (1 : Int32)), .val (.int (0 : Int32)), .val (.int p4)] [])) (fun t k => castTop (ef_rm4_1_0 m ao0 ao1 (1 : Int32) (0 : Int32) p4) k) ?_
  refine own_go (x' := s₁.setTop (mkF m 28 #[.val (.ref ao0), .val (.ref ao1), .val (.int (1 : Int32)), .val (.int (0 : Int32)), .val (.int p4)] [(.int (1 : Int32)), (.ref ao0)])) (fun _ k => XS.iloadN X0.here hx rfl (hb hby d4_0) rfl (XS.iloadN X0.here hx rfl (hb hby d4_1) rfl (XS.icmpYes X0.here hx rfl (pc0 := 2) (pc' := 26) rfl (hb hby d4_2) rfl (flt (by decide +kernel : ¬ ((1 : Int32) < (0 : Int32)))).2.1 (by decide) (by decide) (XS.aloadN X0.here hx rfl (hb hby d4_26) rfl rfl (XS.iloadN X0.here hx rfl (hb hby d4_27) rfl k))))) ?_
  obtain ⟨cl1, Ar1, q1, Sz1, Nn1, Hh1, Gg1⟩ := id V_ao0
  have hin1 : ¬ ((1 : Int32) < 0 ∨ cl1.slots.size ≤ ((1 : Int32)).toNatClampNeg) := inb_of Sz1 ⟨by decide, by decide⟩
  refine own_go (x' := s₁.setTop (mkF m 29 #[.val (.ref ao0), .val (.ref ao1), .val (.int (1 : Int32)), .val (.int (0 : Int32)), .val (.int p4)] [(.int d1)])) (X0.iaload hx (j := (1 : Int32)) (v := (.int d1)) (by rw [e0]; exact Ar1.1) (State.isArrayOf_alike hZ.alike Ar1.2.1) Ar1.2.2 hin1 (Hh1.at hin1 rfl) (g := (mkF m 28 #[.val (.ref ao0), .val (.ref ao1), .val (.int (1 : Int32)), .val (.int (0 : Int32)), .val (.int p4)] [(.int (1 : Int32)), (.ref ao0)])) rfl rfl (hb hby d4_28)) ?_
  refine own_go (x' := s₁.setTop (mkF m 31 #[.val (.ref ao0), .val (.ref ao1), .val (.int (1 : Int32)), .val (.int (0 : Int32)), .val (.int p4)] [(.int p4), (.int d1)])) (fun _ k => XS.iload X0.here hx rfl (hb hby d4_29) rfl k) ?_
  by_cases hc31 : d1 = p4
  · refine own_go (x' := s₁.setTop (mkF m 39 #[.val (.ref ao0), .val (.ref ao1), .val (.int (1 : Int32)), .val (.int (0 : Int32)), .val (.int p4)] [(.int (1 : Int32))])) (fun _ k => XS.icmpNo X0.here hx rfl (hb hby d4_31) rfl (teq hc31).2 (XS.iconst X0.here hx rfl (hb hby d4_34) (XS.goto X0.here hx rfl (pc0 := 35) (pc' := 39) rfl (hb hby d4_35) (by decide) (by decide) k))) ?_
    refine own_retN X0 hx hlk (t := .boolean) hret (by simp) (hb hby d4_39) (w := (1 : Int32)) rfl ?_ (by decide) (by decide)
    rw [e0]
    exact ⟨by simp only [own_dok_1_0, if_pos hc31], Nf, rfl⟩
  · refine own_go (x' := s₁.setTop (mkF m 39 #[.val (.ref ao0), .val (.ref ao1), .val (.int (1 : Int32)), .val (.int (0 : Int32)), .val (.int p4)] [(.int (0 : Int32))])) (fun _ k => XS.icmpYes X0.here hx rfl (pc0 := 31) (pc' := 38) rfl (hb hby d4_31) rfl (feq hc31).2 (by decide) (by decide) (XS.iconst X0.here hx rfl (hb hby d4_38) k)) ?_
    refine own_retN X0 hx hlk (t := .boolean) hret (by simp) (hb hby d4_39) (w := (0 : Int32)) rfl ?_ (by decide) (by decide)
    rw [e0]
    exact ⟨by simp only [own_dok_1_0, if_neg hc31], Nf, rfl⟩
def own_dok_2_0 (d2 r2 p4 : Int32) : Int32 := (if d2 = p4 then (1 : Int32) else (0 : Int32))
def Q_rm4_2_0 (Z : State) (ao0 ao1 : Addr) (kd kr : ClassId) (d0 d1 d2 d3 r0 r1 r2 r3 : Int32) (p4 : Int32) (h0 : Heap) (n0 : Nat) (v : Option Value) (h : Heap) (L : List Loc) : Prop := v = some (.int (own_dok_2_0 d2 r2 p4)) ∧ Fr n0 L ∧ h = h0
theorem pn_rm4_2_0 : plainName "com/example/stratgen/stratgen/model/StateSpaceAdvancePinLaw" = true := by first | (simp [plainName, overriddenIn]; done) | decide +kernel
theorem ef_rm4_2_0 (m : MethodId) (x0 : Addr) (x1 : Addr) (x2 : Int32) (x3 : Int32) (x4 : Int32) : entryFrame m #[(.ref x0), (.ref x1), (.int x2), (.int x3), (.int x4)] 5 = mkF m 0 #[.val (.ref x0), .val (.ref x1), .val (.int x2), .val (.int x3), .val (.int x4)] [] := by first | (simp [entryFrame, mkF, argsToLocals, Value.category]; done) | rfl
set_option maxRecDepth 65536 in
set_option maxHeartbeats 40000000 in
theorem rm4_2_0 (l : Launch) (Z : State) (a0 : Array Value) (hw : ∀ d ∈ tables_1, d.before a0 Z = true) (ws : List Jvm.Cond) (ao0 ao1 : Addr) (kd kr : ClassId) (d0 d1 d2 d3 r0 r1 r2 r3 : Int32) (p4 : Int32) (h0 : Heap) (n0 : Nat) (Z0 : n0 ≤ h0.size) (V_ao0 : Arv Z h0 ao0 kd .int (4 : Int32) [(.int d0), (.int d1), (.int d2), (.int d3)] (.int (0 : Int32))) (V_ao1 : Arv Z h0 ao1 kr .int (4 : Int32) [(.int r0), (.int r1), (.int r2), (.int r3)] (.int (0 : Int32))) :
    MetFree l (⟨"com/example/stratgen/stratgen/model/StateSpaceAdvancePinLaw", "digitOk", "([I[IIII)Z"⟩ : MethodName) (head1 (Jvm.Cond.code (⟨"com/example/stratgen/stratgen/model/StateSpaceAdvancePinLaw", "digitOk", "([I[IIII)Z"⟩ : MethodName) method_4_code 5 (some .boolean) :: ws) ({ frames := 0, cells := 0, slots := 0, locals := 0 } : Room)) (fun a U => a = #[(.ref ao0), (.ref ao1), (.int (2 : Int32)), (.int (0 : Int32)), (.int p4)] ∧ Z.Warmed39 U.vm ∧ U.heap = h0) (fun _ _ _ _ _ => True) (fun _ U o U' => ∃ v L, o = .returned v ∧ (Q_rm4_2_0 Z ao0 ao1 kd kr d0 d1 d2 d3 r0 r1 r2 r3 p4 h0 n0) v U'.heap L ∧ FrameEnd U o U' L ({ frames := 0, cells := 0, slots := 0, locals := 0 } : Room).cells ({ frames := 0, cells := 0, slots := 0, locals := 0 } : Room).slots) := by
  refine MetFree.of_bodySF (plainFor_of_name pn_rm4_2_0) hisR ?_
  intro p e s m args below meth c s₁ Bd hml0 hP hK
  obtain ⟨rfl, hZ, hh⟩ := hP
  have hx := Bd.exec
  have hby := Bd.bytes
  have hlk := BodyLoose.notSynchronized Bd
  have hret := Bd.returns
  have hml : c.maxLocals = 5 := hml0
  have hown : s.vm.findClass "com/example/stratgen/stratgen/model/StateSpaceAdvancePinLaw" = some m.cls := findClass_of_methodNamed Bd.named
  have hnm := (name_of_methodNamed Bd.named Bd.method).1
  have X0 : Stand p l e ({ frames := 0, cells := 0, slots := 0, locals := 0 } : Room) s m #[(.ref ao0), (.ref ao1), (.int (2 : Int32)), (.int (0 : Int32)), (.int p4)] below meth c s₁ [] 0 0 := Stand.of_body Bd
  have e0 : s₁.heap = h0 := by rw [← hh, Bd.state]; rfl
  have Nf := Fr.nil n0
  have Zs := Z0
  have Kp : Keep h0 h0 [] := Keep.refl _ _
  show own_End p e below s (Q_rm4_2_0 Z ao0 ao1 kd kr d0 d1 d2 d3 r0 r1 r2 r3 p4 h0 n0) ({ frames := 0, cells := 0, slots := 0, locals := 0 } : Room).cells ({ frames := 0, cells := 0, slots := 0, locals := 0 } : Room).slots (s₁.setTop (entryFrame m #[(.ref ao0), (.ref ao1), (.int (2 : Int32)), (.int (0 : Int32)), (.int p4)] 5))
  refine own_go (x' := s₁.setTop (mkF m 0 #[.val (.ref ao0), .val (.ref ao1), .val (.int (2 : Int32)), .val (.int (0 : Int32)), .val (.int p4)] [])) (fun t k => castTop (ef_rm4_2_0 m ao0 ao1 (2 : Int32) (0 : Int32) p4) k) ?_
  refine own_go (x' := s₁.setTop (mkF m 28 #[.val (.ref ao0), .val (.ref ao1), .val (.int (2 : Int32)), .val (.int (0 : Int32)), .val (.int p4)] [(.int (2 : Int32)), (.ref ao0)])) (fun _ k => XS.iloadN X0.here hx rfl (hb hby d4_0) rfl (XS.iloadN X0.here hx rfl (hb hby d4_1) rfl (XS.icmpYes X0.here hx rfl (pc0 := 2) (pc' := 26) rfl (hb hby d4_2) rfl (flt (by decide +kernel : ¬ ((2 : Int32) < (0 : Int32)))).2.1 (by decide) (by decide) (XS.aloadN X0.here hx rfl (hb hby d4_26) rfl rfl (XS.iloadN X0.here hx rfl (hb hby d4_27) rfl k))))) ?_
  obtain ⟨cl1, Ar1, q1, Sz1, Nn1, Hh1, Gg1⟩ := id V_ao0
  have hin1 : ¬ ((2 : Int32) < 0 ∨ cl1.slots.size ≤ ((2 : Int32)).toNatClampNeg) := inb_of Sz1 ⟨by decide, by decide⟩
  refine own_go (x' := s₁.setTop (mkF m 29 #[.val (.ref ao0), .val (.ref ao1), .val (.int (2 : Int32)), .val (.int (0 : Int32)), .val (.int p4)] [(.int d2)])) (X0.iaload hx (j := (2 : Int32)) (v := (.int d2)) (by rw [e0]; exact Ar1.1) (State.isArrayOf_alike hZ.alike Ar1.2.1) Ar1.2.2 hin1 (Hh1.at hin1 rfl) (g := (mkF m 28 #[.val (.ref ao0), .val (.ref ao1), .val (.int (2 : Int32)), .val (.int (0 : Int32)), .val (.int p4)] [(.int (2 : Int32)), (.ref ao0)])) rfl rfl (hb hby d4_28)) ?_
  refine own_go (x' := s₁.setTop (mkF m 31 #[.val (.ref ao0), .val (.ref ao1), .val (.int (2 : Int32)), .val (.int (0 : Int32)), .val (.int p4)] [(.int p4), (.int d2)])) (fun _ k => XS.iload X0.here hx rfl (hb hby d4_29) rfl k) ?_
  by_cases hc31 : d2 = p4
  · refine own_go (x' := s₁.setTop (mkF m 39 #[.val (.ref ao0), .val (.ref ao1), .val (.int (2 : Int32)), .val (.int (0 : Int32)), .val (.int p4)] [(.int (1 : Int32))])) (fun _ k => XS.icmpNo X0.here hx rfl (hb hby d4_31) rfl (teq hc31).2 (XS.iconst X0.here hx rfl (hb hby d4_34) (XS.goto X0.here hx rfl (pc0 := 35) (pc' := 39) rfl (hb hby d4_35) (by decide) (by decide) k))) ?_
    refine own_retN X0 hx hlk (t := .boolean) hret (by simp) (hb hby d4_39) (w := (1 : Int32)) rfl ?_ (by decide) (by decide)
    rw [e0]
    exact ⟨by simp only [own_dok_2_0, if_pos hc31], Nf, rfl⟩
  · refine own_go (x' := s₁.setTop (mkF m 39 #[.val (.ref ao0), .val (.ref ao1), .val (.int (2 : Int32)), .val (.int (0 : Int32)), .val (.int p4)] [(.int (0 : Int32))])) (fun _ k => XS.icmpYes X0.here hx rfl (pc0 := 31) (pc' := 38) rfl (hb hby d4_31) rfl (feq hc31).2 (by decide) (by decide) (XS.iconst X0.here hx rfl (hb hby d4_38) k)) ?_
    refine own_retN X0 hx hlk (t := .boolean) hret (by simp) (hb hby d4_39) (w := (0 : Int32)) rfl ?_ (by decide) (by decide)
    rw [e0]
    exact ⟨by simp only [own_dok_2_0, if_neg hc31], Nf, rfl⟩
def own_dok_3_0 (d3 r3 p4 : Int32) : Int32 := (if d3 = p4 then (1 : Int32) else (0 : Int32))
def Q_rm4_3_0 (Z : State) (ao0 ao1 : Addr) (kd kr : ClassId) (d0 d1 d2 d3 r0 r1 r2 r3 : Int32) (p4 : Int32) (h0 : Heap) (n0 : Nat) (v : Option Value) (h : Heap) (L : List Loc) : Prop := v = some (.int (own_dok_3_0 d3 r3 p4)) ∧ Fr n0 L ∧ h = h0
theorem pn_rm4_3_0 : plainName "com/example/stratgen/stratgen/model/StateSpaceAdvancePinLaw" = true := by first | (simp [plainName, overriddenIn]; done) | decide +kernel
theorem ef_rm4_3_0 (m : MethodId) (x0 : Addr) (x1 : Addr) (x2 : Int32) (x3 : Int32) (x4 : Int32) : entryFrame m #[(.ref x0), (.ref x1), (.int x2), (.int x3), (.int x4)] 5 = mkF m 0 #[.val (.ref x0), .val (.ref x1), .val (.int x2), .val (.int x3), .val (.int x4)] [] := by first | (simp [entryFrame, mkF, argsToLocals, Value.category]; done) | rfl
set_option maxRecDepth 65536 in
set_option maxHeartbeats 40000000 in
theorem rm4_3_0 (l : Launch) (Z : State) (a0 : Array Value) (hw : ∀ d ∈ tables_1, d.before a0 Z = true) (ws : List Jvm.Cond) (ao0 ao1 : Addr) (kd kr : ClassId) (d0 d1 d2 d3 r0 r1 r2 r3 : Int32) (p4 : Int32) (h0 : Heap) (n0 : Nat) (Z0 : n0 ≤ h0.size) (V_ao0 : Arv Z h0 ao0 kd .int (4 : Int32) [(.int d0), (.int d1), (.int d2), (.int d3)] (.int (0 : Int32))) (V_ao1 : Arv Z h0 ao1 kr .int (4 : Int32) [(.int r0), (.int r1), (.int r2), (.int r3)] (.int (0 : Int32))) :
    MetFree l (⟨"com/example/stratgen/stratgen/model/StateSpaceAdvancePinLaw", "digitOk", "([I[IIII)Z"⟩ : MethodName) (head1 (Jvm.Cond.code (⟨"com/example/stratgen/stratgen/model/StateSpaceAdvancePinLaw", "digitOk", "([I[IIII)Z"⟩ : MethodName) method_4_code 5 (some .boolean) :: ws) ({ frames := 0, cells := 0, slots := 0, locals := 0 } : Room)) (fun a U => a = #[(.ref ao0), (.ref ao1), (.int (3 : Int32)), (.int (0 : Int32)), (.int p4)] ∧ Z.Warmed39 U.vm ∧ U.heap = h0) (fun _ _ _ _ _ => True) (fun _ U o U' => ∃ v L, o = .returned v ∧ (Q_rm4_3_0 Z ao0 ao1 kd kr d0 d1 d2 d3 r0 r1 r2 r3 p4 h0 n0) v U'.heap L ∧ FrameEnd U o U' L ({ frames := 0, cells := 0, slots := 0, locals := 0 } : Room).cells ({ frames := 0, cells := 0, slots := 0, locals := 0 } : Room).slots) := by
  refine MetFree.of_bodySF (plainFor_of_name pn_rm4_3_0) hisR ?_
  intro p e s m args below meth c s₁ Bd hml0 hP hK
  obtain ⟨rfl, hZ, hh⟩ := hP
  have hx := Bd.exec
  have hby := Bd.bytes
  have hlk := BodyLoose.notSynchronized Bd
  have hret := Bd.returns
  have hml : c.maxLocals = 5 := hml0
  have hown : s.vm.findClass "com/example/stratgen/stratgen/model/StateSpaceAdvancePinLaw" = some m.cls := findClass_of_methodNamed Bd.named
  have hnm := (name_of_methodNamed Bd.named Bd.method).1
  have X0 : Stand p l e ({ frames := 0, cells := 0, slots := 0, locals := 0 } : Room) s m #[(.ref ao0), (.ref ao1), (.int (3 : Int32)), (.int (0 : Int32)), (.int p4)] below meth c s₁ [] 0 0 := Stand.of_body Bd
  have e0 : s₁.heap = h0 := by rw [← hh, Bd.state]; rfl
  have Nf := Fr.nil n0
  have Zs := Z0
  have Kp : Keep h0 h0 [] := Keep.refl _ _
  show own_End p e below s (Q_rm4_3_0 Z ao0 ao1 kd kr d0 d1 d2 d3 r0 r1 r2 r3 p4 h0 n0) ({ frames := 0, cells := 0, slots := 0, locals := 0 } : Room).cells ({ frames := 0, cells := 0, slots := 0, locals := 0 } : Room).slots (s₁.setTop (entryFrame m #[(.ref ao0), (.ref ao1), (.int (3 : Int32)), (.int (0 : Int32)), (.int p4)] 5))
  refine own_go (x' := s₁.setTop (mkF m 0 #[.val (.ref ao0), .val (.ref ao1), .val (.int (3 : Int32)), .val (.int (0 : Int32)), .val (.int p4)] [])) (fun t k => castTop (ef_rm4_3_0 m ao0 ao1 (3 : Int32) (0 : Int32) p4) k) ?_
  refine own_go (x' := s₁.setTop (mkF m 28 #[.val (.ref ao0), .val (.ref ao1), .val (.int (3 : Int32)), .val (.int (0 : Int32)), .val (.int p4)] [(.int (3 : Int32)), (.ref ao0)])) (fun _ k => XS.iloadN X0.here hx rfl (hb hby d4_0) rfl (XS.iloadN X0.here hx rfl (hb hby d4_1) rfl (XS.icmpYes X0.here hx rfl (pc0 := 2) (pc' := 26) rfl (hb hby d4_2) rfl (flt (by decide +kernel : ¬ ((3 : Int32) < (0 : Int32)))).2.1 (by decide) (by decide) (XS.aloadN X0.here hx rfl (hb hby d4_26) rfl rfl (XS.iloadN X0.here hx rfl (hb hby d4_27) rfl k))))) ?_
  obtain ⟨cl1, Ar1, q1, Sz1, Nn1, Hh1, Gg1⟩ := id V_ao0
  have hin1 : ¬ ((3 : Int32) < 0 ∨ cl1.slots.size ≤ ((3 : Int32)).toNatClampNeg) := inb_of Sz1 ⟨by decide, by decide⟩
  refine own_go (x' := s₁.setTop (mkF m 29 #[.val (.ref ao0), .val (.ref ao1), .val (.int (3 : Int32)), .val (.int (0 : Int32)), .val (.int p4)] [(.int d3)])) (X0.iaload hx (j := (3 : Int32)) (v := (.int d3)) (by rw [e0]; exact Ar1.1) (State.isArrayOf_alike hZ.alike Ar1.2.1) Ar1.2.2 hin1 (Hh1.at hin1 rfl) (g := (mkF m 28 #[.val (.ref ao0), .val (.ref ao1), .val (.int (3 : Int32)), .val (.int (0 : Int32)), .val (.int p4)] [(.int (3 : Int32)), (.ref ao0)])) rfl rfl (hb hby d4_28)) ?_
  refine own_go (x' := s₁.setTop (mkF m 31 #[.val (.ref ao0), .val (.ref ao1), .val (.int (3 : Int32)), .val (.int (0 : Int32)), .val (.int p4)] [(.int p4), (.int d3)])) (fun _ k => XS.iload X0.here hx rfl (hb hby d4_29) rfl k) ?_
  by_cases hc31 : d3 = p4
  · refine own_go (x' := s₁.setTop (mkF m 39 #[.val (.ref ao0), .val (.ref ao1), .val (.int (3 : Int32)), .val (.int (0 : Int32)), .val (.int p4)] [(.int (1 : Int32))])) (fun _ k => XS.icmpNo X0.here hx rfl (hb hby d4_31) rfl (teq hc31).2 (XS.iconst X0.here hx rfl (hb hby d4_34) (XS.goto X0.here hx rfl (pc0 := 35) (pc' := 39) rfl (hb hby d4_35) (by decide) (by decide) k))) ?_
    refine own_retN X0 hx hlk (t := .boolean) hret (by simp) (hb hby d4_39) (w := (1 : Int32)) rfl ?_ (by decide) (by decide)
    rw [e0]
    exact ⟨by simp only [own_dok_3_0, if_pos hc31], Nf, rfl⟩
  · refine own_go (x' := s₁.setTop (mkF m 39 #[.val (.ref ao0), .val (.ref ao1), .val (.int (3 : Int32)), .val (.int (0 : Int32)), .val (.int p4)] [(.int (0 : Int32))])) (fun _ k => XS.icmpYes X0.here hx rfl (pc0 := 31) (pc' := 38) rfl (hb hby d4_31) rfl (feq hc31).2 (by decide) (by decide) (XS.iconst X0.here hx rfl (hb hby d4_38) k)) ?_
    refine own_retN X0 hx hlk (t := .boolean) hret (by simp) (hb hby d4_39) (w := (0 : Int32)) rfl ?_ (by decide) (by decide)
    rw [e0]
    exact ⟨by simp only [own_dok_3_0, if_neg hc31], Nf, rfl⟩
def own_val_1 (d0 d1 d2 d3 r0 r1 r2 r3 : Int32) : Int64 := (d0.toInt64)
theorem d1_6 : decode method_2_code 6 = .ok (.aload_n 0, 1) := by decide +kernel
theorem d1_7 : decode method_2_code 7 = .ok (.iconst 0, 1) := by decide +kernel
theorem d1_8 : decode method_2_code 8 = .ok (.iaload, 1) := by decide +kernel
theorem d1_9 : decode method_2_code 9 = .ok (.i2l, 1) := by decide +kernel
theorem d1_10 : decode method_2_code 10 = .ok (.lstore_n 3, 1) := by decide +kernel
def Q_rm1_1 (Z : State) (ao0 ao1 : Addr) (kd kr : ClassId) (d0 d1 d2 d3 r0 r1 r2 r3 : Int32) (h0 : Heap) (n0 : Nat) (v : Option Value) (h : Heap) (L : List Loc) : Prop := v = some (.long (own_val_1 d0 d1 d2 d3 r0 r1 r2 r3)) ∧ Fr n0 L ∧ h = h0
theorem pn_rm1_1 : plainName "com/example/stratgen/stratgen/model/StateSpaceAdvancePinLaw" = true := by first | (simp [plainName, overriddenIn]; done) | decide +kernel
theorem ef_rm1_1 (m : MethodId) (x0 : Addr) (x1 : Addr) (x2 : Int32) : entryFrame m #[(.ref x0), (.ref x1), (.int x2)] 5 = mkF m 0 #[.val (.ref x0), .val (.ref x1), .val (.int x2), .unset, .unset] [] := by first | (simp [entryFrame, mkF, argsToLocals, Value.category]; done) | rfl
set_option maxRecDepth 65536 in
set_option maxHeartbeats 40000000 in
theorem rm1_1 (l : Launch) (Z : State) (a0 : Array Value) (hw : ∀ d ∈ tables_1, d.before a0 Z = true) (ws : List Jvm.Cond) (ao0 ao1 : Addr) (kd kr : ClassId) (d0 d1 d2 d3 r0 r1 r2 r3 : Int32) (h0 : Heap) (n0 : Nat) (Z0 : n0 ≤ h0.size) (V_ao0 : Arv Z h0 ao0 kd .int (4 : Int32) [(.int d0), (.int d1), (.int d2), (.int d3)] (.int (0 : Int32))) (V_ao1 : Arv Z h0 ao1 kr .int (4 : Int32) [(.int r0), (.int r1), (.int r2), (.int r3)] (.int (0 : Int32))) :
    MetFree l (⟨"com/example/stratgen/stratgen/model/StateSpaceAdvancePinLaw", "value", "([I[II)J"⟩ : MethodName) (head1 (Jvm.Cond.code (⟨"com/example/stratgen/stratgen/model/StateSpaceAdvancePinLaw", "value", "([I[II)J"⟩ : MethodName) method_2_code 5 (some .long) :: ws) ({ frames := 0, cells := 0, slots := 0, locals := 0 } : Room)) (fun a U => a = #[(.ref ao0), (.ref ao1), (.int (1 : Int32))] ∧ Z.Warmed39 U.vm ∧ U.heap = h0) (fun _ _ _ _ _ => True) (fun _ U o U' => ∃ v L, o = .returned v ∧ (Q_rm1_1 Z ao0 ao1 kd kr d0 d1 d2 d3 r0 r1 r2 r3 h0 n0) v U'.heap L ∧ FrameEnd U o U' L ({ frames := 0, cells := 0, slots := 0, locals := 0 } : Room).cells ({ frames := 0, cells := 0, slots := 0, locals := 0 } : Room).slots) := by
  refine MetFree.of_bodySF (plainFor_of_name pn_rm1_1) hisR ?_
  intro p e s m args below meth c s₁ Bd hml0 hP hK
  obtain ⟨rfl, hZ, hh⟩ := hP
  have hx := Bd.exec
  have hby := Bd.bytes
  have hlk := BodyLoose.notSynchronized Bd
  have hret := Bd.returns
  have hml : c.maxLocals = 5 := hml0
  have hown : s.vm.findClass "com/example/stratgen/stratgen/model/StateSpaceAdvancePinLaw" = some m.cls := findClass_of_methodNamed Bd.named
  have hnm := (name_of_methodNamed Bd.named Bd.method).1
  have X0 : Stand p l e ({ frames := 0, cells := 0, slots := 0, locals := 0 } : Room) s m #[(.ref ao0), (.ref ao1), (.int (1 : Int32))] below meth c s₁ [] 0 0 := Stand.of_body Bd
  have e0 : s₁.heap = h0 := by rw [← hh, Bd.state]; rfl
  have Nf := Fr.nil n0
  have Zs := Z0
  have Kp : Keep h0 h0 [] := Keep.refl _ _
  show own_End p e below s (Q_rm1_1 Z ao0 ao1 kd kr d0 d1 d2 d3 r0 r1 r2 r3 h0 n0) ({ frames := 0, cells := 0, slots := 0, locals := 0 } : Room).cells ({ frames := 0, cells := 0, slots := 0, locals := 0 } : Room).slots (s₁.setTop (entryFrame m #[(.ref ao0), (.ref ao1), (.int (1 : Int32))] 5))
  refine own_go (x' := s₁.setTop (mkF m 0 #[.val (.ref ao0), .val (.ref ao1), .val (.int (1 : Int32)), .unset, .unset] [])) (fun t k => castTop (ef_rm1_1 m ao0 ao1 (1 : Int32)) k) ?_
  refine own_go (x' := s₁.setTop (mkF m 8 #[.val (.ref ao0), .val (.ref ao1), .val (.int (1 : Int32)), .val (.long (0 : Int64)), .second] [(.int (0 : Int32)), (.ref ao0)])) (fun _ k => XS.lconst X0.here hx rfl (hb hby d1_0) (XS.lstoreN X0.here hx rfl (hb hby d1_1) rfl (l' := #[.val (.ref ao0), .val (.ref ao1), .val (.int (1 : Int32)), .val (.long (0 : Int64)), .second]) rfl (XS.iloadN X0.here hx rfl (hb hby d1_2) rfl (XS.ifNo X0.here hx rfl (hb hby d1_3) rfl ((if0 _ _).trans (tlt (by decide +kernel : ((0 : Int32) < (1 : Int32)))).2.2.2) (XS.aloadN X0.here hx rfl (hb hby d1_6) rfl rfl (XS.iconst X0.here hx rfl (hb hby d1_7) k)))))) ?_
  obtain ⟨cl1, Ar1, q1, Sz1, Nn1, Hh1, Gg1⟩ := id V_ao0
  have hin1 : ¬ ((0 : Int32) < 0 ∨ cl1.slots.size ≤ ((0 : Int32)).toNatClampNeg) := inb_of Sz1 ⟨by decide, by decide⟩
  refine own_go (x' := s₁.setTop (mkF m 9 #[.val (.ref ao0), .val (.ref ao1), .val (.int (1 : Int32)), .val (.long (0 : Int64)), .second] [(.int d0)])) (X0.iaload hx (j := (0 : Int32)) (v := (.int d0)) (by rw [e0]; exact Ar1.1) (State.isArrayOf_alike hZ.alike Ar1.2.1) Ar1.2.2 hin1 (Hh1.at hin1 rfl) (g := (mkF m 8 #[.val (.ref ao0), .val (.ref ao1), .val (.int (1 : Int32)), .val (.long (0 : Int64)), .second] [(.int (0 : Int32)), (.ref ao0)])) rfl rfl (hb hby d1_8)) ?_
  refine own_go (x' := s₁.setTop (mkF m 29 #[.val (.ref ao0), .val (.ref ao1), .val (.int (1 : Int32)), .val (.long (d0.toInt64)), .second] [(.int (1 : Int32))])) (fun _ k => XS.i2l X0.here hx rfl (hb hby d1_9) rfl (XS.lstoreN X0.here hx rfl (hb hby d1_10) rfl (l' := #[.val (.ref ao0), .val (.ref ao1), .val (.int (1 : Int32)), .val (.long (d0.toInt64)), .second]) rfl (XS.iloadN X0.here hx rfl (hb hby d1_11) rfl (XS.iconst X0.here hx rfl (hb hby d1_12) (XS.icmpYes X0.here hx rfl (pc0 := 13) (pc' := 28) rfl (hb hby d1_13) rfl (flt (Int32.lt_irrefl)).2.2.2 (by decide) (by decide) (XS.iloadN X0.here hx rfl (hb hby d1_28) rfl k)))))) ?_
  refine own_go (x' := s₁.setTop (mkF m 63 #[.val (.ref ao0), .val (.ref ao1), .val (.int (1 : Int32)), .val (.long (d0.toInt64)), .second] [(.long (d0.toInt64))])) (fun _ k => XS.iconst X0.here hx rfl (hb hby d1_29) (XS.icmpYes X0.here hx rfl (pc0 := 30) (pc' := 45) rfl (hb hby d1_30) rfl (flt (by decide +kernel : ¬ ((2 : Int32) < (1 : Int32)))).2.2.2 (by decide) (by decide) (XS.iloadN X0.here hx rfl (hb hby d1_45) rfl (XS.iconst X0.here hx rfl (hb hby d1_46) (XS.icmpYes X0.here hx rfl (pc0 := 47) (pc' := 62) rfl (hb hby d1_47) rfl (flt (by decide +kernel : ¬ ((3 : Int32) < (1 : Int32)))).2.2.2 (by decide) (by decide) (XS.lloadN X0.here hx rfl (hb hby d1_62) rfl k)))))) ?_
  refine own_retJ X0 hx hlk hret (hb hby d1_63) ?_ (by decide) (by decide)
  rw [e0]
  exact ⟨rfl, Nf, rfl⟩
def own_tot_1 (r0 r1 r2 r3 : Int32) : Int64 := ((1 : Int64) * (r0.toInt64))
theorem d2_6 : decode method_3_code 6 = .ok (.lload_n 2, 1) := by decide +kernel
theorem d2_7 : decode method_3_code 7 = .ok (.aload_n 0, 1) := by decide +kernel
theorem d2_8 : decode method_3_code 8 = .ok (.iconst 0, 1) := by decide +kernel
theorem d2_9 : decode method_3_code 9 = .ok (.iaload, 1) := by decide +kernel
theorem d2_10 : decode method_3_code 10 = .ok (.i2l, 1) := by decide +kernel
theorem d2_11 : decode method_3_code 11 = .ok (.lmul, 1) := by decide +kernel
theorem d2_12 : decode method_3_code 12 = .ok (.lstore_n 2, 1) := by decide +kernel
def Q_rm2_1 (Z : State) (ao0 : Addr) (kr : ClassId) (r0 r1 r2 r3 : Int32) (h0 : Heap) (n0 : Nat) (v : Option Value) (h : Heap) (L : List Loc) : Prop := v = some (.long (own_tot_1 r0 r1 r2 r3)) ∧ Fr n0 L ∧ h = h0
theorem pn_rm2_1 : plainName "com/example/stratgen/stratgen/model/StateSpaceAdvancePinLaw" = true := by first | (simp [plainName, overriddenIn]; done) | decide +kernel
theorem ef_rm2_1 (m : MethodId) (x0 : Addr) (x1 : Int32) : entryFrame m #[(.ref x0), (.int x1)] 4 = mkF m 0 #[.val (.ref x0), .val (.int x1), .unset, .unset] [] := by first | (simp [entryFrame, mkF, argsToLocals, Value.category]; done) | rfl
set_option maxRecDepth 65536 in
set_option maxHeartbeats 40000000 in
theorem rm2_1 (l : Launch) (Z : State) (a0 : Array Value) (hw : ∀ d ∈ tables_1, d.before a0 Z = true) (ws : List Jvm.Cond) (ao0 : Addr) (kr : ClassId) (r0 r1 r2 r3 : Int32) (h0 : Heap) (n0 : Nat) (Z0 : n0 ≤ h0.size) (V_ao0 : Arv Z h0 ao0 kr .int (4 : Int32) [(.int r0), (.int r1), (.int r2), (.int r3)] (.int (0 : Int32))) :
    MetFree l (⟨"com/example/stratgen/stratgen/model/StateSpaceAdvancePinLaw", "total", "([II)J"⟩ : MethodName) (head1 (Jvm.Cond.code (⟨"com/example/stratgen/stratgen/model/StateSpaceAdvancePinLaw", "total", "([II)J"⟩ : MethodName) method_3_code 4 (some .long) :: ws) ({ frames := 0, cells := 0, slots := 0, locals := 0 } : Room)) (fun a U => a = #[(.ref ao0), (.int (1 : Int32))] ∧ Z.Warmed39 U.vm ∧ U.heap = h0) (fun _ _ _ _ _ => True) (fun _ U o U' => ∃ v L, o = .returned v ∧ (Q_rm2_1 Z ao0 kr r0 r1 r2 r3 h0 n0) v U'.heap L ∧ FrameEnd U o U' L ({ frames := 0, cells := 0, slots := 0, locals := 0 } : Room).cells ({ frames := 0, cells := 0, slots := 0, locals := 0 } : Room).slots) := by
  refine MetFree.of_bodySF (plainFor_of_name pn_rm2_1) hisR ?_
  intro p e s m args below meth c s₁ Bd hml0 hP hK
  obtain ⟨rfl, hZ, hh⟩ := hP
  have hx := Bd.exec
  have hby := Bd.bytes
  have hlk := BodyLoose.notSynchronized Bd
  have hret := Bd.returns
  have hml : c.maxLocals = 4 := hml0
  have hown : s.vm.findClass "com/example/stratgen/stratgen/model/StateSpaceAdvancePinLaw" = some m.cls := findClass_of_methodNamed Bd.named
  have hnm := (name_of_methodNamed Bd.named Bd.method).1
  have X0 : Stand p l e ({ frames := 0, cells := 0, slots := 0, locals := 0 } : Room) s m #[(.ref ao0), (.int (1 : Int32))] below meth c s₁ [] 0 0 := Stand.of_body Bd
  have e0 : s₁.heap = h0 := by rw [← hh, Bd.state]; rfl
  have Nf := Fr.nil n0
  have Zs := Z0
  have Kp : Keep h0 h0 [] := Keep.refl _ _
  show own_End p e below s (Q_rm2_1 Z ao0 kr r0 r1 r2 r3 h0 n0) ({ frames := 0, cells := 0, slots := 0, locals := 0 } : Room).cells ({ frames := 0, cells := 0, slots := 0, locals := 0 } : Room).slots (s₁.setTop (entryFrame m #[(.ref ao0), (.int (1 : Int32))] 4))
  refine own_go (x' := s₁.setTop (mkF m 0 #[.val (.ref ao0), .val (.int (1 : Int32)), .unset, .unset] [])) (fun t k => castTop (ef_rm2_1 m ao0 (1 : Int32)) k) ?_
  refine own_go (x' := s₁.setTop (mkF m 8 #[.val (.ref ao0), .val (.int (1 : Int32)), .val (.long (1 : Int64)), .second] [(.ref ao0), (.long (1 : Int64))])) (fun _ k => XS.lconst X0.here hx rfl (hb hby d2_0) (XS.lstoreN X0.here hx rfl (hb hby d2_1) rfl (l' := #[.val (.ref ao0), .val (.int (1 : Int32)), .val (.long (1 : Int64)), .second]) rfl (XS.iloadN X0.here hx rfl (hb hby d2_2) rfl (XS.ifNo X0.here hx rfl (hb hby d2_3) rfl ((if0 _ _).trans (tlt (by decide +kernel : ((0 : Int32) < (1 : Int32)))).2.2.2) (XS.lloadN X0.here hx rfl (hb hby d2_6) rfl (XS.aloadN X0.here hx rfl (hb hby d2_7) rfl rfl k)))))) ?_
  refine own_go (x' := s₁.setTop (mkF m 9 #[.val (.ref ao0), .val (.int (1 : Int32)), .val (.long (1 : Int64)), .second] [(.int (0 : Int32)), (.ref ao0), (.long (1 : Int64))])) (fun _ k => XS.iconst X0.here hx rfl (hb hby d2_8) k) ?_
  obtain ⟨cl1, Ar1, q1, Sz1, Nn1, Hh1, Gg1⟩ := id V_ao0
  have hin1 : ¬ ((0 : Int32) < 0 ∨ cl1.slots.size ≤ ((0 : Int32)).toNatClampNeg) := inb_of Sz1 ⟨by decide, by decide⟩
  refine own_go (x' := s₁.setTop (mkF m 10 #[.val (.ref ao0), .val (.int (1 : Int32)), .val (.long (1 : Int64)), .second] [(.int r0), (.long (1 : Int64))])) (X0.iaload hx (j := (0 : Int32)) (v := (.int r0)) (by rw [e0]; exact Ar1.1) (State.isArrayOf_alike hZ.alike Ar1.2.1) Ar1.2.2 hin1 (Hh1.at hin1 rfl) (g := (mkF m 9 #[.val (.ref ao0), .val (.int (1 : Int32)), .val (.long (1 : Int64)), .second] [(.int (0 : Int32)), (.ref ao0), (.long (1 : Int64))])) rfl rfl (hb hby d2_9)) ?_
  refine own_go (x' := s₁.setTop (mkF m 25 #[.val (.ref ao0), .val (.int (1 : Int32)), .val (.long ((1 : Int64) * (r0.toInt64))), .second] [])) (fun _ k => XS.i2l X0.here hx rfl (hb hby d2_10) rfl (XS.lmul X0.here hx rfl (hb hby d2_11) rfl (XS.lstoreN X0.here hx rfl (hb hby d2_12) rfl (l' := #[.val (.ref ao0), .val (.int (1 : Int32)), .val (.long ((1 : Int64) * (r0.toInt64))), .second]) rfl (XS.iloadN X0.here hx rfl (hb hby d2_13) rfl (XS.iconst X0.here hx rfl (hb hby d2_14) (XS.icmpYes X0.here hx rfl (pc0 := 15) (pc' := 25) rfl (hb hby d2_15) rfl (flt (Int32.lt_irrefl)).2.2.2 (by decide) (by decide) k)))))) ?_
  refine own_go (x' := s₁.setTop (mkF m 49 #[.val (.ref ao0), .val (.int (1 : Int32)), .val (.long ((1 : Int64) * (r0.toInt64))), .second] [])) (fun _ k => XS.iloadN X0.here hx rfl (hb hby d2_25) rfl (XS.iconst X0.here hx rfl (hb hby d2_26) (XS.icmpYes X0.here hx rfl (pc0 := 27) (pc' := 37) rfl (hb hby d2_27) rfl (flt (by decide +kernel : ¬ ((2 : Int32) < (1 : Int32)))).2.2.2 (by decide) (by decide) (XS.iloadN X0.here hx rfl (hb hby d2_37) rfl (XS.iconst X0.here hx rfl (hb hby d2_38) (XS.icmpYes X0.here hx rfl (pc0 := 39) (pc' := 49) rfl (hb hby d2_39) rfl (flt (by decide +kernel : ¬ ((3 : Int32) < (1 : Int32)))).2.2.2 (by decide) (by decide) k)))))) ?_
  refine own_go (x' := s₁.setTop (mkF m 50 #[.val (.ref ao0), .val (.int (1 : Int32)), .val (.long ((1 : Int64) * (r0.toInt64))), .second] [(.long ((1 : Int64) * (r0.toInt64)))])) (fun _ k => XS.lloadN X0.here hx rfl (hb hby d2_49) rfl k) ?_
  refine own_retJ X0 hx hlk hret (hb hby d2_50) ?_ (by decide) (by decide)
  rw [e0]
  exact ⟨rfl, Nf, rfl⟩
def own_adv_1_b (d0 d1 d2 d3 r0 r1 r2 r3 : Int32) : Int32 := (if (d0 + (1 : Int32)) < r0 then (1 : Int32) else (0 : Int32))
def own_adv_1_0 (d0 d1 d2 d3 r0 r1 r2 r3 : Int32) : Int32 := (if (d0 + (1 : Int32)) < r0 then (d0 + (1 : Int32)) else (0 : Int32))
def own_adv_1_1 (d0 d1 d2 d3 r0 r1 r2 r3 : Int32) : Int32 := (if (d0 + (1 : Int32)) < r0 then d1 else d1)
def own_adv_1_2 (d0 d1 d2 d3 r0 r1 r2 r3 : Int32) : Int32 := (if (d0 + (1 : Int32)) < r0 then d2 else d2)
def own_adv_1_3 (d0 d1 d2 d3 r0 r1 r2 r3 : Int32) : Int32 := (if (d0 + (1 : Int32)) < r0 then d3 else d3)
theorem d3_8 : decode prog_90_method_21_code 8 = .ok (.aload_n 0, 1) := by decide +kernel
theorem d3_9 : decode prog_90_method_21_code 9 = .ok (.iload_n 3, 1) := by decide +kernel
theorem d3_10 : decode prog_90_method_21_code 10 = .ok (.dup2, 1) := by decide +kernel
theorem d3_11 : decode prog_90_method_21_code 11 = .ok (.iaload, 1) := by decide +kernel
theorem d3_12 : decode prog_90_method_21_code 12 = .ok (.iconst 1, 1) := by decide +kernel
theorem d3_13 : decode prog_90_method_21_code 13 = .ok (.iadd, 1) := by decide +kernel
theorem d3_14 : decode prog_90_method_21_code 14 = .ok (.iastore, 1) := by decide +kernel
theorem d3_15 : decode prog_90_method_21_code 15 = .ok (.aload_n 0, 1) := by decide +kernel
theorem d3_16 : decode prog_90_method_21_code 16 = .ok (.iload_n 3, 1) := by decide +kernel
theorem d3_17 : decode prog_90_method_21_code 17 = .ok (.iaload, 1) := by decide +kernel
theorem d3_18 : decode prog_90_method_21_code 18 = .ok (.aload_n 1, 1) := by decide +kernel
theorem d3_19 : decode prog_90_method_21_code 19 = .ok (.iload_n 3, 1) := by decide +kernel
theorem d3_20 : decode prog_90_method_21_code 20 = .ok (.iaload, 1) := by decide +kernel
theorem d3_21 : decode prog_90_method_21_code 21 = .ok (.if_icmp .ge 5, 3) := by decide +kernel
theorem d3_24 : decode prog_90_method_21_code 24 = .ok (.iconst 1, 1) := by decide +kernel
theorem d3_25 : decode prog_90_method_21_code 25 = .ok (.ireturn, 1) := by decide +kernel
theorem d3_26 : decode prog_90_method_21_code 26 = .ok (.aload_n 0, 1) := by decide +kernel
theorem d3_27 : decode prog_90_method_21_code 27 = .ok (.iload_n 3, 1) := by decide +kernel
theorem d3_28 : decode prog_90_method_21_code 28 = .ok (.iconst 0, 1) := by decide +kernel
theorem d3_29 : decode prog_90_method_21_code 29 = .ok (.iastore, 1) := by decide +kernel
theorem d3_30 : decode prog_90_method_21_code 30 = .ok (.iinc 3 (-1), 3) := by decide +kernel
theorem d3_33 : decode prog_90_method_21_code 33 = .ok (.goto (-29), 3) := by decide +kernel
def Q_rm3_1 (Z : State) (ao0 ao1 : Addr) (kd kr : ClassId) (d0 d1 d2 d3 r0 r1 r2 r3 : Int32) (h0 : Heap) (n0 : Nat) (v : Option Value) (h : Heap) (L : List Loc) : Prop := v = some (.int (own_adv_1_b d0 d1 d2 d3 r0 r1 r2 r3)) ∧ Fr n0 L ∧ Keep h0 h [ao0] ∧ Arv Z h ao0 kd .int (4 : Int32) [(.int (own_adv_1_0 d0 d1 d2 d3 r0 r1 r2 r3)), (.int (own_adv_1_1 d0 d1 d2 d3 r0 r1 r2 r3)), (.int (own_adv_1_2 d0 d1 d2 d3 r0 r1 r2 r3)), (.int (own_adv_1_3 d0 d1 d2 d3 r0 r1 r2 r3))] (.int (0 : Int32))
theorem pn_rm3_1 : plainName "com/example/stratgen/stratgen/model/StateSpace" = true := by first | (simp [plainName, overriddenIn]; done) | decide +kernel
theorem ef_rm3_1 (m : MethodId) (x0 : Addr) (x1 : Addr) (x2 : Int32) : entryFrame m #[(.ref x0), (.ref x1), (.int x2)] 4 = mkF m 0 #[.val (.ref x0), .val (.ref x1), .val (.int x2), .unset] [] := by first | (simp [entryFrame, mkF, argsToLocals, Value.category]; done) | rfl
set_option maxRecDepth 65536 in
set_option maxHeartbeats 40000000 in
theorem rm3_1 (l : Launch) (Z : State) (a0 : Array Value) (hw : ∀ d ∈ tables_1, d.before a0 Z = true) (ws : List Jvm.Cond) (ao0 ao1 : Addr) (kd kr : ClassId) (d0 d1 d2 d3 r0 r1 r2 r3 : Int32) (h0 : Heap) (n0 : Nat) (Z0 : n0 ≤ h0.size) (V_ao0 : Arv Z h0 ao0 kd .int (4 : Int32) [(.int d0), (.int d1), (.int d2), (.int d3)] (.int (0 : Int32))) (V_ao1 : Arv Z h0 ao1 kr .int (4 : Int32) [(.int r0), (.int r1), (.int r2), (.int r3)] (.int (0 : Int32))) (ne_ao0_ao1 : ao0 ≠ ao1) (g_ao0 : n0 ≤ ao0) :
    MetFree l (⟨"com/example/stratgen/stratgen/model/StateSpace", "advance", "([I[II)Z"⟩ : MethodName) (head1 (Jvm.Cond.code (⟨"com/example/stratgen/stratgen/model/StateSpace", "advance", "([I[II)Z"⟩ : MethodName) prog_90_method_21_code 4 (some .boolean) :: ws) ({ frames := 0, cells := 0, slots := 0, locals := 0 } : Room)) (fun a U => a = #[(.ref ao0), (.ref ao1), (.int (1 : Int32))] ∧ Z.Warmed39 U.vm ∧ U.heap = h0) (fun _ _ _ _ _ => True) (fun _ U o U' => ∃ v L, o = .returned v ∧ (Q_rm3_1 Z ao0 ao1 kd kr d0 d1 d2 d3 r0 r1 r2 r3 h0 n0) v U'.heap L ∧ FrameEnd U o U' L ({ frames := 0, cells := 0, slots := 0, locals := 0 } : Room).cells ({ frames := 0, cells := 0, slots := 0, locals := 0 } : Room).slots) := by
  refine MetFree.of_bodySF (plainFor_of_name pn_rm3_1) hisR ?_
  intro p e s m args below meth c s₁ Bd hml0 hP hK
  obtain ⟨rfl, hZ, hh⟩ := hP
  have hx := Bd.exec
  have hby := Bd.bytes
  have hlk := BodyLoose.notSynchronized Bd
  have hret := Bd.returns
  have hml : c.maxLocals = 4 := hml0
  have hown : s.vm.findClass "com/example/stratgen/stratgen/model/StateSpace" = some m.cls := findClass_of_methodNamed Bd.named
  have hnm := (name_of_methodNamed Bd.named Bd.method).1
  have X0 : Stand p l e ({ frames := 0, cells := 0, slots := 0, locals := 0 } : Room) s m #[(.ref ao0), (.ref ao1), (.int (1 : Int32))] below meth c s₁ [] 0 0 := Stand.of_body Bd
  have e0 : s₁.heap = h0 := by rw [← hh, Bd.state]; rfl
  have Nf := Fr.nil n0
  have Zs := Z0
  have Kp : Keep h0 h0 [ao0] := Keep.refl _ _
  show own_End p e below s (Q_rm3_1 Z ao0 ao1 kd kr d0 d1 d2 d3 r0 r1 r2 r3 h0 n0) ({ frames := 0, cells := 0, slots := 0, locals := 0 } : Room).cells ({ frames := 0, cells := 0, slots := 0, locals := 0 } : Room).slots (s₁.setTop (entryFrame m #[(.ref ao0), (.ref ao1), (.int (1 : Int32))] 4))
  refine own_go (x' := s₁.setTop (mkF m 0 #[.val (.ref ao0), .val (.ref ao1), .val (.int (1 : Int32)), .unset] [])) (fun t k => castTop (ef_rm3_1 m ao0 ao1 (1 : Int32)) k) ?_
  refine own_go (x' := s₁.setTop (mkF m 4 #[.val (.ref ao0), .val (.ref ao1), .val (.int (1 : Int32)), .val (.int ((1 : Int32) - (1 : Int32)))] [])) (fun _ k => XS.iloadN X0.here hx rfl (hb hby d3_0) rfl (XS.iconst X0.here hx rfl (hb hby d3_1) (XS.isub X0.here hx rfl (hb hby d3_2) rfl (XS.istoreN X0.here hx rfl (hb hby d3_3) rfl (l' := #[.val (.ref ao0), .val (.ref ao1), .val (.int (1 : Int32)), .val (.int ((1 : Int32) - (1 : Int32)))]) rfl k)))) ?_
  rw [show ((1 : Int32) - (1 : Int32)) = (0 : Int32) from by decide +kernel]
  refine own_go (x' := s₁.setTop (mkF m 11 #[.val (.ref ao0), .val (.ref ao1), .val (.int (1 : Int32)), .val (.int (0 : Int32))] [(.int (0 : Int32)), (.ref ao0), (.int (0 : Int32)), (.ref ao0)])) (fun _ k => XS.iloadN X0.here hx rfl (hb hby d3_4) rfl (XS.ifNo X0.here hx rfl (hb hby d3_5) rfl ((if0 _ _).trans (flt (Int32.lt_irrefl)).1) (XS.aloadN X0.here hx rfl (hb hby d3_8) rfl rfl (XS.iloadN X0.here hx rfl (hb hby d3_9) rfl (Jvm.Free.XT.dup2 X0.here hx rfl (hb hby d3_10) rfl rfl rfl k))))) ?_
  obtain ⟨cl1, Ar1, q1, Sz1, Nn1, Hh1, Gg1⟩ := id V_ao0
  have hin1 : ¬ ((0 : Int32) < 0 ∨ cl1.slots.size ≤ ((0 : Int32)).toNatClampNeg) := inb_of Sz1 ⟨by decide, by decide⟩
  refine own_go (x' := s₁.setTop (mkF m 12 #[.val (.ref ao0), .val (.ref ao1), .val (.int (1 : Int32)), .val (.int (0 : Int32))] [(.int d0), (.int (0 : Int32)), (.ref ao0)])) (X0.iaload hx (j := (0 : Int32)) (v := (.int d0)) (by rw [e0]; exact Ar1.1) (State.isArrayOf_alike hZ.alike Ar1.2.1) Ar1.2.2 hin1 (Hh1.at hin1 rfl) (g := (mkF m 11 #[.val (.ref ao0), .val (.ref ao1), .val (.int (1 : Int32)), .val (.int (0 : Int32))] [(.int (0 : Int32)), (.ref ao0), (.int (0 : Int32)), (.ref ao0)])) rfl rfl (hb hby d3_11)) ?_
  refine own_go (x' := s₁.setTop (mkF m 14 #[.val (.ref ao0), .val (.ref ao1), .val (.int (1 : Int32)), .val (.int (0 : Int32))] [(.int (d0 + (1 : Int32))), (.int (0 : Int32)), (.ref ao0)])) (fun _ k => XS.iconst X0.here hx rfl (hb hby d3_12) (XS.iadd X0.here hx rfl (hb hby d3_13) rfl k)) ?_
  obtain ⟨cl2, Ar2, q2, Sz2, Nn2, Hh2, Gg2⟩ := V_ao0
  have hin2 : ¬ ((0 : Int32) < 0 ∨ cl2.slots.size ≤ ((0 : Int32)).toNatClampNeg) := inb_of Sz2 ⟨by decide, by decide⟩
  obtain ⟨T2, h2, X2, e2, W2, st2⟩ := stI X0 hx hZ e0 Ar2 (j := (0 : Int32)) hin2 (g := (mkF m 14 #[.val (.ref ao0), .val (.ref ao1), .val (.int (1 : Int32)), .val (.int (0 : Int32))] [(.int (d0 + (1 : Int32))), (.int (0 : Int32)), (.ref ao0)])) rfl rfl (hb hby d3_14)
  refine own_go (x' := T2.setTop (mkF m 15 #[.val (.ref ao0), .val (.ref ao1), .val (.int (1 : Int32)), .val (.int (0 : Int32))] [])) st2 ?_
  replace V_ao1 := V_ao1.other W2 (Ne.symm ne_ao0_ao1)
  replace Zs := Nat.le_trans Zs (Keep.of_wr W2).1
  replace Nf := Fr.snoc X2 Nf g_ao0
  replace Kp := Kp.wr W2 (Or.inl (by simp))
  have V_ao0 : Arv Z h2 ao0 kd .int (4 : Int32) [(.int (d0 + (1 : Int32))), (.int d1), (.int d2), (.int d3)] (.int (0 : Int32)) := Arv.set Ar2 q2 Sz2 Nn2 Hh2 Gg2 rfl W2 0 rfl (Nat.le_of_ble_eq_true rfl)
  refine own_go (x' := T2.setTop (mkF m 17 #[.val (.ref ao0), .val (.ref ao1), .val (.int (1 : Int32)), .val (.int (0 : Int32))] [(.int (0 : Int32)), (.ref ao0)])) (fun _ k => XS.aloadN X2.here hx rfl (hb hby d3_15) rfl rfl (XS.iloadN X2.here hx rfl (hb hby d3_16) rfl k)) ?_
  obtain ⟨cl3, Ar3, q3, Sz3, Nn3, Hh3, Gg3⟩ := id V_ao0
  have hin3 : ¬ ((0 : Int32) < 0 ∨ cl3.slots.size ≤ ((0 : Int32)).toNatClampNeg) := inb_of Sz3 ⟨by decide, by decide⟩
  refine own_go (x' := T2.setTop (mkF m 18 #[.val (.ref ao0), .val (.ref ao1), .val (.int (1 : Int32)), .val (.int (0 : Int32))] [(.int (d0 + (1 : Int32)))])) (X2.iaload hx (j := (0 : Int32)) (v := (.int (d0 + (1 : Int32)))) (by rw [e2]; exact Ar3.1) (State.isArrayOf_alike hZ.alike Ar3.2.1) Ar3.2.2 hin3 (Hh3.at hin3 rfl) (g := (mkF m 17 #[.val (.ref ao0), .val (.ref ao1), .val (.int (1 : Int32)), .val (.int (0 : Int32))] [(.int (0 : Int32)), (.ref ao0)])) rfl rfl (hb hby d3_17)) ?_
  refine own_go (x' := T2.setTop (mkF m 20 #[.val (.ref ao0), .val (.ref ao1), .val (.int (1 : Int32)), .val (.int (0 : Int32))] [(.int (0 : Int32)), (.ref ao1), (.int (d0 + (1 : Int32)))])) (fun _ k => XS.aloadN X2.here hx rfl (hb hby d3_18) rfl rfl (XS.iloadN X2.here hx rfl (hb hby d3_19) rfl k)) ?_
  obtain ⟨cl4, Ar4, q4, Sz4, Nn4, Hh4, Gg4⟩ := id V_ao1
  have hin4 : ¬ ((0 : Int32) < 0 ∨ cl4.slots.size ≤ ((0 : Int32)).toNatClampNeg) := inb_of Sz4 ⟨by decide, by decide⟩
  refine own_go (x' := T2.setTop (mkF m 21 #[.val (.ref ao0), .val (.ref ao1), .val (.int (1 : Int32)), .val (.int (0 : Int32))] [(.int r0), (.int (d0 + (1 : Int32)))])) (X2.iaload hx (j := (0 : Int32)) (v := (.int r0)) (by rw [e2]; exact Ar4.1) (State.isArrayOf_alike hZ.alike Ar4.2.1) Ar4.2.2 hin4 (Hh4.at hin4 rfl) (g := (mkF m 20 #[.val (.ref ao0), .val (.ref ao1), .val (.int (1 : Int32)), .val (.int (0 : Int32))] [(.int (0 : Int32)), (.ref ao1), (.int (d0 + (1 : Int32)))])) rfl rfl (hb hby d3_20)) ?_
  by_cases hc21 : (d0 + (1 : Int32)) < r0
  · refine own_go (x' := T2.setTop (mkF m 25 #[.val (.ref ao0), .val (.ref ao1), .val (.int (1 : Int32)), .val (.int (0 : Int32))] [(.int (1 : Int32))])) (fun _ k => XS.icmpNo X2.here hx rfl (hb hby d3_21) rfl (tlt hc21).2.1 (XS.iconst X2.here hx rfl (hb hby d3_24) k)) ?_
    refine own_retN X2 hx hlk (t := .boolean) hret (by simp) (hb hby d3_25) (w := (1 : Int32)) rfl ?_ (by decide) (by decide)
    rw [e2]
    refine ⟨by simp only [own_adv_1_b, own_adv_1_0, own_adv_1_1, own_adv_1_2, own_adv_1_3, if_pos hc21], Nf, Kp, ?_⟩
    simp only [own_adv_1_b, own_adv_1_0, own_adv_1_1, own_adv_1_2, own_adv_1_3, if_pos hc21]
    exact V_ao0
  · refine own_go (x' := T2.setTop (mkF m 29 #[.val (.ref ao0), .val (.ref ao1), .val (.int (1 : Int32)), .val (.int (0 : Int32))] [(.int (0 : Int32)), (.int (0 : Int32)), (.ref ao0)])) (fun _ k => XS.icmpYes X2.here hx rfl (pc0 := 21) (pc' := 26) rfl (hb hby d3_21) rfl (flt hc21).2.1 (by decide) (by decide) (XS.aloadN X2.here hx rfl (hb hby d3_26) rfl rfl (XS.iloadN X2.here hx rfl (hb hby d3_27) rfl (XS.iconst X2.here hx rfl (hb hby d3_28) k)))) ?_
    obtain ⟨cl5, Ar5, q5, Sz5, Nn5, Hh5, Gg5⟩ := V_ao0
    have hin5 : ¬ ((0 : Int32) < 0 ∨ cl5.slots.size ≤ ((0 : Int32)).toNatClampNeg) := inb_of Sz5 ⟨by decide, by decide⟩
    obtain ⟨T5, h5, X5, e5, W5, st5⟩ := stI X2 hx hZ e2 Ar5 (j := (0 : Int32)) hin5 (g := (mkF m 29 #[.val (.ref ao0), .val (.ref ao1), .val (.int (1 : Int32)), .val (.int (0 : Int32))] [(.int (0 : Int32)), (.int (0 : Int32)), (.ref ao0)])) rfl rfl (hb hby d3_29)
    refine own_go (x' := T5.setTop (mkF m 30 #[.val (.ref ao0), .val (.ref ao1), .val (.int (1 : Int32)), .val (.int (0 : Int32))] [])) st5 ?_
    replace V_ao1 := V_ao1.other W5 (Ne.symm ne_ao0_ao1)
    replace Zs := Nat.le_trans Zs (Keep.of_wr W5).1
    replace Nf := Fr.snoc X5 Nf g_ao0
    replace Kp := Kp.wr W5 (Or.inl (by simp))
    have V_ao0 : Arv Z h5 ao0 kd .int (4 : Int32) [(.int (0 : Int32)), (.int d1), (.int d2), (.int d3)] (.int (0 : Int32)) := Arv.set Ar5 q5 Sz5 Nn5 Hh5 Gg5 rfl W5 0 rfl (Nat.le_of_ble_eq_true rfl)
    refine own_go (x' := T5.setTop (mkF m 4 #[.val (.ref ao0), .val (.ref ao1), .val (.int (1 : Int32)), .val (.int ((0 : Int32) + (-1 : Int32)))] [])) (fun _ k => XS.iinc X5.here hx rfl (hb hby d3_30) rfl (l' := #[.val (.ref ao0), .val (.ref ao1), .val (.int (1 : Int32)), .val (.int ((0 : Int32) + (-1 : Int32)))]) rfl (XS.goto X5.here hx rfl (pc0 := 33) (pc' := 4) rfl (hb hby d3_33) (by decide) (by decide) k)) ?_
    rw [show ((0 : Int32) + (-1 : Int32)) = (-1 : Int32) from by decide +kernel]
    refine own_go (x' := T5.setTop (mkF m 37 #[.val (.ref ao0), .val (.ref ao1), .val (.int (1 : Int32)), .val (.int (-1 : Int32))] [(.int (0 : Int32))])) (fun _ k => XS.iloadN X5.here hx rfl (hb hby d3_4) rfl (XS.ifYes X5.here hx rfl (pc0 := 5) (pc' := 36) rfl (hb hby d3_5) rfl ((if0 _ _).trans (tlt (by decide +kernel : ((-1 : Int32) < (0 : Int32)))).1) (by decide) (by decide) (XS.iconst X5.here hx rfl (hb hby d3_36) k))) ?_
    refine own_retN X5 hx hlk (t := .boolean) hret (by simp) (hb hby d3_37) (w := (0 : Int32)) rfl ?_ (by decide) (by decide)
    rw [e5]
    refine ⟨by simp only [own_adv_1_b, own_adv_1_0, own_adv_1_1, own_adv_1_2, own_adv_1_3, if_neg hc21], Nf, Kp, ?_⟩
    simp only [own_adv_1_b, own_adv_1_0, own_adv_1_1, own_adv_1_2, own_adv_1_3, if_neg hc21]
    exact V_ao0
def own_dok_0_1 (d0 r0 p4 : Int32) : Int32 := (if d0 < (0 : Int32) then (0 : Int32) else (if d0 < r0 then (1 : Int32) else (0 : Int32)))
theorem d4_5 : decode method_4_code 5 = .ok (.aload_n 0, 1) := by decide +kernel
theorem d4_6 : decode method_4_code 6 = .ok (.iload_n 2, 1) := by decide +kernel
theorem d4_7 : decode method_4_code 7 = .ok (.iaload, 1) := by decide +kernel
theorem d4_8 : decode method_4_code 8 = .ok (.ifCond .lt 16, 3) := by decide +kernel
theorem d4_11 : decode method_4_code 11 = .ok (.aload_n 0, 1) := by decide +kernel
theorem d4_12 : decode method_4_code 12 = .ok (.iload_n 2, 1) := by decide +kernel
theorem d4_13 : decode method_4_code 13 = .ok (.iaload, 1) := by decide +kernel
theorem d4_14 : decode method_4_code 14 = .ok (.aload_n 1, 1) := by decide +kernel
theorem d4_15 : decode method_4_code 15 = .ok (.iload_n 2, 1) := by decide +kernel
theorem d4_16 : decode method_4_code 16 = .ok (.iaload, 1) := by decide +kernel
theorem d4_17 : decode method_4_code 17 = .ok (.if_icmp .ge 7, 3) := by decide +kernel
theorem d4_20 : decode method_4_code 20 = .ok (.iconst 1, 1) := by decide +kernel
theorem d4_21 : decode method_4_code 21 = .ok (.goto 4, 3) := by decide +kernel
theorem d4_24 : decode method_4_code 24 = .ok (.iconst 0, 1) := by decide +kernel
theorem d4_25 : decode method_4_code 25 = .ok (.ireturn, 1) := by decide +kernel
def Q_rm4_0_1 (Z : State) (ao0 ao1 : Addr) (kd kr : ClassId) (d0 d1 d2 d3 r0 r1 r2 r3 : Int32) (p4 : Int32) (h0 : Heap) (n0 : Nat) (v : Option Value) (h : Heap) (L : List Loc) : Prop := v = some (.int (own_dok_0_1 d0 r0 p4)) ∧ Fr n0 L ∧ h = h0
theorem pn_rm4_0_1 : plainName "com/example/stratgen/stratgen/model/StateSpaceAdvancePinLaw" = true := by first | (simp [plainName, overriddenIn]; done) | decide +kernel
theorem ef_rm4_0_1 (m : MethodId) (x0 : Addr) (x1 : Addr) (x2 : Int32) (x3 : Int32) (x4 : Int32) : entryFrame m #[(.ref x0), (.ref x1), (.int x2), (.int x3), (.int x4)] 5 = mkF m 0 #[.val (.ref x0), .val (.ref x1), .val (.int x2), .val (.int x3), .val (.int x4)] [] := by first | (simp [entryFrame, mkF, argsToLocals, Value.category]; done) | rfl
set_option maxRecDepth 65536 in
set_option maxHeartbeats 40000000 in
theorem rm4_0_1 (l : Launch) (Z : State) (a0 : Array Value) (hw : ∀ d ∈ tables_1, d.before a0 Z = true) (ws : List Jvm.Cond) (ao0 ao1 : Addr) (kd kr : ClassId) (d0 d1 d2 d3 r0 r1 r2 r3 : Int32) (p4 : Int32) (h0 : Heap) (n0 : Nat) (Z0 : n0 ≤ h0.size) (V_ao0 : Arv Z h0 ao0 kd .int (4 : Int32) [(.int d0), (.int d1), (.int d2), (.int d3)] (.int (0 : Int32))) (V_ao1 : Arv Z h0 ao1 kr .int (4 : Int32) [(.int r0), (.int r1), (.int r2), (.int r3)] (.int (0 : Int32))) :
    MetFree l (⟨"com/example/stratgen/stratgen/model/StateSpaceAdvancePinLaw", "digitOk", "([I[IIII)Z"⟩ : MethodName) (head1 (Jvm.Cond.code (⟨"com/example/stratgen/stratgen/model/StateSpaceAdvancePinLaw", "digitOk", "([I[IIII)Z"⟩ : MethodName) method_4_code 5 (some .boolean) :: ws) ({ frames := 0, cells := 0, slots := 0, locals := 0 } : Room)) (fun a U => a = #[(.ref ao0), (.ref ao1), (.int (0 : Int32)), (.int (1 : Int32)), (.int p4)] ∧ Z.Warmed39 U.vm ∧ U.heap = h0) (fun _ _ _ _ _ => True) (fun _ U o U' => ∃ v L, o = .returned v ∧ (Q_rm4_0_1 Z ao0 ao1 kd kr d0 d1 d2 d3 r0 r1 r2 r3 p4 h0 n0) v U'.heap L ∧ FrameEnd U o U' L ({ frames := 0, cells := 0, slots := 0, locals := 0 } : Room).cells ({ frames := 0, cells := 0, slots := 0, locals := 0 } : Room).slots) := by
  refine MetFree.of_bodySF (plainFor_of_name pn_rm4_0_1) hisR ?_
  intro p e s m args below meth c s₁ Bd hml0 hP hK
  obtain ⟨rfl, hZ, hh⟩ := hP
  have hx := Bd.exec
  have hby := Bd.bytes
  have hlk := BodyLoose.notSynchronized Bd
  have hret := Bd.returns
  have hml : c.maxLocals = 5 := hml0
  have hown : s.vm.findClass "com/example/stratgen/stratgen/model/StateSpaceAdvancePinLaw" = some m.cls := findClass_of_methodNamed Bd.named
  have hnm := (name_of_methodNamed Bd.named Bd.method).1
  have X0 : Stand p l e ({ frames := 0, cells := 0, slots := 0, locals := 0 } : Room) s m #[(.ref ao0), (.ref ao1), (.int (0 : Int32)), (.int (1 : Int32)), (.int p4)] below meth c s₁ [] 0 0 := Stand.of_body Bd
  have e0 : s₁.heap = h0 := by rw [← hh, Bd.state]; rfl
  have Nf := Fr.nil n0
  have Zs := Z0
  have Kp : Keep h0 h0 [] := Keep.refl _ _
  show own_End p e below s (Q_rm4_0_1 Z ao0 ao1 kd kr d0 d1 d2 d3 r0 r1 r2 r3 p4 h0 n0) ({ frames := 0, cells := 0, slots := 0, locals := 0 } : Room).cells ({ frames := 0, cells := 0, slots := 0, locals := 0 } : Room).slots (s₁.setTop (entryFrame m #[(.ref ao0), (.ref ao1), (.int (0 : Int32)), (.int (1 : Int32)), (.int p4)] 5))
  refine own_go (x' := s₁.setTop (mkF m 0 #[.val (.ref ao0), .val (.ref ao1), .val (.int (0 : Int32)), .val (.int (1 : Int32)), .val (.int p4)] [])) (fun t k => castTop (ef_rm4_0_1 m ao0 ao1 (0 : Int32) (1 : Int32) p4) k) ?_
  refine own_go (x' := s₁.setTop (mkF m 7 #[.val (.ref ao0), .val (.ref ao1), .val (.int (0 : Int32)), .val (.int (1 : Int32)), .val (.int p4)] [(.int (0 : Int32)), (.ref ao0)])) (fun _ k => XS.iloadN X0.here hx rfl (hb hby d4_0) rfl (XS.iloadN X0.here hx rfl (hb hby d4_1) rfl (XS.icmpNo X0.here hx rfl (hb hby d4_2) rfl (tlt (by decide +kernel : ((0 : Int32) < (1 : Int32)))).2.1 (XS.aloadN X0.here hx rfl (hb hby d4_5) rfl rfl (XS.iloadN X0.here hx rfl (hb hby d4_6) rfl k))))) ?_
  obtain ⟨cl1, Ar1, q1, Sz1, Nn1, Hh1, Gg1⟩ := id V_ao0
  have hin1 : ¬ ((0 : Int32) < 0 ∨ cl1.slots.size ≤ ((0 : Int32)).toNatClampNeg) := inb_of Sz1 ⟨by decide, by decide⟩
  refine own_go (x' := s₁.setTop (mkF m 8 #[.val (.ref ao0), .val (.ref ao1), .val (.int (0 : Int32)), .val (.int (1 : Int32)), .val (.int p4)] [(.int d0)])) (X0.iaload hx (j := (0 : Int32)) (v := (.int d0)) (by rw [e0]; exact Ar1.1) (State.isArrayOf_alike hZ.alike Ar1.2.1) Ar1.2.2 hin1 (Hh1.at hin1 rfl) (g := (mkF m 7 #[.val (.ref ao0), .val (.ref ao1), .val (.int (0 : Int32)), .val (.int (1 : Int32)), .val (.int p4)] [(.int (0 : Int32)), (.ref ao0)])) rfl rfl (hb hby d4_7)) ?_
  by_cases hc8 : d0 < (0 : Int32)
  · refine own_go (x' := s₁.setTop (mkF m 25 #[.val (.ref ao0), .val (.ref ao1), .val (.int (0 : Int32)), .val (.int (1 : Int32)), .val (.int p4)] [(.int (0 : Int32))])) (fun _ k => XS.ifYes X0.here hx rfl (pc0 := 8) (pc' := 24) rfl (hb hby d4_8) rfl ((if0 _ _).trans (tlt hc8).1) (by decide) (by decide) (XS.iconst X0.here hx rfl (hb hby d4_24) k)) ?_
    refine own_retN X0 hx hlk (t := .boolean) hret (by simp) (hb hby d4_25) (w := (0 : Int32)) rfl ?_ (by decide) (by decide)
    rw [e0]
    exact ⟨by simp only [own_dok_0_1, if_pos hc8], Nf, rfl⟩
  · refine own_go (x' := s₁.setTop (mkF m 13 #[.val (.ref ao0), .val (.ref ao1), .val (.int (0 : Int32)), .val (.int (1 : Int32)), .val (.int p4)] [(.int (0 : Int32)), (.ref ao0)])) (fun _ k => XS.ifNo X0.here hx rfl (hb hby d4_8) rfl ((if0 _ _).trans (flt hc8).1) (XS.aloadN X0.here hx rfl (hb hby d4_11) rfl rfl (XS.iloadN X0.here hx rfl (hb hby d4_12) rfl k))) ?_
    obtain ⟨cl2, Ar2, q2, Sz2, Nn2, Hh2, Gg2⟩ := id V_ao0
    have hin2 : ¬ ((0 : Int32) < 0 ∨ cl2.slots.size ≤ ((0 : Int32)).toNatClampNeg) := inb_of Sz2 ⟨by decide, by decide⟩
    refine own_go (x' := s₁.setTop (mkF m 14 #[.val (.ref ao0), .val (.ref ao1), .val (.int (0 : Int32)), .val (.int (1 : Int32)), .val (.int p4)] [(.int d0)])) (X0.iaload hx (j := (0 : Int32)) (v := (.int d0)) (by rw [e0]; exact Ar2.1) (State.isArrayOf_alike hZ.alike Ar2.2.1) Ar2.2.2 hin2 (Hh2.at hin2 rfl) (g := (mkF m 13 #[.val (.ref ao0), .val (.ref ao1), .val (.int (0 : Int32)), .val (.int (1 : Int32)), .val (.int p4)] [(.int (0 : Int32)), (.ref ao0)])) rfl rfl (hb hby d4_13)) ?_
    refine own_go (x' := s₁.setTop (mkF m 16 #[.val (.ref ao0), .val (.ref ao1), .val (.int (0 : Int32)), .val (.int (1 : Int32)), .val (.int p4)] [(.int (0 : Int32)), (.ref ao1), (.int d0)])) (fun _ k => XS.aloadN X0.here hx rfl (hb hby d4_14) rfl rfl (XS.iloadN X0.here hx rfl (hb hby d4_15) rfl k)) ?_
    obtain ⟨cl3, Ar3, q3, Sz3, Nn3, Hh3, Gg3⟩ := id V_ao1
    have hin3 : ¬ ((0 : Int32) < 0 ∨ cl3.slots.size ≤ ((0 : Int32)).toNatClampNeg) := inb_of Sz3 ⟨by decide, by decide⟩
    refine own_go (x' := s₁.setTop (mkF m 17 #[.val (.ref ao0), .val (.ref ao1), .val (.int (0 : Int32)), .val (.int (1 : Int32)), .val (.int p4)] [(.int r0), (.int d0)])) (X0.iaload hx (j := (0 : Int32)) (v := (.int r0)) (by rw [e0]; exact Ar3.1) (State.isArrayOf_alike hZ.alike Ar3.2.1) Ar3.2.2 hin3 (Hh3.at hin3 rfl) (g := (mkF m 16 #[.val (.ref ao0), .val (.ref ao1), .val (.int (0 : Int32)), .val (.int (1 : Int32)), .val (.int p4)] [(.int (0 : Int32)), (.ref ao1), (.int d0)])) rfl rfl (hb hby d4_16)) ?_
    by_cases hc17 : d0 < r0
    · refine own_go (x' := s₁.setTop (mkF m 25 #[.val (.ref ao0), .val (.ref ao1), .val (.int (0 : Int32)), .val (.int (1 : Int32)), .val (.int p4)] [(.int (1 : Int32))])) (fun _ k => XS.icmpNo X0.here hx rfl (hb hby d4_17) rfl (tlt hc17).2.1 (XS.iconst X0.here hx rfl (hb hby d4_20) (XS.goto X0.here hx rfl (pc0 := 21) (pc' := 25) rfl (hb hby d4_21) (by decide) (by decide) k))) ?_
      refine own_retN X0 hx hlk (t := .boolean) hret (by simp) (hb hby d4_25) (w := (1 : Int32)) rfl ?_ (by decide) (by decide)
      rw [e0]
      exact ⟨by simp only [own_dok_0_1, if_neg hc8, if_pos hc17], Nf, rfl⟩
    · refine own_go (x' := s₁.setTop (mkF m 25 #[.val (.ref ao0), .val (.ref ao1), .val (.int (0 : Int32)), .val (.int (1 : Int32)), .val (.int p4)] [(.int (0 : Int32))])) (fun _ k => XS.icmpYes X0.here hx rfl (pc0 := 17) (pc' := 24) rfl (hb hby d4_17) rfl (flt hc17).2.1 (by decide) (by decide) (XS.iconst X0.here hx rfl (hb hby d4_24) k)) ?_
      refine own_retN X0 hx hlk (t := .boolean) hret (by simp) (hb hby d4_25) (w := (0 : Int32)) rfl ?_ (by decide) (by decide)
      rw [e0]
      exact ⟨by simp only [own_dok_0_1, if_neg hc8, if_neg hc17], Nf, rfl⟩
def own_dok_1_1 (d1 r1 p4 : Int32) : Int32 := (if d1 = p4 then (1 : Int32) else (0 : Int32))
def Q_rm4_1_1 (Z : State) (ao0 ao1 : Addr) (kd kr : ClassId) (d0 d1 d2 d3 r0 r1 r2 r3 : Int32) (p4 : Int32) (h0 : Heap) (n0 : Nat) (v : Option Value) (h : Heap) (L : List Loc) : Prop := v = some (.int (own_dok_1_1 d1 r1 p4)) ∧ Fr n0 L ∧ h = h0
theorem pn_rm4_1_1 : plainName "com/example/stratgen/stratgen/model/StateSpaceAdvancePinLaw" = true := by first | (simp [plainName, overriddenIn]; done) | decide +kernel
theorem ef_rm4_1_1 (m : MethodId) (x0 : Addr) (x1 : Addr) (x2 : Int32) (x3 : Int32) (x4 : Int32) : entryFrame m #[(.ref x0), (.ref x1), (.int x2), (.int x3), (.int x4)] 5 = mkF m 0 #[.val (.ref x0), .val (.ref x1), .val (.int x2), .val (.int x3), .val (.int x4)] [] := by first | (simp [entryFrame, mkF, argsToLocals, Value.category]; done) | rfl
set_option maxRecDepth 65536 in
set_option maxHeartbeats 40000000 in
theorem rm4_1_1 (l : Launch) (Z : State) (a0 : Array Value) (hw : ∀ d ∈ tables_1, d.before a0 Z = true) (ws : List Jvm.Cond) (ao0 ao1 : Addr) (kd kr : ClassId) (d0 d1 d2 d3 r0 r1 r2 r3 : Int32) (p4 : Int32) (h0 : Heap) (n0 : Nat) (Z0 : n0 ≤ h0.size) (V_ao0 : Arv Z h0 ao0 kd .int (4 : Int32) [(.int d0), (.int d1), (.int d2), (.int d3)] (.int (0 : Int32))) (V_ao1 : Arv Z h0 ao1 kr .int (4 : Int32) [(.int r0), (.int r1), (.int r2), (.int r3)] (.int (0 : Int32))) :
    MetFree l (⟨"com/example/stratgen/stratgen/model/StateSpaceAdvancePinLaw", "digitOk", "([I[IIII)Z"⟩ : MethodName) (head1 (Jvm.Cond.code (⟨"com/example/stratgen/stratgen/model/StateSpaceAdvancePinLaw", "digitOk", "([I[IIII)Z"⟩ : MethodName) method_4_code 5 (some .boolean) :: ws) ({ frames := 0, cells := 0, slots := 0, locals := 0 } : Room)) (fun a U => a = #[(.ref ao0), (.ref ao1), (.int (1 : Int32)), (.int (1 : Int32)), (.int p4)] ∧ Z.Warmed39 U.vm ∧ U.heap = h0) (fun _ _ _ _ _ => True) (fun _ U o U' => ∃ v L, o = .returned v ∧ (Q_rm4_1_1 Z ao0 ao1 kd kr d0 d1 d2 d3 r0 r1 r2 r3 p4 h0 n0) v U'.heap L ∧ FrameEnd U o U' L ({ frames := 0, cells := 0, slots := 0, locals := 0 } : Room).cells ({ frames := 0, cells := 0, slots := 0, locals := 0 } : Room).slots) := by
  refine MetFree.of_bodySF (plainFor_of_name pn_rm4_1_1) hisR ?_
  intro p e s m args below meth c s₁ Bd hml0 hP hK
  obtain ⟨rfl, hZ, hh⟩ := hP
  have hx := Bd.exec
  have hby := Bd.bytes
  have hlk := BodyLoose.notSynchronized Bd
  have hret := Bd.returns
  have hml : c.maxLocals = 5 := hml0
  have hown : s.vm.findClass "com/example/stratgen/stratgen/model/StateSpaceAdvancePinLaw" = some m.cls := findClass_of_methodNamed Bd.named
  have hnm := (name_of_methodNamed Bd.named Bd.method).1
  have X0 : Stand p l e ({ frames := 0, cells := 0, slots := 0, locals := 0 } : Room) s m #[(.ref ao0), (.ref ao1), (.int (1 : Int32)), (.int (1 : Int32)), (.int p4)] below meth c s₁ [] 0 0 := Stand.of_body Bd
  have e0 : s₁.heap = h0 := by rw [← hh, Bd.state]; rfl
  have Nf := Fr.nil n0
  have Zs := Z0
  have Kp : Keep h0 h0 [] := Keep.refl _ _
  show own_End p e below s (Q_rm4_1_1 Z ao0 ao1 kd kr d0 d1 d2 d3 r0 r1 r2 r3 p4 h0 n0) ({ frames := 0, cells := 0, slots := 0, locals := 0 } : Room).cells ({ frames := 0, cells := 0, slots := 0, locals := 0 } : Room).slots (s₁.setTop (entryFrame m #[(.ref ao0), (.ref ao1), (.int (1 : Int32)), (.int (1 : Int32)), (.int p4)] 5))
  refine own_go (x' := s₁.setTop (mkF m 0 #[.val (.ref ao0), .val (.ref ao1), .val (.int (1 : Int32)), .val (.int (1 : Int32)), .val (.int p4)] [])) (fun t k => castTop (ef_rm4_1_1 m ao0 ao1 (1 : Int32) (1 : Int32) p4) k) ?_
  refine own_go (x' := s₁.setTop (mkF m 28 #[.val (.ref ao0), .val (.ref ao1), .val (.int (1 : Int32)), .val (.int (1 : Int32)), .val (.int p4)] [(.int (1 : Int32)), (.ref ao0)])) (fun _ k => XS.iloadN X0.here hx rfl (hb hby d4_0) rfl (XS.iloadN X0.here hx rfl (hb hby d4_1) rfl (XS.icmpYes X0.here hx rfl (pc0 := 2) (pc' := 26) rfl (hb hby d4_2) rfl (flt (Int32.lt_irrefl)).2.1 (by decide) (by decide) (XS.aloadN X0.here hx rfl (hb hby d4_26) rfl rfl (XS.iloadN X0.here hx rfl (hb hby d4_27) rfl k))))) ?_
  obtain ⟨cl1, Ar1, q1, Sz1, Nn1, Hh1, Gg1⟩ := id V_ao0
  have hin1 : ¬ ((1 : Int32) < 0 ∨ cl1.slots.size ≤ ((1 : Int32)).toNatClampNeg) := inb_of Sz1 ⟨by decide, by decide⟩
  refine own_go (x' := s₁.setTop (mkF m 29 #[.val (.ref ao0), .val (.ref ao1), .val (.int (1 : Int32)), .val (.int (1 : Int32)), .val (.int p4)] [(.int d1)])) (X0.iaload hx (j := (1 : Int32)) (v := (.int d1)) (by rw [e0]; exact Ar1.1) (State.isArrayOf_alike hZ.alike Ar1.2.1) Ar1.2.2 hin1 (Hh1.at hin1 rfl) (g := (mkF m 28 #[.val (.ref ao0), .val (.ref ao1), .val (.int (1 : Int32)), .val (.int (1 : Int32)), .val (.int p4)] [(.int (1 : Int32)), (.ref ao0)])) rfl rfl (hb hby d4_28)) ?_
  refine own_go (x' := s₁.setTop (mkF m 31 #[.val (.ref ao0), .val (.ref ao1), .val (.int (1 : Int32)), .val (.int (1 : Int32)), .val (.int p4)] [(.int p4), (.int d1)])) (fun _ k => XS.iload X0.here hx rfl (hb hby d4_29) rfl k) ?_
  by_cases hc31 : d1 = p4
  · refine own_go (x' := s₁.setTop (mkF m 39 #[.val (.ref ao0), .val (.ref ao1), .val (.int (1 : Int32)), .val (.int (1 : Int32)), .val (.int p4)] [(.int (1 : Int32))])) (fun _ k => XS.icmpNo X0.here hx rfl (hb hby d4_31) rfl (teq hc31).2 (XS.iconst X0.here hx rfl (hb hby d4_34) (XS.goto X0.here hx rfl (pc0 := 35) (pc' := 39) rfl (hb hby d4_35) (by decide) (by decide) k))) ?_
    refine own_retN X0 hx hlk (t := .boolean) hret (by simp) (hb hby d4_39) (w := (1 : Int32)) rfl ?_ (by decide) (by decide)
    rw [e0]
    exact ⟨by simp only [own_dok_1_1, if_pos hc31], Nf, rfl⟩
  · refine own_go (x' := s₁.setTop (mkF m 39 #[.val (.ref ao0), .val (.ref ao1), .val (.int (1 : Int32)), .val (.int (1 : Int32)), .val (.int p4)] [(.int (0 : Int32))])) (fun _ k => XS.icmpYes X0.here hx rfl (pc0 := 31) (pc' := 38) rfl (hb hby d4_31) rfl (feq hc31).2 (by decide) (by decide) (XS.iconst X0.here hx rfl (hb hby d4_38) k)) ?_
    refine own_retN X0 hx hlk (t := .boolean) hret (by simp) (hb hby d4_39) (w := (0 : Int32)) rfl ?_ (by decide) (by decide)
    rw [e0]
    exact ⟨by simp only [own_dok_1_1, if_neg hc31], Nf, rfl⟩
def own_dok_2_1 (d2 r2 p4 : Int32) : Int32 := (if d2 = p4 then (1 : Int32) else (0 : Int32))
def Q_rm4_2_1 (Z : State) (ao0 ao1 : Addr) (kd kr : ClassId) (d0 d1 d2 d3 r0 r1 r2 r3 : Int32) (p4 : Int32) (h0 : Heap) (n0 : Nat) (v : Option Value) (h : Heap) (L : List Loc) : Prop := v = some (.int (own_dok_2_1 d2 r2 p4)) ∧ Fr n0 L ∧ h = h0
theorem pn_rm4_2_1 : plainName "com/example/stratgen/stratgen/model/StateSpaceAdvancePinLaw" = true := by first | (simp [plainName, overriddenIn]; done) | decide +kernel
theorem ef_rm4_2_1 (m : MethodId) (x0 : Addr) (x1 : Addr) (x2 : Int32) (x3 : Int32) (x4 : Int32) : entryFrame m #[(.ref x0), (.ref x1), (.int x2), (.int x3), (.int x4)] 5 = mkF m 0 #[.val (.ref x0), .val (.ref x1), .val (.int x2), .val (.int x3), .val (.int x4)] [] := by first | (simp [entryFrame, mkF, argsToLocals, Value.category]; done) | rfl
set_option maxRecDepth 65536 in
set_option maxHeartbeats 40000000 in
theorem rm4_2_1 (l : Launch) (Z : State) (a0 : Array Value) (hw : ∀ d ∈ tables_1, d.before a0 Z = true) (ws : List Jvm.Cond) (ao0 ao1 : Addr) (kd kr : ClassId) (d0 d1 d2 d3 r0 r1 r2 r3 : Int32) (p4 : Int32) (h0 : Heap) (n0 : Nat) (Z0 : n0 ≤ h0.size) (V_ao0 : Arv Z h0 ao0 kd .int (4 : Int32) [(.int d0), (.int d1), (.int d2), (.int d3)] (.int (0 : Int32))) (V_ao1 : Arv Z h0 ao1 kr .int (4 : Int32) [(.int r0), (.int r1), (.int r2), (.int r3)] (.int (0 : Int32))) :
    MetFree l (⟨"com/example/stratgen/stratgen/model/StateSpaceAdvancePinLaw", "digitOk", "([I[IIII)Z"⟩ : MethodName) (head1 (Jvm.Cond.code (⟨"com/example/stratgen/stratgen/model/StateSpaceAdvancePinLaw", "digitOk", "([I[IIII)Z"⟩ : MethodName) method_4_code 5 (some .boolean) :: ws) ({ frames := 0, cells := 0, slots := 0, locals := 0 } : Room)) (fun a U => a = #[(.ref ao0), (.ref ao1), (.int (2 : Int32)), (.int (1 : Int32)), (.int p4)] ∧ Z.Warmed39 U.vm ∧ U.heap = h0) (fun _ _ _ _ _ => True) (fun _ U o U' => ∃ v L, o = .returned v ∧ (Q_rm4_2_1 Z ao0 ao1 kd kr d0 d1 d2 d3 r0 r1 r2 r3 p4 h0 n0) v U'.heap L ∧ FrameEnd U o U' L ({ frames := 0, cells := 0, slots := 0, locals := 0 } : Room).cells ({ frames := 0, cells := 0, slots := 0, locals := 0 } : Room).slots) := by
  refine MetFree.of_bodySF (plainFor_of_name pn_rm4_2_1) hisR ?_
  intro p e s m args below meth c s₁ Bd hml0 hP hK
  obtain ⟨rfl, hZ, hh⟩ := hP
  have hx := Bd.exec
  have hby := Bd.bytes
  have hlk := BodyLoose.notSynchronized Bd
  have hret := Bd.returns
  have hml : c.maxLocals = 5 := hml0
  have hown : s.vm.findClass "com/example/stratgen/stratgen/model/StateSpaceAdvancePinLaw" = some m.cls := findClass_of_methodNamed Bd.named
  have hnm := (name_of_methodNamed Bd.named Bd.method).1
  have X0 : Stand p l e ({ frames := 0, cells := 0, slots := 0, locals := 0 } : Room) s m #[(.ref ao0), (.ref ao1), (.int (2 : Int32)), (.int (1 : Int32)), (.int p4)] below meth c s₁ [] 0 0 := Stand.of_body Bd
  have e0 : s₁.heap = h0 := by rw [← hh, Bd.state]; rfl
  have Nf := Fr.nil n0
  have Zs := Z0
  have Kp : Keep h0 h0 [] := Keep.refl _ _
  show own_End p e below s (Q_rm4_2_1 Z ao0 ao1 kd kr d0 d1 d2 d3 r0 r1 r2 r3 p4 h0 n0) ({ frames := 0, cells := 0, slots := 0, locals := 0 } : Room).cells ({ frames := 0, cells := 0, slots := 0, locals := 0 } : Room).slots (s₁.setTop (entryFrame m #[(.ref ao0), (.ref ao1), (.int (2 : Int32)), (.int (1 : Int32)), (.int p4)] 5))
  refine own_go (x' := s₁.setTop (mkF m 0 #[.val (.ref ao0), .val (.ref ao1), .val (.int (2 : Int32)), .val (.int (1 : Int32)), .val (.int p4)] [])) (fun t k => castTop (ef_rm4_2_1 m ao0 ao1 (2 : Int32) (1 : Int32) p4) k) ?_
  refine own_go (x' := s₁.setTop (mkF m 28 #[.val (.ref ao0), .val (.ref ao1), .val (.int (2 : Int32)), .val (.int (1 : Int32)), .val (.int p4)] [(.int (2 : Int32)), (.ref ao0)])) (fun _ k => XS.iloadN X0.here hx rfl (hb hby d4_0) rfl (XS.iloadN X0.here hx rfl (hb hby d4_1) rfl (XS.icmpYes X0.here hx rfl (pc0 := 2) (pc' := 26) rfl (hb hby d4_2) rfl (flt (by decide +kernel : ¬ ((2 : Int32) < (1 : Int32)))).2.1 (by decide) (by decide) (XS.aloadN X0.here hx rfl (hb hby d4_26) rfl rfl (XS.iloadN X0.here hx rfl (hb hby d4_27) rfl k))))) ?_
  obtain ⟨cl1, Ar1, q1, Sz1, Nn1, Hh1, Gg1⟩ := id V_ao0
  have hin1 : ¬ ((2 : Int32) < 0 ∨ cl1.slots.size ≤ ((2 : Int32)).toNatClampNeg) := inb_of Sz1 ⟨by decide, by decide⟩
  refine own_go (x' := s₁.setTop (mkF m 29 #[.val (.ref ao0), .val (.ref ao1), .val (.int (2 : Int32)), .val (.int (1 : Int32)), .val (.int p4)] [(.int d2)])) (X0.iaload hx (j := (2 : Int32)) (v := (.int d2)) (by rw [e0]; exact Ar1.1) (State.isArrayOf_alike hZ.alike Ar1.2.1) Ar1.2.2 hin1 (Hh1.at hin1 rfl) (g := (mkF m 28 #[.val (.ref ao0), .val (.ref ao1), .val (.int (2 : Int32)), .val (.int (1 : Int32)), .val (.int p4)] [(.int (2 : Int32)), (.ref ao0)])) rfl rfl (hb hby d4_28)) ?_
  refine own_go (x' := s₁.setTop (mkF m 31 #[.val (.ref ao0), .val (.ref ao1), .val (.int (2 : Int32)), .val (.int (1 : Int32)), .val (.int p4)] [(.int p4), (.int d2)])) (fun _ k => XS.iload X0.here hx rfl (hb hby d4_29) rfl k) ?_
  by_cases hc31 : d2 = p4
  · refine own_go (x' := s₁.setTop (mkF m 39 #[.val (.ref ao0), .val (.ref ao1), .val (.int (2 : Int32)), .val (.int (1 : Int32)), .val (.int p4)] [(.int (1 : Int32))])) (fun _ k => XS.icmpNo X0.here hx rfl (hb hby d4_31) rfl (teq hc31).2 (XS.iconst X0.here hx rfl (hb hby d4_34) (XS.goto X0.here hx rfl (pc0 := 35) (pc' := 39) rfl (hb hby d4_35) (by decide) (by decide) k))) ?_
    refine own_retN X0 hx hlk (t := .boolean) hret (by simp) (hb hby d4_39) (w := (1 : Int32)) rfl ?_ (by decide) (by decide)
    rw [e0]
    exact ⟨by simp only [own_dok_2_1, if_pos hc31], Nf, rfl⟩
  · refine own_go (x' := s₁.setTop (mkF m 39 #[.val (.ref ao0), .val (.ref ao1), .val (.int (2 : Int32)), .val (.int (1 : Int32)), .val (.int p4)] [(.int (0 : Int32))])) (fun _ k => XS.icmpYes X0.here hx rfl (pc0 := 31) (pc' := 38) rfl (hb hby d4_31) rfl (feq hc31).2 (by decide) (by decide) (XS.iconst X0.here hx rfl (hb hby d4_38) k)) ?_
    refine own_retN X0 hx hlk (t := .boolean) hret (by simp) (hb hby d4_39) (w := (0 : Int32)) rfl ?_ (by decide) (by decide)
    rw [e0]
    exact ⟨by simp only [own_dok_2_1, if_neg hc31], Nf, rfl⟩
def own_dok_3_1 (d3 r3 p4 : Int32) : Int32 := (if d3 = p4 then (1 : Int32) else (0 : Int32))
def Q_rm4_3_1 (Z : State) (ao0 ao1 : Addr) (kd kr : ClassId) (d0 d1 d2 d3 r0 r1 r2 r3 : Int32) (p4 : Int32) (h0 : Heap) (n0 : Nat) (v : Option Value) (h : Heap) (L : List Loc) : Prop := v = some (.int (own_dok_3_1 d3 r3 p4)) ∧ Fr n0 L ∧ h = h0
theorem pn_rm4_3_1 : plainName "com/example/stratgen/stratgen/model/StateSpaceAdvancePinLaw" = true := by first | (simp [plainName, overriddenIn]; done) | decide +kernel
theorem ef_rm4_3_1 (m : MethodId) (x0 : Addr) (x1 : Addr) (x2 : Int32) (x3 : Int32) (x4 : Int32) : entryFrame m #[(.ref x0), (.ref x1), (.int x2), (.int x3), (.int x4)] 5 = mkF m 0 #[.val (.ref x0), .val (.ref x1), .val (.int x2), .val (.int x3), .val (.int x4)] [] := by first | (simp [entryFrame, mkF, argsToLocals, Value.category]; done) | rfl
set_option maxRecDepth 65536 in
set_option maxHeartbeats 40000000 in
theorem rm4_3_1 (l : Launch) (Z : State) (a0 : Array Value) (hw : ∀ d ∈ tables_1, d.before a0 Z = true) (ws : List Jvm.Cond) (ao0 ao1 : Addr) (kd kr : ClassId) (d0 d1 d2 d3 r0 r1 r2 r3 : Int32) (p4 : Int32) (h0 : Heap) (n0 : Nat) (Z0 : n0 ≤ h0.size) (V_ao0 : Arv Z h0 ao0 kd .int (4 : Int32) [(.int d0), (.int d1), (.int d2), (.int d3)] (.int (0 : Int32))) (V_ao1 : Arv Z h0 ao1 kr .int (4 : Int32) [(.int r0), (.int r1), (.int r2), (.int r3)] (.int (0 : Int32))) :
    MetFree l (⟨"com/example/stratgen/stratgen/model/StateSpaceAdvancePinLaw", "digitOk", "([I[IIII)Z"⟩ : MethodName) (head1 (Jvm.Cond.code (⟨"com/example/stratgen/stratgen/model/StateSpaceAdvancePinLaw", "digitOk", "([I[IIII)Z"⟩ : MethodName) method_4_code 5 (some .boolean) :: ws) ({ frames := 0, cells := 0, slots := 0, locals := 0 } : Room)) (fun a U => a = #[(.ref ao0), (.ref ao1), (.int (3 : Int32)), (.int (1 : Int32)), (.int p4)] ∧ Z.Warmed39 U.vm ∧ U.heap = h0) (fun _ _ _ _ _ => True) (fun _ U o U' => ∃ v L, o = .returned v ∧ (Q_rm4_3_1 Z ao0 ao1 kd kr d0 d1 d2 d3 r0 r1 r2 r3 p4 h0 n0) v U'.heap L ∧ FrameEnd U o U' L ({ frames := 0, cells := 0, slots := 0, locals := 0 } : Room).cells ({ frames := 0, cells := 0, slots := 0, locals := 0 } : Room).slots) := by
  refine MetFree.of_bodySF (plainFor_of_name pn_rm4_3_1) hisR ?_
  intro p e s m args below meth c s₁ Bd hml0 hP hK
  obtain ⟨rfl, hZ, hh⟩ := hP
  have hx := Bd.exec
  have hby := Bd.bytes
  have hlk := BodyLoose.notSynchronized Bd
  have hret := Bd.returns
  have hml : c.maxLocals = 5 := hml0
  have hown : s.vm.findClass "com/example/stratgen/stratgen/model/StateSpaceAdvancePinLaw" = some m.cls := findClass_of_methodNamed Bd.named
  have hnm := (name_of_methodNamed Bd.named Bd.method).1
  have X0 : Stand p l e ({ frames := 0, cells := 0, slots := 0, locals := 0 } : Room) s m #[(.ref ao0), (.ref ao1), (.int (3 : Int32)), (.int (1 : Int32)), (.int p4)] below meth c s₁ [] 0 0 := Stand.of_body Bd
  have e0 : s₁.heap = h0 := by rw [← hh, Bd.state]; rfl
  have Nf := Fr.nil n0
  have Zs := Z0
  have Kp : Keep h0 h0 [] := Keep.refl _ _
  show own_End p e below s (Q_rm4_3_1 Z ao0 ao1 kd kr d0 d1 d2 d3 r0 r1 r2 r3 p4 h0 n0) ({ frames := 0, cells := 0, slots := 0, locals := 0 } : Room).cells ({ frames := 0, cells := 0, slots := 0, locals := 0 } : Room).slots (s₁.setTop (entryFrame m #[(.ref ao0), (.ref ao1), (.int (3 : Int32)), (.int (1 : Int32)), (.int p4)] 5))
  refine own_go (x' := s₁.setTop (mkF m 0 #[.val (.ref ao0), .val (.ref ao1), .val (.int (3 : Int32)), .val (.int (1 : Int32)), .val (.int p4)] [])) (fun t k => castTop (ef_rm4_3_1 m ao0 ao1 (3 : Int32) (1 : Int32) p4) k) ?_
  refine own_go (x' := s₁.setTop (mkF m 28 #[.val (.ref ao0), .val (.ref ao1), .val (.int (3 : Int32)), .val (.int (1 : Int32)), .val (.int p4)] [(.int (3 : Int32)), (.ref ao0)])) (fun _ k => XS.iloadN X0.here hx rfl (hb hby d4_0) rfl (XS.iloadN X0.here hx rfl (hb hby d4_1) rfl (XS.icmpYes X0.here hx rfl (pc0 := 2) (pc' := 26) rfl (hb hby d4_2) rfl (flt (by decide +kernel : ¬ ((3 : Int32) < (1 : Int32)))).2.1 (by decide) (by decide) (XS.aloadN X0.here hx rfl (hb hby d4_26) rfl rfl (XS.iloadN X0.here hx rfl (hb hby d4_27) rfl k))))) ?_
  obtain ⟨cl1, Ar1, q1, Sz1, Nn1, Hh1, Gg1⟩ := id V_ao0
  have hin1 : ¬ ((3 : Int32) < 0 ∨ cl1.slots.size ≤ ((3 : Int32)).toNatClampNeg) := inb_of Sz1 ⟨by decide, by decide⟩
  refine own_go (x' := s₁.setTop (mkF m 29 #[.val (.ref ao0), .val (.ref ao1), .val (.int (3 : Int32)), .val (.int (1 : Int32)), .val (.int p4)] [(.int d3)])) (X0.iaload hx (j := (3 : Int32)) (v := (.int d3)) (by rw [e0]; exact Ar1.1) (State.isArrayOf_alike hZ.alike Ar1.2.1) Ar1.2.2 hin1 (Hh1.at hin1 rfl) (g := (mkF m 28 #[.val (.ref ao0), .val (.ref ao1), .val (.int (3 : Int32)), .val (.int (1 : Int32)), .val (.int p4)] [(.int (3 : Int32)), (.ref ao0)])) rfl rfl (hb hby d4_28)) ?_
  refine own_go (x' := s₁.setTop (mkF m 31 #[.val (.ref ao0), .val (.ref ao1), .val (.int (3 : Int32)), .val (.int (1 : Int32)), .val (.int p4)] [(.int p4), (.int d3)])) (fun _ k => XS.iload X0.here hx rfl (hb hby d4_29) rfl k) ?_
  by_cases hc31 : d3 = p4
  · refine own_go (x' := s₁.setTop (mkF m 39 #[.val (.ref ao0), .val (.ref ao1), .val (.int (3 : Int32)), .val (.int (1 : Int32)), .val (.int p4)] [(.int (1 : Int32))])) (fun _ k => XS.icmpNo X0.here hx rfl (hb hby d4_31) rfl (teq hc31).2 (XS.iconst X0.here hx rfl (hb hby d4_34) (XS.goto X0.here hx rfl (pc0 := 35) (pc' := 39) rfl (hb hby d4_35) (by decide) (by decide) k))) ?_
    refine own_retN X0 hx hlk (t := .boolean) hret (by simp) (hb hby d4_39) (w := (1 : Int32)) rfl ?_ (by decide) (by decide)
    rw [e0]
    exact ⟨by simp only [own_dok_3_1, if_pos hc31], Nf, rfl⟩
  · refine own_go (x' := s₁.setTop (mkF m 39 #[.val (.ref ao0), .val (.ref ao1), .val (.int (3 : Int32)), .val (.int (1 : Int32)), .val (.int p4)] [(.int (0 : Int32))])) (fun _ k => XS.icmpYes X0.here hx rfl (pc0 := 31) (pc' := 38) rfl (hb hby d4_31) rfl (feq hc31).2 (by decide) (by decide) (XS.iconst X0.here hx rfl (hb hby d4_38) k)) ?_
    refine own_retN X0 hx hlk (t := .boolean) hret (by simp) (hb hby d4_39) (w := (0 : Int32)) rfl ?_ (by decide) (by decide)
    rw [e0]
    exact ⟨by simp only [own_dok_3_1, if_neg hc31], Nf, rfl⟩
def own_val_2 (d0 d1 d2 d3 r0 r1 r2 r3 : Int32) : Int64 := (((d0.toInt64) * (r1.toInt64)) + (d1.toInt64))
theorem d1_16 : decode method_2_code 16 = .ok (.lload_n 3, 1) := by decide +kernel
theorem d1_17 : decode method_2_code 17 = .ok (.aload_n 1, 1) := by decide +kernel
theorem d1_18 : decode method_2_code 18 = .ok (.iconst 1, 1) := by decide +kernel
theorem d1_19 : decode method_2_code 19 = .ok (.iaload, 1) := by decide +kernel
theorem d1_20 : decode method_2_code 20 = .ok (.i2l, 1) := by decide +kernel
theorem d1_21 : decode method_2_code 21 = .ok (.lmul, 1) := by decide +kernel
theorem d1_22 : decode method_2_code 22 = .ok (.aload_n 0, 1) := by decide +kernel
theorem d1_23 : decode method_2_code 23 = .ok (.iconst 1, 1) := by decide +kernel
theorem d1_24 : decode method_2_code 24 = .ok (.iaload, 1) := by decide +kernel
theorem d1_25 : decode method_2_code 25 = .ok (.i2l, 1) := by decide +kernel
theorem d1_26 : decode method_2_code 26 = .ok (.ladd, 1) := by decide +kernel
theorem d1_27 : decode method_2_code 27 = .ok (.lstore_n 3, 1) := by decide +kernel
def Q_rm1_2 (Z : State) (ao0 ao1 : Addr) (kd kr : ClassId) (d0 d1 d2 d3 r0 r1 r2 r3 : Int32) (h0 : Heap) (n0 : Nat) (v : Option Value) (h : Heap) (L : List Loc) : Prop := v = some (.long (own_val_2 d0 d1 d2 d3 r0 r1 r2 r3)) ∧ Fr n0 L ∧ h = h0
theorem pn_rm1_2 : plainName "com/example/stratgen/stratgen/model/StateSpaceAdvancePinLaw" = true := by first | (simp [plainName, overriddenIn]; done) | decide +kernel
theorem ef_rm1_2 (m : MethodId) (x0 : Addr) (x1 : Addr) (x2 : Int32) : entryFrame m #[(.ref x0), (.ref x1), (.int x2)] 5 = mkF m 0 #[.val (.ref x0), .val (.ref x1), .val (.int x2), .unset, .unset] [] := by first | (simp [entryFrame, mkF, argsToLocals, Value.category]; done) | rfl
set_option maxRecDepth 65536 in
set_option maxHeartbeats 40000000 in
theorem rm1_2 (l : Launch) (Z : State) (a0 : Array Value) (hw : ∀ d ∈ tables_1, d.before a0 Z = true) (ws : List Jvm.Cond) (ao0 ao1 : Addr) (kd kr : ClassId) (d0 d1 d2 d3 r0 r1 r2 r3 : Int32) (h0 : Heap) (n0 : Nat) (Z0 : n0 ≤ h0.size) (V_ao0 : Arv Z h0 ao0 kd .int (4 : Int32) [(.int d0), (.int d1), (.int d2), (.int d3)] (.int (0 : Int32))) (V_ao1 : Arv Z h0 ao1 kr .int (4 : Int32) [(.int r0), (.int r1), (.int r2), (.int r3)] (.int (0 : Int32))) :
    MetFree l (⟨"com/example/stratgen/stratgen/model/StateSpaceAdvancePinLaw", "value", "([I[II)J"⟩ : MethodName) (head1 (Jvm.Cond.code (⟨"com/example/stratgen/stratgen/model/StateSpaceAdvancePinLaw", "value", "([I[II)J"⟩ : MethodName) method_2_code 5 (some .long) :: ws) ({ frames := 0, cells := 0, slots := 0, locals := 0 } : Room)) (fun a U => a = #[(.ref ao0), (.ref ao1), (.int (2 : Int32))] ∧ Z.Warmed39 U.vm ∧ U.heap = h0) (fun _ _ _ _ _ => True) (fun _ U o U' => ∃ v L, o = .returned v ∧ (Q_rm1_2 Z ao0 ao1 kd kr d0 d1 d2 d3 r0 r1 r2 r3 h0 n0) v U'.heap L ∧ FrameEnd U o U' L ({ frames := 0, cells := 0, slots := 0, locals := 0 } : Room).cells ({ frames := 0, cells := 0, slots := 0, locals := 0 } : Room).slots) := by
  refine MetFree.of_bodySF (plainFor_of_name pn_rm1_2) hisR ?_
  intro p e s m args below meth c s₁ Bd hml0 hP hK
  obtain ⟨rfl, hZ, hh⟩ := hP
  have hx := Bd.exec
  have hby := Bd.bytes
  have hlk := BodyLoose.notSynchronized Bd
  have hret := Bd.returns
  have hml : c.maxLocals = 5 := hml0
  have hown : s.vm.findClass "com/example/stratgen/stratgen/model/StateSpaceAdvancePinLaw" = some m.cls := findClass_of_methodNamed Bd.named
  have hnm := (name_of_methodNamed Bd.named Bd.method).1
  have X0 : Stand p l e ({ frames := 0, cells := 0, slots := 0, locals := 0 } : Room) s m #[(.ref ao0), (.ref ao1), (.int (2 : Int32))] below meth c s₁ [] 0 0 := Stand.of_body Bd
  have e0 : s₁.heap = h0 := by rw [← hh, Bd.state]; rfl
  have Nf := Fr.nil n0
  have Zs := Z0
  have Kp : Keep h0 h0 [] := Keep.refl _ _
  show own_End p e below s (Q_rm1_2 Z ao0 ao1 kd kr d0 d1 d2 d3 r0 r1 r2 r3 h0 n0) ({ frames := 0, cells := 0, slots := 0, locals := 0 } : Room).cells ({ frames := 0, cells := 0, slots := 0, locals := 0 } : Room).slots (s₁.setTop (entryFrame m #[(.ref ao0), (.ref ao1), (.int (2 : Int32))] 5))
  refine own_go (x' := s₁.setTop (mkF m 0 #[.val (.ref ao0), .val (.ref ao1), .val (.int (2 : Int32)), .unset, .unset] [])) (fun t k => castTop (ef_rm1_2 m ao0 ao1 (2 : Int32)) k) ?_
  refine own_go (x' := s₁.setTop (mkF m 8 #[.val (.ref ao0), .val (.ref ao1), .val (.int (2 : Int32)), .val (.long (0 : Int64)), .second] [(.int (0 : Int32)), (.ref ao0)])) (fun _ k => XS.lconst X0.here hx rfl (hb hby d1_0) (XS.lstoreN X0.here hx rfl (hb hby d1_1) rfl (l' := #[.val (.ref ao0), .val (.ref ao1), .val (.int (2 : Int32)), .val (.long (0 : Int64)), .second]) rfl (XS.iloadN X0.here hx rfl (hb hby d1_2) rfl (XS.ifNo X0.here hx rfl (hb hby d1_3) rfl ((if0 _ _).trans (tlt (by decide +kernel : ((0 : Int32) < (2 : Int32)))).2.2.2) (XS.aloadN X0.here hx rfl (hb hby d1_6) rfl rfl (XS.iconst X0.here hx rfl (hb hby d1_7) k)))))) ?_
  obtain ⟨cl1, Ar1, q1, Sz1, Nn1, Hh1, Gg1⟩ := id V_ao0
  have hin1 : ¬ ((0 : Int32) < 0 ∨ cl1.slots.size ≤ ((0 : Int32)).toNatClampNeg) := inb_of Sz1 ⟨by decide, by decide⟩
  refine own_go (x' := s₁.setTop (mkF m 9 #[.val (.ref ao0), .val (.ref ao1), .val (.int (2 : Int32)), .val (.long (0 : Int64)), .second] [(.int d0)])) (X0.iaload hx (j := (0 : Int32)) (v := (.int d0)) (by rw [e0]; exact Ar1.1) (State.isArrayOf_alike hZ.alike Ar1.2.1) Ar1.2.2 hin1 (Hh1.at hin1 rfl) (g := (mkF m 8 #[.val (.ref ao0), .val (.ref ao1), .val (.int (2 : Int32)), .val (.long (0 : Int64)), .second] [(.int (0 : Int32)), (.ref ao0)])) rfl rfl (hb hby d1_8)) ?_
  refine own_go (x' := s₁.setTop (mkF m 17 #[.val (.ref ao0), .val (.ref ao1), .val (.int (2 : Int32)), .val (.long (d0.toInt64)), .second] [(.long (d0.toInt64))])) (fun _ k => XS.i2l X0.here hx rfl (hb hby d1_9) rfl (XS.lstoreN X0.here hx rfl (hb hby d1_10) rfl (l' := #[.val (.ref ao0), .val (.ref ao1), .val (.int (2 : Int32)), .val (.long (d0.toInt64)), .second]) rfl (XS.iloadN X0.here hx rfl (hb hby d1_11) rfl (XS.iconst X0.here hx rfl (hb hby d1_12) (XS.icmpNo X0.here hx rfl (hb hby d1_13) rfl (tlt (by decide +kernel : ((1 : Int32) < (2 : Int32)))).2.2.2 (XS.lloadN X0.here hx rfl (hb hby d1_16) rfl k)))))) ?_
  refine own_go (x' := s₁.setTop (mkF m 19 #[.val (.ref ao0), .val (.ref ao1), .val (.int (2 : Int32)), .val (.long (d0.toInt64)), .second] [(.int (1 : Int32)), (.ref ao1), (.long (d0.toInt64))])) (fun _ k => XS.aloadN X0.here hx rfl (hb hby d1_17) rfl rfl (XS.iconst X0.here hx rfl (hb hby d1_18) k)) ?_
  obtain ⟨cl2, Ar2, q2, Sz2, Nn2, Hh2, Gg2⟩ := id V_ao1
  have hin2 : ¬ ((1 : Int32) < 0 ∨ cl2.slots.size ≤ ((1 : Int32)).toNatClampNeg) := inb_of Sz2 ⟨by decide, by decide⟩
  refine own_go (x' := s₁.setTop (mkF m 20 #[.val (.ref ao0), .val (.ref ao1), .val (.int (2 : Int32)), .val (.long (d0.toInt64)), .second] [(.int r1), (.long (d0.toInt64))])) (X0.iaload hx (j := (1 : Int32)) (v := (.int r1)) (by rw [e0]; exact Ar2.1) (State.isArrayOf_alike hZ.alike Ar2.2.1) Ar2.2.2 hin2 (Hh2.at hin2 rfl) (g := (mkF m 19 #[.val (.ref ao0), .val (.ref ao1), .val (.int (2 : Int32)), .val (.long (d0.toInt64)), .second] [(.int (1 : Int32)), (.ref ao1), (.long (d0.toInt64))])) rfl rfl (hb hby d1_19)) ?_
  refine own_go (x' := s₁.setTop (mkF m 24 #[.val (.ref ao0), .val (.ref ao1), .val (.int (2 : Int32)), .val (.long (d0.toInt64)), .second] [(.int (1 : Int32)), (.ref ao0), (.long ((d0.toInt64) * (r1.toInt64)))])) (fun _ k => XS.i2l X0.here hx rfl (hb hby d1_20) rfl (XS.lmul X0.here hx rfl (hb hby d1_21) rfl (XS.aloadN X0.here hx rfl (hb hby d1_22) rfl rfl (XS.iconst X0.here hx rfl (hb hby d1_23) k)))) ?_
  obtain ⟨cl3, Ar3, q3, Sz3, Nn3, Hh3, Gg3⟩ := id V_ao0
  have hin3 : ¬ ((1 : Int32) < 0 ∨ cl3.slots.size ≤ ((1 : Int32)).toNatClampNeg) := inb_of Sz3 ⟨by decide, by decide⟩
  refine own_go (x' := s₁.setTop (mkF m 25 #[.val (.ref ao0), .val (.ref ao1), .val (.int (2 : Int32)), .val (.long (d0.toInt64)), .second] [(.int d1), (.long ((d0.toInt64) * (r1.toInt64)))])) (X0.iaload hx (j := (1 : Int32)) (v := (.int d1)) (by rw [e0]; exact Ar3.1) (State.isArrayOf_alike hZ.alike Ar3.2.1) Ar3.2.2 hin3 (Hh3.at hin3 rfl) (g := (mkF m 24 #[.val (.ref ao0), .val (.ref ao1), .val (.int (2 : Int32)), .val (.long (d0.toInt64)), .second] [(.int (1 : Int32)), (.ref ao0), (.long ((d0.toInt64) * (r1.toInt64)))])) rfl rfl (hb hby d1_24)) ?_
  refine own_go (x' := s₁.setTop (mkF m 45 #[.val (.ref ao0), .val (.ref ao1), .val (.int (2 : Int32)), .val (.long (((d0.toInt64) * (r1.toInt64)) + (d1.toInt64))), .second] [])) (fun _ k => XS.i2l X0.here hx rfl (hb hby d1_25) rfl (XS.ladd X0.here hx rfl (hb hby d1_26) rfl (XS.lstoreN X0.here hx rfl (hb hby d1_27) rfl (l' := #[.val (.ref ao0), .val (.ref ao1), .val (.int (2 : Int32)), .val (.long (((d0.toInt64) * (r1.toInt64)) + (d1.toInt64))), .second]) rfl (XS.iloadN X0.here hx rfl (hb hby d1_28) rfl (XS.iconst X0.here hx rfl (hb hby d1_29) (XS.icmpYes X0.here hx rfl (pc0 := 30) (pc' := 45) rfl (hb hby d1_30) rfl (flt (Int32.lt_irrefl)).2.2.2 (by decide) (by decide) k)))))) ?_
  refine own_go (x' := s₁.setTop (mkF m 63 #[.val (.ref ao0), .val (.ref ao1), .val (.int (2 : Int32)), .val (.long (((d0.toInt64) * (r1.toInt64)) + (d1.toInt64))), .second] [(.long (((d0.toInt64) * (r1.toInt64)) + (d1.toInt64)))])) (fun _ k => XS.iloadN X0.here hx rfl (hb hby d1_45) rfl (XS.iconst X0.here hx rfl (hb hby d1_46) (XS.icmpYes X0.here hx rfl (pc0 := 47) (pc' := 62) rfl (hb hby d1_47) rfl (flt (by decide +kernel : ¬ ((3 : Int32) < (2 : Int32)))).2.2.2 (by decide) (by decide) (XS.lloadN X0.here hx rfl (hb hby d1_62) rfl k)))) ?_
  refine own_retJ X0 hx hlk hret (hb hby d1_63) ?_ (by decide) (by decide)
  rw [e0]
  exact ⟨rfl, Nf, rfl⟩
def own_tot_2 (r0 r1 r2 r3 : Int32) : Int64 := (((1 : Int64) * (r0.toInt64)) * (r1.toInt64))
theorem d2_18 : decode method_3_code 18 = .ok (.lload_n 2, 1) := by decide +kernel
theorem d2_19 : decode method_3_code 19 = .ok (.aload_n 0, 1) := by decide +kernel
theorem d2_20 : decode method_3_code 20 = .ok (.iconst 1, 1) := by decide +kernel
theorem d2_21 : decode method_3_code 21 = .ok (.iaload, 1) := by decide +kernel
theorem d2_22 : decode method_3_code 22 = .ok (.i2l, 1) := by decide +kernel
theorem d2_23 : decode method_3_code 23 = .ok (.lmul, 1) := by decide +kernel
theorem d2_24 : decode method_3_code 24 = .ok (.lstore_n 2, 1) := by decide +kernel
def Q_rm2_2 (Z : State) (ao0 : Addr) (kr : ClassId) (r0 r1 r2 r3 : Int32) (h0 : Heap) (n0 : Nat) (v : Option Value) (h : Heap) (L : List Loc) : Prop := v = some (.long (own_tot_2 r0 r1 r2 r3)) ∧ Fr n0 L ∧ h = h0
theorem pn_rm2_2 : plainName "com/example/stratgen/stratgen/model/StateSpaceAdvancePinLaw" = true := by first | (simp [plainName, overriddenIn]; done) | decide +kernel
theorem ef_rm2_2 (m : MethodId) (x0 : Addr) (x1 : Int32) : entryFrame m #[(.ref x0), (.int x1)] 4 = mkF m 0 #[.val (.ref x0), .val (.int x1), .unset, .unset] [] := by first | (simp [entryFrame, mkF, argsToLocals, Value.category]; done) | rfl
set_option maxRecDepth 65536 in
set_option maxHeartbeats 40000000 in
theorem rm2_2 (l : Launch) (Z : State) (a0 : Array Value) (hw : ∀ d ∈ tables_1, d.before a0 Z = true) (ws : List Jvm.Cond) (ao0 : Addr) (kr : ClassId) (r0 r1 r2 r3 : Int32) (h0 : Heap) (n0 : Nat) (Z0 : n0 ≤ h0.size) (V_ao0 : Arv Z h0 ao0 kr .int (4 : Int32) [(.int r0), (.int r1), (.int r2), (.int r3)] (.int (0 : Int32))) :
    MetFree l (⟨"com/example/stratgen/stratgen/model/StateSpaceAdvancePinLaw", "total", "([II)J"⟩ : MethodName) (head1 (Jvm.Cond.code (⟨"com/example/stratgen/stratgen/model/StateSpaceAdvancePinLaw", "total", "([II)J"⟩ : MethodName) method_3_code 4 (some .long) :: ws) ({ frames := 0, cells := 0, slots := 0, locals := 0 } : Room)) (fun a U => a = #[(.ref ao0), (.int (2 : Int32))] ∧ Z.Warmed39 U.vm ∧ U.heap = h0) (fun _ _ _ _ _ => True) (fun _ U o U' => ∃ v L, o = .returned v ∧ (Q_rm2_2 Z ao0 kr r0 r1 r2 r3 h0 n0) v U'.heap L ∧ FrameEnd U o U' L ({ frames := 0, cells := 0, slots := 0, locals := 0 } : Room).cells ({ frames := 0, cells := 0, slots := 0, locals := 0 } : Room).slots) := by
  refine MetFree.of_bodySF (plainFor_of_name pn_rm2_2) hisR ?_
  intro p e s m args below meth c s₁ Bd hml0 hP hK
  obtain ⟨rfl, hZ, hh⟩ := hP
  have hx := Bd.exec
  have hby := Bd.bytes
  have hlk := BodyLoose.notSynchronized Bd
  have hret := Bd.returns
  have hml : c.maxLocals = 4 := hml0
  have hown : s.vm.findClass "com/example/stratgen/stratgen/model/StateSpaceAdvancePinLaw" = some m.cls := findClass_of_methodNamed Bd.named
  have hnm := (name_of_methodNamed Bd.named Bd.method).1
  have X0 : Stand p l e ({ frames := 0, cells := 0, slots := 0, locals := 0 } : Room) s m #[(.ref ao0), (.int (2 : Int32))] below meth c s₁ [] 0 0 := Stand.of_body Bd
  have e0 : s₁.heap = h0 := by rw [← hh, Bd.state]; rfl
  have Nf := Fr.nil n0
  have Zs := Z0
  have Kp : Keep h0 h0 [] := Keep.refl _ _
  show own_End p e below s (Q_rm2_2 Z ao0 kr r0 r1 r2 r3 h0 n0) ({ frames := 0, cells := 0, slots := 0, locals := 0 } : Room).cells ({ frames := 0, cells := 0, slots := 0, locals := 0 } : Room).slots (s₁.setTop (entryFrame m #[(.ref ao0), (.int (2 : Int32))] 4))
  refine own_go (x' := s₁.setTop (mkF m 0 #[.val (.ref ao0), .val (.int (2 : Int32)), .unset, .unset] [])) (fun t k => castTop (ef_rm2_2 m ao0 (2 : Int32)) k) ?_
  refine own_go (x' := s₁.setTop (mkF m 8 #[.val (.ref ao0), .val (.int (2 : Int32)), .val (.long (1 : Int64)), .second] [(.ref ao0), (.long (1 : Int64))])) (fun _ k => XS.lconst X0.here hx rfl (hb hby d2_0) (XS.lstoreN X0.here hx rfl (hb hby d2_1) rfl (l' := #[.val (.ref ao0), .val (.int (2 : Int32)), .val (.long (1 : Int64)), .second]) rfl (XS.iloadN X0.here hx rfl (hb hby d2_2) rfl (XS.ifNo X0.here hx rfl (hb hby d2_3) rfl ((if0 _ _).trans (tlt (by decide +kernel : ((0 : Int32) < (2 : Int32)))).2.2.2) (XS.lloadN X0.here hx rfl (hb hby d2_6) rfl (XS.aloadN X0.here hx rfl (hb hby d2_7) rfl rfl k)))))) ?_
  refine own_go (x' := s₁.setTop (mkF m 9 #[.val (.ref ao0), .val (.int (2 : Int32)), .val (.long (1 : Int64)), .second] [(.int (0 : Int32)), (.ref ao0), (.long (1 : Int64))])) (fun _ k => XS.iconst X0.here hx rfl (hb hby d2_8) k) ?_
  obtain ⟨cl1, Ar1, q1, Sz1, Nn1, Hh1, Gg1⟩ := id V_ao0
  have hin1 : ¬ ((0 : Int32) < 0 ∨ cl1.slots.size ≤ ((0 : Int32)).toNatClampNeg) := inb_of Sz1 ⟨by decide, by decide⟩
  refine own_go (x' := s₁.setTop (mkF m 10 #[.val (.ref ao0), .val (.int (2 : Int32)), .val (.long (1 : Int64)), .second] [(.int r0), (.long (1 : Int64))])) (X0.iaload hx (j := (0 : Int32)) (v := (.int r0)) (by rw [e0]; exact Ar1.1) (State.isArrayOf_alike hZ.alike Ar1.2.1) Ar1.2.2 hin1 (Hh1.at hin1 rfl) (g := (mkF m 9 #[.val (.ref ao0), .val (.int (2 : Int32)), .val (.long (1 : Int64)), .second] [(.int (0 : Int32)), (.ref ao0), (.long (1 : Int64))])) rfl rfl (hb hby d2_9)) ?_
  refine own_go (x' := s₁.setTop (mkF m 18 #[.val (.ref ao0), .val (.int (2 : Int32)), .val (.long ((1 : Int64) * (r0.toInt64))), .second] [])) (fun _ k => XS.i2l X0.here hx rfl (hb hby d2_10) rfl (XS.lmul X0.here hx rfl (hb hby d2_11) rfl (XS.lstoreN X0.here hx rfl (hb hby d2_12) rfl (l' := #[.val (.ref ao0), .val (.int (2 : Int32)), .val (.long ((1 : Int64) * (r0.toInt64))), .second]) rfl (XS.iloadN X0.here hx rfl (hb hby d2_13) rfl (XS.iconst X0.here hx rfl (hb hby d2_14) (XS.icmpNo X0.here hx rfl (hb hby d2_15) rfl (tlt (by decide +kernel : ((1 : Int32) < (2 : Int32)))).2.2.2 k)))))) ?_
  refine own_go (x' := s₁.setTop (mkF m 21 #[.val (.ref ao0), .val (.int (2 : Int32)), .val (.long ((1 : Int64) * (r0.toInt64))), .second] [(.int (1 : Int32)), (.ref ao0), (.long ((1 : Int64) * (r0.toInt64)))])) (fun _ k => XS.lloadN X0.here hx rfl (hb hby d2_18) rfl (XS.aloadN X0.here hx rfl (hb hby d2_19) rfl rfl (XS.iconst X0.here hx rfl (hb hby d2_20) k))) ?_
  obtain ⟨cl2, Ar2, q2, Sz2, Nn2, Hh2, Gg2⟩ := id V_ao0
  have hin2 : ¬ ((1 : Int32) < 0 ∨ cl2.slots.size ≤ ((1 : Int32)).toNatClampNeg) := inb_of Sz2 ⟨by decide, by decide⟩
  refine own_go (x' := s₁.setTop (mkF m 22 #[.val (.ref ao0), .val (.int (2 : Int32)), .val (.long ((1 : Int64) * (r0.toInt64))), .second] [(.int r1), (.long ((1 : Int64) * (r0.toInt64)))])) (X0.iaload hx (j := (1 : Int32)) (v := (.int r1)) (by rw [e0]; exact Ar2.1) (State.isArrayOf_alike hZ.alike Ar2.2.1) Ar2.2.2 hin2 (Hh2.at hin2 rfl) (g := (mkF m 21 #[.val (.ref ao0), .val (.int (2 : Int32)), .val (.long ((1 : Int64) * (r0.toInt64))), .second] [(.int (1 : Int32)), (.ref ao0), (.long ((1 : Int64) * (r0.toInt64)))])) rfl rfl (hb hby d2_21)) ?_
  refine own_go (x' := s₁.setTop (mkF m 37 #[.val (.ref ao0), .val (.int (2 : Int32)), .val (.long (((1 : Int64) * (r0.toInt64)) * (r1.toInt64))), .second] [])) (fun _ k => XS.i2l X0.here hx rfl (hb hby d2_22) rfl (XS.lmul X0.here hx rfl (hb hby d2_23) rfl (XS.lstoreN X0.here hx rfl (hb hby d2_24) rfl (l' := #[.val (.ref ao0), .val (.int (2 : Int32)), .val (.long (((1 : Int64) * (r0.toInt64)) * (r1.toInt64))), .second]) rfl (XS.iloadN X0.here hx rfl (hb hby d2_25) rfl (XS.iconst X0.here hx rfl (hb hby d2_26) (XS.icmpYes X0.here hx rfl (pc0 := 27) (pc' := 37) rfl (hb hby d2_27) rfl (flt (Int32.lt_irrefl)).2.2.2 (by decide) (by decide) k)))))) ?_
  refine own_go (x' := s₁.setTop (mkF m 50 #[.val (.ref ao0), .val (.int (2 : Int32)), .val (.long (((1 : Int64) * (r0.toInt64)) * (r1.toInt64))), .second] [(.long (((1 : Int64) * (r0.toInt64)) * (r1.toInt64)))])) (fun _ k => XS.iloadN X0.here hx rfl (hb hby d2_37) rfl (XS.iconst X0.here hx rfl (hb hby d2_38) (XS.icmpYes X0.here hx rfl (pc0 := 39) (pc' := 49) rfl (hb hby d2_39) rfl (flt (by decide +kernel : ¬ ((3 : Int32) < (2 : Int32)))).2.2.2 (by decide) (by decide) (XS.lloadN X0.here hx rfl (hb hby d2_49) rfl k)))) ?_
  refine own_retJ X0 hx hlk hret (hb hby d2_50) ?_ (by decide) (by decide)
  rw [e0]
  exact ⟨rfl, Nf, rfl⟩
def own_adv_2_b (d0 d1 d2 d3 r0 r1 r2 r3 : Int32) : Int32 := (if (d1 + (1 : Int32)) < r1 then (1 : Int32) else (if (d0 + (1 : Int32)) < r0 then (1 : Int32) else (0 : Int32)))
def own_adv_2_0 (d0 d1 d2 d3 r0 r1 r2 r3 : Int32) : Int32 := (if (d1 + (1 : Int32)) < r1 then d0 else (if (d0 + (1 : Int32)) < r0 then (d0 + (1 : Int32)) else (0 : Int32)))
def own_adv_2_1 (d0 d1 d2 d3 r0 r1 r2 r3 : Int32) : Int32 := (if (d1 + (1 : Int32)) < r1 then (d1 + (1 : Int32)) else (if (d0 + (1 : Int32)) < r0 then (0 : Int32) else (0 : Int32)))
def own_adv_2_2 (d0 d1 d2 d3 r0 r1 r2 r3 : Int32) : Int32 := (if (d1 + (1 : Int32)) < r1 then d2 else (if (d0 + (1 : Int32)) < r0 then d2 else d2))
def own_adv_2_3 (d0 d1 d2 d3 r0 r1 r2 r3 : Int32) : Int32 := (if (d1 + (1 : Int32)) < r1 then d3 else (if (d0 + (1 : Int32)) < r0 then d3 else d3))
def Q_rm3_2 (Z : State) (ao0 ao1 : Addr) (kd kr : ClassId) (d0 d1 d2 d3 r0 r1 r2 r3 : Int32) (h0 : Heap) (n0 : Nat) (v : Option Value) (h : Heap) (L : List Loc) : Prop := v = some (.int (own_adv_2_b d0 d1 d2 d3 r0 r1 r2 r3)) ∧ Fr n0 L ∧ Keep h0 h [ao0] ∧ Arv Z h ao0 kd .int (4 : Int32) [(.int (own_adv_2_0 d0 d1 d2 d3 r0 r1 r2 r3)), (.int (own_adv_2_1 d0 d1 d2 d3 r0 r1 r2 r3)), (.int (own_adv_2_2 d0 d1 d2 d3 r0 r1 r2 r3)), (.int (own_adv_2_3 d0 d1 d2 d3 r0 r1 r2 r3))] (.int (0 : Int32))
theorem pn_rm3_2 : plainName "com/example/stratgen/stratgen/model/StateSpace" = true := by first | (simp [plainName, overriddenIn]; done) | decide +kernel
theorem ef_rm3_2 (m : MethodId) (x0 : Addr) (x1 : Addr) (x2 : Int32) : entryFrame m #[(.ref x0), (.ref x1), (.int x2)] 4 = mkF m 0 #[.val (.ref x0), .val (.ref x1), .val (.int x2), .unset] [] := by first | (simp [entryFrame, mkF, argsToLocals, Value.category]; done) | rfl
set_option maxRecDepth 65536 in
set_option maxHeartbeats 40000000 in
theorem rm3_2 (l : Launch) (Z : State) (a0 : Array Value) (hw : ∀ d ∈ tables_1, d.before a0 Z = true) (ws : List Jvm.Cond) (ao0 ao1 : Addr) (kd kr : ClassId) (d0 d1 d2 d3 r0 r1 r2 r3 : Int32) (h0 : Heap) (n0 : Nat) (Z0 : n0 ≤ h0.size) (V_ao0 : Arv Z h0 ao0 kd .int (4 : Int32) [(.int d0), (.int d1), (.int d2), (.int d3)] (.int (0 : Int32))) (V_ao1 : Arv Z h0 ao1 kr .int (4 : Int32) [(.int r0), (.int r1), (.int r2), (.int r3)] (.int (0 : Int32))) (ne_ao0_ao1 : ao0 ≠ ao1) (g_ao0 : n0 ≤ ao0) :
    MetFree l (⟨"com/example/stratgen/stratgen/model/StateSpace", "advance", "([I[II)Z"⟩ : MethodName) (head1 (Jvm.Cond.code (⟨"com/example/stratgen/stratgen/model/StateSpace", "advance", "([I[II)Z"⟩ : MethodName) prog_90_method_21_code 4 (some .boolean) :: ws) ({ frames := 0, cells := 0, slots := 0, locals := 0 } : Room)) (fun a U => a = #[(.ref ao0), (.ref ao1), (.int (2 : Int32))] ∧ Z.Warmed39 U.vm ∧ U.heap = h0) (fun _ _ _ _ _ => True) (fun _ U o U' => ∃ v L, o = .returned v ∧ (Q_rm3_2 Z ao0 ao1 kd kr d0 d1 d2 d3 r0 r1 r2 r3 h0 n0) v U'.heap L ∧ FrameEnd U o U' L ({ frames := 0, cells := 0, slots := 0, locals := 0 } : Room).cells ({ frames := 0, cells := 0, slots := 0, locals := 0 } : Room).slots) := by
  refine MetFree.of_bodySF (plainFor_of_name pn_rm3_2) hisR ?_
  intro p e s m args below meth c s₁ Bd hml0 hP hK
  obtain ⟨rfl, hZ, hh⟩ := hP
  have hx := Bd.exec
  have hby := Bd.bytes
  have hlk := BodyLoose.notSynchronized Bd
  have hret := Bd.returns
  have hml : c.maxLocals = 4 := hml0
  have hown : s.vm.findClass "com/example/stratgen/stratgen/model/StateSpace" = some m.cls := findClass_of_methodNamed Bd.named
  have hnm := (name_of_methodNamed Bd.named Bd.method).1
  have X0 : Stand p l e ({ frames := 0, cells := 0, slots := 0, locals := 0 } : Room) s m #[(.ref ao0), (.ref ao1), (.int (2 : Int32))] below meth c s₁ [] 0 0 := Stand.of_body Bd
  have e0 : s₁.heap = h0 := by rw [← hh, Bd.state]; rfl
  have Nf := Fr.nil n0
  have Zs := Z0
  have Kp : Keep h0 h0 [ao0] := Keep.refl _ _
  show own_End p e below s (Q_rm3_2 Z ao0 ao1 kd kr d0 d1 d2 d3 r0 r1 r2 r3 h0 n0) ({ frames := 0, cells := 0, slots := 0, locals := 0 } : Room).cells ({ frames := 0, cells := 0, slots := 0, locals := 0 } : Room).slots (s₁.setTop (entryFrame m #[(.ref ao0), (.ref ao1), (.int (2 : Int32))] 4))
  refine own_go (x' := s₁.setTop (mkF m 0 #[.val (.ref ao0), .val (.ref ao1), .val (.int (2 : Int32)), .unset] [])) (fun t k => castTop (ef_rm3_2 m ao0 ao1 (2 : Int32)) k) ?_
  refine own_go (x' := s₁.setTop (mkF m 4 #[.val (.ref ao0), .val (.ref ao1), .val (.int (2 : Int32)), .val (.int ((2 : Int32) - (1 : Int32)))] [])) (fun _ k => XS.iloadN X0.here hx rfl (hb hby d3_0) rfl (XS.iconst X0.here hx rfl (hb hby d3_1) (XS.isub X0.here hx rfl (hb hby d3_2) rfl (XS.istoreN X0.here hx rfl (hb hby d3_3) rfl (l' := #[.val (.ref ao0), .val (.ref ao1), .val (.int (2 : Int32)), .val (.int ((2 : Int32) - (1 : Int32)))]) rfl k)))) ?_
  rw [show ((2 : Int32) - (1 : Int32)) = (1 : Int32) from by decide +kernel]
  refine own_go (x' := s₁.setTop (mkF m 11 #[.val (.ref ao0), .val (.ref ao1), .val (.int (2 : Int32)), .val (.int (1 : Int32))] [(.int (1 : Int32)), (.ref ao0), (.int (1 : Int32)), (.ref ao0)])) (fun _ k => XS.iloadN X0.here hx rfl (hb hby d3_4) rfl (XS.ifNo X0.here hx rfl (hb hby d3_5) rfl ((if0 _ _).trans (flt (by decide +kernel : ¬ ((1 : Int32) < (0 : Int32)))).1) (XS.aloadN X0.here hx rfl (hb hby d3_8) rfl rfl (XS.iloadN X0.here hx rfl (hb hby d3_9) rfl (Jvm.Free.XT.dup2 X0.here hx rfl (hb hby d3_10) rfl rfl rfl k))))) ?_
  obtain ⟨cl1, Ar1, q1, Sz1, Nn1, Hh1, Gg1⟩ := id V_ao0
  have hin1 : ¬ ((1 : Int32) < 0 ∨ cl1.slots.size ≤ ((1 : Int32)).toNatClampNeg) := inb_of Sz1 ⟨by decide, by decide⟩
  refine own_go (x' := s₁.setTop (mkF m 12 #[.val (.ref ao0), .val (.ref ao1), .val (.int (2 : Int32)), .val (.int (1 : Int32))] [(.int d1), (.int (1 : Int32)), (.ref ao0)])) (X0.iaload hx (j := (1 : Int32)) (v := (.int d1)) (by rw [e0]; exact Ar1.1) (State.isArrayOf_alike hZ.alike Ar1.2.1) Ar1.2.2 hin1 (Hh1.at hin1 rfl) (g := (mkF m 11 #[.val (.ref ao0), .val (.ref ao1), .val (.int (2 : Int32)), .val (.int (1 : Int32))] [(.int (1 : Int32)), (.ref ao0), (.int (1 : Int32)), (.ref ao0)])) rfl rfl (hb hby d3_11)) ?_
  refine own_go (x' := s₁.setTop (mkF m 14 #[.val (.ref ao0), .val (.ref ao1), .val (.int (2 : Int32)), .val (.int (1 : Int32))] [(.int (d1 + (1 : Int32))), (.int (1 : Int32)), (.ref ao0)])) (fun _ k => XS.iconst X0.here hx rfl (hb hby d3_12) (XS.iadd X0.here hx rfl (hb hby d3_13) rfl k)) ?_
  obtain ⟨cl2, Ar2, q2, Sz2, Nn2, Hh2, Gg2⟩ := V_ao0
  have hin2 : ¬ ((1 : Int32) < 0 ∨ cl2.slots.size ≤ ((1 : Int32)).toNatClampNeg) := inb_of Sz2 ⟨by decide, by decide⟩
  obtain ⟨T2, h2, X2, e2, W2, st2⟩ := stI X0 hx hZ e0 Ar2 (j := (1 : Int32)) hin2 (g := (mkF m 14 #[.val (.ref ao0), .val (.ref ao1), .val (.int (2 : Int32)), .val (.int (1 : Int32))] [(.int (d1 + (1 : Int32))), (.int (1 : Int32)), (.ref ao0)])) rfl rfl (hb hby d3_14)
  refine own_go (x' := T2.setTop (mkF m 15 #[.val (.ref ao0), .val (.ref ao1), .val (.int (2 : Int32)), .val (.int (1 : Int32))] [])) st2 ?_
  replace V_ao1 := V_ao1.other W2 (Ne.symm ne_ao0_ao1)
  replace Zs := Nat.le_trans Zs (Keep.of_wr W2).1
  replace Nf := Fr.snoc X2 Nf g_ao0
  replace Kp := Kp.wr W2 (Or.inl (by simp))
  have V_ao0 : Arv Z h2 ao0 kd .int (4 : Int32) [(.int d0), (.int (d1 + (1 : Int32))), (.int d2), (.int d3)] (.int (0 : Int32)) := Arv.set Ar2 q2 Sz2 Nn2 Hh2 Gg2 rfl W2 1 rfl (Nat.le_of_ble_eq_true rfl)
  refine own_go (x' := T2.setTop (mkF m 17 #[.val (.ref ao0), .val (.ref ao1), .val (.int (2 : Int32)), .val (.int (1 : Int32))] [(.int (1 : Int32)), (.ref ao0)])) (fun _ k => XS.aloadN X2.here hx rfl (hb hby d3_15) rfl rfl (XS.iloadN X2.here hx rfl (hb hby d3_16) rfl k)) ?_
  obtain ⟨cl3, Ar3, q3, Sz3, Nn3, Hh3, Gg3⟩ := id V_ao0
  have hin3 : ¬ ((1 : Int32) < 0 ∨ cl3.slots.size ≤ ((1 : Int32)).toNatClampNeg) := inb_of Sz3 ⟨by decide, by decide⟩
  refine own_go (x' := T2.setTop (mkF m 18 #[.val (.ref ao0), .val (.ref ao1), .val (.int (2 : Int32)), .val (.int (1 : Int32))] [(.int (d1 + (1 : Int32)))])) (X2.iaload hx (j := (1 : Int32)) (v := (.int (d1 + (1 : Int32)))) (by rw [e2]; exact Ar3.1) (State.isArrayOf_alike hZ.alike Ar3.2.1) Ar3.2.2 hin3 (Hh3.at hin3 rfl) (g := (mkF m 17 #[.val (.ref ao0), .val (.ref ao1), .val (.int (2 : Int32)), .val (.int (1 : Int32))] [(.int (1 : Int32)), (.ref ao0)])) rfl rfl (hb hby d3_17)) ?_
  refine own_go (x' := T2.setTop (mkF m 20 #[.val (.ref ao0), .val (.ref ao1), .val (.int (2 : Int32)), .val (.int (1 : Int32))] [(.int (1 : Int32)), (.ref ao1), (.int (d1 + (1 : Int32)))])) (fun _ k => XS.aloadN X2.here hx rfl (hb hby d3_18) rfl rfl (XS.iloadN X2.here hx rfl (hb hby d3_19) rfl k)) ?_
  obtain ⟨cl4, Ar4, q4, Sz4, Nn4, Hh4, Gg4⟩ := id V_ao1
  have hin4 : ¬ ((1 : Int32) < 0 ∨ cl4.slots.size ≤ ((1 : Int32)).toNatClampNeg) := inb_of Sz4 ⟨by decide, by decide⟩
  refine own_go (x' := T2.setTop (mkF m 21 #[.val (.ref ao0), .val (.ref ao1), .val (.int (2 : Int32)), .val (.int (1 : Int32))] [(.int r1), (.int (d1 + (1 : Int32)))])) (X2.iaload hx (j := (1 : Int32)) (v := (.int r1)) (by rw [e2]; exact Ar4.1) (State.isArrayOf_alike hZ.alike Ar4.2.1) Ar4.2.2 hin4 (Hh4.at hin4 rfl) (g := (mkF m 20 #[.val (.ref ao0), .val (.ref ao1), .val (.int (2 : Int32)), .val (.int (1 : Int32))] [(.int (1 : Int32)), (.ref ao1), (.int (d1 + (1 : Int32)))])) rfl rfl (hb hby d3_20)) ?_
  by_cases hc21 : (d1 + (1 : Int32)) < r1
  · refine own_go (x' := T2.setTop (mkF m 25 #[.val (.ref ao0), .val (.ref ao1), .val (.int (2 : Int32)), .val (.int (1 : Int32))] [(.int (1 : Int32))])) (fun _ k => XS.icmpNo X2.here hx rfl (hb hby d3_21) rfl (tlt hc21).2.1 (XS.iconst X2.here hx rfl (hb hby d3_24) k)) ?_
    refine own_retN X2 hx hlk (t := .boolean) hret (by simp) (hb hby d3_25) (w := (1 : Int32)) rfl ?_ (by decide) (by decide)
    rw [e2]
    refine ⟨by simp only [own_adv_2_b, own_adv_2_0, own_adv_2_1, own_adv_2_2, own_adv_2_3, if_pos hc21], Nf, Kp, ?_⟩
    simp only [own_adv_2_b, own_adv_2_0, own_adv_2_1, own_adv_2_2, own_adv_2_3, if_pos hc21]
    exact V_ao0
  · refine own_go (x' := T2.setTop (mkF m 29 #[.val (.ref ao0), .val (.ref ao1), .val (.int (2 : Int32)), .val (.int (1 : Int32))] [(.int (0 : Int32)), (.int (1 : Int32)), (.ref ao0)])) (fun _ k => XS.icmpYes X2.here hx rfl (pc0 := 21) (pc' := 26) rfl (hb hby d3_21) rfl (flt hc21).2.1 (by decide) (by decide) (XS.aloadN X2.here hx rfl (hb hby d3_26) rfl rfl (XS.iloadN X2.here hx rfl (hb hby d3_27) rfl (XS.iconst X2.here hx rfl (hb hby d3_28) k)))) ?_
    obtain ⟨cl5, Ar5, q5, Sz5, Nn5, Hh5, Gg5⟩ := V_ao0
    have hin5 : ¬ ((1 : Int32) < 0 ∨ cl5.slots.size ≤ ((1 : Int32)).toNatClampNeg) := inb_of Sz5 ⟨by decide, by decide⟩
    obtain ⟨T5, h5, X5, e5, W5, st5⟩ := stI X2 hx hZ e2 Ar5 (j := (1 : Int32)) hin5 (g := (mkF m 29 #[.val (.ref ao0), .val (.ref ao1), .val (.int (2 : Int32)), .val (.int (1 : Int32))] [(.int (0 : Int32)), (.int (1 : Int32)), (.ref ao0)])) rfl rfl (hb hby d3_29)
    refine own_go (x' := T5.setTop (mkF m 30 #[.val (.ref ao0), .val (.ref ao1), .val (.int (2 : Int32)), .val (.int (1 : Int32))] [])) st5 ?_
    replace V_ao1 := V_ao1.other W5 (Ne.symm ne_ao0_ao1)
    replace Zs := Nat.le_trans Zs (Keep.of_wr W5).1
    replace Nf := Fr.snoc X5 Nf g_ao0
    replace Kp := Kp.wr W5 (Or.inl (by simp))
    have V_ao0 : Arv Z h5 ao0 kd .int (4 : Int32) [(.int d0), (.int (0 : Int32)), (.int d2), (.int d3)] (.int (0 : Int32)) := Arv.set Ar5 q5 Sz5 Nn5 Hh5 Gg5 rfl W5 1 rfl (Nat.le_of_ble_eq_true rfl)
    refine own_go (x' := T5.setTop (mkF m 4 #[.val (.ref ao0), .val (.ref ao1), .val (.int (2 : Int32)), .val (.int ((1 : Int32) + (-1 : Int32)))] [])) (fun _ k => XS.iinc X5.here hx rfl (hb hby d3_30) rfl (l' := #[.val (.ref ao0), .val (.ref ao1), .val (.int (2 : Int32)), .val (.int ((1 : Int32) + (-1 : Int32)))]) rfl (XS.goto X5.here hx rfl (pc0 := 33) (pc' := 4) rfl (hb hby d3_33) (by decide) (by decide) k)) ?_
    rw [show ((1 : Int32) + (-1 : Int32)) = (0 : Int32) from by decide +kernel]
    refine own_go (x' := T5.setTop (mkF m 11 #[.val (.ref ao0), .val (.ref ao1), .val (.int (2 : Int32)), .val (.int (0 : Int32))] [(.int (0 : Int32)), (.ref ao0), (.int (0 : Int32)), (.ref ao0)])) (fun _ k => XS.iloadN X5.here hx rfl (hb hby d3_4) rfl (XS.ifNo X5.here hx rfl (hb hby d3_5) rfl ((if0 _ _).trans (flt (Int32.lt_irrefl)).1) (XS.aloadN X5.here hx rfl (hb hby d3_8) rfl rfl (XS.iloadN X5.here hx rfl (hb hby d3_9) rfl (Jvm.Free.XT.dup2 X5.here hx rfl (hb hby d3_10) rfl rfl rfl k))))) ?_
    obtain ⟨cl6, Ar6, q6, Sz6, Nn6, Hh6, Gg6⟩ := id V_ao0
    have hin6 : ¬ ((0 : Int32) < 0 ∨ cl6.slots.size ≤ ((0 : Int32)).toNatClampNeg) := inb_of Sz6 ⟨by decide, by decide⟩
    refine own_go (x' := T5.setTop (mkF m 12 #[.val (.ref ao0), .val (.ref ao1), .val (.int (2 : Int32)), .val (.int (0 : Int32))] [(.int d0), (.int (0 : Int32)), (.ref ao0)])) (X5.iaload hx (j := (0 : Int32)) (v := (.int d0)) (by rw [e5]; exact Ar6.1) (State.isArrayOf_alike hZ.alike Ar6.2.1) Ar6.2.2 hin6 (Hh6.at hin6 rfl) (g := (mkF m 11 #[.val (.ref ao0), .val (.ref ao1), .val (.int (2 : Int32)), .val (.int (0 : Int32))] [(.int (0 : Int32)), (.ref ao0), (.int (0 : Int32)), (.ref ao0)])) rfl rfl (hb hby d3_11)) ?_
    refine own_go (x' := T5.setTop (mkF m 14 #[.val (.ref ao0), .val (.ref ao1), .val (.int (2 : Int32)), .val (.int (0 : Int32))] [(.int (d0 + (1 : Int32))), (.int (0 : Int32)), (.ref ao0)])) (fun _ k => XS.iconst X5.here hx rfl (hb hby d3_12) (XS.iadd X5.here hx rfl (hb hby d3_13) rfl k)) ?_
    obtain ⟨cl7, Ar7, q7, Sz7, Nn7, Hh7, Gg7⟩ := V_ao0
    have hin7 : ¬ ((0 : Int32) < 0 ∨ cl7.slots.size ≤ ((0 : Int32)).toNatClampNeg) := inb_of Sz7 ⟨by decide, by decide⟩
    obtain ⟨T7, h7, X7, e7, W7, st7⟩ := stI X5 hx hZ e5 Ar7 (j := (0 : Int32)) hin7 (g := (mkF m 14 #[.val (.ref ao0), .val (.ref ao1), .val (.int (2 : Int32)), .val (.int (0 : Int32))] [(.int (d0 + (1 : Int32))), (.int (0 : Int32)), (.ref ao0)])) rfl rfl (hb hby d3_14)
    refine own_go (x' := T7.setTop (mkF m 15 #[.val (.ref ao0), .val (.ref ao1), .val (.int (2 : Int32)), .val (.int (0 : Int32))] [])) st7 ?_
    replace V_ao1 := V_ao1.other W7 (Ne.symm ne_ao0_ao1)
    replace Zs := Nat.le_trans Zs (Keep.of_wr W7).1
    replace Nf := Fr.snoc X7 Nf g_ao0
    replace Kp := Kp.wr W7 (Or.inl (by simp))
    have V_ao0 : Arv Z h7 ao0 kd .int (4 : Int32) [(.int (d0 + (1 : Int32))), (.int (0 : Int32)), (.int d2), (.int d3)] (.int (0 : Int32)) := Arv.set Ar7 q7 Sz7 Nn7 Hh7 Gg7 rfl W7 0 rfl (Nat.le_of_ble_eq_true rfl)
    refine own_go (x' := T7.setTop (mkF m 17 #[.val (.ref ao0), .val (.ref ao1), .val (.int (2 : Int32)), .val (.int (0 : Int32))] [(.int (0 : Int32)), (.ref ao0)])) (fun _ k => XS.aloadN X7.here hx rfl (hb hby d3_15) rfl rfl (XS.iloadN X7.here hx rfl (hb hby d3_16) rfl k)) ?_
    obtain ⟨cl8, Ar8, q8, Sz8, Nn8, Hh8, Gg8⟩ := id V_ao0
    have hin8 : ¬ ((0 : Int32) < 0 ∨ cl8.slots.size ≤ ((0 : Int32)).toNatClampNeg) := inb_of Sz8 ⟨by decide, by decide⟩
    refine own_go (x' := T7.setTop (mkF m 18 #[.val (.ref ao0), .val (.ref ao1), .val (.int (2 : Int32)), .val (.int (0 : Int32))] [(.int (d0 + (1 : Int32)))])) (X7.iaload hx (j := (0 : Int32)) (v := (.int (d0 + (1 : Int32)))) (by rw [e7]; exact Ar8.1) (State.isArrayOf_alike hZ.alike Ar8.2.1) Ar8.2.2 hin8 (Hh8.at hin8 rfl) (g := (mkF m 17 #[.val (.ref ao0), .val (.ref ao1), .val (.int (2 : Int32)), .val (.int (0 : Int32))] [(.int (0 : Int32)), (.ref ao0)])) rfl rfl (hb hby d3_17)) ?_
    refine own_go (x' := T7.setTop (mkF m 20 #[.val (.ref ao0), .val (.ref ao1), .val (.int (2 : Int32)), .val (.int (0 : Int32))] [(.int (0 : Int32)), (.ref ao1), (.int (d0 + (1 : Int32)))])) (fun _ k => XS.aloadN X7.here hx rfl (hb hby d3_18) rfl rfl (XS.iloadN X7.here hx rfl (hb hby d3_19) rfl k)) ?_
    obtain ⟨cl9, Ar9, q9, Sz9, Nn9, Hh9, Gg9⟩ := id V_ao1
    have hin9 : ¬ ((0 : Int32) < 0 ∨ cl9.slots.size ≤ ((0 : Int32)).toNatClampNeg) := inb_of Sz9 ⟨by decide, by decide⟩
    refine own_go (x' := T7.setTop (mkF m 21 #[.val (.ref ao0), .val (.ref ao1), .val (.int (2 : Int32)), .val (.int (0 : Int32))] [(.int r0), (.int (d0 + (1 : Int32)))])) (X7.iaload hx (j := (0 : Int32)) (v := (.int r0)) (by rw [e7]; exact Ar9.1) (State.isArrayOf_alike hZ.alike Ar9.2.1) Ar9.2.2 hin9 (Hh9.at hin9 rfl) (g := (mkF m 20 #[.val (.ref ao0), .val (.ref ao1), .val (.int (2 : Int32)), .val (.int (0 : Int32))] [(.int (0 : Int32)), (.ref ao1), (.int (d0 + (1 : Int32)))])) rfl rfl (hb hby d3_20)) ?_
    by_cases hc21_10 : (d0 + (1 : Int32)) < r0
    · refine own_go (x' := T7.setTop (mkF m 25 #[.val (.ref ao0), .val (.ref ao1), .val (.int (2 : Int32)), .val (.int (0 : Int32))] [(.int (1 : Int32))])) (fun _ k => XS.icmpNo X7.here hx rfl (hb hby d3_21) rfl (tlt hc21_10).2.1 (XS.iconst X7.here hx rfl (hb hby d3_24) k)) ?_
      refine own_retN X7 hx hlk (t := .boolean) hret (by simp) (hb hby d3_25) (w := (1 : Int32)) rfl ?_ (by decide) (by decide)
      rw [e7]
      refine ⟨by simp only [own_adv_2_b, own_adv_2_0, own_adv_2_1, own_adv_2_2, own_adv_2_3, if_neg hc21, if_pos hc21_10], Nf, Kp, ?_⟩
      simp only [own_adv_2_b, own_adv_2_0, own_adv_2_1, own_adv_2_2, own_adv_2_3, if_neg hc21, if_pos hc21_10]
      exact V_ao0
    · refine own_go (x' := T7.setTop (mkF m 29 #[.val (.ref ao0), .val (.ref ao1), .val (.int (2 : Int32)), .val (.int (0 : Int32))] [(.int (0 : Int32)), (.int (0 : Int32)), (.ref ao0)])) (fun _ k => XS.icmpYes X7.here hx rfl (pc0 := 21) (pc' := 26) rfl (hb hby d3_21) rfl (flt hc21_10).2.1 (by decide) (by decide) (XS.aloadN X7.here hx rfl (hb hby d3_26) rfl rfl (XS.iloadN X7.here hx rfl (hb hby d3_27) rfl (XS.iconst X7.here hx rfl (hb hby d3_28) k)))) ?_
      obtain ⟨cl11, Ar11, q11, Sz11, Nn11, Hh11, Gg11⟩ := V_ao0
      have hin11 : ¬ ((0 : Int32) < 0 ∨ cl11.slots.size ≤ ((0 : Int32)).toNatClampNeg) := inb_of Sz11 ⟨by decide, by decide⟩
      obtain ⟨T11, h11, X11, e11, W11, st11⟩ := stI X7 hx hZ e7 Ar11 (j := (0 : Int32)) hin11 (g := (mkF m 29 #[.val (.ref ao0), .val (.ref ao1), .val (.int (2 : Int32)), .val (.int (0 : Int32))] [(.int (0 : Int32)), (.int (0 : Int32)), (.ref ao0)])) rfl rfl (hb hby d3_29)
      refine own_go (x' := T11.setTop (mkF m 30 #[.val (.ref ao0), .val (.ref ao1), .val (.int (2 : Int32)), .val (.int (0 : Int32))] [])) st11 ?_
      replace V_ao1 := V_ao1.other W11 (Ne.symm ne_ao0_ao1)
      replace Zs := Nat.le_trans Zs (Keep.of_wr W11).1
      replace Nf := Fr.snoc X11 Nf g_ao0
      replace Kp := Kp.wr W11 (Or.inl (by simp))
      have V_ao0 : Arv Z h11 ao0 kd .int (4 : Int32) [(.int (0 : Int32)), (.int (0 : Int32)), (.int d2), (.int d3)] (.int (0 : Int32)) := Arv.set Ar11 q11 Sz11 Nn11 Hh11 Gg11 rfl W11 0 rfl (Nat.le_of_ble_eq_true rfl)
      refine own_go (x' := T11.setTop (mkF m 4 #[.val (.ref ao0), .val (.ref ao1), .val (.int (2 : Int32)), .val (.int ((0 : Int32) + (-1 : Int32)))] [])) (fun _ k => XS.iinc X11.here hx rfl (hb hby d3_30) rfl (l' := #[.val (.ref ao0), .val (.ref ao1), .val (.int (2 : Int32)), .val (.int ((0 : Int32) + (-1 : Int32)))]) rfl (XS.goto X11.here hx rfl (pc0 := 33) (pc' := 4) rfl (hb hby d3_33) (by decide) (by decide) k)) ?_
      rw [show ((0 : Int32) + (-1 : Int32)) = (-1 : Int32) from by decide +kernel]
      refine own_go (x' := T11.setTop (mkF m 37 #[.val (.ref ao0), .val (.ref ao1), .val (.int (2 : Int32)), .val (.int (-1 : Int32))] [(.int (0 : Int32))])) (fun _ k => XS.iloadN X11.here hx rfl (hb hby d3_4) rfl (XS.ifYes X11.here hx rfl (pc0 := 5) (pc' := 36) rfl (hb hby d3_5) rfl ((if0 _ _).trans (tlt (by decide +kernel : ((-1 : Int32) < (0 : Int32)))).1) (by decide) (by decide) (XS.iconst X11.here hx rfl (hb hby d3_36) k))) ?_
      refine own_retN X11 hx hlk (t := .boolean) hret (by simp) (hb hby d3_37) (w := (0 : Int32)) rfl ?_ (by decide) (by decide)
      rw [e11]
      refine ⟨by simp only [own_adv_2_b, own_adv_2_0, own_adv_2_1, own_adv_2_2, own_adv_2_3, if_neg hc21, if_neg hc21_10], Nf, Kp, ?_⟩
      simp only [own_adv_2_b, own_adv_2_0, own_adv_2_1, own_adv_2_2, own_adv_2_3, if_neg hc21, if_neg hc21_10]
      exact V_ao0
def own_dok_0_2 (d0 r0 p4 : Int32) : Int32 := (if d0 < (0 : Int32) then (0 : Int32) else (if d0 < r0 then (1 : Int32) else (0 : Int32)))
def Q_rm4_0_2 (Z : State) (ao0 ao1 : Addr) (kd kr : ClassId) (d0 d1 d2 d3 r0 r1 r2 r3 : Int32) (p4 : Int32) (h0 : Heap) (n0 : Nat) (v : Option Value) (h : Heap) (L : List Loc) : Prop := v = some (.int (own_dok_0_2 d0 r0 p4)) ∧ Fr n0 L ∧ h = h0
theorem pn_rm4_0_2 : plainName "com/example/stratgen/stratgen/model/StateSpaceAdvancePinLaw" = true := by first | (simp [plainName, overriddenIn]; done) | decide +kernel
theorem ef_rm4_0_2 (m : MethodId) (x0 : Addr) (x1 : Addr) (x2 : Int32) (x3 : Int32) (x4 : Int32) : entryFrame m #[(.ref x0), (.ref x1), (.int x2), (.int x3), (.int x4)] 5 = mkF m 0 #[.val (.ref x0), .val (.ref x1), .val (.int x2), .val (.int x3), .val (.int x4)] [] := by first | (simp [entryFrame, mkF, argsToLocals, Value.category]; done) | rfl
set_option maxRecDepth 65536 in
set_option maxHeartbeats 40000000 in
theorem rm4_0_2 (l : Launch) (Z : State) (a0 : Array Value) (hw : ∀ d ∈ tables_1, d.before a0 Z = true) (ws : List Jvm.Cond) (ao0 ao1 : Addr) (kd kr : ClassId) (d0 d1 d2 d3 r0 r1 r2 r3 : Int32) (p4 : Int32) (h0 : Heap) (n0 : Nat) (Z0 : n0 ≤ h0.size) (V_ao0 : Arv Z h0 ao0 kd .int (4 : Int32) [(.int d0), (.int d1), (.int d2), (.int d3)] (.int (0 : Int32))) (V_ao1 : Arv Z h0 ao1 kr .int (4 : Int32) [(.int r0), (.int r1), (.int r2), (.int r3)] (.int (0 : Int32))) :
    MetFree l (⟨"com/example/stratgen/stratgen/model/StateSpaceAdvancePinLaw", "digitOk", "([I[IIII)Z"⟩ : MethodName) (head1 (Jvm.Cond.code (⟨"com/example/stratgen/stratgen/model/StateSpaceAdvancePinLaw", "digitOk", "([I[IIII)Z"⟩ : MethodName) method_4_code 5 (some .boolean) :: ws) ({ frames := 0, cells := 0, slots := 0, locals := 0 } : Room)) (fun a U => a = #[(.ref ao0), (.ref ao1), (.int (0 : Int32)), (.int (2 : Int32)), (.int p4)] ∧ Z.Warmed39 U.vm ∧ U.heap = h0) (fun _ _ _ _ _ => True) (fun _ U o U' => ∃ v L, o = .returned v ∧ (Q_rm4_0_2 Z ao0 ao1 kd kr d0 d1 d2 d3 r0 r1 r2 r3 p4 h0 n0) v U'.heap L ∧ FrameEnd U o U' L ({ frames := 0, cells := 0, slots := 0, locals := 0 } : Room).cells ({ frames := 0, cells := 0, slots := 0, locals := 0 } : Room).slots) := by
  refine MetFree.of_bodySF (plainFor_of_name pn_rm4_0_2) hisR ?_
  intro p e s m args below meth c s₁ Bd hml0 hP hK
  obtain ⟨rfl, hZ, hh⟩ := hP
  have hx := Bd.exec
  have hby := Bd.bytes
  have hlk := BodyLoose.notSynchronized Bd
  have hret := Bd.returns
  have hml : c.maxLocals = 5 := hml0
  have hown : s.vm.findClass "com/example/stratgen/stratgen/model/StateSpaceAdvancePinLaw" = some m.cls := findClass_of_methodNamed Bd.named
  have hnm := (name_of_methodNamed Bd.named Bd.method).1
  have X0 : Stand p l e ({ frames := 0, cells := 0, slots := 0, locals := 0 } : Room) s m #[(.ref ao0), (.ref ao1), (.int (0 : Int32)), (.int (2 : Int32)), (.int p4)] below meth c s₁ [] 0 0 := Stand.of_body Bd
  have e0 : s₁.heap = h0 := by rw [← hh, Bd.state]; rfl
  have Nf := Fr.nil n0
  have Zs := Z0
  have Kp : Keep h0 h0 [] := Keep.refl _ _
  show own_End p e below s (Q_rm4_0_2 Z ao0 ao1 kd kr d0 d1 d2 d3 r0 r1 r2 r3 p4 h0 n0) ({ frames := 0, cells := 0, slots := 0, locals := 0 } : Room).cells ({ frames := 0, cells := 0, slots := 0, locals := 0 } : Room).slots (s₁.setTop (entryFrame m #[(.ref ao0), (.ref ao1), (.int (0 : Int32)), (.int (2 : Int32)), (.int p4)] 5))
  refine own_go (x' := s₁.setTop (mkF m 0 #[.val (.ref ao0), .val (.ref ao1), .val (.int (0 : Int32)), .val (.int (2 : Int32)), .val (.int p4)] [])) (fun t k => castTop (ef_rm4_0_2 m ao0 ao1 (0 : Int32) (2 : Int32) p4) k) ?_
  refine own_go (x' := s₁.setTop (mkF m 7 #[.val (.ref ao0), .val (.ref ao1), .val (.int (0 : Int32)), .val (.int (2 : Int32)), .val (.int p4)] [(.int (0 : Int32)), (.ref ao0)])) (fun _ k => XS.iloadN X0.here hx rfl (hb hby d4_0) rfl (XS.iloadN X0.here hx rfl (hb hby d4_1) rfl (XS.icmpNo X0.here hx rfl (hb hby d4_2) rfl (tlt (by decide +kernel : ((0 : Int32) < (2 : Int32)))).2.1 (XS.aloadN X0.here hx rfl (hb hby d4_5) rfl rfl (XS.iloadN X0.here hx rfl (hb hby d4_6) rfl k))))) ?_
  obtain ⟨cl1, Ar1, q1, Sz1, Nn1, Hh1, Gg1⟩ := id V_ao0
  have hin1 : ¬ ((0 : Int32) < 0 ∨ cl1.slots.size ≤ ((0 : Int32)).toNatClampNeg) := inb_of Sz1 ⟨by decide, by decide⟩
  refine own_go (x' := s₁.setTop (mkF m 8 #[.val (.ref ao0), .val (.ref ao1), .val (.int (0 : Int32)), .val (.int (2 : Int32)), .val (.int p4)] [(.int d0)])) (X0.iaload hx (j := (0 : Int32)) (v := (.int d0)) (by rw [e0]; exact Ar1.1) (State.isArrayOf_alike hZ.alike Ar1.2.1) Ar1.2.2 hin1 (Hh1.at hin1 rfl) (g := (mkF m 7 #[.val (.ref ao0), .val (.ref ao1), .val (.int (0 : Int32)), .val (.int (2 : Int32)), .val (.int p4)] [(.int (0 : Int32)), (.ref ao0)])) rfl rfl (hb hby d4_7)) ?_
  by_cases hc8 : d0 < (0 : Int32)
  · refine own_go (x' := s₁.setTop (mkF m 25 #[.val (.ref ao0), .val (.ref ao1), .val (.int (0 : Int32)), .val (.int (2 : Int32)), .val (.int p4)] [(.int (0 : Int32))])) (fun _ k => XS.ifYes X0.here hx rfl (pc0 := 8) (pc' := 24) rfl (hb hby d4_8) rfl ((if0 _ _).trans (tlt hc8).1) (by decide) (by decide) (XS.iconst X0.here hx rfl (hb hby d4_24) k)) ?_
    refine own_retN X0 hx hlk (t := .boolean) hret (by simp) (hb hby d4_25) (w := (0 : Int32)) rfl ?_ (by decide) (by decide)
    rw [e0]
    exact ⟨by simp only [own_dok_0_2, if_pos hc8], Nf, rfl⟩
  · refine own_go (x' := s₁.setTop (mkF m 13 #[.val (.ref ao0), .val (.ref ao1), .val (.int (0 : Int32)), .val (.int (2 : Int32)), .val (.int p4)] [(.int (0 : Int32)), (.ref ao0)])) (fun _ k => XS.ifNo X0.here hx rfl (hb hby d4_8) rfl ((if0 _ _).trans (flt hc8).1) (XS.aloadN X0.here hx rfl (hb hby d4_11) rfl rfl (XS.iloadN X0.here hx rfl (hb hby d4_12) rfl k))) ?_
    obtain ⟨cl2, Ar2, q2, Sz2, Nn2, Hh2, Gg2⟩ := id V_ao0
    have hin2 : ¬ ((0 : Int32) < 0 ∨ cl2.slots.size ≤ ((0 : Int32)).toNatClampNeg) := inb_of Sz2 ⟨by decide, by decide⟩
    refine own_go (x' := s₁.setTop (mkF m 14 #[.val (.ref ao0), .val (.ref ao1), .val (.int (0 : Int32)), .val (.int (2 : Int32)), .val (.int p4)] [(.int d0)])) (X0.iaload hx (j := (0 : Int32)) (v := (.int d0)) (by rw [e0]; exact Ar2.1) (State.isArrayOf_alike hZ.alike Ar2.2.1) Ar2.2.2 hin2 (Hh2.at hin2 rfl) (g := (mkF m 13 #[.val (.ref ao0), .val (.ref ao1), .val (.int (0 : Int32)), .val (.int (2 : Int32)), .val (.int p4)] [(.int (0 : Int32)), (.ref ao0)])) rfl rfl (hb hby d4_13)) ?_
    refine own_go (x' := s₁.setTop (mkF m 16 #[.val (.ref ao0), .val (.ref ao1), .val (.int (0 : Int32)), .val (.int (2 : Int32)), .val (.int p4)] [(.int (0 : Int32)), (.ref ao1), (.int d0)])) (fun _ k => XS.aloadN X0.here hx rfl (hb hby d4_14) rfl rfl (XS.iloadN X0.here hx rfl (hb hby d4_15) rfl k)) ?_
    obtain ⟨cl3, Ar3, q3, Sz3, Nn3, Hh3, Gg3⟩ := id V_ao1
    have hin3 : ¬ ((0 : Int32) < 0 ∨ cl3.slots.size ≤ ((0 : Int32)).toNatClampNeg) := inb_of Sz3 ⟨by decide, by decide⟩
    refine own_go (x' := s₁.setTop (mkF m 17 #[.val (.ref ao0), .val (.ref ao1), .val (.int (0 : Int32)), .val (.int (2 : Int32)), .val (.int p4)] [(.int r0), (.int d0)])) (X0.iaload hx (j := (0 : Int32)) (v := (.int r0)) (by rw [e0]; exact Ar3.1) (State.isArrayOf_alike hZ.alike Ar3.2.1) Ar3.2.2 hin3 (Hh3.at hin3 rfl) (g := (mkF m 16 #[.val (.ref ao0), .val (.ref ao1), .val (.int (0 : Int32)), .val (.int (2 : Int32)), .val (.int p4)] [(.int (0 : Int32)), (.ref ao1), (.int d0)])) rfl rfl (hb hby d4_16)) ?_
    by_cases hc17 : d0 < r0
    · refine own_go (x' := s₁.setTop (mkF m 25 #[.val (.ref ao0), .val (.ref ao1), .val (.int (0 : Int32)), .val (.int (2 : Int32)), .val (.int p4)] [(.int (1 : Int32))])) (fun _ k => XS.icmpNo X0.here hx rfl (hb hby d4_17) rfl (tlt hc17).2.1 (XS.iconst X0.here hx rfl (hb hby d4_20) (XS.goto X0.here hx rfl (pc0 := 21) (pc' := 25) rfl (hb hby d4_21) (by decide) (by decide) k))) ?_
      refine own_retN X0 hx hlk (t := .boolean) hret (by simp) (hb hby d4_25) (w := (1 : Int32)) rfl ?_ (by decide) (by decide)
      rw [e0]
      exact ⟨by simp only [own_dok_0_2, if_neg hc8, if_pos hc17], Nf, rfl⟩
    · refine own_go (x' := s₁.setTop (mkF m 25 #[.val (.ref ao0), .val (.ref ao1), .val (.int (0 : Int32)), .val (.int (2 : Int32)), .val (.int p4)] [(.int (0 : Int32))])) (fun _ k => XS.icmpYes X0.here hx rfl (pc0 := 17) (pc' := 24) rfl (hb hby d4_17) rfl (flt hc17).2.1 (by decide) (by decide) (XS.iconst X0.here hx rfl (hb hby d4_24) k)) ?_
      refine own_retN X0 hx hlk (t := .boolean) hret (by simp) (hb hby d4_25) (w := (0 : Int32)) rfl ?_ (by decide) (by decide)
      rw [e0]
      exact ⟨by simp only [own_dok_0_2, if_neg hc8, if_neg hc17], Nf, rfl⟩
def own_dok_1_2 (d1 r1 p4 : Int32) : Int32 := (if d1 < (0 : Int32) then (0 : Int32) else (if d1 < r1 then (1 : Int32) else (0 : Int32)))
def Q_rm4_1_2 (Z : State) (ao0 ao1 : Addr) (kd kr : ClassId) (d0 d1 d2 d3 r0 r1 r2 r3 : Int32) (p4 : Int32) (h0 : Heap) (n0 : Nat) (v : Option Value) (h : Heap) (L : List Loc) : Prop := v = some (.int (own_dok_1_2 d1 r1 p4)) ∧ Fr n0 L ∧ h = h0
theorem pn_rm4_1_2 : plainName "com/example/stratgen/stratgen/model/StateSpaceAdvancePinLaw" = true := by first | (simp [plainName, overriddenIn]; done) | decide +kernel
theorem ef_rm4_1_2 (m : MethodId) (x0 : Addr) (x1 : Addr) (x2 : Int32) (x3 : Int32) (x4 : Int32) : entryFrame m #[(.ref x0), (.ref x1), (.int x2), (.int x3), (.int x4)] 5 = mkF m 0 #[.val (.ref x0), .val (.ref x1), .val (.int x2), .val (.int x3), .val (.int x4)] [] := by first | (simp [entryFrame, mkF, argsToLocals, Value.category]; done) | rfl
set_option maxRecDepth 65536 in
set_option maxHeartbeats 40000000 in
theorem rm4_1_2 (l : Launch) (Z : State) (a0 : Array Value) (hw : ∀ d ∈ tables_1, d.before a0 Z = true) (ws : List Jvm.Cond) (ao0 ao1 : Addr) (kd kr : ClassId) (d0 d1 d2 d3 r0 r1 r2 r3 : Int32) (p4 : Int32) (h0 : Heap) (n0 : Nat) (Z0 : n0 ≤ h0.size) (V_ao0 : Arv Z h0 ao0 kd .int (4 : Int32) [(.int d0), (.int d1), (.int d2), (.int d3)] (.int (0 : Int32))) (V_ao1 : Arv Z h0 ao1 kr .int (4 : Int32) [(.int r0), (.int r1), (.int r2), (.int r3)] (.int (0 : Int32))) :
    MetFree l (⟨"com/example/stratgen/stratgen/model/StateSpaceAdvancePinLaw", "digitOk", "([I[IIII)Z"⟩ : MethodName) (head1 (Jvm.Cond.code (⟨"com/example/stratgen/stratgen/model/StateSpaceAdvancePinLaw", "digitOk", "([I[IIII)Z"⟩ : MethodName) method_4_code 5 (some .boolean) :: ws) ({ frames := 0, cells := 0, slots := 0, locals := 0 } : Room)) (fun a U => a = #[(.ref ao0), (.ref ao1), (.int (1 : Int32)), (.int (2 : Int32)), (.int p4)] ∧ Z.Warmed39 U.vm ∧ U.heap = h0) (fun _ _ _ _ _ => True) (fun _ U o U' => ∃ v L, o = .returned v ∧ (Q_rm4_1_2 Z ao0 ao1 kd kr d0 d1 d2 d3 r0 r1 r2 r3 p4 h0 n0) v U'.heap L ∧ FrameEnd U o U' L ({ frames := 0, cells := 0, slots := 0, locals := 0 } : Room).cells ({ frames := 0, cells := 0, slots := 0, locals := 0 } : Room).slots) := by
  refine MetFree.of_bodySF (plainFor_of_name pn_rm4_1_2) hisR ?_
  intro p e s m args below meth c s₁ Bd hml0 hP hK
  obtain ⟨rfl, hZ, hh⟩ := hP
  have hx := Bd.exec
  have hby := Bd.bytes
  have hlk := BodyLoose.notSynchronized Bd
  have hret := Bd.returns
  have hml : c.maxLocals = 5 := hml0
  have hown : s.vm.findClass "com/example/stratgen/stratgen/model/StateSpaceAdvancePinLaw" = some m.cls := findClass_of_methodNamed Bd.named
  have hnm := (name_of_methodNamed Bd.named Bd.method).1
  have X0 : Stand p l e ({ frames := 0, cells := 0, slots := 0, locals := 0 } : Room) s m #[(.ref ao0), (.ref ao1), (.int (1 : Int32)), (.int (2 : Int32)), (.int p4)] below meth c s₁ [] 0 0 := Stand.of_body Bd
  have e0 : s₁.heap = h0 := by rw [← hh, Bd.state]; rfl
  have Nf := Fr.nil n0
  have Zs := Z0
  have Kp : Keep h0 h0 [] := Keep.refl _ _
  show own_End p e below s (Q_rm4_1_2 Z ao0 ao1 kd kr d0 d1 d2 d3 r0 r1 r2 r3 p4 h0 n0) ({ frames := 0, cells := 0, slots := 0, locals := 0 } : Room).cells ({ frames := 0, cells := 0, slots := 0, locals := 0 } : Room).slots (s₁.setTop (entryFrame m #[(.ref ao0), (.ref ao1), (.int (1 : Int32)), (.int (2 : Int32)), (.int p4)] 5))
  refine own_go (x' := s₁.setTop (mkF m 0 #[.val (.ref ao0), .val (.ref ao1), .val (.int (1 : Int32)), .val (.int (2 : Int32)), .val (.int p4)] [])) (fun t k => castTop (ef_rm4_1_2 m ao0 ao1 (1 : Int32) (2 : Int32) p4) k) ?_
  refine own_go (x' := s₁.setTop (mkF m 7 #[.val (.ref ao0), .val (.ref ao1), .val (.int (1 : Int32)), .val (.int (2 : Int32)), .val (.int p4)] [(.int (1 : Int32)), (.ref ao0)])) (fun _ k => XS.iloadN X0.here hx rfl (hb hby d4_0) rfl (XS.iloadN X0.here hx rfl (hb hby d4_1) rfl (XS.icmpNo X0.here hx rfl (hb hby d4_2) rfl (tlt (by decide +kernel : ((1 : Int32) < (2 : Int32)))).2.1 (XS.aloadN X0.here hx rfl (hb hby d4_5) rfl rfl (XS.iloadN X0.here hx rfl (hb hby d4_6) rfl k))))) ?_
  obtain ⟨cl1, Ar1, q1, Sz1, Nn1, Hh1, Gg1⟩ := id V_ao0
  have hin1 : ¬ ((1 : Int32) < 0 ∨ cl1.slots.size ≤ ((1 : Int32)).toNatClampNeg) := inb_of Sz1 ⟨by decide, by decide⟩
  refine own_go (x' := s₁.setTop (mkF m 8 #[.val (.ref ao0), .val (.ref ao1), .val (.int (1 : Int32)), .val (.int (2 : Int32)), .val (.int p4)] [(.int d1)])) (X0.iaload hx (j := (1 : Int32)) (v := (.int d1)) (by rw [e0]; exact Ar1.1) (State.isArrayOf_alike hZ.alike Ar1.2.1) Ar1.2.2 hin1 (Hh1.at hin1 rfl) (g := (mkF m 7 #[.val (.ref ao0), .val (.ref ao1), .val (.int (1 : Int32)), .val (.int (2 : Int32)), .val (.int p4)] [(.int (1 : Int32)), (.ref ao0)])) rfl rfl (hb hby d4_7)) ?_
  by_cases hc8 : d1 < (0 : Int32)
  · refine own_go (x' := s₁.setTop (mkF m 25 #[.val (.ref ao0), .val (.ref ao1), .val (.int (1 : Int32)), .val (.int (2 : Int32)), .val (.int p4)] [(.int (0 : Int32))])) (fun _ k => XS.ifYes X0.here hx rfl (pc0 := 8) (pc' := 24) rfl (hb hby d4_8) rfl ((if0 _ _).trans (tlt hc8).1) (by decide) (by decide) (XS.iconst X0.here hx rfl (hb hby d4_24) k)) ?_
    refine own_retN X0 hx hlk (t := .boolean) hret (by simp) (hb hby d4_25) (w := (0 : Int32)) rfl ?_ (by decide) (by decide)
    rw [e0]
    exact ⟨by simp only [own_dok_1_2, if_pos hc8], Nf, rfl⟩
  · refine own_go (x' := s₁.setTop (mkF m 13 #[.val (.ref ao0), .val (.ref ao1), .val (.int (1 : Int32)), .val (.int (2 : Int32)), .val (.int p4)] [(.int (1 : Int32)), (.ref ao0)])) (fun _ k => XS.ifNo X0.here hx rfl (hb hby d4_8) rfl ((if0 _ _).trans (flt hc8).1) (XS.aloadN X0.here hx rfl (hb hby d4_11) rfl rfl (XS.iloadN X0.here hx rfl (hb hby d4_12) rfl k))) ?_
    obtain ⟨cl2, Ar2, q2, Sz2, Nn2, Hh2, Gg2⟩ := id V_ao0
    have hin2 : ¬ ((1 : Int32) < 0 ∨ cl2.slots.size ≤ ((1 : Int32)).toNatClampNeg) := inb_of Sz2 ⟨by decide, by decide⟩
    refine own_go (x' := s₁.setTop (mkF m 14 #[.val (.ref ao0), .val (.ref ao1), .val (.int (1 : Int32)), .val (.int (2 : Int32)), .val (.int p4)] [(.int d1)])) (X0.iaload hx (j := (1 : Int32)) (v := (.int d1)) (by rw [e0]; exact Ar2.1) (State.isArrayOf_alike hZ.alike Ar2.2.1) Ar2.2.2 hin2 (Hh2.at hin2 rfl) (g := (mkF m 13 #[.val (.ref ao0), .val (.ref ao1), .val (.int (1 : Int32)), .val (.int (2 : Int32)), .val (.int p4)] [(.int (1 : Int32)), (.ref ao0)])) rfl rfl (hb hby d4_13)) ?_
    refine own_go (x' := s₁.setTop (mkF m 16 #[.val (.ref ao0), .val (.ref ao1), .val (.int (1 : Int32)), .val (.int (2 : Int32)), .val (.int p4)] [(.int (1 : Int32)), (.ref ao1), (.int d1)])) (fun _ k => XS.aloadN X0.here hx rfl (hb hby d4_14) rfl rfl (XS.iloadN X0.here hx rfl (hb hby d4_15) rfl k)) ?_
    obtain ⟨cl3, Ar3, q3, Sz3, Nn3, Hh3, Gg3⟩ := id V_ao1
    have hin3 : ¬ ((1 : Int32) < 0 ∨ cl3.slots.size ≤ ((1 : Int32)).toNatClampNeg) := inb_of Sz3 ⟨by decide, by decide⟩
    refine own_go (x' := s₁.setTop (mkF m 17 #[.val (.ref ao0), .val (.ref ao1), .val (.int (1 : Int32)), .val (.int (2 : Int32)), .val (.int p4)] [(.int r1), (.int d1)])) (X0.iaload hx (j := (1 : Int32)) (v := (.int r1)) (by rw [e0]; exact Ar3.1) (State.isArrayOf_alike hZ.alike Ar3.2.1) Ar3.2.2 hin3 (Hh3.at hin3 rfl) (g := (mkF m 16 #[.val (.ref ao0), .val (.ref ao1), .val (.int (1 : Int32)), .val (.int (2 : Int32)), .val (.int p4)] [(.int (1 : Int32)), (.ref ao1), (.int d1)])) rfl rfl (hb hby d4_16)) ?_
    by_cases hc17 : d1 < r1
    · refine own_go (x' := s₁.setTop (mkF m 25 #[.val (.ref ao0), .val (.ref ao1), .val (.int (1 : Int32)), .val (.int (2 : Int32)), .val (.int p4)] [(.int (1 : Int32))])) (fun _ k => XS.icmpNo X0.here hx rfl (hb hby d4_17) rfl (tlt hc17).2.1 (XS.iconst X0.here hx rfl (hb hby d4_20) (XS.goto X0.here hx rfl (pc0 := 21) (pc' := 25) rfl (hb hby d4_21) (by decide) (by decide) k))) ?_
      refine own_retN X0 hx hlk (t := .boolean) hret (by simp) (hb hby d4_25) (w := (1 : Int32)) rfl ?_ (by decide) (by decide)
      rw [e0]
      exact ⟨by simp only [own_dok_1_2, if_neg hc8, if_pos hc17], Nf, rfl⟩
    · refine own_go (x' := s₁.setTop (mkF m 25 #[.val (.ref ao0), .val (.ref ao1), .val (.int (1 : Int32)), .val (.int (2 : Int32)), .val (.int p4)] [(.int (0 : Int32))])) (fun _ k => XS.icmpYes X0.here hx rfl (pc0 := 17) (pc' := 24) rfl (hb hby d4_17) rfl (flt hc17).2.1 (by decide) (by decide) (XS.iconst X0.here hx rfl (hb hby d4_24) k)) ?_
      refine own_retN X0 hx hlk (t := .boolean) hret (by simp) (hb hby d4_25) (w := (0 : Int32)) rfl ?_ (by decide) (by decide)
      rw [e0]
      exact ⟨by simp only [own_dok_1_2, if_neg hc8, if_neg hc17], Nf, rfl⟩
def own_dok_2_2 (d2 r2 p4 : Int32) : Int32 := (if d2 = p4 then (1 : Int32) else (0 : Int32))
def Q_rm4_2_2 (Z : State) (ao0 ao1 : Addr) (kd kr : ClassId) (d0 d1 d2 d3 r0 r1 r2 r3 : Int32) (p4 : Int32) (h0 : Heap) (n0 : Nat) (v : Option Value) (h : Heap) (L : List Loc) : Prop := v = some (.int (own_dok_2_2 d2 r2 p4)) ∧ Fr n0 L ∧ h = h0
theorem pn_rm4_2_2 : plainName "com/example/stratgen/stratgen/model/StateSpaceAdvancePinLaw" = true := by first | (simp [plainName, overriddenIn]; done) | decide +kernel
theorem ef_rm4_2_2 (m : MethodId) (x0 : Addr) (x1 : Addr) (x2 : Int32) (x3 : Int32) (x4 : Int32) : entryFrame m #[(.ref x0), (.ref x1), (.int x2), (.int x3), (.int x4)] 5 = mkF m 0 #[.val (.ref x0), .val (.ref x1), .val (.int x2), .val (.int x3), .val (.int x4)] [] := by first | (simp [entryFrame, mkF, argsToLocals, Value.category]; done) | rfl
set_option maxRecDepth 65536 in
set_option maxHeartbeats 40000000 in
theorem rm4_2_2 (l : Launch) (Z : State) (a0 : Array Value) (hw : ∀ d ∈ tables_1, d.before a0 Z = true) (ws : List Jvm.Cond) (ao0 ao1 : Addr) (kd kr : ClassId) (d0 d1 d2 d3 r0 r1 r2 r3 : Int32) (p4 : Int32) (h0 : Heap) (n0 : Nat) (Z0 : n0 ≤ h0.size) (V_ao0 : Arv Z h0 ao0 kd .int (4 : Int32) [(.int d0), (.int d1), (.int d2), (.int d3)] (.int (0 : Int32))) (V_ao1 : Arv Z h0 ao1 kr .int (4 : Int32) [(.int r0), (.int r1), (.int r2), (.int r3)] (.int (0 : Int32))) :
    MetFree l (⟨"com/example/stratgen/stratgen/model/StateSpaceAdvancePinLaw", "digitOk", "([I[IIII)Z"⟩ : MethodName) (head1 (Jvm.Cond.code (⟨"com/example/stratgen/stratgen/model/StateSpaceAdvancePinLaw", "digitOk", "([I[IIII)Z"⟩ : MethodName) method_4_code 5 (some .boolean) :: ws) ({ frames := 0, cells := 0, slots := 0, locals := 0 } : Room)) (fun a U => a = #[(.ref ao0), (.ref ao1), (.int (2 : Int32)), (.int (2 : Int32)), (.int p4)] ∧ Z.Warmed39 U.vm ∧ U.heap = h0) (fun _ _ _ _ _ => True) (fun _ U o U' => ∃ v L, o = .returned v ∧ (Q_rm4_2_2 Z ao0 ao1 kd kr d0 d1 d2 d3 r0 r1 r2 r3 p4 h0 n0) v U'.heap L ∧ FrameEnd U o U' L ({ frames := 0, cells := 0, slots := 0, locals := 0 } : Room).cells ({ frames := 0, cells := 0, slots := 0, locals := 0 } : Room).slots) := by
  refine MetFree.of_bodySF (plainFor_of_name pn_rm4_2_2) hisR ?_
  intro p e s m args below meth c s₁ Bd hml0 hP hK
  obtain ⟨rfl, hZ, hh⟩ := hP
  have hx := Bd.exec
  have hby := Bd.bytes
  have hlk := BodyLoose.notSynchronized Bd
  have hret := Bd.returns
  have hml : c.maxLocals = 5 := hml0
  have hown : s.vm.findClass "com/example/stratgen/stratgen/model/StateSpaceAdvancePinLaw" = some m.cls := findClass_of_methodNamed Bd.named
  have hnm := (name_of_methodNamed Bd.named Bd.method).1
  have X0 : Stand p l e ({ frames := 0, cells := 0, slots := 0, locals := 0 } : Room) s m #[(.ref ao0), (.ref ao1), (.int (2 : Int32)), (.int (2 : Int32)), (.int p4)] below meth c s₁ [] 0 0 := Stand.of_body Bd
  have e0 : s₁.heap = h0 := by rw [← hh, Bd.state]; rfl
  have Nf := Fr.nil n0
  have Zs := Z0
  have Kp : Keep h0 h0 [] := Keep.refl _ _
  show own_End p e below s (Q_rm4_2_2 Z ao0 ao1 kd kr d0 d1 d2 d3 r0 r1 r2 r3 p4 h0 n0) ({ frames := 0, cells := 0, slots := 0, locals := 0 } : Room).cells ({ frames := 0, cells := 0, slots := 0, locals := 0 } : Room).slots (s₁.setTop (entryFrame m #[(.ref ao0), (.ref ao1), (.int (2 : Int32)), (.int (2 : Int32)), (.int p4)] 5))
  refine own_go (x' := s₁.setTop (mkF m 0 #[.val (.ref ao0), .val (.ref ao1), .val (.int (2 : Int32)), .val (.int (2 : Int32)), .val (.int p4)] [])) (fun t k => castTop (ef_rm4_2_2 m ao0 ao1 (2 : Int32) (2 : Int32) p4) k) ?_
  refine own_go (x' := s₁.setTop (mkF m 28 #[.val (.ref ao0), .val (.ref ao1), .val (.int (2 : Int32)), .val (.int (2 : Int32)), .val (.int p4)] [(.int (2 : Int32)), (.ref ao0)])) (fun _ k => XS.iloadN X0.here hx rfl (hb hby d4_0) rfl (XS.iloadN X0.here hx rfl (hb hby d4_1) rfl (XS.icmpYes X0.here hx rfl (pc0 := 2) (pc' := 26) rfl (hb hby d4_2) rfl (flt (Int32.lt_irrefl)).2.1 (by decide) (by decide) (XS.aloadN X0.here hx rfl (hb hby d4_26) rfl rfl (XS.iloadN X0.here hx rfl (hb hby d4_27) rfl k))))) ?_
  obtain ⟨cl1, Ar1, q1, Sz1, Nn1, Hh1, Gg1⟩ := id V_ao0
  have hin1 : ¬ ((2 : Int32) < 0 ∨ cl1.slots.size ≤ ((2 : Int32)).toNatClampNeg) := inb_of Sz1 ⟨by decide, by decide⟩
  refine own_go (x' := s₁.setTop (mkF m 29 #[.val (.ref ao0), .val (.ref ao1), .val (.int (2 : Int32)), .val (.int (2 : Int32)), .val (.int p4)] [(.int d2)])) (X0.iaload hx (j := (2 : Int32)) (v := (.int d2)) (by rw [e0]; exact Ar1.1) (State.isArrayOf_alike hZ.alike Ar1.2.1) Ar1.2.2 hin1 (Hh1.at hin1 rfl) (g := (mkF m 28 #[.val (.ref ao0), .val (.ref ao1), .val (.int (2 : Int32)), .val (.int (2 : Int32)), .val (.int p4)] [(.int (2 : Int32)), (.ref ao0)])) rfl rfl (hb hby d4_28)) ?_
  refine own_go (x' := s₁.setTop (mkF m 31 #[.val (.ref ao0), .val (.ref ao1), .val (.int (2 : Int32)), .val (.int (2 : Int32)), .val (.int p4)] [(.int p4), (.int d2)])) (fun _ k => XS.iload X0.here hx rfl (hb hby d4_29) rfl k) ?_
  by_cases hc31 : d2 = p4
  · refine own_go (x' := s₁.setTop (mkF m 39 #[.val (.ref ao0), .val (.ref ao1), .val (.int (2 : Int32)), .val (.int (2 : Int32)), .val (.int p4)] [(.int (1 : Int32))])) (fun _ k => XS.icmpNo X0.here hx rfl (hb hby d4_31) rfl (teq hc31).2 (XS.iconst X0.here hx rfl (hb hby d4_34) (XS.goto X0.here hx rfl (pc0 := 35) (pc' := 39) rfl (hb hby d4_35) (by decide) (by decide) k))) ?_
    refine own_retN X0 hx hlk (t := .boolean) hret (by simp) (hb hby d4_39) (w := (1 : Int32)) rfl ?_ (by decide) (by decide)
    rw [e0]
    exact ⟨by simp only [own_dok_2_2, if_pos hc31], Nf, rfl⟩
  · refine own_go (x' := s₁.setTop (mkF m 39 #[.val (.ref ao0), .val (.ref ao1), .val (.int (2 : Int32)), .val (.int (2 : Int32)), .val (.int p4)] [(.int (0 : Int32))])) (fun _ k => XS.icmpYes X0.here hx rfl (pc0 := 31) (pc' := 38) rfl (hb hby d4_31) rfl (feq hc31).2 (by decide) (by decide) (XS.iconst X0.here hx rfl (hb hby d4_38) k)) ?_
    refine own_retN X0 hx hlk (t := .boolean) hret (by simp) (hb hby d4_39) (w := (0 : Int32)) rfl ?_ (by decide) (by decide)
    rw [e0]
    exact ⟨by simp only [own_dok_2_2, if_neg hc31], Nf, rfl⟩
def own_dok_3_2 (d3 r3 p4 : Int32) : Int32 := (if d3 = p4 then (1 : Int32) else (0 : Int32))
def Q_rm4_3_2 (Z : State) (ao0 ao1 : Addr) (kd kr : ClassId) (d0 d1 d2 d3 r0 r1 r2 r3 : Int32) (p4 : Int32) (h0 : Heap) (n0 : Nat) (v : Option Value) (h : Heap) (L : List Loc) : Prop := v = some (.int (own_dok_3_2 d3 r3 p4)) ∧ Fr n0 L ∧ h = h0
theorem pn_rm4_3_2 : plainName "com/example/stratgen/stratgen/model/StateSpaceAdvancePinLaw" = true := by first | (simp [plainName, overriddenIn]; done) | decide +kernel
theorem ef_rm4_3_2 (m : MethodId) (x0 : Addr) (x1 : Addr) (x2 : Int32) (x3 : Int32) (x4 : Int32) : entryFrame m #[(.ref x0), (.ref x1), (.int x2), (.int x3), (.int x4)] 5 = mkF m 0 #[.val (.ref x0), .val (.ref x1), .val (.int x2), .val (.int x3), .val (.int x4)] [] := by first | (simp [entryFrame, mkF, argsToLocals, Value.category]; done) | rfl
set_option maxRecDepth 65536 in
set_option maxHeartbeats 40000000 in
theorem rm4_3_2 (l : Launch) (Z : State) (a0 : Array Value) (hw : ∀ d ∈ tables_1, d.before a0 Z = true) (ws : List Jvm.Cond) (ao0 ao1 : Addr) (kd kr : ClassId) (d0 d1 d2 d3 r0 r1 r2 r3 : Int32) (p4 : Int32) (h0 : Heap) (n0 : Nat) (Z0 : n0 ≤ h0.size) (V_ao0 : Arv Z h0 ao0 kd .int (4 : Int32) [(.int d0), (.int d1), (.int d2), (.int d3)] (.int (0 : Int32))) (V_ao1 : Arv Z h0 ao1 kr .int (4 : Int32) [(.int r0), (.int r1), (.int r2), (.int r3)] (.int (0 : Int32))) :
    MetFree l (⟨"com/example/stratgen/stratgen/model/StateSpaceAdvancePinLaw", "digitOk", "([I[IIII)Z"⟩ : MethodName) (head1 (Jvm.Cond.code (⟨"com/example/stratgen/stratgen/model/StateSpaceAdvancePinLaw", "digitOk", "([I[IIII)Z"⟩ : MethodName) method_4_code 5 (some .boolean) :: ws) ({ frames := 0, cells := 0, slots := 0, locals := 0 } : Room)) (fun a U => a = #[(.ref ao0), (.ref ao1), (.int (3 : Int32)), (.int (2 : Int32)), (.int p4)] ∧ Z.Warmed39 U.vm ∧ U.heap = h0) (fun _ _ _ _ _ => True) (fun _ U o U' => ∃ v L, o = .returned v ∧ (Q_rm4_3_2 Z ao0 ao1 kd kr d0 d1 d2 d3 r0 r1 r2 r3 p4 h0 n0) v U'.heap L ∧ FrameEnd U o U' L ({ frames := 0, cells := 0, slots := 0, locals := 0 } : Room).cells ({ frames := 0, cells := 0, slots := 0, locals := 0 } : Room).slots) := by
  refine MetFree.of_bodySF (plainFor_of_name pn_rm4_3_2) hisR ?_
  intro p e s m args below meth c s₁ Bd hml0 hP hK
  obtain ⟨rfl, hZ, hh⟩ := hP
  have hx := Bd.exec
  have hby := Bd.bytes
  have hlk := BodyLoose.notSynchronized Bd
  have hret := Bd.returns
  have hml : c.maxLocals = 5 := hml0
  have hown : s.vm.findClass "com/example/stratgen/stratgen/model/StateSpaceAdvancePinLaw" = some m.cls := findClass_of_methodNamed Bd.named
  have hnm := (name_of_methodNamed Bd.named Bd.method).1
  have X0 : Stand p l e ({ frames := 0, cells := 0, slots := 0, locals := 0 } : Room) s m #[(.ref ao0), (.ref ao1), (.int (3 : Int32)), (.int (2 : Int32)), (.int p4)] below meth c s₁ [] 0 0 := Stand.of_body Bd
  have e0 : s₁.heap = h0 := by rw [← hh, Bd.state]; rfl
  have Nf := Fr.nil n0
  have Zs := Z0
  have Kp : Keep h0 h0 [] := Keep.refl _ _
  show own_End p e below s (Q_rm4_3_2 Z ao0 ao1 kd kr d0 d1 d2 d3 r0 r1 r2 r3 p4 h0 n0) ({ frames := 0, cells := 0, slots := 0, locals := 0 } : Room).cells ({ frames := 0, cells := 0, slots := 0, locals := 0 } : Room).slots (s₁.setTop (entryFrame m #[(.ref ao0), (.ref ao1), (.int (3 : Int32)), (.int (2 : Int32)), (.int p4)] 5))
  refine own_go (x' := s₁.setTop (mkF m 0 #[.val (.ref ao0), .val (.ref ao1), .val (.int (3 : Int32)), .val (.int (2 : Int32)), .val (.int p4)] [])) (fun t k => castTop (ef_rm4_3_2 m ao0 ao1 (3 : Int32) (2 : Int32) p4) k) ?_
  refine own_go (x' := s₁.setTop (mkF m 28 #[.val (.ref ao0), .val (.ref ao1), .val (.int (3 : Int32)), .val (.int (2 : Int32)), .val (.int p4)] [(.int (3 : Int32)), (.ref ao0)])) (fun _ k => XS.iloadN X0.here hx rfl (hb hby d4_0) rfl (XS.iloadN X0.here hx rfl (hb hby d4_1) rfl (XS.icmpYes X0.here hx rfl (pc0 := 2) (pc' := 26) rfl (hb hby d4_2) rfl (flt (by decide +kernel : ¬ ((3 : Int32) < (2 : Int32)))).2.1 (by decide) (by decide) (XS.aloadN X0.here hx rfl (hb hby d4_26) rfl rfl (XS.iloadN X0.here hx rfl (hb hby d4_27) rfl k))))) ?_
  obtain ⟨cl1, Ar1, q1, Sz1, Nn1, Hh1, Gg1⟩ := id V_ao0
  have hin1 : ¬ ((3 : Int32) < 0 ∨ cl1.slots.size ≤ ((3 : Int32)).toNatClampNeg) := inb_of Sz1 ⟨by decide, by decide⟩
  refine own_go (x' := s₁.setTop (mkF m 29 #[.val (.ref ao0), .val (.ref ao1), .val (.int (3 : Int32)), .val (.int (2 : Int32)), .val (.int p4)] [(.int d3)])) (X0.iaload hx (j := (3 : Int32)) (v := (.int d3)) (by rw [e0]; exact Ar1.1) (State.isArrayOf_alike hZ.alike Ar1.2.1) Ar1.2.2 hin1 (Hh1.at hin1 rfl) (g := (mkF m 28 #[.val (.ref ao0), .val (.ref ao1), .val (.int (3 : Int32)), .val (.int (2 : Int32)), .val (.int p4)] [(.int (3 : Int32)), (.ref ao0)])) rfl rfl (hb hby d4_28)) ?_
  refine own_go (x' := s₁.setTop (mkF m 31 #[.val (.ref ao0), .val (.ref ao1), .val (.int (3 : Int32)), .val (.int (2 : Int32)), .val (.int p4)] [(.int p4), (.int d3)])) (fun _ k => XS.iload X0.here hx rfl (hb hby d4_29) rfl k) ?_
  by_cases hc31 : d3 = p4
  · refine own_go (x' := s₁.setTop (mkF m 39 #[.val (.ref ao0), .val (.ref ao1), .val (.int (3 : Int32)), .val (.int (2 : Int32)), .val (.int p4)] [(.int (1 : Int32))])) (fun _ k => XS.icmpNo X0.here hx rfl (hb hby d4_31) rfl (teq hc31).2 (XS.iconst X0.here hx rfl (hb hby d4_34) (XS.goto X0.here hx rfl (pc0 := 35) (pc' := 39) rfl (hb hby d4_35) (by decide) (by decide) k))) ?_
    refine own_retN X0 hx hlk (t := .boolean) hret (by simp) (hb hby d4_39) (w := (1 : Int32)) rfl ?_ (by decide) (by decide)
    rw [e0]
    exact ⟨by simp only [own_dok_3_2, if_pos hc31], Nf, rfl⟩
  · refine own_go (x' := s₁.setTop (mkF m 39 #[.val (.ref ao0), .val (.ref ao1), .val (.int (3 : Int32)), .val (.int (2 : Int32)), .val (.int p4)] [(.int (0 : Int32))])) (fun _ k => XS.icmpYes X0.here hx rfl (pc0 := 31) (pc' := 38) rfl (hb hby d4_31) rfl (feq hc31).2 (by decide) (by decide) (XS.iconst X0.here hx rfl (hb hby d4_38) k)) ?_
    refine own_retN X0 hx hlk (t := .boolean) hret (by simp) (hb hby d4_39) (w := (0 : Int32)) rfl ?_ (by decide) (by decide)
    rw [e0]
    exact ⟨by simp only [own_dok_3_2, if_neg hc31], Nf, rfl⟩
def own_val_3 (d0 d1 d2 d3 r0 r1 r2 r3 : Int32) : Int64 := (((((d0.toInt64) * (r1.toInt64)) + (d1.toInt64)) * (r2.toInt64)) + (d2.toInt64))
theorem d1_33 : decode method_2_code 33 = .ok (.lload_n 3, 1) := by decide +kernel
theorem d1_34 : decode method_2_code 34 = .ok (.aload_n 1, 1) := by decide +kernel
theorem d1_35 : decode method_2_code 35 = .ok (.iconst 2, 1) := by decide +kernel
theorem d1_36 : decode method_2_code 36 = .ok (.iaload, 1) := by decide +kernel
theorem d1_37 : decode method_2_code 37 = .ok (.i2l, 1) := by decide +kernel
theorem d1_38 : decode method_2_code 38 = .ok (.lmul, 1) := by decide +kernel
theorem d1_39 : decode method_2_code 39 = .ok (.aload_n 0, 1) := by decide +kernel
theorem d1_40 : decode method_2_code 40 = .ok (.iconst 2, 1) := by decide +kernel
theorem d1_41 : decode method_2_code 41 = .ok (.iaload, 1) := by decide +kernel
theorem d1_42 : decode method_2_code 42 = .ok (.i2l, 1) := by decide +kernel
theorem d1_43 : decode method_2_code 43 = .ok (.ladd, 1) := by decide +kernel
theorem d1_44 : decode method_2_code 44 = .ok (.lstore_n 3, 1) := by decide +kernel
def Q_rm1_3 (Z : State) (ao0 ao1 : Addr) (kd kr : ClassId) (d0 d1 d2 d3 r0 r1 r2 r3 : Int32) (h0 : Heap) (n0 : Nat) (v : Option Value) (h : Heap) (L : List Loc) : Prop := v = some (.long (own_val_3 d0 d1 d2 d3 r0 r1 r2 r3)) ∧ Fr n0 L ∧ h = h0
theorem pn_rm1_3 : plainName "com/example/stratgen/stratgen/model/StateSpaceAdvancePinLaw" = true := by first | (simp [plainName, overriddenIn]; done) | decide +kernel
theorem ef_rm1_3 (m : MethodId) (x0 : Addr) (x1 : Addr) (x2 : Int32) : entryFrame m #[(.ref x0), (.ref x1), (.int x2)] 5 = mkF m 0 #[.val (.ref x0), .val (.ref x1), .val (.int x2), .unset, .unset] [] := by first | (simp [entryFrame, mkF, argsToLocals, Value.category]; done) | rfl
set_option maxRecDepth 65536 in
set_option maxHeartbeats 40000000 in
theorem rm1_3 (l : Launch) (Z : State) (a0 : Array Value) (hw : ∀ d ∈ tables_1, d.before a0 Z = true) (ws : List Jvm.Cond) (ao0 ao1 : Addr) (kd kr : ClassId) (d0 d1 d2 d3 r0 r1 r2 r3 : Int32) (h0 : Heap) (n0 : Nat) (Z0 : n0 ≤ h0.size) (V_ao0 : Arv Z h0 ao0 kd .int (4 : Int32) [(.int d0), (.int d1), (.int d2), (.int d3)] (.int (0 : Int32))) (V_ao1 : Arv Z h0 ao1 kr .int (4 : Int32) [(.int r0), (.int r1), (.int r2), (.int r3)] (.int (0 : Int32))) :
    MetFree l (⟨"com/example/stratgen/stratgen/model/StateSpaceAdvancePinLaw", "value", "([I[II)J"⟩ : MethodName) (head1 (Jvm.Cond.code (⟨"com/example/stratgen/stratgen/model/StateSpaceAdvancePinLaw", "value", "([I[II)J"⟩ : MethodName) method_2_code 5 (some .long) :: ws) ({ frames := 0, cells := 0, slots := 0, locals := 0 } : Room)) (fun a U => a = #[(.ref ao0), (.ref ao1), (.int (3 : Int32))] ∧ Z.Warmed39 U.vm ∧ U.heap = h0) (fun _ _ _ _ _ => True) (fun _ U o U' => ∃ v L, o = .returned v ∧ (Q_rm1_3 Z ao0 ao1 kd kr d0 d1 d2 d3 r0 r1 r2 r3 h0 n0) v U'.heap L ∧ FrameEnd U o U' L ({ frames := 0, cells := 0, slots := 0, locals := 0 } : Room).cells ({ frames := 0, cells := 0, slots := 0, locals := 0 } : Room).slots) := by
  refine MetFree.of_bodySF (plainFor_of_name pn_rm1_3) hisR ?_
  intro p e s m args below meth c s₁ Bd hml0 hP hK
  obtain ⟨rfl, hZ, hh⟩ := hP
  have hx := Bd.exec
  have hby := Bd.bytes
  have hlk := BodyLoose.notSynchronized Bd
  have hret := Bd.returns
  have hml : c.maxLocals = 5 := hml0
  have hown : s.vm.findClass "com/example/stratgen/stratgen/model/StateSpaceAdvancePinLaw" = some m.cls := findClass_of_methodNamed Bd.named
  have hnm := (name_of_methodNamed Bd.named Bd.method).1
  have X0 : Stand p l e ({ frames := 0, cells := 0, slots := 0, locals := 0 } : Room) s m #[(.ref ao0), (.ref ao1), (.int (3 : Int32))] below meth c s₁ [] 0 0 := Stand.of_body Bd
  have e0 : s₁.heap = h0 := by rw [← hh, Bd.state]; rfl
  have Nf := Fr.nil n0
  have Zs := Z0
  have Kp : Keep h0 h0 [] := Keep.refl _ _
  show own_End p e below s (Q_rm1_3 Z ao0 ao1 kd kr d0 d1 d2 d3 r0 r1 r2 r3 h0 n0) ({ frames := 0, cells := 0, slots := 0, locals := 0 } : Room).cells ({ frames := 0, cells := 0, slots := 0, locals := 0 } : Room).slots (s₁.setTop (entryFrame m #[(.ref ao0), (.ref ao1), (.int (3 : Int32))] 5))
  refine own_go (x' := s₁.setTop (mkF m 0 #[.val (.ref ao0), .val (.ref ao1), .val (.int (3 : Int32)), .unset, .unset] [])) (fun t k => castTop (ef_rm1_3 m ao0 ao1 (3 : Int32)) k) ?_
  refine own_go (x' := s₁.setTop (mkF m 8 #[.val (.ref ao0), .val (.ref ao1), .val (.int (3 : Int32)), .val (.long (0 : Int64)), .second] [(.int (0 : Int32)), (.ref ao0)])) (fun _ k => XS.lconst X0.here hx rfl (hb hby d1_0) (XS.lstoreN X0.here hx rfl (hb hby d1_1) rfl (l' := #[.val (.ref ao0), .val (.ref ao1), .val (.int (3 : Int32)), .val (.long (0 : Int64)), .second]) rfl (XS.iloadN X0.here hx rfl (hb hby d1_2) rfl (XS.ifNo X0.here hx rfl (hb hby d1_3) rfl ((if0 _ _).trans (tlt (by decide +kernel : ((0 : Int32) < (3 : Int32)))).2.2.2) (XS.aloadN X0.here hx rfl (hb hby d1_6) rfl rfl (XS.iconst X0.here hx rfl (hb hby d1_7) k)))))) ?_
  obtain ⟨cl1, Ar1, q1, Sz1, Nn1, Hh1, Gg1⟩ := id V_ao0
  have hin1 : ¬ ((0 : Int32) < 0 ∨ cl1.slots.size ≤ ((0 : Int32)).toNatClampNeg) := inb_of Sz1 ⟨by decide, by decide⟩
  refine own_go (x' := s₁.setTop (mkF m 9 #[.val (.ref ao0), .val (.ref ao1), .val (.int (3 : Int32)), .val (.long (0 : Int64)), .second] [(.int d0)])) (X0.iaload hx (j := (0 : Int32)) (v := (.int d0)) (by rw [e0]; exact Ar1.1) (State.isArrayOf_alike hZ.alike Ar1.2.1) Ar1.2.2 hin1 (Hh1.at hin1 rfl) (g := (mkF m 8 #[.val (.ref ao0), .val (.ref ao1), .val (.int (3 : Int32)), .val (.long (0 : Int64)), .second] [(.int (0 : Int32)), (.ref ao0)])) rfl rfl (hb hby d1_8)) ?_
  refine own_go (x' := s₁.setTop (mkF m 17 #[.val (.ref ao0), .val (.ref ao1), .val (.int (3 : Int32)), .val (.long (d0.toInt64)), .second] [(.long (d0.toInt64))])) (fun _ k => XS.i2l X0.here hx rfl (hb hby d1_9) rfl (XS.lstoreN X0.here hx rfl (hb hby d1_10) rfl (l' := #[.val (.ref ao0), .val (.ref ao1), .val (.int (3 : Int32)), .val (.long (d0.toInt64)), .second]) rfl (XS.iloadN X0.here hx rfl (hb hby d1_11) rfl (XS.iconst X0.here hx rfl (hb hby d1_12) (XS.icmpNo X0.here hx rfl (hb hby d1_13) rfl (tlt (by decide +kernel : ((1 : Int32) < (3 : Int32)))).2.2.2 (XS.lloadN X0.here hx rfl (hb hby d1_16) rfl k)))))) ?_
  refine own_go (x' := s₁.setTop (mkF m 19 #[.val (.ref ao0), .val (.ref ao1), .val (.int (3 : Int32)), .val (.long (d0.toInt64)), .second] [(.int (1 : Int32)), (.ref ao1), (.long (d0.toInt64))])) (fun _ k => XS.aloadN X0.here hx rfl (hb hby d1_17) rfl rfl (XS.iconst X0.here hx rfl (hb hby d1_18) k)) ?_
  obtain ⟨cl2, Ar2, q2, Sz2, Nn2, Hh2, Gg2⟩ := id V_ao1
  have hin2 : ¬ ((1 : Int32) < 0 ∨ cl2.slots.size ≤ ((1 : Int32)).toNatClampNeg) := inb_of Sz2 ⟨by decide, by decide⟩
  refine own_go (x' := s₁.setTop (mkF m 20 #[.val (.ref ao0), .val (.ref ao1), .val (.int (3 : Int32)), .val (.long (d0.toInt64)), .second] [(.int r1), (.long (d0.toInt64))])) (X0.iaload hx (j := (1 : Int32)) (v := (.int r1)) (by rw [e0]; exact Ar2.1) (State.isArrayOf_alike hZ.alike Ar2.2.1) Ar2.2.2 hin2 (Hh2.at hin2 rfl) (g := (mkF m 19 #[.val (.ref ao0), .val (.ref ao1), .val (.int (3 : Int32)), .val (.long (d0.toInt64)), .second] [(.int (1 : Int32)), (.ref ao1), (.long (d0.toInt64))])) rfl rfl (hb hby d1_19)) ?_
  refine own_go (x' := s₁.setTop (mkF m 24 #[.val (.ref ao0), .val (.ref ao1), .val (.int (3 : Int32)), .val (.long (d0.toInt64)), .second] [(.int (1 : Int32)), (.ref ao0), (.long ((d0.toInt64) * (r1.toInt64)))])) (fun _ k => XS.i2l X0.here hx rfl (hb hby d1_20) rfl (XS.lmul X0.here hx rfl (hb hby d1_21) rfl (XS.aloadN X0.here hx rfl (hb hby d1_22) rfl rfl (XS.iconst X0.here hx rfl (hb hby d1_23) k)))) ?_
  obtain ⟨cl3, Ar3, q3, Sz3, Nn3, Hh3, Gg3⟩ := id V_ao0
  have hin3 : ¬ ((1 : Int32) < 0 ∨ cl3.slots.size ≤ ((1 : Int32)).toNatClampNeg) := inb_of Sz3 ⟨by decide, by decide⟩
  refine own_go (x' := s₁.setTop (mkF m 25 #[.val (.ref ao0), .val (.ref ao1), .val (.int (3 : Int32)), .val (.long (d0.toInt64)), .second] [(.int d1), (.long ((d0.toInt64) * (r1.toInt64)))])) (X0.iaload hx (j := (1 : Int32)) (v := (.int d1)) (by rw [e0]; exact Ar3.1) (State.isArrayOf_alike hZ.alike Ar3.2.1) Ar3.2.2 hin3 (Hh3.at hin3 rfl) (g := (mkF m 24 #[.val (.ref ao0), .val (.ref ao1), .val (.int (3 : Int32)), .val (.long (d0.toInt64)), .second] [(.int (1 : Int32)), (.ref ao0), (.long ((d0.toInt64) * (r1.toInt64)))])) rfl rfl (hb hby d1_24)) ?_
  refine own_go (x' := s₁.setTop (mkF m 33 #[.val (.ref ao0), .val (.ref ao1), .val (.int (3 : Int32)), .val (.long (((d0.toInt64) * (r1.toInt64)) + (d1.toInt64))), .second] [])) (fun _ k => XS.i2l X0.here hx rfl (hb hby d1_25) rfl (XS.ladd X0.here hx rfl (hb hby d1_26) rfl (XS.lstoreN X0.here hx rfl (hb hby d1_27) rfl (l' := #[.val (.ref ao0), .val (.ref ao1), .val (.int (3 : Int32)), .val (.long (((d0.toInt64) * (r1.toInt64)) + (d1.toInt64))), .second]) rfl (XS.iloadN X0.here hx rfl (hb hby d1_28) rfl (XS.iconst X0.here hx rfl (hb hby d1_29) (XS.icmpNo X0.here hx rfl (hb hby d1_30) rfl (tlt (by decide +kernel : ((2 : Int32) < (3 : Int32)))).2.2.2 k)))))) ?_
  refine own_go (x' := s₁.setTop (mkF m 36 #[.val (.ref ao0), .val (.ref ao1), .val (.int (3 : Int32)), .val (.long (((d0.toInt64) * (r1.toInt64)) + (d1.toInt64))), .second] [(.int (2 : Int32)), (.ref ao1), (.long (((d0.toInt64) * (r1.toInt64)) + (d1.toInt64)))])) (fun _ k => XS.lloadN X0.here hx rfl (hb hby d1_33) rfl (XS.aloadN X0.here hx rfl (hb hby d1_34) rfl rfl (XS.iconst X0.here hx rfl (hb hby d1_35) k))) ?_
  obtain ⟨cl4, Ar4, q4, Sz4, Nn4, Hh4, Gg4⟩ := id V_ao1
  have hin4 : ¬ ((2 : Int32) < 0 ∨ cl4.slots.size ≤ ((2 : Int32)).toNatClampNeg) := inb_of Sz4 ⟨by decide, by decide⟩
  refine own_go (x' := s₁.setTop (mkF m 37 #[.val (.ref ao0), .val (.ref ao1), .val (.int (3 : Int32)), .val (.long (((d0.toInt64) * (r1.toInt64)) + (d1.toInt64))), .second] [(.int r2), (.long (((d0.toInt64) * (r1.toInt64)) + (d1.toInt64)))])) (X0.iaload hx (j := (2 : Int32)) (v := (.int r2)) (by rw [e0]; exact Ar4.1) (State.isArrayOf_alike hZ.alike Ar4.2.1) Ar4.2.2 hin4 (Hh4.at hin4 rfl) (g := (mkF m 36 #[.val (.ref ao0), .val (.ref ao1), .val (.int (3 : Int32)), .val (.long (((d0.toInt64) * (r1.toInt64)) + (d1.toInt64))), .second] [(.int (2 : Int32)), (.ref ao1), (.long (((d0.toInt64) * (r1.toInt64)) + (d1.toInt64)))])) rfl rfl (hb hby d1_36)) ?_
  refine own_go (x' := s₁.setTop (mkF m 41 #[.val (.ref ao0), .val (.ref ao1), .val (.int (3 : Int32)), .val (.long (((d0.toInt64) * (r1.toInt64)) + (d1.toInt64))), .second] [(.int (2 : Int32)), (.ref ao0), (.long ((((d0.toInt64) * (r1.toInt64)) + (d1.toInt64)) * (r2.toInt64)))])) (fun _ k => XS.i2l X0.here hx rfl (hb hby d1_37) rfl (XS.lmul X0.here hx rfl (hb hby d1_38) rfl (XS.aloadN X0.here hx rfl (hb hby d1_39) rfl rfl (XS.iconst X0.here hx rfl (hb hby d1_40) k)))) ?_
  obtain ⟨cl5, Ar5, q5, Sz5, Nn5, Hh5, Gg5⟩ := id V_ao0
  have hin5 : ¬ ((2 : Int32) < 0 ∨ cl5.slots.size ≤ ((2 : Int32)).toNatClampNeg) := inb_of Sz5 ⟨by decide, by decide⟩
  refine own_go (x' := s₁.setTop (mkF m 42 #[.val (.ref ao0), .val (.ref ao1), .val (.int (3 : Int32)), .val (.long (((d0.toInt64) * (r1.toInt64)) + (d1.toInt64))), .second] [(.int d2), (.long ((((d0.toInt64) * (r1.toInt64)) + (d1.toInt64)) * (r2.toInt64)))])) (X0.iaload hx (j := (2 : Int32)) (v := (.int d2)) (by rw [e0]; exact Ar5.1) (State.isArrayOf_alike hZ.alike Ar5.2.1) Ar5.2.2 hin5 (Hh5.at hin5 rfl) (g := (mkF m 41 #[.val (.ref ao0), .val (.ref ao1), .val (.int (3 : Int32)), .val (.long (((d0.toInt64) * (r1.toInt64)) + (d1.toInt64))), .second] [(.int (2 : Int32)), (.ref ao0), (.long ((((d0.toInt64) * (r1.toInt64)) + (d1.toInt64)) * (r2.toInt64)))])) rfl rfl (hb hby d1_41)) ?_
  refine own_go (x' := s₁.setTop (mkF m 62 #[.val (.ref ao0), .val (.ref ao1), .val (.int (3 : Int32)), .val (.long (((((d0.toInt64) * (r1.toInt64)) + (d1.toInt64)) * (r2.toInt64)) + (d2.toInt64))), .second] [])) (fun _ k => XS.i2l X0.here hx rfl (hb hby d1_42) rfl (XS.ladd X0.here hx rfl (hb hby d1_43) rfl (XS.lstoreN X0.here hx rfl (hb hby d1_44) rfl (l' := #[.val (.ref ao0), .val (.ref ao1), .val (.int (3 : Int32)), .val (.long (((((d0.toInt64) * (r1.toInt64)) + (d1.toInt64)) * (r2.toInt64)) + (d2.toInt64))), .second]) rfl (XS.iloadN X0.here hx rfl (hb hby d1_45) rfl (XS.iconst X0.here hx rfl (hb hby d1_46) (XS.icmpYes X0.here hx rfl (pc0 := 47) (pc' := 62) rfl (hb hby d1_47) rfl (flt (Int32.lt_irrefl)).2.2.2 (by decide) (by decide) k)))))) ?_
  refine own_go (x' := s₁.setTop (mkF m 63 #[.val (.ref ao0), .val (.ref ao1), .val (.int (3 : Int32)), .val (.long (((((d0.toInt64) * (r1.toInt64)) + (d1.toInt64)) * (r2.toInt64)) + (d2.toInt64))), .second] [(.long (((((d0.toInt64) * (r1.toInt64)) + (d1.toInt64)) * (r2.toInt64)) + (d2.toInt64)))])) (fun _ k => XS.lloadN X0.here hx rfl (hb hby d1_62) rfl k) ?_
  refine own_retJ X0 hx hlk hret (hb hby d1_63) ?_ (by decide) (by decide)
  rw [e0]
  exact ⟨rfl, Nf, rfl⟩
def own_tot_3 (r0 r1 r2 r3 : Int32) : Int64 := ((((1 : Int64) * (r0.toInt64)) * (r1.toInt64)) * (r2.toInt64))
theorem d2_30 : decode method_3_code 30 = .ok (.lload_n 2, 1) := by decide +kernel
theorem d2_31 : decode method_3_code 31 = .ok (.aload_n 0, 1) := by decide +kernel
theorem d2_32 : decode method_3_code 32 = .ok (.iconst 2, 1) := by decide +kernel
theorem d2_33 : decode method_3_code 33 = .ok (.iaload, 1) := by decide +kernel
theorem d2_34 : decode method_3_code 34 = .ok (.i2l, 1) := by decide +kernel
theorem d2_35 : decode method_3_code 35 = .ok (.lmul, 1) := by decide +kernel
theorem d2_36 : decode method_3_code 36 = .ok (.lstore_n 2, 1) := by decide +kernel
def Q_rm2_3 (Z : State) (ao0 : Addr) (kr : ClassId) (r0 r1 r2 r3 : Int32) (h0 : Heap) (n0 : Nat) (v : Option Value) (h : Heap) (L : List Loc) : Prop := v = some (.long (own_tot_3 r0 r1 r2 r3)) ∧ Fr n0 L ∧ h = h0
theorem pn_rm2_3 : plainName "com/example/stratgen/stratgen/model/StateSpaceAdvancePinLaw" = true := by first | (simp [plainName, overriddenIn]; done) | decide +kernel
theorem ef_rm2_3 (m : MethodId) (x0 : Addr) (x1 : Int32) : entryFrame m #[(.ref x0), (.int x1)] 4 = mkF m 0 #[.val (.ref x0), .val (.int x1), .unset, .unset] [] := by first | (simp [entryFrame, mkF, argsToLocals, Value.category]; done) | rfl
set_option maxRecDepth 65536 in
set_option maxHeartbeats 40000000 in
theorem rm2_3 (l : Launch) (Z : State) (a0 : Array Value) (hw : ∀ d ∈ tables_1, d.before a0 Z = true) (ws : List Jvm.Cond) (ao0 : Addr) (kr : ClassId) (r0 r1 r2 r3 : Int32) (h0 : Heap) (n0 : Nat) (Z0 : n0 ≤ h0.size) (V_ao0 : Arv Z h0 ao0 kr .int (4 : Int32) [(.int r0), (.int r1), (.int r2), (.int r3)] (.int (0 : Int32))) :
    MetFree l (⟨"com/example/stratgen/stratgen/model/StateSpaceAdvancePinLaw", "total", "([II)J"⟩ : MethodName) (head1 (Jvm.Cond.code (⟨"com/example/stratgen/stratgen/model/StateSpaceAdvancePinLaw", "total", "([II)J"⟩ : MethodName) method_3_code 4 (some .long) :: ws) ({ frames := 0, cells := 0, slots := 0, locals := 0 } : Room)) (fun a U => a = #[(.ref ao0), (.int (3 : Int32))] ∧ Z.Warmed39 U.vm ∧ U.heap = h0) (fun _ _ _ _ _ => True) (fun _ U o U' => ∃ v L, o = .returned v ∧ (Q_rm2_3 Z ao0 kr r0 r1 r2 r3 h0 n0) v U'.heap L ∧ FrameEnd U o U' L ({ frames := 0, cells := 0, slots := 0, locals := 0 } : Room).cells ({ frames := 0, cells := 0, slots := 0, locals := 0 } : Room).slots) := by
  refine MetFree.of_bodySF (plainFor_of_name pn_rm2_3) hisR ?_
  intro p e s m args below meth c s₁ Bd hml0 hP hK
  obtain ⟨rfl, hZ, hh⟩ := hP
  have hx := Bd.exec
  have hby := Bd.bytes
  have hlk := BodyLoose.notSynchronized Bd
  have hret := Bd.returns
  have hml : c.maxLocals = 4 := hml0
  have hown : s.vm.findClass "com/example/stratgen/stratgen/model/StateSpaceAdvancePinLaw" = some m.cls := findClass_of_methodNamed Bd.named
  have hnm := (name_of_methodNamed Bd.named Bd.method).1
  have X0 : Stand p l e ({ frames := 0, cells := 0, slots := 0, locals := 0 } : Room) s m #[(.ref ao0), (.int (3 : Int32))] below meth c s₁ [] 0 0 := Stand.of_body Bd
  have e0 : s₁.heap = h0 := by rw [← hh, Bd.state]; rfl
  have Nf := Fr.nil n0
  have Zs := Z0
  have Kp : Keep h0 h0 [] := Keep.refl _ _
  show own_End p e below s (Q_rm2_3 Z ao0 kr r0 r1 r2 r3 h0 n0) ({ frames := 0, cells := 0, slots := 0, locals := 0 } : Room).cells ({ frames := 0, cells := 0, slots := 0, locals := 0 } : Room).slots (s₁.setTop (entryFrame m #[(.ref ao0), (.int (3 : Int32))] 4))
  refine own_go (x' := s₁.setTop (mkF m 0 #[.val (.ref ao0), .val (.int (3 : Int32)), .unset, .unset] [])) (fun t k => castTop (ef_rm2_3 m ao0 (3 : Int32)) k) ?_
  refine own_go (x' := s₁.setTop (mkF m 8 #[.val (.ref ao0), .val (.int (3 : Int32)), .val (.long (1 : Int64)), .second] [(.ref ao0), (.long (1 : Int64))])) (fun _ k => XS.lconst X0.here hx rfl (hb hby d2_0) (XS.lstoreN X0.here hx rfl (hb hby d2_1) rfl (l' := #[.val (.ref ao0), .val (.int (3 : Int32)), .val (.long (1 : Int64)), .second]) rfl (XS.iloadN X0.here hx rfl (hb hby d2_2) rfl (XS.ifNo X0.here hx rfl (hb hby d2_3) rfl ((if0 _ _).trans (tlt (by decide +kernel : ((0 : Int32) < (3 : Int32)))).2.2.2) (XS.lloadN X0.here hx rfl (hb hby d2_6) rfl (XS.aloadN X0.here hx rfl (hb hby d2_7) rfl rfl k)))))) ?_
  refine own_go (x' := s₁.setTop (mkF m 9 #[.val (.ref ao0), .val (.int (3 : Int32)), .val (.long (1 : Int64)), .second] [(.int (0 : Int32)), (.ref ao0), (.long (1 : Int64))])) (fun _ k => XS.iconst X0.here hx rfl (hb hby d2_8) k) ?_
  obtain ⟨cl1, Ar1, q1, Sz1, Nn1, Hh1, Gg1⟩ := id V_ao0
  have hin1 : ¬ ((0 : Int32) < 0 ∨ cl1.slots.size ≤ ((0 : Int32)).toNatClampNeg) := inb_of Sz1 ⟨by decide, by decide⟩
  refine own_go (x' := s₁.setTop (mkF m 10 #[.val (.ref ao0), .val (.int (3 : Int32)), .val (.long (1 : Int64)), .second] [(.int r0), (.long (1 : Int64))])) (X0.iaload hx (j := (0 : Int32)) (v := (.int r0)) (by rw [e0]; exact Ar1.1) (State.isArrayOf_alike hZ.alike Ar1.2.1) Ar1.2.2 hin1 (Hh1.at hin1 rfl) (g := (mkF m 9 #[.val (.ref ao0), .val (.int (3 : Int32)), .val (.long (1 : Int64)), .second] [(.int (0 : Int32)), (.ref ao0), (.long (1 : Int64))])) rfl rfl (hb hby d2_9)) ?_
  refine own_go (x' := s₁.setTop (mkF m 18 #[.val (.ref ao0), .val (.int (3 : Int32)), .val (.long ((1 : Int64) * (r0.toInt64))), .second] [])) (fun _ k => XS.i2l X0.here hx rfl (hb hby d2_10) rfl (XS.lmul X0.here hx rfl (hb hby d2_11) rfl (XS.lstoreN X0.here hx rfl (hb hby d2_12) rfl (l' := #[.val (.ref ao0), .val (.int (3 : Int32)), .val (.long ((1 : Int64) * (r0.toInt64))), .second]) rfl (XS.iloadN X0.here hx rfl (hb hby d2_13) rfl (XS.iconst X0.here hx rfl (hb hby d2_14) (XS.icmpNo X0.here hx rfl (hb hby d2_15) rfl (tlt (by decide +kernel : ((1 : Int32) < (3 : Int32)))).2.2.2 k)))))) ?_
  refine own_go (x' := s₁.setTop (mkF m 21 #[.val (.ref ao0), .val (.int (3 : Int32)), .val (.long ((1 : Int64) * (r0.toInt64))), .second] [(.int (1 : Int32)), (.ref ao0), (.long ((1 : Int64) * (r0.toInt64)))])) (fun _ k => XS.lloadN X0.here hx rfl (hb hby d2_18) rfl (XS.aloadN X0.here hx rfl (hb hby d2_19) rfl rfl (XS.iconst X0.here hx rfl (hb hby d2_20) k))) ?_
  obtain ⟨cl2, Ar2, q2, Sz2, Nn2, Hh2, Gg2⟩ := id V_ao0
  have hin2 : ¬ ((1 : Int32) < 0 ∨ cl2.slots.size ≤ ((1 : Int32)).toNatClampNeg) := inb_of Sz2 ⟨by decide, by decide⟩
  refine own_go (x' := s₁.setTop (mkF m 22 #[.val (.ref ao0), .val (.int (3 : Int32)), .val (.long ((1 : Int64) * (r0.toInt64))), .second] [(.int r1), (.long ((1 : Int64) * (r0.toInt64)))])) (X0.iaload hx (j := (1 : Int32)) (v := (.int r1)) (by rw [e0]; exact Ar2.1) (State.isArrayOf_alike hZ.alike Ar2.2.1) Ar2.2.2 hin2 (Hh2.at hin2 rfl) (g := (mkF m 21 #[.val (.ref ao0), .val (.int (3 : Int32)), .val (.long ((1 : Int64) * (r0.toInt64))), .second] [(.int (1 : Int32)), (.ref ao0), (.long ((1 : Int64) * (r0.toInt64)))])) rfl rfl (hb hby d2_21)) ?_
  refine own_go (x' := s₁.setTop (mkF m 30 #[.val (.ref ao0), .val (.int (3 : Int32)), .val (.long (((1 : Int64) * (r0.toInt64)) * (r1.toInt64))), .second] [])) (fun _ k => XS.i2l X0.here hx rfl (hb hby d2_22) rfl (XS.lmul X0.here hx rfl (hb hby d2_23) rfl (XS.lstoreN X0.here hx rfl (hb hby d2_24) rfl (l' := #[.val (.ref ao0), .val (.int (3 : Int32)), .val (.long (((1 : Int64) * (r0.toInt64)) * (r1.toInt64))), .second]) rfl (XS.iloadN X0.here hx rfl (hb hby d2_25) rfl (XS.iconst X0.here hx rfl (hb hby d2_26) (XS.icmpNo X0.here hx rfl (hb hby d2_27) rfl (tlt (by decide +kernel : ((2 : Int32) < (3 : Int32)))).2.2.2 k)))))) ?_
  refine own_go (x' := s₁.setTop (mkF m 33 #[.val (.ref ao0), .val (.int (3 : Int32)), .val (.long (((1 : Int64) * (r0.toInt64)) * (r1.toInt64))), .second] [(.int (2 : Int32)), (.ref ao0), (.long (((1 : Int64) * (r0.toInt64)) * (r1.toInt64)))])) (fun _ k => XS.lloadN X0.here hx rfl (hb hby d2_30) rfl (XS.aloadN X0.here hx rfl (hb hby d2_31) rfl rfl (XS.iconst X0.here hx rfl (hb hby d2_32) k))) ?_
  obtain ⟨cl3, Ar3, q3, Sz3, Nn3, Hh3, Gg3⟩ := id V_ao0
  have hin3 : ¬ ((2 : Int32) < 0 ∨ cl3.slots.size ≤ ((2 : Int32)).toNatClampNeg) := inb_of Sz3 ⟨by decide, by decide⟩
  refine own_go (x' := s₁.setTop (mkF m 34 #[.val (.ref ao0), .val (.int (3 : Int32)), .val (.long (((1 : Int64) * (r0.toInt64)) * (r1.toInt64))), .second] [(.int r2), (.long (((1 : Int64) * (r0.toInt64)) * (r1.toInt64)))])) (X0.iaload hx (j := (2 : Int32)) (v := (.int r2)) (by rw [e0]; exact Ar3.1) (State.isArrayOf_alike hZ.alike Ar3.2.1) Ar3.2.2 hin3 (Hh3.at hin3 rfl) (g := (mkF m 33 #[.val (.ref ao0), .val (.int (3 : Int32)), .val (.long (((1 : Int64) * (r0.toInt64)) * (r1.toInt64))), .second] [(.int (2 : Int32)), (.ref ao0), (.long (((1 : Int64) * (r0.toInt64)) * (r1.toInt64)))])) rfl rfl (hb hby d2_33)) ?_
  refine own_go (x' := s₁.setTop (mkF m 49 #[.val (.ref ao0), .val (.int (3 : Int32)), .val (.long ((((1 : Int64) * (r0.toInt64)) * (r1.toInt64)) * (r2.toInt64))), .second] [])) (fun _ k => XS.i2l X0.here hx rfl (hb hby d2_34) rfl (XS.lmul X0.here hx rfl (hb hby d2_35) rfl (XS.lstoreN X0.here hx rfl (hb hby d2_36) rfl (l' := #[.val (.ref ao0), .val (.int (3 : Int32)), .val (.long ((((1 : Int64) * (r0.toInt64)) * (r1.toInt64)) * (r2.toInt64))), .second]) rfl (XS.iloadN X0.here hx rfl (hb hby d2_37) rfl (XS.iconst X0.here hx rfl (hb hby d2_38) (XS.icmpYes X0.here hx rfl (pc0 := 39) (pc' := 49) rfl (hb hby d2_39) rfl (flt (Int32.lt_irrefl)).2.2.2 (by decide) (by decide) k)))))) ?_
  refine own_go (x' := s₁.setTop (mkF m 50 #[.val (.ref ao0), .val (.int (3 : Int32)), .val (.long ((((1 : Int64) * (r0.toInt64)) * (r1.toInt64)) * (r2.toInt64))), .second] [(.long ((((1 : Int64) * (r0.toInt64)) * (r1.toInt64)) * (r2.toInt64)))])) (fun _ k => XS.lloadN X0.here hx rfl (hb hby d2_49) rfl k) ?_
  refine own_retJ X0 hx hlk hret (hb hby d2_50) ?_ (by decide) (by decide)
  rw [e0]
  exact ⟨rfl, Nf, rfl⟩
def own_adv_3_b (d0 d1 d2 d3 r0 r1 r2 r3 : Int32) : Int32 := (if (d2 + (1 : Int32)) < r2 then (1 : Int32) else (if (d1 + (1 : Int32)) < r1 then (1 : Int32) else (if (d0 + (1 : Int32)) < r0 then (1 : Int32) else (0 : Int32))))
def own_adv_3_0 (d0 d1 d2 d3 r0 r1 r2 r3 : Int32) : Int32 := (if (d2 + (1 : Int32)) < r2 then d0 else (if (d1 + (1 : Int32)) < r1 then d0 else (if (d0 + (1 : Int32)) < r0 then (d0 + (1 : Int32)) else (0 : Int32))))
def own_adv_3_1 (d0 d1 d2 d3 r0 r1 r2 r3 : Int32) : Int32 := (if (d2 + (1 : Int32)) < r2 then d1 else (if (d1 + (1 : Int32)) < r1 then (d1 + (1 : Int32)) else (if (d0 + (1 : Int32)) < r0 then (0 : Int32) else (0 : Int32))))
def own_adv_3_2 (d0 d1 d2 d3 r0 r1 r2 r3 : Int32) : Int32 := (if (d2 + (1 : Int32)) < r2 then (d2 + (1 : Int32)) else (if (d1 + (1 : Int32)) < r1 then (0 : Int32) else (if (d0 + (1 : Int32)) < r0 then (0 : Int32) else (0 : Int32))))
def own_adv_3_3 (d0 d1 d2 d3 r0 r1 r2 r3 : Int32) : Int32 := (if (d2 + (1 : Int32)) < r2 then d3 else (if (d1 + (1 : Int32)) < r1 then d3 else (if (d0 + (1 : Int32)) < r0 then d3 else d3)))
def Q_rm3_3 (Z : State) (ao0 ao1 : Addr) (kd kr : ClassId) (d0 d1 d2 d3 r0 r1 r2 r3 : Int32) (h0 : Heap) (n0 : Nat) (v : Option Value) (h : Heap) (L : List Loc) : Prop := v = some (.int (own_adv_3_b d0 d1 d2 d3 r0 r1 r2 r3)) ∧ Fr n0 L ∧ Keep h0 h [ao0] ∧ Arv Z h ao0 kd .int (4 : Int32) [(.int (own_adv_3_0 d0 d1 d2 d3 r0 r1 r2 r3)), (.int (own_adv_3_1 d0 d1 d2 d3 r0 r1 r2 r3)), (.int (own_adv_3_2 d0 d1 d2 d3 r0 r1 r2 r3)), (.int (own_adv_3_3 d0 d1 d2 d3 r0 r1 r2 r3))] (.int (0 : Int32))
theorem pn_rm3_3 : plainName "com/example/stratgen/stratgen/model/StateSpace" = true := by first | (simp [plainName, overriddenIn]; done) | decide +kernel
theorem ef_rm3_3 (m : MethodId) (x0 : Addr) (x1 : Addr) (x2 : Int32) : entryFrame m #[(.ref x0), (.ref x1), (.int x2)] 4 = mkF m 0 #[.val (.ref x0), .val (.ref x1), .val (.int x2), .unset] [] := by first | (simp [entryFrame, mkF, argsToLocals, Value.category]; done) | rfl
set_option maxRecDepth 65536 in
set_option maxHeartbeats 40000000 in
theorem rm3_3 (l : Launch) (Z : State) (a0 : Array Value) (hw : ∀ d ∈ tables_1, d.before a0 Z = true) (ws : List Jvm.Cond) (ao0 ao1 : Addr) (kd kr : ClassId) (d0 d1 d2 d3 r0 r1 r2 r3 : Int32) (h0 : Heap) (n0 : Nat) (Z0 : n0 ≤ h0.size) (V_ao0 : Arv Z h0 ao0 kd .int (4 : Int32) [(.int d0), (.int d1), (.int d2), (.int d3)] (.int (0 : Int32))) (V_ao1 : Arv Z h0 ao1 kr .int (4 : Int32) [(.int r0), (.int r1), (.int r2), (.int r3)] (.int (0 : Int32))) (ne_ao0_ao1 : ao0 ≠ ao1) (g_ao0 : n0 ≤ ao0) :
    MetFree l (⟨"com/example/stratgen/stratgen/model/StateSpace", "advance", "([I[II)Z"⟩ : MethodName) (head1 (Jvm.Cond.code (⟨"com/example/stratgen/stratgen/model/StateSpace", "advance", "([I[II)Z"⟩ : MethodName) prog_90_method_21_code 4 (some .boolean) :: ws) ({ frames := 0, cells := 0, slots := 0, locals := 0 } : Room)) (fun a U => a = #[(.ref ao0), (.ref ao1), (.int (3 : Int32))] ∧ Z.Warmed39 U.vm ∧ U.heap = h0) (fun _ _ _ _ _ => True) (fun _ U o U' => ∃ v L, o = .returned v ∧ (Q_rm3_3 Z ao0 ao1 kd kr d0 d1 d2 d3 r0 r1 r2 r3 h0 n0) v U'.heap L ∧ FrameEnd U o U' L ({ frames := 0, cells := 0, slots := 0, locals := 0 } : Room).cells ({ frames := 0, cells := 0, slots := 0, locals := 0 } : Room).slots) := by
  refine MetFree.of_bodySF (plainFor_of_name pn_rm3_3) hisR ?_
  intro p e s m args below meth c s₁ Bd hml0 hP hK
  obtain ⟨rfl, hZ, hh⟩ := hP
  have hx := Bd.exec
  have hby := Bd.bytes
  have hlk := BodyLoose.notSynchronized Bd
  have hret := Bd.returns
  have hml : c.maxLocals = 4 := hml0
  have hown : s.vm.findClass "com/example/stratgen/stratgen/model/StateSpace" = some m.cls := findClass_of_methodNamed Bd.named
  have hnm := (name_of_methodNamed Bd.named Bd.method).1
  have X0 : Stand p l e ({ frames := 0, cells := 0, slots := 0, locals := 0 } : Room) s m #[(.ref ao0), (.ref ao1), (.int (3 : Int32))] below meth c s₁ [] 0 0 := Stand.of_body Bd
  have e0 : s₁.heap = h0 := by rw [← hh, Bd.state]; rfl
  have Nf := Fr.nil n0
  have Zs := Z0
  have Kp : Keep h0 h0 [ao0] := Keep.refl _ _
  show own_End p e below s (Q_rm3_3 Z ao0 ao1 kd kr d0 d1 d2 d3 r0 r1 r2 r3 h0 n0) ({ frames := 0, cells := 0, slots := 0, locals := 0 } : Room).cells ({ frames := 0, cells := 0, slots := 0, locals := 0 } : Room).slots (s₁.setTop (entryFrame m #[(.ref ao0), (.ref ao1), (.int (3 : Int32))] 4))
  refine own_go (x' := s₁.setTop (mkF m 0 #[.val (.ref ao0), .val (.ref ao1), .val (.int (3 : Int32)), .unset] [])) (fun t k => castTop (ef_rm3_3 m ao0 ao1 (3 : Int32)) k) ?_
  refine own_go (x' := s₁.setTop (mkF m 4 #[.val (.ref ao0), .val (.ref ao1), .val (.int (3 : Int32)), .val (.int ((3 : Int32) - (1 : Int32)))] [])) (fun _ k => XS.iloadN X0.here hx rfl (hb hby d3_0) rfl (XS.iconst X0.here hx rfl (hb hby d3_1) (XS.isub X0.here hx rfl (hb hby d3_2) rfl (XS.istoreN X0.here hx rfl (hb hby d3_3) rfl (l' := #[.val (.ref ao0), .val (.ref ao1), .val (.int (3 : Int32)), .val (.int ((3 : Int32) - (1 : Int32)))]) rfl k)))) ?_
  rw [show ((3 : Int32) - (1 : Int32)) = (2 : Int32) from by decide +kernel]
  refine own_go (x' := s₁.setTop (mkF m 11 #[.val (.ref ao0), .val (.ref ao1), .val (.int (3 : Int32)), .val (.int (2 : Int32))] [(.int (2 : Int32)), (.ref ao0), (.int (2 : Int32)), (.ref ao0)])) (fun _ k => XS.iloadN X0.here hx rfl (hb hby d3_4) rfl (XS.ifNo X0.here hx rfl (hb hby d3_5) rfl ((if0 _ _).trans (flt (by decide +kernel : ¬ ((2 : Int32) < (0 : Int32)))).1) (XS.aloadN X0.here hx rfl (hb hby d3_8) rfl rfl (XS.iloadN X0.here hx rfl (hb hby d3_9) rfl (Jvm.Free.XT.dup2 X0.here hx rfl (hb hby d3_10) rfl rfl rfl k))))) ?_
  obtain ⟨cl1, Ar1, q1, Sz1, Nn1, Hh1, Gg1⟩ := id V_ao0
  have hin1 : ¬ ((2 : Int32) < 0 ∨ cl1.slots.size ≤ ((2 : Int32)).toNatClampNeg) := inb_of Sz1 ⟨by decide, by decide⟩
  refine own_go (x' := s₁.setTop (mkF m 12 #[.val (.ref ao0), .val (.ref ao1), .val (.int (3 : Int32)), .val (.int (2 : Int32))] [(.int d2), (.int (2 : Int32)), (.ref ao0)])) (X0.iaload hx (j := (2 : Int32)) (v := (.int d2)) (by rw [e0]; exact Ar1.1) (State.isArrayOf_alike hZ.alike Ar1.2.1) Ar1.2.2 hin1 (Hh1.at hin1 rfl) (g := (mkF m 11 #[.val (.ref ao0), .val (.ref ao1), .val (.int (3 : Int32)), .val (.int (2 : Int32))] [(.int (2 : Int32)), (.ref ao0), (.int (2 : Int32)), (.ref ao0)])) rfl rfl (hb hby d3_11)) ?_
  refine own_go (x' := s₁.setTop (mkF m 14 #[.val (.ref ao0), .val (.ref ao1), .val (.int (3 : Int32)), .val (.int (2 : Int32))] [(.int (d2 + (1 : Int32))), (.int (2 : Int32)), (.ref ao0)])) (fun _ k => XS.iconst X0.here hx rfl (hb hby d3_12) (XS.iadd X0.here hx rfl (hb hby d3_13) rfl k)) ?_
  obtain ⟨cl2, Ar2, q2, Sz2, Nn2, Hh2, Gg2⟩ := V_ao0
  have hin2 : ¬ ((2 : Int32) < 0 ∨ cl2.slots.size ≤ ((2 : Int32)).toNatClampNeg) := inb_of Sz2 ⟨by decide, by decide⟩
  obtain ⟨T2, h2, X2, e2, W2, st2⟩ := stI X0 hx hZ e0 Ar2 (j := (2 : Int32)) hin2 (g := (mkF m 14 #[.val (.ref ao0), .val (.ref ao1), .val (.int (3 : Int32)), .val (.int (2 : Int32))] [(.int (d2 + (1 : Int32))), (.int (2 : Int32)), (.ref ao0)])) rfl rfl (hb hby d3_14)
  refine own_go (x' := T2.setTop (mkF m 15 #[.val (.ref ao0), .val (.ref ao1), .val (.int (3 : Int32)), .val (.int (2 : Int32))] [])) st2 ?_
  replace V_ao1 := V_ao1.other W2 (Ne.symm ne_ao0_ao1)
  replace Zs := Nat.le_trans Zs (Keep.of_wr W2).1
  replace Nf := Fr.snoc X2 Nf g_ao0
  replace Kp := Kp.wr W2 (Or.inl (by simp))
  have V_ao0 : Arv Z h2 ao0 kd .int (4 : Int32) [(.int d0), (.int d1), (.int (d2 + (1 : Int32))), (.int d3)] (.int (0 : Int32)) := Arv.set Ar2 q2 Sz2 Nn2 Hh2 Gg2 rfl W2 2 rfl (Nat.le_of_ble_eq_true rfl)
  refine own_go (x' := T2.setTop (mkF m 17 #[.val (.ref ao0), .val (.ref ao1), .val (.int (3 : Int32)), .val (.int (2 : Int32))] [(.int (2 : Int32)), (.ref ao0)])) (fun _ k => XS.aloadN X2.here hx rfl (hb hby d3_15) rfl rfl (XS.iloadN X2.here hx rfl (hb hby d3_16) rfl k)) ?_
  obtain ⟨cl3, Ar3, q3, Sz3, Nn3, Hh3, Gg3⟩ := id V_ao0
  have hin3 : ¬ ((2 : Int32) < 0 ∨ cl3.slots.size ≤ ((2 : Int32)).toNatClampNeg) := inb_of Sz3 ⟨by decide, by decide⟩
  refine own_go (x' := T2.setTop (mkF m 18 #[.val (.ref ao0), .val (.ref ao1), .val (.int (3 : Int32)), .val (.int (2 : Int32))] [(.int (d2 + (1 : Int32)))])) (X2.iaload hx (j := (2 : Int32)) (v := (.int (d2 + (1 : Int32)))) (by rw [e2]; exact Ar3.1) (State.isArrayOf_alike hZ.alike Ar3.2.1) Ar3.2.2 hin3 (Hh3.at hin3 rfl) (g := (mkF m 17 #[.val (.ref ao0), .val (.ref ao1), .val (.int (3 : Int32)), .val (.int (2 : Int32))] [(.int (2 : Int32)), (.ref ao0)])) rfl rfl (hb hby d3_17)) ?_
  refine own_go (x' := T2.setTop (mkF m 20 #[.val (.ref ao0), .val (.ref ao1), .val (.int (3 : Int32)), .val (.int (2 : Int32))] [(.int (2 : Int32)), (.ref ao1), (.int (d2 + (1 : Int32)))])) (fun _ k => XS.aloadN X2.here hx rfl (hb hby d3_18) rfl rfl (XS.iloadN X2.here hx rfl (hb hby d3_19) rfl k)) ?_
  obtain ⟨cl4, Ar4, q4, Sz4, Nn4, Hh4, Gg4⟩ := id V_ao1
  have hin4 : ¬ ((2 : Int32) < 0 ∨ cl4.slots.size ≤ ((2 : Int32)).toNatClampNeg) := inb_of Sz4 ⟨by decide, by decide⟩
  refine own_go (x' := T2.setTop (mkF m 21 #[.val (.ref ao0), .val (.ref ao1), .val (.int (3 : Int32)), .val (.int (2 : Int32))] [(.int r2), (.int (d2 + (1 : Int32)))])) (X2.iaload hx (j := (2 : Int32)) (v := (.int r2)) (by rw [e2]; exact Ar4.1) (State.isArrayOf_alike hZ.alike Ar4.2.1) Ar4.2.2 hin4 (Hh4.at hin4 rfl) (g := (mkF m 20 #[.val (.ref ao0), .val (.ref ao1), .val (.int (3 : Int32)), .val (.int (2 : Int32))] [(.int (2 : Int32)), (.ref ao1), (.int (d2 + (1 : Int32)))])) rfl rfl (hb hby d3_20)) ?_
  by_cases hc21 : (d2 + (1 : Int32)) < r2
  · refine own_go (x' := T2.setTop (mkF m 25 #[.val (.ref ao0), .val (.ref ao1), .val (.int (3 : Int32)), .val (.int (2 : Int32))] [(.int (1 : Int32))])) (fun _ k => XS.icmpNo X2.here hx rfl (hb hby d3_21) rfl (tlt hc21).2.1 (XS.iconst X2.here hx rfl (hb hby d3_24) k)) ?_
    refine own_retN X2 hx hlk (t := .boolean) hret (by simp) (hb hby d3_25) (w := (1 : Int32)) rfl ?_ (by decide) (by decide)
    rw [e2]
    refine ⟨by simp only [own_adv_3_b, own_adv_3_0, own_adv_3_1, own_adv_3_2, own_adv_3_3, if_pos hc21], Nf, Kp, ?_⟩
    simp only [own_adv_3_b, own_adv_3_0, own_adv_3_1, own_adv_3_2, own_adv_3_3, if_pos hc21]
    exact V_ao0
  · refine own_go (x' := T2.setTop (mkF m 29 #[.val (.ref ao0), .val (.ref ao1), .val (.int (3 : Int32)), .val (.int (2 : Int32))] [(.int (0 : Int32)), (.int (2 : Int32)), (.ref ao0)])) (fun _ k => XS.icmpYes X2.here hx rfl (pc0 := 21) (pc' := 26) rfl (hb hby d3_21) rfl (flt hc21).2.1 (by decide) (by decide) (XS.aloadN X2.here hx rfl (hb hby d3_26) rfl rfl (XS.iloadN X2.here hx rfl (hb hby d3_27) rfl (XS.iconst X2.here hx rfl (hb hby d3_28) k)))) ?_
    obtain ⟨cl5, Ar5, q5, Sz5, Nn5, Hh5, Gg5⟩ := V_ao0
    have hin5 : ¬ ((2 : Int32) < 0 ∨ cl5.slots.size ≤ ((2 : Int32)).toNatClampNeg) := inb_of Sz5 ⟨by decide, by decide⟩
    obtain ⟨T5, h5, X5, e5, W5, st5⟩ := stI X2 hx hZ e2 Ar5 (j := (2 : Int32)) hin5 (g := (mkF m 29 #[.val (.ref ao0), .val (.ref ao1), .val (.int (3 : Int32)), .val (.int (2 : Int32))] [(.int (0 : Int32)), (.int (2 : Int32)), (.ref ao0)])) rfl rfl (hb hby d3_29)
    refine own_go (x' := T5.setTop (mkF m 30 #[.val (.ref ao0), .val (.ref ao1), .val (.int (3 : Int32)), .val (.int (2 : Int32))] [])) st5 ?_
    replace V_ao1 := V_ao1.other W5 (Ne.symm ne_ao0_ao1)
    replace Zs := Nat.le_trans Zs (Keep.of_wr W5).1
    replace Nf := Fr.snoc X5 Nf g_ao0
    replace Kp := Kp.wr W5 (Or.inl (by simp))
    have V_ao0 : Arv Z h5 ao0 kd .int (4 : Int32) [(.int d0), (.int d1), (.int (0 : Int32)), (.int d3)] (.int (0 : Int32)) := Arv.set Ar5 q5 Sz5 Nn5 Hh5 Gg5 rfl W5 2 rfl (Nat.le_of_ble_eq_true rfl)
    refine own_go (x' := T5.setTop (mkF m 4 #[.val (.ref ao0), .val (.ref ao1), .val (.int (3 : Int32)), .val (.int ((2 : Int32) + (-1 : Int32)))] [])) (fun _ k => XS.iinc X5.here hx rfl (hb hby d3_30) rfl (l' := #[.val (.ref ao0), .val (.ref ao1), .val (.int (3 : Int32)), .val (.int ((2 : Int32) + (-1 : Int32)))]) rfl (XS.goto X5.here hx rfl (pc0 := 33) (pc' := 4) rfl (hb hby d3_33) (by decide) (by decide) k)) ?_
    rw [show ((2 : Int32) + (-1 : Int32)) = (1 : Int32) from by decide +kernel]
    refine own_go (x' := T5.setTop (mkF m 11 #[.val (.ref ao0), .val (.ref ao1), .val (.int (3 : Int32)), .val (.int (1 : Int32))] [(.int (1 : Int32)), (.ref ao0), (.int (1 : Int32)), (.ref ao0)])) (fun _ k => XS.iloadN X5.here hx rfl (hb hby d3_4) rfl (XS.ifNo X5.here hx rfl (hb hby d3_5) rfl ((if0 _ _).trans (flt (by decide +kernel : ¬ ((1 : Int32) < (0 : Int32)))).1) (XS.aloadN X5.here hx rfl (hb hby d3_8) rfl rfl (XS.iloadN X5.here hx rfl (hb hby d3_9) rfl (Jvm.Free.XT.dup2 X5.here hx rfl (hb hby d3_10) rfl rfl rfl k))))) ?_
    obtain ⟨cl6, Ar6, q6, Sz6, Nn6, Hh6, Gg6⟩ := id V_ao0
    have hin6 : ¬ ((1 : Int32) < 0 ∨ cl6.slots.size ≤ ((1 : Int32)).toNatClampNeg) := inb_of Sz6 ⟨by decide, by decide⟩
    refine own_go (x' := T5.setTop (mkF m 12 #[.val (.ref ao0), .val (.ref ao1), .val (.int (3 : Int32)), .val (.int (1 : Int32))] [(.int d1), (.int (1 : Int32)), (.ref ao0)])) (X5.iaload hx (j := (1 : Int32)) (v := (.int d1)) (by rw [e5]; exact Ar6.1) (State.isArrayOf_alike hZ.alike Ar6.2.1) Ar6.2.2 hin6 (Hh6.at hin6 rfl) (g := (mkF m 11 #[.val (.ref ao0), .val (.ref ao1), .val (.int (3 : Int32)), .val (.int (1 : Int32))] [(.int (1 : Int32)), (.ref ao0), (.int (1 : Int32)), (.ref ao0)])) rfl rfl (hb hby d3_11)) ?_
    refine own_go (x' := T5.setTop (mkF m 14 #[.val (.ref ao0), .val (.ref ao1), .val (.int (3 : Int32)), .val (.int (1 : Int32))] [(.int (d1 + (1 : Int32))), (.int (1 : Int32)), (.ref ao0)])) (fun _ k => XS.iconst X5.here hx rfl (hb hby d3_12) (XS.iadd X5.here hx rfl (hb hby d3_13) rfl k)) ?_
    obtain ⟨cl7, Ar7, q7, Sz7, Nn7, Hh7, Gg7⟩ := V_ao0
    have hin7 : ¬ ((1 : Int32) < 0 ∨ cl7.slots.size ≤ ((1 : Int32)).toNatClampNeg) := inb_of Sz7 ⟨by decide, by decide⟩
    obtain ⟨T7, h7, X7, e7, W7, st7⟩ := stI X5 hx hZ e5 Ar7 (j := (1 : Int32)) hin7 (g := (mkF m 14 #[.val (.ref ao0), .val (.ref ao1), .val (.int (3 : Int32)), .val (.int (1 : Int32))] [(.int (d1 + (1 : Int32))), (.int (1 : Int32)), (.ref ao0)])) rfl rfl (hb hby d3_14)
    refine own_go (x' := T7.setTop (mkF m 15 #[.val (.ref ao0), .val (.ref ao1), .val (.int (3 : Int32)), .val (.int (1 : Int32))] [])) st7 ?_
    replace V_ao1 := V_ao1.other W7 (Ne.symm ne_ao0_ao1)
    replace Zs := Nat.le_trans Zs (Keep.of_wr W7).1
    replace Nf := Fr.snoc X7 Nf g_ao0
    replace Kp := Kp.wr W7 (Or.inl (by simp))
    have V_ao0 : Arv Z h7 ao0 kd .int (4 : Int32) [(.int d0), (.int (d1 + (1 : Int32))), (.int (0 : Int32)), (.int d3)] (.int (0 : Int32)) := Arv.set Ar7 q7 Sz7 Nn7 Hh7 Gg7 rfl W7 1 rfl (Nat.le_of_ble_eq_true rfl)
    refine own_go (x' := T7.setTop (mkF m 17 #[.val (.ref ao0), .val (.ref ao1), .val (.int (3 : Int32)), .val (.int (1 : Int32))] [(.int (1 : Int32)), (.ref ao0)])) (fun _ k => XS.aloadN X7.here hx rfl (hb hby d3_15) rfl rfl (XS.iloadN X7.here hx rfl (hb hby d3_16) rfl k)) ?_
    obtain ⟨cl8, Ar8, q8, Sz8, Nn8, Hh8, Gg8⟩ := id V_ao0
    have hin8 : ¬ ((1 : Int32) < 0 ∨ cl8.slots.size ≤ ((1 : Int32)).toNatClampNeg) := inb_of Sz8 ⟨by decide, by decide⟩
    refine own_go (x' := T7.setTop (mkF m 18 #[.val (.ref ao0), .val (.ref ao1), .val (.int (3 : Int32)), .val (.int (1 : Int32))] [(.int (d1 + (1 : Int32)))])) (X7.iaload hx (j := (1 : Int32)) (v := (.int (d1 + (1 : Int32)))) (by rw [e7]; exact Ar8.1) (State.isArrayOf_alike hZ.alike Ar8.2.1) Ar8.2.2 hin8 (Hh8.at hin8 rfl) (g := (mkF m 17 #[.val (.ref ao0), .val (.ref ao1), .val (.int (3 : Int32)), .val (.int (1 : Int32))] [(.int (1 : Int32)), (.ref ao0)])) rfl rfl (hb hby d3_17)) ?_
    refine own_go (x' := T7.setTop (mkF m 20 #[.val (.ref ao0), .val (.ref ao1), .val (.int (3 : Int32)), .val (.int (1 : Int32))] [(.int (1 : Int32)), (.ref ao1), (.int (d1 + (1 : Int32)))])) (fun _ k => XS.aloadN X7.here hx rfl (hb hby d3_18) rfl rfl (XS.iloadN X7.here hx rfl (hb hby d3_19) rfl k)) ?_
    obtain ⟨cl9, Ar9, q9, Sz9, Nn9, Hh9, Gg9⟩ := id V_ao1
    have hin9 : ¬ ((1 : Int32) < 0 ∨ cl9.slots.size ≤ ((1 : Int32)).toNatClampNeg) := inb_of Sz9 ⟨by decide, by decide⟩
    refine own_go (x' := T7.setTop (mkF m 21 #[.val (.ref ao0), .val (.ref ao1), .val (.int (3 : Int32)), .val (.int (1 : Int32))] [(.int r1), (.int (d1 + (1 : Int32)))])) (X7.iaload hx (j := (1 : Int32)) (v := (.int r1)) (by rw [e7]; exact Ar9.1) (State.isArrayOf_alike hZ.alike Ar9.2.1) Ar9.2.2 hin9 (Hh9.at hin9 rfl) (g := (mkF m 20 #[.val (.ref ao0), .val (.ref ao1), .val (.int (3 : Int32)), .val (.int (1 : Int32))] [(.int (1 : Int32)), (.ref ao1), (.int (d1 + (1 : Int32)))])) rfl rfl (hb hby d3_20)) ?_
    by_cases hc21_10 : (d1 + (1 : Int32)) < r1
    · refine own_go (x' := T7.setTop (mkF m 25 #[.val (.ref ao0), .val (.ref ao1), .val (.int (3 : Int32)), .val (.int (1 : Int32))] [(.int (1 : Int32))])) (fun _ k => XS.icmpNo X7.here hx rfl (hb hby d3_21) rfl (tlt hc21_10).2.1 (XS.iconst X7.here hx rfl (hb hby d3_24) k)) ?_
      refine own_retN X7 hx hlk (t := .boolean) hret (by simp) (hb hby d3_25) (w := (1 : Int32)) rfl ?_ (by decide) (by decide)
      rw [e7]
      refine ⟨by simp only [own_adv_3_b, own_adv_3_0, own_adv_3_1, own_adv_3_2, own_adv_3_3, if_neg hc21, if_pos hc21_10], Nf, Kp, ?_⟩
      simp only [own_adv_3_b, own_adv_3_0, own_adv_3_1, own_adv_3_2, own_adv_3_3, if_neg hc21, if_pos hc21_10]
      exact V_ao0
    · refine own_go (x' := T7.setTop (mkF m 29 #[.val (.ref ao0), .val (.ref ao1), .val (.int (3 : Int32)), .val (.int (1 : Int32))] [(.int (0 : Int32)), (.int (1 : Int32)), (.ref ao0)])) (fun _ k => XS.icmpYes X7.here hx rfl (pc0 := 21) (pc' := 26) rfl (hb hby d3_21) rfl (flt hc21_10).2.1 (by decide) (by decide) (XS.aloadN X7.here hx rfl (hb hby d3_26) rfl rfl (XS.iloadN X7.here hx rfl (hb hby d3_27) rfl (XS.iconst X7.here hx rfl (hb hby d3_28) k)))) ?_
      obtain ⟨cl11, Ar11, q11, Sz11, Nn11, Hh11, Gg11⟩ := V_ao0
      have hin11 : ¬ ((1 : Int32) < 0 ∨ cl11.slots.size ≤ ((1 : Int32)).toNatClampNeg) := inb_of Sz11 ⟨by decide, by decide⟩
      obtain ⟨T11, h11, X11, e11, W11, st11⟩ := stI X7 hx hZ e7 Ar11 (j := (1 : Int32)) hin11 (g := (mkF m 29 #[.val (.ref ao0), .val (.ref ao1), .val (.int (3 : Int32)), .val (.int (1 : Int32))] [(.int (0 : Int32)), (.int (1 : Int32)), (.ref ao0)])) rfl rfl (hb hby d3_29)
      refine own_go (x' := T11.setTop (mkF m 30 #[.val (.ref ao0), .val (.ref ao1), .val (.int (3 : Int32)), .val (.int (1 : Int32))] [])) st11 ?_
      replace V_ao1 := V_ao1.other W11 (Ne.symm ne_ao0_ao1)
      replace Zs := Nat.le_trans Zs (Keep.of_wr W11).1
      replace Nf := Fr.snoc X11 Nf g_ao0
      replace Kp := Kp.wr W11 (Or.inl (by simp))
      have V_ao0 : Arv Z h11 ao0 kd .int (4 : Int32) [(.int d0), (.int (0 : Int32)), (.int (0 : Int32)), (.int d3)] (.int (0 : Int32)) := Arv.set Ar11 q11 Sz11 Nn11 Hh11 Gg11 rfl W11 1 rfl (Nat.le_of_ble_eq_true rfl)
      refine own_go (x' := T11.setTop (mkF m 4 #[.val (.ref ao0), .val (.ref ao1), .val (.int (3 : Int32)), .val (.int ((1 : Int32) + (-1 : Int32)))] [])) (fun _ k => XS.iinc X11.here hx rfl (hb hby d3_30) rfl (l' := #[.val (.ref ao0), .val (.ref ao1), .val (.int (3 : Int32)), .val (.int ((1 : Int32) + (-1 : Int32)))]) rfl (XS.goto X11.here hx rfl (pc0 := 33) (pc' := 4) rfl (hb hby d3_33) (by decide) (by decide) k)) ?_
      rw [show ((1 : Int32) + (-1 : Int32)) = (0 : Int32) from by decide +kernel]
      refine own_go (x' := T11.setTop (mkF m 11 #[.val (.ref ao0), .val (.ref ao1), .val (.int (3 : Int32)), .val (.int (0 : Int32))] [(.int (0 : Int32)), (.ref ao0), (.int (0 : Int32)), (.ref ao0)])) (fun _ k => XS.iloadN X11.here hx rfl (hb hby d3_4) rfl (XS.ifNo X11.here hx rfl (hb hby d3_5) rfl ((if0 _ _).trans (flt (Int32.lt_irrefl)).1) (XS.aloadN X11.here hx rfl (hb hby d3_8) rfl rfl (XS.iloadN X11.here hx rfl (hb hby d3_9) rfl (Jvm.Free.XT.dup2 X11.here hx rfl (hb hby d3_10) rfl rfl rfl k))))) ?_
      obtain ⟨cl12, Ar12, q12, Sz12, Nn12, Hh12, Gg12⟩ := id V_ao0
      have hin12 : ¬ ((0 : Int32) < 0 ∨ cl12.slots.size ≤ ((0 : Int32)).toNatClampNeg) := inb_of Sz12 ⟨by decide, by decide⟩
      refine own_go (x' := T11.setTop (mkF m 12 #[.val (.ref ao0), .val (.ref ao1), .val (.int (3 : Int32)), .val (.int (0 : Int32))] [(.int d0), (.int (0 : Int32)), (.ref ao0)])) (X11.iaload hx (j := (0 : Int32)) (v := (.int d0)) (by rw [e11]; exact Ar12.1) (State.isArrayOf_alike hZ.alike Ar12.2.1) Ar12.2.2 hin12 (Hh12.at hin12 rfl) (g := (mkF m 11 #[.val (.ref ao0), .val (.ref ao1), .val (.int (3 : Int32)), .val (.int (0 : Int32))] [(.int (0 : Int32)), (.ref ao0), (.int (0 : Int32)), (.ref ao0)])) rfl rfl (hb hby d3_11)) ?_
      refine own_go (x' := T11.setTop (mkF m 14 #[.val (.ref ao0), .val (.ref ao1), .val (.int (3 : Int32)), .val (.int (0 : Int32))] [(.int (d0 + (1 : Int32))), (.int (0 : Int32)), (.ref ao0)])) (fun _ k => XS.iconst X11.here hx rfl (hb hby d3_12) (XS.iadd X11.here hx rfl (hb hby d3_13) rfl k)) ?_
      obtain ⟨cl13, Ar13, q13, Sz13, Nn13, Hh13, Gg13⟩ := V_ao0
      have hin13 : ¬ ((0 : Int32) < 0 ∨ cl13.slots.size ≤ ((0 : Int32)).toNatClampNeg) := inb_of Sz13 ⟨by decide, by decide⟩
      obtain ⟨T13, h13, X13, e13, W13, st13⟩ := stI X11 hx hZ e11 Ar13 (j := (0 : Int32)) hin13 (g := (mkF m 14 #[.val (.ref ao0), .val (.ref ao1), .val (.int (3 : Int32)), .val (.int (0 : Int32))] [(.int (d0 + (1 : Int32))), (.int (0 : Int32)), (.ref ao0)])) rfl rfl (hb hby d3_14)
      refine own_go (x' := T13.setTop (mkF m 15 #[.val (.ref ao0), .val (.ref ao1), .val (.int (3 : Int32)), .val (.int (0 : Int32))] [])) st13 ?_
      replace V_ao1 := V_ao1.other W13 (Ne.symm ne_ao0_ao1)
      replace Zs := Nat.le_trans Zs (Keep.of_wr W13).1
      replace Nf := Fr.snoc X13 Nf g_ao0
      replace Kp := Kp.wr W13 (Or.inl (by simp))
      have V_ao0 : Arv Z h13 ao0 kd .int (4 : Int32) [(.int (d0 + (1 : Int32))), (.int (0 : Int32)), (.int (0 : Int32)), (.int d3)] (.int (0 : Int32)) := Arv.set Ar13 q13 Sz13 Nn13 Hh13 Gg13 rfl W13 0 rfl (Nat.le_of_ble_eq_true rfl)
      refine own_go (x' := T13.setTop (mkF m 17 #[.val (.ref ao0), .val (.ref ao1), .val (.int (3 : Int32)), .val (.int (0 : Int32))] [(.int (0 : Int32)), (.ref ao0)])) (fun _ k => XS.aloadN X13.here hx rfl (hb hby d3_15) rfl rfl (XS.iloadN X13.here hx rfl (hb hby d3_16) rfl k)) ?_
      obtain ⟨cl14, Ar14, q14, Sz14, Nn14, Hh14, Gg14⟩ := id V_ao0
      have hin14 : ¬ ((0 : Int32) < 0 ∨ cl14.slots.size ≤ ((0 : Int32)).toNatClampNeg) := inb_of Sz14 ⟨by decide, by decide⟩
      refine own_go (x' := T13.setTop (mkF m 18 #[.val (.ref ao0), .val (.ref ao1), .val (.int (3 : Int32)), .val (.int (0 : Int32))] [(.int (d0 + (1 : Int32)))])) (X13.iaload hx (j := (0 : Int32)) (v := (.int (d0 + (1 : Int32)))) (by rw [e13]; exact Ar14.1) (State.isArrayOf_alike hZ.alike Ar14.2.1) Ar14.2.2 hin14 (Hh14.at hin14 rfl) (g := (mkF m 17 #[.val (.ref ao0), .val (.ref ao1), .val (.int (3 : Int32)), .val (.int (0 : Int32))] [(.int (0 : Int32)), (.ref ao0)])) rfl rfl (hb hby d3_17)) ?_
      refine own_go (x' := T13.setTop (mkF m 20 #[.val (.ref ao0), .val (.ref ao1), .val (.int (3 : Int32)), .val (.int (0 : Int32))] [(.int (0 : Int32)), (.ref ao1), (.int (d0 + (1 : Int32)))])) (fun _ k => XS.aloadN X13.here hx rfl (hb hby d3_18) rfl rfl (XS.iloadN X13.here hx rfl (hb hby d3_19) rfl k)) ?_
      obtain ⟨cl15, Ar15, q15, Sz15, Nn15, Hh15, Gg15⟩ := id V_ao1
      have hin15 : ¬ ((0 : Int32) < 0 ∨ cl15.slots.size ≤ ((0 : Int32)).toNatClampNeg) := inb_of Sz15 ⟨by decide, by decide⟩
      refine own_go (x' := T13.setTop (mkF m 21 #[.val (.ref ao0), .val (.ref ao1), .val (.int (3 : Int32)), .val (.int (0 : Int32))] [(.int r0), (.int (d0 + (1 : Int32)))])) (X13.iaload hx (j := (0 : Int32)) (v := (.int r0)) (by rw [e13]; exact Ar15.1) (State.isArrayOf_alike hZ.alike Ar15.2.1) Ar15.2.2 hin15 (Hh15.at hin15 rfl) (g := (mkF m 20 #[.val (.ref ao0), .val (.ref ao1), .val (.int (3 : Int32)), .val (.int (0 : Int32))] [(.int (0 : Int32)), (.ref ao1), (.int (d0 + (1 : Int32)))])) rfl rfl (hb hby d3_20)) ?_
      by_cases hc21_16 : (d0 + (1 : Int32)) < r0
      · refine own_go (x' := T13.setTop (mkF m 25 #[.val (.ref ao0), .val (.ref ao1), .val (.int (3 : Int32)), .val (.int (0 : Int32))] [(.int (1 : Int32))])) (fun _ k => XS.icmpNo X13.here hx rfl (hb hby d3_21) rfl (tlt hc21_16).2.1 (XS.iconst X13.here hx rfl (hb hby d3_24) k)) ?_
        refine own_retN X13 hx hlk (t := .boolean) hret (by simp) (hb hby d3_25) (w := (1 : Int32)) rfl ?_ (by decide) (by decide)
        rw [e13]
        refine ⟨by simp only [own_adv_3_b, own_adv_3_0, own_adv_3_1, own_adv_3_2, own_adv_3_3, if_neg hc21, if_neg hc21_10, if_pos hc21_16], Nf, Kp, ?_⟩
        simp only [own_adv_3_b, own_adv_3_0, own_adv_3_1, own_adv_3_2, own_adv_3_3, if_neg hc21, if_neg hc21_10, if_pos hc21_16]
        exact V_ao0
      · refine own_go (x' := T13.setTop (mkF m 29 #[.val (.ref ao0), .val (.ref ao1), .val (.int (3 : Int32)), .val (.int (0 : Int32))] [(.int (0 : Int32)), (.int (0 : Int32)), (.ref ao0)])) (fun _ k => XS.icmpYes X13.here hx rfl (pc0 := 21) (pc' := 26) rfl (hb hby d3_21) rfl (flt hc21_16).2.1 (by decide) (by decide) (XS.aloadN X13.here hx rfl (hb hby d3_26) rfl rfl (XS.iloadN X13.here hx rfl (hb hby d3_27) rfl (XS.iconst X13.here hx rfl (hb hby d3_28) k)))) ?_
        obtain ⟨cl17, Ar17, q17, Sz17, Nn17, Hh17, Gg17⟩ := V_ao0
        have hin17 : ¬ ((0 : Int32) < 0 ∨ cl17.slots.size ≤ ((0 : Int32)).toNatClampNeg) := inb_of Sz17 ⟨by decide, by decide⟩
        obtain ⟨T17, h17, X17, e17, W17, st17⟩ := stI X13 hx hZ e13 Ar17 (j := (0 : Int32)) hin17 (g := (mkF m 29 #[.val (.ref ao0), .val (.ref ao1), .val (.int (3 : Int32)), .val (.int (0 : Int32))] [(.int (0 : Int32)), (.int (0 : Int32)), (.ref ao0)])) rfl rfl (hb hby d3_29)
        refine own_go (x' := T17.setTop (mkF m 30 #[.val (.ref ao0), .val (.ref ao1), .val (.int (3 : Int32)), .val (.int (0 : Int32))] [])) st17 ?_
        replace V_ao1 := V_ao1.other W17 (Ne.symm ne_ao0_ao1)
        replace Zs := Nat.le_trans Zs (Keep.of_wr W17).1
        replace Nf := Fr.snoc X17 Nf g_ao0
        replace Kp := Kp.wr W17 (Or.inl (by simp))
        have V_ao0 : Arv Z h17 ao0 kd .int (4 : Int32) [(.int (0 : Int32)), (.int (0 : Int32)), (.int (0 : Int32)), (.int d3)] (.int (0 : Int32)) := Arv.set Ar17 q17 Sz17 Nn17 Hh17 Gg17 rfl W17 0 rfl (Nat.le_of_ble_eq_true rfl)
        refine own_go (x' := T17.setTop (mkF m 4 #[.val (.ref ao0), .val (.ref ao1), .val (.int (3 : Int32)), .val (.int ((0 : Int32) + (-1 : Int32)))] [])) (fun _ k => XS.iinc X17.here hx rfl (hb hby d3_30) rfl (l' := #[.val (.ref ao0), .val (.ref ao1), .val (.int (3 : Int32)), .val (.int ((0 : Int32) + (-1 : Int32)))]) rfl (XS.goto X17.here hx rfl (pc0 := 33) (pc' := 4) rfl (hb hby d3_33) (by decide) (by decide) k)) ?_
        rw [show ((0 : Int32) + (-1 : Int32)) = (-1 : Int32) from by decide +kernel]
        refine own_go (x' := T17.setTop (mkF m 37 #[.val (.ref ao0), .val (.ref ao1), .val (.int (3 : Int32)), .val (.int (-1 : Int32))] [(.int (0 : Int32))])) (fun _ k => XS.iloadN X17.here hx rfl (hb hby d3_4) rfl (XS.ifYes X17.here hx rfl (pc0 := 5) (pc' := 36) rfl (hb hby d3_5) rfl ((if0 _ _).trans (tlt (by decide +kernel : ((-1 : Int32) < (0 : Int32)))).1) (by decide) (by decide) (XS.iconst X17.here hx rfl (hb hby d3_36) k))) ?_
        refine own_retN X17 hx hlk (t := .boolean) hret (by simp) (hb hby d3_37) (w := (0 : Int32)) rfl ?_ (by decide) (by decide)
        rw [e17]
        refine ⟨by simp only [own_adv_3_b, own_adv_3_0, own_adv_3_1, own_adv_3_2, own_adv_3_3, if_neg hc21, if_neg hc21_10, if_neg hc21_16], Nf, Kp, ?_⟩
        simp only [own_adv_3_b, own_adv_3_0, own_adv_3_1, own_adv_3_2, own_adv_3_3, if_neg hc21, if_neg hc21_10, if_neg hc21_16]
        exact V_ao0
def own_dok_0_3 (d0 r0 p4 : Int32) : Int32 := (if d0 < (0 : Int32) then (0 : Int32) else (if d0 < r0 then (1 : Int32) else (0 : Int32)))
def Q_rm4_0_3 (Z : State) (ao0 ao1 : Addr) (kd kr : ClassId) (d0 d1 d2 d3 r0 r1 r2 r3 : Int32) (p4 : Int32) (h0 : Heap) (n0 : Nat) (v : Option Value) (h : Heap) (L : List Loc) : Prop := v = some (.int (own_dok_0_3 d0 r0 p4)) ∧ Fr n0 L ∧ h = h0
theorem pn_rm4_0_3 : plainName "com/example/stratgen/stratgen/model/StateSpaceAdvancePinLaw" = true := by first | (simp [plainName, overriddenIn]; done) | decide +kernel
theorem ef_rm4_0_3 (m : MethodId) (x0 : Addr) (x1 : Addr) (x2 : Int32) (x3 : Int32) (x4 : Int32) : entryFrame m #[(.ref x0), (.ref x1), (.int x2), (.int x3), (.int x4)] 5 = mkF m 0 #[.val (.ref x0), .val (.ref x1), .val (.int x2), .val (.int x3), .val (.int x4)] [] := by first | (simp [entryFrame, mkF, argsToLocals, Value.category]; done) | rfl
set_option maxRecDepth 65536 in
set_option maxHeartbeats 40000000 in
theorem rm4_0_3 (l : Launch) (Z : State) (a0 : Array Value) (hw : ∀ d ∈ tables_1, d.before a0 Z = true) (ws : List Jvm.Cond) (ao0 ao1 : Addr) (kd kr : ClassId) (d0 d1 d2 d3 r0 r1 r2 r3 : Int32) (p4 : Int32) (h0 : Heap) (n0 : Nat) (Z0 : n0 ≤ h0.size) (V_ao0 : Arv Z h0 ao0 kd .int (4 : Int32) [(.int d0), (.int d1), (.int d2), (.int d3)] (.int (0 : Int32))) (V_ao1 : Arv Z h0 ao1 kr .int (4 : Int32) [(.int r0), (.int r1), (.int r2), (.int r3)] (.int (0 : Int32))) :
    MetFree l (⟨"com/example/stratgen/stratgen/model/StateSpaceAdvancePinLaw", "digitOk", "([I[IIII)Z"⟩ : MethodName) (head1 (Jvm.Cond.code (⟨"com/example/stratgen/stratgen/model/StateSpaceAdvancePinLaw", "digitOk", "([I[IIII)Z"⟩ : MethodName) method_4_code 5 (some .boolean) :: ws) ({ frames := 0, cells := 0, slots := 0, locals := 0 } : Room)) (fun a U => a = #[(.ref ao0), (.ref ao1), (.int (0 : Int32)), (.int (3 : Int32)), (.int p4)] ∧ Z.Warmed39 U.vm ∧ U.heap = h0) (fun _ _ _ _ _ => True) (fun _ U o U' => ∃ v L, o = .returned v ∧ (Q_rm4_0_3 Z ao0 ao1 kd kr d0 d1 d2 d3 r0 r1 r2 r3 p4 h0 n0) v U'.heap L ∧ FrameEnd U o U' L ({ frames := 0, cells := 0, slots := 0, locals := 0 } : Room).cells ({ frames := 0, cells := 0, slots := 0, locals := 0 } : Room).slots) := by
  refine MetFree.of_bodySF (plainFor_of_name pn_rm4_0_3) hisR ?_
  intro p e s m args below meth c s₁ Bd hml0 hP hK
  obtain ⟨rfl, hZ, hh⟩ := hP
  have hx := Bd.exec
  have hby := Bd.bytes
  have hlk := BodyLoose.notSynchronized Bd
  have hret := Bd.returns
  have hml : c.maxLocals = 5 := hml0
  have hown : s.vm.findClass "com/example/stratgen/stratgen/model/StateSpaceAdvancePinLaw" = some m.cls := findClass_of_methodNamed Bd.named
  have hnm := (name_of_methodNamed Bd.named Bd.method).1
  have X0 : Stand p l e ({ frames := 0, cells := 0, slots := 0, locals := 0 } : Room) s m #[(.ref ao0), (.ref ao1), (.int (0 : Int32)), (.int (3 : Int32)), (.int p4)] below meth c s₁ [] 0 0 := Stand.of_body Bd
  have e0 : s₁.heap = h0 := by rw [← hh, Bd.state]; rfl
  have Nf := Fr.nil n0
  have Zs := Z0
  have Kp : Keep h0 h0 [] := Keep.refl _ _
  show own_End p e below s (Q_rm4_0_3 Z ao0 ao1 kd kr d0 d1 d2 d3 r0 r1 r2 r3 p4 h0 n0) ({ frames := 0, cells := 0, slots := 0, locals := 0 } : Room).cells ({ frames := 0, cells := 0, slots := 0, locals := 0 } : Room).slots (s₁.setTop (entryFrame m #[(.ref ao0), (.ref ao1), (.int (0 : Int32)), (.int (3 : Int32)), (.int p4)] 5))
  refine own_go (x' := s₁.setTop (mkF m 0 #[.val (.ref ao0), .val (.ref ao1), .val (.int (0 : Int32)), .val (.int (3 : Int32)), .val (.int p4)] [])) (fun t k => castTop (ef_rm4_0_3 m ao0 ao1 (0 : Int32) (3 : Int32) p4) k) ?_
  refine own_go (x' := s₁.setTop (mkF m 7 #[.val (.ref ao0), .val (.ref ao1), .val (.int (0 : Int32)), .val (.int (3 : Int32)), .val (.int p4)] [(.int (0 : Int32)), (.ref ao0)])) (fun _ k => XS.iloadN X0.here hx rfl (hb hby d4_0) rfl (XS.iloadN X0.here hx rfl (hb hby d4_1) rfl (XS.icmpNo X0.here hx rfl (hb hby d4_2) rfl (tlt (by decide +kernel : ((0 : Int32) < (3 : Int32)))).2.1 (XS.aloadN X0.here hx rfl (hb hby d4_5) rfl rfl (XS.iloadN X0.here hx rfl (hb hby d4_6) rfl k))))) ?_
  obtain ⟨cl1, Ar1, q1, Sz1, Nn1, Hh1, Gg1⟩ := id V_ao0
  have hin1 : ¬ ((0 : Int32) < 0 ∨ cl1.slots.size ≤ ((0 : Int32)).toNatClampNeg) := inb_of Sz1 ⟨by decide, by decide⟩
  refine own_go (x' := s₁.setTop (mkF m 8 #[.val (.ref ao0), .val (.ref ao1), .val (.int (0 : Int32)), .val (.int (3 : Int32)), .val (.int p4)] [(.int d0)])) (X0.iaload hx (j := (0 : Int32)) (v := (.int d0)) (by rw [e0]; exact Ar1.1) (State.isArrayOf_alike hZ.alike Ar1.2.1) Ar1.2.2 hin1 (Hh1.at hin1 rfl) (g := (mkF m 7 #[.val (.ref ao0), .val (.ref ao1), .val (.int (0 : Int32)), .val (.int (3 : Int32)), .val (.int p4)] [(.int (0 : Int32)), (.ref ao0)])) rfl rfl (hb hby d4_7)) ?_
  by_cases hc8 : d0 < (0 : Int32)
  · refine own_go (x' := s₁.setTop (mkF m 25 #[.val (.ref ao0), .val (.ref ao1), .val (.int (0 : Int32)), .val (.int (3 : Int32)), .val (.int p4)] [(.int (0 : Int32))])) (fun _ k => XS.ifYes X0.here hx rfl (pc0 := 8) (pc' := 24) rfl (hb hby d4_8) rfl ((if0 _ _).trans (tlt hc8).1) (by decide) (by decide) (XS.iconst X0.here hx rfl (hb hby d4_24) k)) ?_
    refine own_retN X0 hx hlk (t := .boolean) hret (by simp) (hb hby d4_25) (w := (0 : Int32)) rfl ?_ (by decide) (by decide)
    rw [e0]
    exact ⟨by simp only [own_dok_0_3, if_pos hc8], Nf, rfl⟩
  · refine own_go (x' := s₁.setTop (mkF m 13 #[.val (.ref ao0), .val (.ref ao1), .val (.int (0 : Int32)), .val (.int (3 : Int32)), .val (.int p4)] [(.int (0 : Int32)), (.ref ao0)])) (fun _ k => XS.ifNo X0.here hx rfl (hb hby d4_8) rfl ((if0 _ _).trans (flt hc8).1) (XS.aloadN X0.here hx rfl (hb hby d4_11) rfl rfl (XS.iloadN X0.here hx rfl (hb hby d4_12) rfl k))) ?_
    obtain ⟨cl2, Ar2, q2, Sz2, Nn2, Hh2, Gg2⟩ := id V_ao0
    have hin2 : ¬ ((0 : Int32) < 0 ∨ cl2.slots.size ≤ ((0 : Int32)).toNatClampNeg) := inb_of Sz2 ⟨by decide, by decide⟩
    refine own_go (x' := s₁.setTop (mkF m 14 #[.val (.ref ao0), .val (.ref ao1), .val (.int (0 : Int32)), .val (.int (3 : Int32)), .val (.int p4)] [(.int d0)])) (X0.iaload hx (j := (0 : Int32)) (v := (.int d0)) (by rw [e0]; exact Ar2.1) (State.isArrayOf_alike hZ.alike Ar2.2.1) Ar2.2.2 hin2 (Hh2.at hin2 rfl) (g := (mkF m 13 #[.val (.ref ao0), .val (.ref ao1), .val (.int (0 : Int32)), .val (.int (3 : Int32)), .val (.int p4)] [(.int (0 : Int32)), (.ref ao0)])) rfl rfl (hb hby d4_13)) ?_
    refine own_go (x' := s₁.setTop (mkF m 16 #[.val (.ref ao0), .val (.ref ao1), .val (.int (0 : Int32)), .val (.int (3 : Int32)), .val (.int p4)] [(.int (0 : Int32)), (.ref ao1), (.int d0)])) (fun _ k => XS.aloadN X0.here hx rfl (hb hby d4_14) rfl rfl (XS.iloadN X0.here hx rfl (hb hby d4_15) rfl k)) ?_
    obtain ⟨cl3, Ar3, q3, Sz3, Nn3, Hh3, Gg3⟩ := id V_ao1
    have hin3 : ¬ ((0 : Int32) < 0 ∨ cl3.slots.size ≤ ((0 : Int32)).toNatClampNeg) := inb_of Sz3 ⟨by decide, by decide⟩
    refine own_go (x' := s₁.setTop (mkF m 17 #[.val (.ref ao0), .val (.ref ao1), .val (.int (0 : Int32)), .val (.int (3 : Int32)), .val (.int p4)] [(.int r0), (.int d0)])) (X0.iaload hx (j := (0 : Int32)) (v := (.int r0)) (by rw [e0]; exact Ar3.1) (State.isArrayOf_alike hZ.alike Ar3.2.1) Ar3.2.2 hin3 (Hh3.at hin3 rfl) (g := (mkF m 16 #[.val (.ref ao0), .val (.ref ao1), .val (.int (0 : Int32)), .val (.int (3 : Int32)), .val (.int p4)] [(.int (0 : Int32)), (.ref ao1), (.int d0)])) rfl rfl (hb hby d4_16)) ?_
    by_cases hc17 : d0 < r0
    · refine own_go (x' := s₁.setTop (mkF m 25 #[.val (.ref ao0), .val (.ref ao1), .val (.int (0 : Int32)), .val (.int (3 : Int32)), .val (.int p4)] [(.int (1 : Int32))])) (fun _ k => XS.icmpNo X0.here hx rfl (hb hby d4_17) rfl (tlt hc17).2.1 (XS.iconst X0.here hx rfl (hb hby d4_20) (XS.goto X0.here hx rfl (pc0 := 21) (pc' := 25) rfl (hb hby d4_21) (by decide) (by decide) k))) ?_
      refine own_retN X0 hx hlk (t := .boolean) hret (by simp) (hb hby d4_25) (w := (1 : Int32)) rfl ?_ (by decide) (by decide)
      rw [e0]
      exact ⟨by simp only [own_dok_0_3, if_neg hc8, if_pos hc17], Nf, rfl⟩
    · refine own_go (x' := s₁.setTop (mkF m 25 #[.val (.ref ao0), .val (.ref ao1), .val (.int (0 : Int32)), .val (.int (3 : Int32)), .val (.int p4)] [(.int (0 : Int32))])) (fun _ k => XS.icmpYes X0.here hx rfl (pc0 := 17) (pc' := 24) rfl (hb hby d4_17) rfl (flt hc17).2.1 (by decide) (by decide) (XS.iconst X0.here hx rfl (hb hby d4_24) k)) ?_
      refine own_retN X0 hx hlk (t := .boolean) hret (by simp) (hb hby d4_25) (w := (0 : Int32)) rfl ?_ (by decide) (by decide)
      rw [e0]
      exact ⟨by simp only [own_dok_0_3, if_neg hc8, if_neg hc17], Nf, rfl⟩
def own_dok_1_3 (d1 r1 p4 : Int32) : Int32 := (if d1 < (0 : Int32) then (0 : Int32) else (if d1 < r1 then (1 : Int32) else (0 : Int32)))
def Q_rm4_1_3 (Z : State) (ao0 ao1 : Addr) (kd kr : ClassId) (d0 d1 d2 d3 r0 r1 r2 r3 : Int32) (p4 : Int32) (h0 : Heap) (n0 : Nat) (v : Option Value) (h : Heap) (L : List Loc) : Prop := v = some (.int (own_dok_1_3 d1 r1 p4)) ∧ Fr n0 L ∧ h = h0
theorem pn_rm4_1_3 : plainName "com/example/stratgen/stratgen/model/StateSpaceAdvancePinLaw" = true := by first | (simp [plainName, overriddenIn]; done) | decide +kernel
theorem ef_rm4_1_3 (m : MethodId) (x0 : Addr) (x1 : Addr) (x2 : Int32) (x3 : Int32) (x4 : Int32) : entryFrame m #[(.ref x0), (.ref x1), (.int x2), (.int x3), (.int x4)] 5 = mkF m 0 #[.val (.ref x0), .val (.ref x1), .val (.int x2), .val (.int x3), .val (.int x4)] [] := by first | (simp [entryFrame, mkF, argsToLocals, Value.category]; done) | rfl
set_option maxRecDepth 65536 in
set_option maxHeartbeats 40000000 in
theorem rm4_1_3 (l : Launch) (Z : State) (a0 : Array Value) (hw : ∀ d ∈ tables_1, d.before a0 Z = true) (ws : List Jvm.Cond) (ao0 ao1 : Addr) (kd kr : ClassId) (d0 d1 d2 d3 r0 r1 r2 r3 : Int32) (p4 : Int32) (h0 : Heap) (n0 : Nat) (Z0 : n0 ≤ h0.size) (V_ao0 : Arv Z h0 ao0 kd .int (4 : Int32) [(.int d0), (.int d1), (.int d2), (.int d3)] (.int (0 : Int32))) (V_ao1 : Arv Z h0 ao1 kr .int (4 : Int32) [(.int r0), (.int r1), (.int r2), (.int r3)] (.int (0 : Int32))) :
    MetFree l (⟨"com/example/stratgen/stratgen/model/StateSpaceAdvancePinLaw", "digitOk", "([I[IIII)Z"⟩ : MethodName) (head1 (Jvm.Cond.code (⟨"com/example/stratgen/stratgen/model/StateSpaceAdvancePinLaw", "digitOk", "([I[IIII)Z"⟩ : MethodName) method_4_code 5 (some .boolean) :: ws) ({ frames := 0, cells := 0, slots := 0, locals := 0 } : Room)) (fun a U => a = #[(.ref ao0), (.ref ao1), (.int (1 : Int32)), (.int (3 : Int32)), (.int p4)] ∧ Z.Warmed39 U.vm ∧ U.heap = h0) (fun _ _ _ _ _ => True) (fun _ U o U' => ∃ v L, o = .returned v ∧ (Q_rm4_1_3 Z ao0 ao1 kd kr d0 d1 d2 d3 r0 r1 r2 r3 p4 h0 n0) v U'.heap L ∧ FrameEnd U o U' L ({ frames := 0, cells := 0, slots := 0, locals := 0 } : Room).cells ({ frames := 0, cells := 0, slots := 0, locals := 0 } : Room).slots) := by
  refine MetFree.of_bodySF (plainFor_of_name pn_rm4_1_3) hisR ?_
  intro p e s m args below meth c s₁ Bd hml0 hP hK
  obtain ⟨rfl, hZ, hh⟩ := hP
  have hx := Bd.exec
  have hby := Bd.bytes
  have hlk := BodyLoose.notSynchronized Bd
  have hret := Bd.returns
  have hml : c.maxLocals = 5 := hml0
  have hown : s.vm.findClass "com/example/stratgen/stratgen/model/StateSpaceAdvancePinLaw" = some m.cls := findClass_of_methodNamed Bd.named
  have hnm := (name_of_methodNamed Bd.named Bd.method).1
  have X0 : Stand p l e ({ frames := 0, cells := 0, slots := 0, locals := 0 } : Room) s m #[(.ref ao0), (.ref ao1), (.int (1 : Int32)), (.int (3 : Int32)), (.int p4)] below meth c s₁ [] 0 0 := Stand.of_body Bd
  have e0 : s₁.heap = h0 := by rw [← hh, Bd.state]; rfl
  have Nf := Fr.nil n0
  have Zs := Z0
  have Kp : Keep h0 h0 [] := Keep.refl _ _
  show own_End p e below s (Q_rm4_1_3 Z ao0 ao1 kd kr d0 d1 d2 d3 r0 r1 r2 r3 p4 h0 n0) ({ frames := 0, cells := 0, slots := 0, locals := 0 } : Room).cells ({ frames := 0, cells := 0, slots := 0, locals := 0 } : Room).slots (s₁.setTop (entryFrame m #[(.ref ao0), (.ref ao1), (.int (1 : Int32)), (.int (3 : Int32)), (.int p4)] 5))
  refine own_go (x' := s₁.setTop (mkF m 0 #[.val (.ref ao0), .val (.ref ao1), .val (.int (1 : Int32)), .val (.int (3 : Int32)), .val (.int p4)] [])) (fun t k => castTop (ef_rm4_1_3 m ao0 ao1 (1 : Int32) (3 : Int32) p4) k) ?_
  refine own_go (x' := s₁.setTop (mkF m 7 #[.val (.ref ao0), .val (.ref ao1), .val (.int (1 : Int32)), .val (.int (3 : Int32)), .val (.int p4)] [(.int (1 : Int32)), (.ref ao0)])) (fun _ k => XS.iloadN X0.here hx rfl (hb hby d4_0) rfl (XS.iloadN X0.here hx rfl (hb hby d4_1) rfl (XS.icmpNo X0.here hx rfl (hb hby d4_2) rfl (tlt (by decide +kernel : ((1 : Int32) < (3 : Int32)))).2.1 (XS.aloadN X0.here hx rfl (hb hby d4_5) rfl rfl (XS.iloadN X0.here hx rfl (hb hby d4_6) rfl k))))) ?_
  obtain ⟨cl1, Ar1, q1, Sz1, Nn1, Hh1, Gg1⟩ := id V_ao0
  have hin1 : ¬ ((1 : Int32) < 0 ∨ cl1.slots.size ≤ ((1 : Int32)).toNatClampNeg) := inb_of Sz1 ⟨by decide, by decide⟩
  refine own_go (x' := s₁.setTop (mkF m 8 #[.val (.ref ao0), .val (.ref ao1), .val (.int (1 : Int32)), .val (.int (3 : Int32)), .val (.int p4)] [(.int d1)])) (X0.iaload hx (j := (1 : Int32)) (v := (.int d1)) (by rw [e0]; exact Ar1.1) (State.isArrayOf_alike hZ.alike Ar1.2.1) Ar1.2.2 hin1 (Hh1.at hin1 rfl) (g := (mkF m 7 #[.val (.ref ao0), .val (.ref ao1), .val (.int (1 : Int32)), .val (.int (3 : Int32)), .val (.int p4)] [(.int (1 : Int32)), (.ref ao0)])) rfl rfl (hb hby d4_7)) ?_
  by_cases hc8 : d1 < (0 : Int32)
  · refine own_go (x' := s₁.setTop (mkF m 25 #[.val (.ref ao0), .val (.ref ao1), .val (.int (1 : Int32)), .val (.int (3 : Int32)), .val (.int p4)] [(.int (0 : Int32))])) (fun _ k => XS.ifYes X0.here hx rfl (pc0 := 8) (pc' := 24) rfl (hb hby d4_8) rfl ((if0 _ _).trans (tlt hc8).1) (by decide) (by decide) (XS.iconst X0.here hx rfl (hb hby d4_24) k)) ?_
    refine own_retN X0 hx hlk (t := .boolean) hret (by simp) (hb hby d4_25) (w := (0 : Int32)) rfl ?_ (by decide) (by decide)
    rw [e0]
    exact ⟨by simp only [own_dok_1_3, if_pos hc8], Nf, rfl⟩
  · refine own_go (x' := s₁.setTop (mkF m 13 #[.val (.ref ao0), .val (.ref ao1), .val (.int (1 : Int32)), .val (.int (3 : Int32)), .val (.int p4)] [(.int (1 : Int32)), (.ref ao0)])) (fun _ k => XS.ifNo X0.here hx rfl (hb hby d4_8) rfl ((if0 _ _).trans (flt hc8).1) (XS.aloadN X0.here hx rfl (hb hby d4_11) rfl rfl (XS.iloadN X0.here hx rfl (hb hby d4_12) rfl k))) ?_
    obtain ⟨cl2, Ar2, q2, Sz2, Nn2, Hh2, Gg2⟩ := id V_ao0
    have hin2 : ¬ ((1 : Int32) < 0 ∨ cl2.slots.size ≤ ((1 : Int32)).toNatClampNeg) := inb_of Sz2 ⟨by decide, by decide⟩
    refine own_go (x' := s₁.setTop (mkF m 14 #[.val (.ref ao0), .val (.ref ao1), .val (.int (1 : Int32)), .val (.int (3 : Int32)), .val (.int p4)] [(.int d1)])) (X0.iaload hx (j := (1 : Int32)) (v := (.int d1)) (by rw [e0]; exact Ar2.1) (State.isArrayOf_alike hZ.alike Ar2.2.1) Ar2.2.2 hin2 (Hh2.at hin2 rfl) (g := (mkF m 13 #[.val (.ref ao0), .val (.ref ao1), .val (.int (1 : Int32)), .val (.int (3 : Int32)), .val (.int p4)] [(.int (1 : Int32)), (.ref ao0)])) rfl rfl (hb hby d4_13)) ?_
    refine own_go (x' := s₁.setTop (mkF m 16 #[.val (.ref ao0), .val (.ref ao1), .val (.int (1 : Int32)), .val (.int (3 : Int32)), .val (.int p4)] [(.int (1 : Int32)), (.ref ao1), (.int d1)])) (fun _ k => XS.aloadN X0.here hx rfl (hb hby d4_14) rfl rfl (XS.iloadN X0.here hx rfl (hb hby d4_15) rfl k)) ?_
    obtain ⟨cl3, Ar3, q3, Sz3, Nn3, Hh3, Gg3⟩ := id V_ao1
    have hin3 : ¬ ((1 : Int32) < 0 ∨ cl3.slots.size ≤ ((1 : Int32)).toNatClampNeg) := inb_of Sz3 ⟨by decide, by decide⟩
    refine own_go (x' := s₁.setTop (mkF m 17 #[.val (.ref ao0), .val (.ref ao1), .val (.int (1 : Int32)), .val (.int (3 : Int32)), .val (.int p4)] [(.int r1), (.int d1)])) (X0.iaload hx (j := (1 : Int32)) (v := (.int r1)) (by rw [e0]; exact Ar3.1) (State.isArrayOf_alike hZ.alike Ar3.2.1) Ar3.2.2 hin3 (Hh3.at hin3 rfl) (g := (mkF m 16 #[.val (.ref ao0), .val (.ref ao1), .val (.int (1 : Int32)), .val (.int (3 : Int32)), .val (.int p4)] [(.int (1 : Int32)), (.ref ao1), (.int d1)])) rfl rfl (hb hby d4_16)) ?_
    by_cases hc17 : d1 < r1
    · refine own_go (x' := s₁.setTop (mkF m 25 #[.val (.ref ao0), .val (.ref ao1), .val (.int (1 : Int32)), .val (.int (3 : Int32)), .val (.int p4)] [(.int (1 : Int32))])) (fun _ k => XS.icmpNo X0.here hx rfl (hb hby d4_17) rfl (tlt hc17).2.1 (XS.iconst X0.here hx rfl (hb hby d4_20) (XS.goto X0.here hx rfl (pc0 := 21) (pc' := 25) rfl (hb hby d4_21) (by decide) (by decide) k))) ?_
      refine own_retN X0 hx hlk (t := .boolean) hret (by simp) (hb hby d4_25) (w := (1 : Int32)) rfl ?_ (by decide) (by decide)
      rw [e0]
      exact ⟨by simp only [own_dok_1_3, if_neg hc8, if_pos hc17], Nf, rfl⟩
    · refine own_go (x' := s₁.setTop (mkF m 25 #[.val (.ref ao0), .val (.ref ao1), .val (.int (1 : Int32)), .val (.int (3 : Int32)), .val (.int p4)] [(.int (0 : Int32))])) (fun _ k => XS.icmpYes X0.here hx rfl (pc0 := 17) (pc' := 24) rfl (hb hby d4_17) rfl (flt hc17).2.1 (by decide) (by decide) (XS.iconst X0.here hx rfl (hb hby d4_24) k)) ?_
      refine own_retN X0 hx hlk (t := .boolean) hret (by simp) (hb hby d4_25) (w := (0 : Int32)) rfl ?_ (by decide) (by decide)
      rw [e0]
      exact ⟨by simp only [own_dok_1_3, if_neg hc8, if_neg hc17], Nf, rfl⟩
def own_dok_2_3 (d2 r2 p4 : Int32) : Int32 := (if d2 < (0 : Int32) then (0 : Int32) else (if d2 < r2 then (1 : Int32) else (0 : Int32)))
def Q_rm4_2_3 (Z : State) (ao0 ao1 : Addr) (kd kr : ClassId) (d0 d1 d2 d3 r0 r1 r2 r3 : Int32) (p4 : Int32) (h0 : Heap) (n0 : Nat) (v : Option Value) (h : Heap) (L : List Loc) : Prop := v = some (.int (own_dok_2_3 d2 r2 p4)) ∧ Fr n0 L ∧ h = h0
theorem pn_rm4_2_3 : plainName "com/example/stratgen/stratgen/model/StateSpaceAdvancePinLaw" = true := by first | (simp [plainName, overriddenIn]; done) | decide +kernel
theorem ef_rm4_2_3 (m : MethodId) (x0 : Addr) (x1 : Addr) (x2 : Int32) (x3 : Int32) (x4 : Int32) : entryFrame m #[(.ref x0), (.ref x1), (.int x2), (.int x3), (.int x4)] 5 = mkF m 0 #[.val (.ref x0), .val (.ref x1), .val (.int x2), .val (.int x3), .val (.int x4)] [] := by first | (simp [entryFrame, mkF, argsToLocals, Value.category]; done) | rfl
set_option maxRecDepth 65536 in
set_option maxHeartbeats 40000000 in
theorem rm4_2_3 (l : Launch) (Z : State) (a0 : Array Value) (hw : ∀ d ∈ tables_1, d.before a0 Z = true) (ws : List Jvm.Cond) (ao0 ao1 : Addr) (kd kr : ClassId) (d0 d1 d2 d3 r0 r1 r2 r3 : Int32) (p4 : Int32) (h0 : Heap) (n0 : Nat) (Z0 : n0 ≤ h0.size) (V_ao0 : Arv Z h0 ao0 kd .int (4 : Int32) [(.int d0), (.int d1), (.int d2), (.int d3)] (.int (0 : Int32))) (V_ao1 : Arv Z h0 ao1 kr .int (4 : Int32) [(.int r0), (.int r1), (.int r2), (.int r3)] (.int (0 : Int32))) :
    MetFree l (⟨"com/example/stratgen/stratgen/model/StateSpaceAdvancePinLaw", "digitOk", "([I[IIII)Z"⟩ : MethodName) (head1 (Jvm.Cond.code (⟨"com/example/stratgen/stratgen/model/StateSpaceAdvancePinLaw", "digitOk", "([I[IIII)Z"⟩ : MethodName) method_4_code 5 (some .boolean) :: ws) ({ frames := 0, cells := 0, slots := 0, locals := 0 } : Room)) (fun a U => a = #[(.ref ao0), (.ref ao1), (.int (2 : Int32)), (.int (3 : Int32)), (.int p4)] ∧ Z.Warmed39 U.vm ∧ U.heap = h0) (fun _ _ _ _ _ => True) (fun _ U o U' => ∃ v L, o = .returned v ∧ (Q_rm4_2_3 Z ao0 ao1 kd kr d0 d1 d2 d3 r0 r1 r2 r3 p4 h0 n0) v U'.heap L ∧ FrameEnd U o U' L ({ frames := 0, cells := 0, slots := 0, locals := 0 } : Room).cells ({ frames := 0, cells := 0, slots := 0, locals := 0 } : Room).slots) := by
  refine MetFree.of_bodySF (plainFor_of_name pn_rm4_2_3) hisR ?_
  intro p e s m args below meth c s₁ Bd hml0 hP hK
  obtain ⟨rfl, hZ, hh⟩ := hP
  have hx := Bd.exec
  have hby := Bd.bytes
  have hlk := BodyLoose.notSynchronized Bd
  have hret := Bd.returns
  have hml : c.maxLocals = 5 := hml0
  have hown : s.vm.findClass "com/example/stratgen/stratgen/model/StateSpaceAdvancePinLaw" = some m.cls := findClass_of_methodNamed Bd.named
  have hnm := (name_of_methodNamed Bd.named Bd.method).1
  have X0 : Stand p l e ({ frames := 0, cells := 0, slots := 0, locals := 0 } : Room) s m #[(.ref ao0), (.ref ao1), (.int (2 : Int32)), (.int (3 : Int32)), (.int p4)] below meth c s₁ [] 0 0 := Stand.of_body Bd
  have e0 : s₁.heap = h0 := by rw [← hh, Bd.state]; rfl
  have Nf := Fr.nil n0
  have Zs := Z0
  have Kp : Keep h0 h0 [] := Keep.refl _ _
  show own_End p e below s (Q_rm4_2_3 Z ao0 ao1 kd kr d0 d1 d2 d3 r0 r1 r2 r3 p4 h0 n0) ({ frames := 0, cells := 0, slots := 0, locals := 0 } : Room).cells ({ frames := 0, cells := 0, slots := 0, locals := 0 } : Room).slots (s₁.setTop (entryFrame m #[(.ref ao0), (.ref ao1), (.int (2 : Int32)), (.int (3 : Int32)), (.int p4)] 5))
  refine own_go (x' := s₁.setTop (mkF m 0 #[.val (.ref ao0), .val (.ref ao1), .val (.int (2 : Int32)), .val (.int (3 : Int32)), .val (.int p4)] [])) (fun t k => castTop (ef_rm4_2_3 m ao0 ao1 (2 : Int32) (3 : Int32) p4) k) ?_
  refine own_go (x' := s₁.setTop (mkF m 7 #[.val (.ref ao0), .val (.ref ao1), .val (.int (2 : Int32)), .val (.int (3 : Int32)), .val (.int p4)] [(.int (2 : Int32)), (.ref ao0)])) (fun _ k => XS.iloadN X0.here hx rfl (hb hby d4_0) rfl (XS.iloadN X0.here hx rfl (hb hby d4_1) rfl (XS.icmpNo X0.here hx rfl (hb hby d4_2) rfl (tlt (by decide +kernel : ((2 : Int32) < (3 : Int32)))).2.1 (XS.aloadN X0.here hx rfl (hb hby d4_5) rfl rfl (XS.iloadN X0.here hx rfl (hb hby d4_6) rfl k))))) ?_
  obtain ⟨cl1, Ar1, q1, Sz1, Nn1, Hh1, Gg1⟩ := id V_ao0
  have hin1 : ¬ ((2 : Int32) < 0 ∨ cl1.slots.size ≤ ((2 : Int32)).toNatClampNeg) := inb_of Sz1 ⟨by decide, by decide⟩
  refine own_go (x' := s₁.setTop (mkF m 8 #[.val (.ref ao0), .val (.ref ao1), .val (.int (2 : Int32)), .val (.int (3 : Int32)), .val (.int p4)] [(.int d2)])) (X0.iaload hx (j := (2 : Int32)) (v := (.int d2)) (by rw [e0]; exact Ar1.1) (State.isArrayOf_alike hZ.alike Ar1.2.1) Ar1.2.2 hin1 (Hh1.at hin1 rfl) (g := (mkF m 7 #[.val (.ref ao0), .val (.ref ao1), .val (.int (2 : Int32)), .val (.int (3 : Int32)), .val (.int p4)] [(.int (2 : Int32)), (.ref ao0)])) rfl rfl (hb hby d4_7)) ?_
  by_cases hc8 : d2 < (0 : Int32)
  · refine own_go (x' := s₁.setTop (mkF m 25 #[.val (.ref ao0), .val (.ref ao1), .val (.int (2 : Int32)), .val (.int (3 : Int32)), .val (.int p4)] [(.int (0 : Int32))])) (fun _ k => XS.ifYes X0.here hx rfl (pc0 := 8) (pc' := 24) rfl (hb hby d4_8) rfl ((if0 _ _).trans (tlt hc8).1) (by decide) (by decide) (XS.iconst X0.here hx rfl (hb hby d4_24) k)) ?_
    refine own_retN X0 hx hlk (t := .boolean) hret (by simp) (hb hby d4_25) (w := (0 : Int32)) rfl ?_ (by decide) (by decide)
    rw [e0]
    exact ⟨by simp only [own_dok_2_3, if_pos hc8], Nf, rfl⟩
  · refine own_go (x' := s₁.setTop (mkF m 13 #[.val (.ref ao0), .val (.ref ao1), .val (.int (2 : Int32)), .val (.int (3 : Int32)), .val (.int p4)] [(.int (2 : Int32)), (.ref ao0)])) (fun _ k => XS.ifNo X0.here hx rfl (hb hby d4_8) rfl ((if0 _ _).trans (flt hc8).1) (XS.aloadN X0.here hx rfl (hb hby d4_11) rfl rfl (XS.iloadN X0.here hx rfl (hb hby d4_12) rfl k))) ?_
    obtain ⟨cl2, Ar2, q2, Sz2, Nn2, Hh2, Gg2⟩ := id V_ao0
    have hin2 : ¬ ((2 : Int32) < 0 ∨ cl2.slots.size ≤ ((2 : Int32)).toNatClampNeg) := inb_of Sz2 ⟨by decide, by decide⟩
    refine own_go (x' := s₁.setTop (mkF m 14 #[.val (.ref ao0), .val (.ref ao1), .val (.int (2 : Int32)), .val (.int (3 : Int32)), .val (.int p4)] [(.int d2)])) (X0.iaload hx (j := (2 : Int32)) (v := (.int d2)) (by rw [e0]; exact Ar2.1) (State.isArrayOf_alike hZ.alike Ar2.2.1) Ar2.2.2 hin2 (Hh2.at hin2 rfl) (g := (mkF m 13 #[.val (.ref ao0), .val (.ref ao1), .val (.int (2 : Int32)), .val (.int (3 : Int32)), .val (.int p4)] [(.int (2 : Int32)), (.ref ao0)])) rfl rfl (hb hby d4_13)) ?_
    refine own_go (x' := s₁.setTop (mkF m 16 #[.val (.ref ao0), .val (.ref ao1), .val (.int (2 : Int32)), .val (.int (3 : Int32)), .val (.int p4)] [(.int (2 : Int32)), (.ref ao1), (.int d2)])) (fun _ k => XS.aloadN X0.here hx rfl (hb hby d4_14) rfl rfl (XS.iloadN X0.here hx rfl (hb hby d4_15) rfl k)) ?_
    obtain ⟨cl3, Ar3, q3, Sz3, Nn3, Hh3, Gg3⟩ := id V_ao1
    have hin3 : ¬ ((2 : Int32) < 0 ∨ cl3.slots.size ≤ ((2 : Int32)).toNatClampNeg) := inb_of Sz3 ⟨by decide, by decide⟩
    refine own_go (x' := s₁.setTop (mkF m 17 #[.val (.ref ao0), .val (.ref ao1), .val (.int (2 : Int32)), .val (.int (3 : Int32)), .val (.int p4)] [(.int r2), (.int d2)])) (X0.iaload hx (j := (2 : Int32)) (v := (.int r2)) (by rw [e0]; exact Ar3.1) (State.isArrayOf_alike hZ.alike Ar3.2.1) Ar3.2.2 hin3 (Hh3.at hin3 rfl) (g := (mkF m 16 #[.val (.ref ao0), .val (.ref ao1), .val (.int (2 : Int32)), .val (.int (3 : Int32)), .val (.int p4)] [(.int (2 : Int32)), (.ref ao1), (.int d2)])) rfl rfl (hb hby d4_16)) ?_
    by_cases hc17 : d2 < r2
    · refine own_go (x' := s₁.setTop (mkF m 25 #[.val (.ref ao0), .val (.ref ao1), .val (.int (2 : Int32)), .val (.int (3 : Int32)), .val (.int p4)] [(.int (1 : Int32))])) (fun _ k => XS.icmpNo X0.here hx rfl (hb hby d4_17) rfl (tlt hc17).2.1 (XS.iconst X0.here hx rfl (hb hby d4_20) (XS.goto X0.here hx rfl (pc0 := 21) (pc' := 25) rfl (hb hby d4_21) (by decide) (by decide) k))) ?_
      refine own_retN X0 hx hlk (t := .boolean) hret (by simp) (hb hby d4_25) (w := (1 : Int32)) rfl ?_ (by decide) (by decide)
      rw [e0]
      exact ⟨by simp only [own_dok_2_3, if_neg hc8, if_pos hc17], Nf, rfl⟩
    · refine own_go (x' := s₁.setTop (mkF m 25 #[.val (.ref ao0), .val (.ref ao1), .val (.int (2 : Int32)), .val (.int (3 : Int32)), .val (.int p4)] [(.int (0 : Int32))])) (fun _ k => XS.icmpYes X0.here hx rfl (pc0 := 17) (pc' := 24) rfl (hb hby d4_17) rfl (flt hc17).2.1 (by decide) (by decide) (XS.iconst X0.here hx rfl (hb hby d4_24) k)) ?_
      refine own_retN X0 hx hlk (t := .boolean) hret (by simp) (hb hby d4_25) (w := (0 : Int32)) rfl ?_ (by decide) (by decide)
      rw [e0]
      exact ⟨by simp only [own_dok_2_3, if_neg hc8, if_neg hc17], Nf, rfl⟩
def own_dok_3_3 (d3 r3 p4 : Int32) : Int32 := (if d3 = p4 then (1 : Int32) else (0 : Int32))
def Q_rm4_3_3 (Z : State) (ao0 ao1 : Addr) (kd kr : ClassId) (d0 d1 d2 d3 r0 r1 r2 r3 : Int32) (p4 : Int32) (h0 : Heap) (n0 : Nat) (v : Option Value) (h : Heap) (L : List Loc) : Prop := v = some (.int (own_dok_3_3 d3 r3 p4)) ∧ Fr n0 L ∧ h = h0
theorem pn_rm4_3_3 : plainName "com/example/stratgen/stratgen/model/StateSpaceAdvancePinLaw" = true := by first | (simp [plainName, overriddenIn]; done) | decide +kernel
theorem ef_rm4_3_3 (m : MethodId) (x0 : Addr) (x1 : Addr) (x2 : Int32) (x3 : Int32) (x4 : Int32) : entryFrame m #[(.ref x0), (.ref x1), (.int x2), (.int x3), (.int x4)] 5 = mkF m 0 #[.val (.ref x0), .val (.ref x1), .val (.int x2), .val (.int x3), .val (.int x4)] [] := by first | (simp [entryFrame, mkF, argsToLocals, Value.category]; done) | rfl
set_option maxRecDepth 65536 in
set_option maxHeartbeats 40000000 in
theorem rm4_3_3 (l : Launch) (Z : State) (a0 : Array Value) (hw : ∀ d ∈ tables_1, d.before a0 Z = true) (ws : List Jvm.Cond) (ao0 ao1 : Addr) (kd kr : ClassId) (d0 d1 d2 d3 r0 r1 r2 r3 : Int32) (p4 : Int32) (h0 : Heap) (n0 : Nat) (Z0 : n0 ≤ h0.size) (V_ao0 : Arv Z h0 ao0 kd .int (4 : Int32) [(.int d0), (.int d1), (.int d2), (.int d3)] (.int (0 : Int32))) (V_ao1 : Arv Z h0 ao1 kr .int (4 : Int32) [(.int r0), (.int r1), (.int r2), (.int r3)] (.int (0 : Int32))) :
    MetFree l (⟨"com/example/stratgen/stratgen/model/StateSpaceAdvancePinLaw", "digitOk", "([I[IIII)Z"⟩ : MethodName) (head1 (Jvm.Cond.code (⟨"com/example/stratgen/stratgen/model/StateSpaceAdvancePinLaw", "digitOk", "([I[IIII)Z"⟩ : MethodName) method_4_code 5 (some .boolean) :: ws) ({ frames := 0, cells := 0, slots := 0, locals := 0 } : Room)) (fun a U => a = #[(.ref ao0), (.ref ao1), (.int (3 : Int32)), (.int (3 : Int32)), (.int p4)] ∧ Z.Warmed39 U.vm ∧ U.heap = h0) (fun _ _ _ _ _ => True) (fun _ U o U' => ∃ v L, o = .returned v ∧ (Q_rm4_3_3 Z ao0 ao1 kd kr d0 d1 d2 d3 r0 r1 r2 r3 p4 h0 n0) v U'.heap L ∧ FrameEnd U o U' L ({ frames := 0, cells := 0, slots := 0, locals := 0 } : Room).cells ({ frames := 0, cells := 0, slots := 0, locals := 0 } : Room).slots) := by
  refine MetFree.of_bodySF (plainFor_of_name pn_rm4_3_3) hisR ?_
  intro p e s m args below meth c s₁ Bd hml0 hP hK
  obtain ⟨rfl, hZ, hh⟩ := hP
  have hx := Bd.exec
  have hby := Bd.bytes
  have hlk := BodyLoose.notSynchronized Bd
  have hret := Bd.returns
  have hml : c.maxLocals = 5 := hml0
  have hown : s.vm.findClass "com/example/stratgen/stratgen/model/StateSpaceAdvancePinLaw" = some m.cls := findClass_of_methodNamed Bd.named
  have hnm := (name_of_methodNamed Bd.named Bd.method).1
  have X0 : Stand p l e ({ frames := 0, cells := 0, slots := 0, locals := 0 } : Room) s m #[(.ref ao0), (.ref ao1), (.int (3 : Int32)), (.int (3 : Int32)), (.int p4)] below meth c s₁ [] 0 0 := Stand.of_body Bd
  have e0 : s₁.heap = h0 := by rw [← hh, Bd.state]; rfl
  have Nf := Fr.nil n0
  have Zs := Z0
  have Kp : Keep h0 h0 [] := Keep.refl _ _
  show own_End p e below s (Q_rm4_3_3 Z ao0 ao1 kd kr d0 d1 d2 d3 r0 r1 r2 r3 p4 h0 n0) ({ frames := 0, cells := 0, slots := 0, locals := 0 } : Room).cells ({ frames := 0, cells := 0, slots := 0, locals := 0 } : Room).slots (s₁.setTop (entryFrame m #[(.ref ao0), (.ref ao1), (.int (3 : Int32)), (.int (3 : Int32)), (.int p4)] 5))
  refine own_go (x' := s₁.setTop (mkF m 0 #[.val (.ref ao0), .val (.ref ao1), .val (.int (3 : Int32)), .val (.int (3 : Int32)), .val (.int p4)] [])) (fun t k => castTop (ef_rm4_3_3 m ao0 ao1 (3 : Int32) (3 : Int32) p4) k) ?_
  refine own_go (x' := s₁.setTop (mkF m 28 #[.val (.ref ao0), .val (.ref ao1), .val (.int (3 : Int32)), .val (.int (3 : Int32)), .val (.int p4)] [(.int (3 : Int32)), (.ref ao0)])) (fun _ k => XS.iloadN X0.here hx rfl (hb hby d4_0) rfl (XS.iloadN X0.here hx rfl (hb hby d4_1) rfl (XS.icmpYes X0.here hx rfl (pc0 := 2) (pc' := 26) rfl (hb hby d4_2) rfl (flt (Int32.lt_irrefl)).2.1 (by decide) (by decide) (XS.aloadN X0.here hx rfl (hb hby d4_26) rfl rfl (XS.iloadN X0.here hx rfl (hb hby d4_27) rfl k))))) ?_
  obtain ⟨cl1, Ar1, q1, Sz1, Nn1, Hh1, Gg1⟩ := id V_ao0
  have hin1 : ¬ ((3 : Int32) < 0 ∨ cl1.slots.size ≤ ((3 : Int32)).toNatClampNeg) := inb_of Sz1 ⟨by decide, by decide⟩
  refine own_go (x' := s₁.setTop (mkF m 29 #[.val (.ref ao0), .val (.ref ao1), .val (.int (3 : Int32)), .val (.int (3 : Int32)), .val (.int p4)] [(.int d3)])) (X0.iaload hx (j := (3 : Int32)) (v := (.int d3)) (by rw [e0]; exact Ar1.1) (State.isArrayOf_alike hZ.alike Ar1.2.1) Ar1.2.2 hin1 (Hh1.at hin1 rfl) (g := (mkF m 28 #[.val (.ref ao0), .val (.ref ao1), .val (.int (3 : Int32)), .val (.int (3 : Int32)), .val (.int p4)] [(.int (3 : Int32)), (.ref ao0)])) rfl rfl (hb hby d4_28)) ?_
  refine own_go (x' := s₁.setTop (mkF m 31 #[.val (.ref ao0), .val (.ref ao1), .val (.int (3 : Int32)), .val (.int (3 : Int32)), .val (.int p4)] [(.int p4), (.int d3)])) (fun _ k => XS.iload X0.here hx rfl (hb hby d4_29) rfl k) ?_
  by_cases hc31 : d3 = p4
  · refine own_go (x' := s₁.setTop (mkF m 39 #[.val (.ref ao0), .val (.ref ao1), .val (.int (3 : Int32)), .val (.int (3 : Int32)), .val (.int p4)] [(.int (1 : Int32))])) (fun _ k => XS.icmpNo X0.here hx rfl (hb hby d4_31) rfl (teq hc31).2 (XS.iconst X0.here hx rfl (hb hby d4_34) (XS.goto X0.here hx rfl (pc0 := 35) (pc' := 39) rfl (hb hby d4_35) (by decide) (by decide) k))) ?_
    refine own_retN X0 hx hlk (t := .boolean) hret (by simp) (hb hby d4_39) (w := (1 : Int32)) rfl ?_ (by decide) (by decide)
    rw [e0]
    exact ⟨by simp only [own_dok_3_3, if_pos hc31], Nf, rfl⟩
  · refine own_go (x' := s₁.setTop (mkF m 39 #[.val (.ref ao0), .val (.ref ao1), .val (.int (3 : Int32)), .val (.int (3 : Int32)), .val (.int p4)] [(.int (0 : Int32))])) (fun _ k => XS.icmpYes X0.here hx rfl (pc0 := 31) (pc' := 38) rfl (hb hby d4_31) rfl (feq hc31).2 (by decide) (by decide) (XS.iconst X0.here hx rfl (hb hby d4_38) k)) ?_
    refine own_retN X0 hx hlk (t := .boolean) hret (by simp) (hb hby d4_39) (w := (0 : Int32)) rfl ?_ (by decide) (by decide)
    rw [e0]
    exact ⟨by simp only [own_dok_3_3, if_neg hc31], Nf, rfl⟩
def own_val_4 (d0 d1 d2 d3 r0 r1 r2 r3 : Int32) : Int64 := (((((((d0.toInt64) * (r1.toInt64)) + (d1.toInt64)) * (r2.toInt64)) + (d2.toInt64)) * (r3.toInt64)) + (d3.toInt64))
theorem d1_50 : decode method_2_code 50 = .ok (.lload_n 3, 1) := by decide +kernel
theorem d1_51 : decode method_2_code 51 = .ok (.aload_n 1, 1) := by decide +kernel
theorem d1_52 : decode method_2_code 52 = .ok (.iconst 3, 1) := by decide +kernel
theorem d1_53 : decode method_2_code 53 = .ok (.iaload, 1) := by decide +kernel
theorem d1_54 : decode method_2_code 54 = .ok (.i2l, 1) := by decide +kernel
theorem d1_55 : decode method_2_code 55 = .ok (.lmul, 1) := by decide +kernel
theorem d1_56 : decode method_2_code 56 = .ok (.aload_n 0, 1) := by decide +kernel
theorem d1_57 : decode method_2_code 57 = .ok (.iconst 3, 1) := by decide +kernel
theorem d1_58 : decode method_2_code 58 = .ok (.iaload, 1) := by decide +kernel
theorem d1_59 : decode method_2_code 59 = .ok (.i2l, 1) := by decide +kernel
theorem d1_60 : decode method_2_code 60 = .ok (.ladd, 1) := by decide +kernel
theorem d1_61 : decode method_2_code 61 = .ok (.lstore_n 3, 1) := by decide +kernel
def Q_rm1_4 (Z : State) (ao0 ao1 : Addr) (kd kr : ClassId) (d0 d1 d2 d3 r0 r1 r2 r3 : Int32) (h0 : Heap) (n0 : Nat) (v : Option Value) (h : Heap) (L : List Loc) : Prop := v = some (.long (own_val_4 d0 d1 d2 d3 r0 r1 r2 r3)) ∧ Fr n0 L ∧ h = h0
theorem pn_rm1_4 : plainName "com/example/stratgen/stratgen/model/StateSpaceAdvancePinLaw" = true := by first | (simp [plainName, overriddenIn]; done) | decide +kernel
theorem ef_rm1_4 (m : MethodId) (x0 : Addr) (x1 : Addr) (x2 : Int32) : entryFrame m #[(.ref x0), (.ref x1), (.int x2)] 5 = mkF m 0 #[.val (.ref x0), .val (.ref x1), .val (.int x2), .unset, .unset] [] := by first | (simp [entryFrame, mkF, argsToLocals, Value.category]; done) | rfl
set_option maxRecDepth 65536 in
set_option maxHeartbeats 40000000 in
theorem rm1_4 (l : Launch) (Z : State) (a0 : Array Value) (hw : ∀ d ∈ tables_1, d.before a0 Z = true) (ws : List Jvm.Cond) (ao0 ao1 : Addr) (kd kr : ClassId) (d0 d1 d2 d3 r0 r1 r2 r3 : Int32) (h0 : Heap) (n0 : Nat) (Z0 : n0 ≤ h0.size) (V_ao0 : Arv Z h0 ao0 kd .int (4 : Int32) [(.int d0), (.int d1), (.int d2), (.int d3)] (.int (0 : Int32))) (V_ao1 : Arv Z h0 ao1 kr .int (4 : Int32) [(.int r0), (.int r1), (.int r2), (.int r3)] (.int (0 : Int32))) :
    MetFree l (⟨"com/example/stratgen/stratgen/model/StateSpaceAdvancePinLaw", "value", "([I[II)J"⟩ : MethodName) (head1 (Jvm.Cond.code (⟨"com/example/stratgen/stratgen/model/StateSpaceAdvancePinLaw", "value", "([I[II)J"⟩ : MethodName) method_2_code 5 (some .long) :: ws) ({ frames := 0, cells := 0, slots := 0, locals := 0 } : Room)) (fun a U => a = #[(.ref ao0), (.ref ao1), (.int (4 : Int32))] ∧ Z.Warmed39 U.vm ∧ U.heap = h0) (fun _ _ _ _ _ => True) (fun _ U o U' => ∃ v L, o = .returned v ∧ (Q_rm1_4 Z ao0 ao1 kd kr d0 d1 d2 d3 r0 r1 r2 r3 h0 n0) v U'.heap L ∧ FrameEnd U o U' L ({ frames := 0, cells := 0, slots := 0, locals := 0 } : Room).cells ({ frames := 0, cells := 0, slots := 0, locals := 0 } : Room).slots) := by
  refine MetFree.of_bodySF (plainFor_of_name pn_rm1_4) hisR ?_
  intro p e s m args below meth c s₁ Bd hml0 hP hK
  obtain ⟨rfl, hZ, hh⟩ := hP
  have hx := Bd.exec
  have hby := Bd.bytes
  have hlk := BodyLoose.notSynchronized Bd
  have hret := Bd.returns
  have hml : c.maxLocals = 5 := hml0
  have hown : s.vm.findClass "com/example/stratgen/stratgen/model/StateSpaceAdvancePinLaw" = some m.cls := findClass_of_methodNamed Bd.named
  have hnm := (name_of_methodNamed Bd.named Bd.method).1
  have X0 : Stand p l e ({ frames := 0, cells := 0, slots := 0, locals := 0 } : Room) s m #[(.ref ao0), (.ref ao1), (.int (4 : Int32))] below meth c s₁ [] 0 0 := Stand.of_body Bd
  have e0 : s₁.heap = h0 := by rw [← hh, Bd.state]; rfl
  have Nf := Fr.nil n0
  have Zs := Z0
  have Kp : Keep h0 h0 [] := Keep.refl _ _
  show own_End p e below s (Q_rm1_4 Z ao0 ao1 kd kr d0 d1 d2 d3 r0 r1 r2 r3 h0 n0) ({ frames := 0, cells := 0, slots := 0, locals := 0 } : Room).cells ({ frames := 0, cells := 0, slots := 0, locals := 0 } : Room).slots (s₁.setTop (entryFrame m #[(.ref ao0), (.ref ao1), (.int (4 : Int32))] 5))
  refine own_go (x' := s₁.setTop (mkF m 0 #[.val (.ref ao0), .val (.ref ao1), .val (.int (4 : Int32)), .unset, .unset] [])) (fun t k => castTop (ef_rm1_4 m ao0 ao1 (4 : Int32)) k) ?_
  refine own_go (x' := s₁.setTop (mkF m 8 #[.val (.ref ao0), .val (.ref ao1), .val (.int (4 : Int32)), .val (.long (0 : Int64)), .second] [(.int (0 : Int32)), (.ref ao0)])) (fun _ k => XS.lconst X0.here hx rfl (hb hby d1_0) (XS.lstoreN X0.here hx rfl (hb hby d1_1) rfl (l' := #[.val (.ref ao0), .val (.ref ao1), .val (.int (4 : Int32)), .val (.long (0 : Int64)), .second]) rfl (XS.iloadN X0.here hx rfl (hb hby d1_2) rfl (XS.ifNo X0.here hx rfl (hb hby d1_3) rfl ((if0 _ _).trans (tlt (by decide +kernel : ((0 : Int32) < (4 : Int32)))).2.2.2) (XS.aloadN X0.here hx rfl (hb hby d1_6) rfl rfl (XS.iconst X0.here hx rfl (hb hby d1_7) k)))))) ?_
  obtain ⟨cl1, Ar1, q1, Sz1, Nn1, Hh1, Gg1⟩ := id V_ao0
  have hin1 : ¬ ((0 : Int32) < 0 ∨ cl1.slots.size ≤ ((0 : Int32)).toNatClampNeg) := inb_of Sz1 ⟨by decide, by decide⟩
  refine own_go (x' := s₁.setTop (mkF m 9 #[.val (.ref ao0), .val (.ref ao1), .val (.int (4 : Int32)), .val (.long (0 : Int64)), .second] [(.int d0)])) (X0.iaload hx (j := (0 : Int32)) (v := (.int d0)) (by rw [e0]; exact Ar1.1) (State.isArrayOf_alike hZ.alike Ar1.2.1) Ar1.2.2 hin1 (Hh1.at hin1 rfl) (g := (mkF m 8 #[.val (.ref ao0), .val (.ref ao1), .val (.int (4 : Int32)), .val (.long (0 : Int64)), .second] [(.int (0 : Int32)), (.ref ao0)])) rfl rfl (hb hby d1_8)) ?_
  refine own_go (x' := s₁.setTop (mkF m 17 #[.val (.ref ao0), .val (.ref ao1), .val (.int (4 : Int32)), .val (.long (d0.toInt64)), .second] [(.long (d0.toInt64))])) (fun _ k => XS.i2l X0.here hx rfl (hb hby d1_9) rfl (XS.lstoreN X0.here hx rfl (hb hby d1_10) rfl (l' := #[.val (.ref ao0), .val (.ref ao1), .val (.int (4 : Int32)), .val (.long (d0.toInt64)), .second]) rfl (XS.iloadN X0.here hx rfl (hb hby d1_11) rfl (XS.iconst X0.here hx rfl (hb hby d1_12) (XS.icmpNo X0.here hx rfl (hb hby d1_13) rfl (tlt (by decide +kernel : ((1 : Int32) < (4 : Int32)))).2.2.2 (XS.lloadN X0.here hx rfl (hb hby d1_16) rfl k)))))) ?_
  refine own_go (x' := s₁.setTop (mkF m 19 #[.val (.ref ao0), .val (.ref ao1), .val (.int (4 : Int32)), .val (.long (d0.toInt64)), .second] [(.int (1 : Int32)), (.ref ao1), (.long (d0.toInt64))])) (fun _ k => XS.aloadN X0.here hx rfl (hb hby d1_17) rfl rfl (XS.iconst X0.here hx rfl (hb hby d1_18) k)) ?_
  obtain ⟨cl2, Ar2, q2, Sz2, Nn2, Hh2, Gg2⟩ := id V_ao1
  have hin2 : ¬ ((1 : Int32) < 0 ∨ cl2.slots.size ≤ ((1 : Int32)).toNatClampNeg) := inb_of Sz2 ⟨by decide, by decide⟩
  refine own_go (x' := s₁.setTop (mkF m 20 #[.val (.ref ao0), .val (.ref ao1), .val (.int (4 : Int32)), .val (.long (d0.toInt64)), .second] [(.int r1), (.long (d0.toInt64))])) (X0.iaload hx (j := (1 : Int32)) (v := (.int r1)) (by rw [e0]; exact Ar2.1) (State.isArrayOf_alike hZ.alike Ar2.2.1) Ar2.2.2 hin2 (Hh2.at hin2 rfl) (g := (mkF m 19 #[.val (.ref ao0), .val (.ref ao1), .val (.int (4 : Int32)), .val (.long (d0.toInt64)), .second] [(.int (1 : Int32)), (.ref ao1), (.long (d0.toInt64))])) rfl rfl (hb hby d1_19)) ?_
  refine own_go (x' := s₁.setTop (mkF m 24 #[.val (.ref ao0), .val (.ref ao1), .val (.int (4 : Int32)), .val (.long (d0.toInt64)), .second] [(.int (1 : Int32)), (.ref ao0), (.long ((d0.toInt64) * (r1.toInt64)))])) (fun _ k => XS.i2l X0.here hx rfl (hb hby d1_20) rfl (XS.lmul X0.here hx rfl (hb hby d1_21) rfl (XS.aloadN X0.here hx rfl (hb hby d1_22) rfl rfl (XS.iconst X0.here hx rfl (hb hby d1_23) k)))) ?_
  obtain ⟨cl3, Ar3, q3, Sz3, Nn3, Hh3, Gg3⟩ := id V_ao0
  have hin3 : ¬ ((1 : Int32) < 0 ∨ cl3.slots.size ≤ ((1 : Int32)).toNatClampNeg) := inb_of Sz3 ⟨by decide, by decide⟩
  refine own_go (x' := s₁.setTop (mkF m 25 #[.val (.ref ao0), .val (.ref ao1), .val (.int (4 : Int32)), .val (.long (d0.toInt64)), .second] [(.int d1), (.long ((d0.toInt64) * (r1.toInt64)))])) (X0.iaload hx (j := (1 : Int32)) (v := (.int d1)) (by rw [e0]; exact Ar3.1) (State.isArrayOf_alike hZ.alike Ar3.2.1) Ar3.2.2 hin3 (Hh3.at hin3 rfl) (g := (mkF m 24 #[.val (.ref ao0), .val (.ref ao1), .val (.int (4 : Int32)), .val (.long (d0.toInt64)), .second] [(.int (1 : Int32)), (.ref ao0), (.long ((d0.toInt64) * (r1.toInt64)))])) rfl rfl (hb hby d1_24)) ?_
  refine own_go (x' := s₁.setTop (mkF m 33 #[.val (.ref ao0), .val (.ref ao1), .val (.int (4 : Int32)), .val (.long (((d0.toInt64) * (r1.toInt64)) + (d1.toInt64))), .second] [])) (fun _ k => XS.i2l X0.here hx rfl (hb hby d1_25) rfl (XS.ladd X0.here hx rfl (hb hby d1_26) rfl (XS.lstoreN X0.here hx rfl (hb hby d1_27) rfl (l' := #[.val (.ref ao0), .val (.ref ao1), .val (.int (4 : Int32)), .val (.long (((d0.toInt64) * (r1.toInt64)) + (d1.toInt64))), .second]) rfl (XS.iloadN X0.here hx rfl (hb hby d1_28) rfl (XS.iconst X0.here hx rfl (hb hby d1_29) (XS.icmpNo X0.here hx rfl (hb hby d1_30) rfl (tlt (by decide +kernel : ((2 : Int32) < (4 : Int32)))).2.2.2 k)))))) ?_
  refine own_go (x' := s₁.setTop (mkF m 36 #[.val (.ref ao0), .val (.ref ao1), .val (.int (4 : Int32)), .val (.long (((d0.toInt64) * (r1.toInt64)) + (d1.toInt64))), .second] [(.int (2 : Int32)), (.ref ao1), (.long (((d0.toInt64) * (r1.toInt64)) + (d1.toInt64)))])) (fun _ k => XS.lloadN X0.here hx rfl (hb hby d1_33) rfl (XS.aloadN X0.here hx rfl (hb hby d1_34) rfl rfl (XS.iconst X0.here hx rfl (hb hby d1_35) k))) ?_
  obtain ⟨cl4, Ar4, q4, Sz4, Nn4, Hh4, Gg4⟩ := id V_ao1
  have hin4 : ¬ ((2 : Int32) < 0 ∨ cl4.slots.size ≤ ((2 : Int32)).toNatClampNeg) := inb_of Sz4 ⟨by decide, by decide⟩
  refine own_go (x' := s₁.setTop (mkF m 37 #[.val (.ref ao0), .val (.ref ao1), .val (.int (4 : Int32)), .val (.long (((d0.toInt64) * (r1.toInt64)) + (d1.toInt64))), .second] [(.int r2), (.long (((d0.toInt64) * (r1.toInt64)) + (d1.toInt64)))])) (X0.iaload hx (j := (2 : Int32)) (v := (.int r2)) (by rw [e0]; exact Ar4.1) (State.isArrayOf_alike hZ.alike Ar4.2.1) Ar4.2.2 hin4 (Hh4.at hin4 rfl) (g := (mkF m 36 #[.val (.ref ao0), .val (.ref ao1), .val (.int (4 : Int32)), .val (.long (((d0.toInt64) * (r1.toInt64)) + (d1.toInt64))), .second] [(.int (2 : Int32)), (.ref ao1), (.long (((d0.toInt64) * (r1.toInt64)) + (d1.toInt64)))])) rfl rfl (hb hby d1_36)) ?_
  refine own_go (x' := s₁.setTop (mkF m 41 #[.val (.ref ao0), .val (.ref ao1), .val (.int (4 : Int32)), .val (.long (((d0.toInt64) * (r1.toInt64)) + (d1.toInt64))), .second] [(.int (2 : Int32)), (.ref ao0), (.long ((((d0.toInt64) * (r1.toInt64)) + (d1.toInt64)) * (r2.toInt64)))])) (fun _ k => XS.i2l X0.here hx rfl (hb hby d1_37) rfl (XS.lmul X0.here hx rfl (hb hby d1_38) rfl (XS.aloadN X0.here hx rfl (hb hby d1_39) rfl rfl (XS.iconst X0.here hx rfl (hb hby d1_40) k)))) ?_
  obtain ⟨cl5, Ar5, q5, Sz5, Nn5, Hh5, Gg5⟩ := id V_ao0
  have hin5 : ¬ ((2 : Int32) < 0 ∨ cl5.slots.size ≤ ((2 : Int32)).toNatClampNeg) := inb_of Sz5 ⟨by decide, by decide⟩
  refine own_go (x' := s₁.setTop (mkF m 42 #[.val (.ref ao0), .val (.ref ao1), .val (.int (4 : Int32)), .val (.long (((d0.toInt64) * (r1.toInt64)) + (d1.toInt64))), .second] [(.int d2), (.long ((((d0.toInt64) * (r1.toInt64)) + (d1.toInt64)) * (r2.toInt64)))])) (X0.iaload hx (j := (2 : Int32)) (v := (.int d2)) (by rw [e0]; exact Ar5.1) (State.isArrayOf_alike hZ.alike Ar5.2.1) Ar5.2.2 hin5 (Hh5.at hin5 rfl) (g := (mkF m 41 #[.val (.ref ao0), .val (.ref ao1), .val (.int (4 : Int32)), .val (.long (((d0.toInt64) * (r1.toInt64)) + (d1.toInt64))), .second] [(.int (2 : Int32)), (.ref ao0), (.long ((((d0.toInt64) * (r1.toInt64)) + (d1.toInt64)) * (r2.toInt64)))])) rfl rfl (hb hby d1_41)) ?_
  refine own_go (x' := s₁.setTop (mkF m 50 #[.val (.ref ao0), .val (.ref ao1), .val (.int (4 : Int32)), .val (.long (((((d0.toInt64) * (r1.toInt64)) + (d1.toInt64)) * (r2.toInt64)) + (d2.toInt64))), .second] [])) (fun _ k => XS.i2l X0.here hx rfl (hb hby d1_42) rfl (XS.ladd X0.here hx rfl (hb hby d1_43) rfl (XS.lstoreN X0.here hx rfl (hb hby d1_44) rfl (l' := #[.val (.ref ao0), .val (.ref ao1), .val (.int (4 : Int32)), .val (.long (((((d0.toInt64) * (r1.toInt64)) + (d1.toInt64)) * (r2.toInt64)) + (d2.toInt64))), .second]) rfl (XS.iloadN X0.here hx rfl (hb hby d1_45) rfl (XS.iconst X0.here hx rfl (hb hby d1_46) (XS.icmpNo X0.here hx rfl (hb hby d1_47) rfl (tlt (by decide +kernel : ((3 : Int32) < (4 : Int32)))).2.2.2 k)))))) ?_
  refine own_go (x' := s₁.setTop (mkF m 53 #[.val (.ref ao0), .val (.ref ao1), .val (.int (4 : Int32)), .val (.long (((((d0.toInt64) * (r1.toInt64)) + (d1.toInt64)) * (r2.toInt64)) + (d2.toInt64))), .second] [(.int (3 : Int32)), (.ref ao1), (.long (((((d0.toInt64) * (r1.toInt64)) + (d1.toInt64)) * (r2.toInt64)) + (d2.toInt64)))])) (fun _ k => XS.lloadN X0.here hx rfl (hb hby d1_50) rfl (XS.aloadN X0.here hx rfl (hb hby d1_51) rfl rfl (XS.iconst X0.here hx rfl (hb hby d1_52) k))) ?_
  obtain ⟨cl6, Ar6, q6, Sz6, Nn6, Hh6, Gg6⟩ := id V_ao1
  have hin6 : ¬ ((3 : Int32) < 0 ∨ cl6.slots.size ≤ ((3 : Int32)).toNatClampNeg) := inb_of Sz6 ⟨by decide, by decide⟩
  refine own_go (x' := s₁.setTop (mkF m 54 #[.val (.ref ao0), .val (.ref ao1), .val (.int (4 : Int32)), .val (.long (((((d0.toInt64) * (r1.toInt64)) + (d1.toInt64)) * (r2.toInt64)) + (d2.toInt64))), .second] [(.int r3), (.long (((((d0.toInt64) * (r1.toInt64)) + (d1.toInt64)) * (r2.toInt64)) + (d2.toInt64)))])) (X0.iaload hx (j := (3 : Int32)) (v := (.int r3)) (by rw [e0]; exact Ar6.1) (State.isArrayOf_alike hZ.alike Ar6.2.1) Ar6.2.2 hin6 (Hh6.at hin6 rfl) (g := (mkF m 53 #[.val (.ref ao0), .val (.ref ao1), .val (.int (4 : Int32)), .val (.long (((((d0.toInt64) * (r1.toInt64)) + (d1.toInt64)) * (r2.toInt64)) + (d2.toInt64))), .second] [(.int (3 : Int32)), (.ref ao1), (.long (((((d0.toInt64) * (r1.toInt64)) + (d1.toInt64)) * (r2.toInt64)) + (d2.toInt64)))])) rfl rfl (hb hby d1_53)) ?_
  refine own_go (x' := s₁.setTop (mkF m 58 #[.val (.ref ao0), .val (.ref ao1), .val (.int (4 : Int32)), .val (.long (((((d0.toInt64) * (r1.toInt64)) + (d1.toInt64)) * (r2.toInt64)) + (d2.toInt64))), .second] [(.int (3 : Int32)), (.ref ao0), (.long ((((((d0.toInt64) * (r1.toInt64)) + (d1.toInt64)) * (r2.toInt64)) + (d2.toInt64)) * (r3.toInt64)))])) (fun _ k => XS.i2l X0.here hx rfl (hb hby d1_54) rfl (XS.lmul X0.here hx rfl (hb hby d1_55) rfl (XS.aloadN X0.here hx rfl (hb hby d1_56) rfl rfl (XS.iconst X0.here hx rfl (hb hby d1_57) k)))) ?_
  obtain ⟨cl7, Ar7, q7, Sz7, Nn7, Hh7, Gg7⟩ := id V_ao0
  have hin7 : ¬ ((3 : Int32) < 0 ∨ cl7.slots.size ≤ ((3 : Int32)).toNatClampNeg) := inb_of Sz7 ⟨by decide, by decide⟩
  refine own_go (x' := s₁.setTop (mkF m 59 #[.val (.ref ao0), .val (.ref ao1), .val (.int (4 : Int32)), .val (.long (((((d0.toInt64) * (r1.toInt64)) + (d1.toInt64)) * (r2.toInt64)) + (d2.toInt64))), .second] [(.int d3), (.long ((((((d0.toInt64) * (r1.toInt64)) + (d1.toInt64)) * (r2.toInt64)) + (d2.toInt64)) * (r3.toInt64)))])) (X0.iaload hx (j := (3 : Int32)) (v := (.int d3)) (by rw [e0]; exact Ar7.1) (State.isArrayOf_alike hZ.alike Ar7.2.1) Ar7.2.2 hin7 (Hh7.at hin7 rfl) (g := (mkF m 58 #[.val (.ref ao0), .val (.ref ao1), .val (.int (4 : Int32)), .val (.long (((((d0.toInt64) * (r1.toInt64)) + (d1.toInt64)) * (r2.toInt64)) + (d2.toInt64))), .second] [(.int (3 : Int32)), (.ref ao0), (.long ((((((d0.toInt64) * (r1.toInt64)) + (d1.toInt64)) * (r2.toInt64)) + (d2.toInt64)) * (r3.toInt64)))])) rfl rfl (hb hby d1_58)) ?_
  refine own_go (x' := s₁.setTop (mkF m 63 #[.val (.ref ao0), .val (.ref ao1), .val (.int (4 : Int32)), .val (.long (((((((d0.toInt64) * (r1.toInt64)) + (d1.toInt64)) * (r2.toInt64)) + (d2.toInt64)) * (r3.toInt64)) + (d3.toInt64))), .second] [(.long (((((((d0.toInt64) * (r1.toInt64)) + (d1.toInt64)) * (r2.toInt64)) + (d2.toInt64)) * (r3.toInt64)) + (d3.toInt64)))])) (fun _ k => XS.i2l X0.here hx rfl (hb hby d1_59) rfl (XS.ladd X0.here hx rfl (hb hby d1_60) rfl (XS.lstoreN X0.here hx rfl (hb hby d1_61) rfl (l' := #[.val (.ref ao0), .val (.ref ao1), .val (.int (4 : Int32)), .val (.long (((((((d0.toInt64) * (r1.toInt64)) + (d1.toInt64)) * (r2.toInt64)) + (d2.toInt64)) * (r3.toInt64)) + (d3.toInt64))), .second]) rfl (XS.lloadN X0.here hx rfl (hb hby d1_62) rfl k)))) ?_
  refine own_retJ X0 hx hlk hret (hb hby d1_63) ?_ (by decide) (by decide)
  rw [e0]
  exact ⟨rfl, Nf, rfl⟩
def own_tot_4 (r0 r1 r2 r3 : Int32) : Int64 := (((((1 : Int64) * (r0.toInt64)) * (r1.toInt64)) * (r2.toInt64)) * (r3.toInt64))
theorem d2_42 : decode method_3_code 42 = .ok (.lload_n 2, 1) := by decide +kernel
theorem d2_43 : decode method_3_code 43 = .ok (.aload_n 0, 1) := by decide +kernel
theorem d2_44 : decode method_3_code 44 = .ok (.iconst 3, 1) := by decide +kernel
theorem d2_45 : decode method_3_code 45 = .ok (.iaload, 1) := by decide +kernel
theorem d2_46 : decode method_3_code 46 = .ok (.i2l, 1) := by decide +kernel
theorem d2_47 : decode method_3_code 47 = .ok (.lmul, 1) := by decide +kernel
theorem d2_48 : decode method_3_code 48 = .ok (.lstore_n 2, 1) := by decide +kernel
def Q_rm2_4 (Z : State) (ao0 : Addr) (kr : ClassId) (r0 r1 r2 r3 : Int32) (h0 : Heap) (n0 : Nat) (v : Option Value) (h : Heap) (L : List Loc) : Prop := v = some (.long (own_tot_4 r0 r1 r2 r3)) ∧ Fr n0 L ∧ h = h0
theorem pn_rm2_4 : plainName "com/example/stratgen/stratgen/model/StateSpaceAdvancePinLaw" = true := by first | (simp [plainName, overriddenIn]; done) | decide +kernel
theorem ef_rm2_4 (m : MethodId) (x0 : Addr) (x1 : Int32) : entryFrame m #[(.ref x0), (.int x1)] 4 = mkF m 0 #[.val (.ref x0), .val (.int x1), .unset, .unset] [] := by first | (simp [entryFrame, mkF, argsToLocals, Value.category]; done) | rfl
set_option maxRecDepth 65536 in
set_option maxHeartbeats 40000000 in
theorem rm2_4 (l : Launch) (Z : State) (a0 : Array Value) (hw : ∀ d ∈ tables_1, d.before a0 Z = true) (ws : List Jvm.Cond) (ao0 : Addr) (kr : ClassId) (r0 r1 r2 r3 : Int32) (h0 : Heap) (n0 : Nat) (Z0 : n0 ≤ h0.size) (V_ao0 : Arv Z h0 ao0 kr .int (4 : Int32) [(.int r0), (.int r1), (.int r2), (.int r3)] (.int (0 : Int32))) :
    MetFree l (⟨"com/example/stratgen/stratgen/model/StateSpaceAdvancePinLaw", "total", "([II)J"⟩ : MethodName) (head1 (Jvm.Cond.code (⟨"com/example/stratgen/stratgen/model/StateSpaceAdvancePinLaw", "total", "([II)J"⟩ : MethodName) method_3_code 4 (some .long) :: ws) ({ frames := 0, cells := 0, slots := 0, locals := 0 } : Room)) (fun a U => a = #[(.ref ao0), (.int (4 : Int32))] ∧ Z.Warmed39 U.vm ∧ U.heap = h0) (fun _ _ _ _ _ => True) (fun _ U o U' => ∃ v L, o = .returned v ∧ (Q_rm2_4 Z ao0 kr r0 r1 r2 r3 h0 n0) v U'.heap L ∧ FrameEnd U o U' L ({ frames := 0, cells := 0, slots := 0, locals := 0 } : Room).cells ({ frames := 0, cells := 0, slots := 0, locals := 0 } : Room).slots) := by
  refine MetFree.of_bodySF (plainFor_of_name pn_rm2_4) hisR ?_
  intro p e s m args below meth c s₁ Bd hml0 hP hK
  obtain ⟨rfl, hZ, hh⟩ := hP
  have hx := Bd.exec
  have hby := Bd.bytes
  have hlk := BodyLoose.notSynchronized Bd
  have hret := Bd.returns
  have hml : c.maxLocals = 4 := hml0
  have hown : s.vm.findClass "com/example/stratgen/stratgen/model/StateSpaceAdvancePinLaw" = some m.cls := findClass_of_methodNamed Bd.named
  have hnm := (name_of_methodNamed Bd.named Bd.method).1
  have X0 : Stand p l e ({ frames := 0, cells := 0, slots := 0, locals := 0 } : Room) s m #[(.ref ao0), (.int (4 : Int32))] below meth c s₁ [] 0 0 := Stand.of_body Bd
  have e0 : s₁.heap = h0 := by rw [← hh, Bd.state]; rfl
  have Nf := Fr.nil n0
  have Zs := Z0
  have Kp : Keep h0 h0 [] := Keep.refl _ _
  show own_End p e below s (Q_rm2_4 Z ao0 kr r0 r1 r2 r3 h0 n0) ({ frames := 0, cells := 0, slots := 0, locals := 0 } : Room).cells ({ frames := 0, cells := 0, slots := 0, locals := 0 } : Room).slots (s₁.setTop (entryFrame m #[(.ref ao0), (.int (4 : Int32))] 4))
  refine own_go (x' := s₁.setTop (mkF m 0 #[.val (.ref ao0), .val (.int (4 : Int32)), .unset, .unset] [])) (fun t k => castTop (ef_rm2_4 m ao0 (4 : Int32)) k) ?_
  refine own_go (x' := s₁.setTop (mkF m 8 #[.val (.ref ao0), .val (.int (4 : Int32)), .val (.long (1 : Int64)), .second] [(.ref ao0), (.long (1 : Int64))])) (fun _ k => XS.lconst X0.here hx rfl (hb hby d2_0) (XS.lstoreN X0.here hx rfl (hb hby d2_1) rfl (l' := #[.val (.ref ao0), .val (.int (4 : Int32)), .val (.long (1 : Int64)), .second]) rfl (XS.iloadN X0.here hx rfl (hb hby d2_2) rfl (XS.ifNo X0.here hx rfl (hb hby d2_3) rfl ((if0 _ _).trans (tlt (by decide +kernel : ((0 : Int32) < (4 : Int32)))).2.2.2) (XS.lloadN X0.here hx rfl (hb hby d2_6) rfl (XS.aloadN X0.here hx rfl (hb hby d2_7) rfl rfl k)))))) ?_
  refine own_go (x' := s₁.setTop (mkF m 9 #[.val (.ref ao0), .val (.int (4 : Int32)), .val (.long (1 : Int64)), .second] [(.int (0 : Int32)), (.ref ao0), (.long (1 : Int64))])) (fun _ k => XS.iconst X0.here hx rfl (hb hby d2_8) k) ?_
  obtain ⟨cl1, Ar1, q1, Sz1, Nn1, Hh1, Gg1⟩ := id V_ao0
  have hin1 : ¬ ((0 : Int32) < 0 ∨ cl1.slots.size ≤ ((0 : Int32)).toNatClampNeg) := inb_of Sz1 ⟨by decide, by decide⟩
  refine own_go (x' := s₁.setTop (mkF m 10 #[.val (.ref ao0), .val (.int (4 : Int32)), .val (.long (1 : Int64)), .second] [(.int r0), (.long (1 : Int64))])) (X0.iaload hx (j := (0 : Int32)) (v := (.int r0)) (by rw [e0]; exact Ar1.1) (State.isArrayOf_alike hZ.alike Ar1.2.1) Ar1.2.2 hin1 (Hh1.at hin1 rfl) (g := (mkF m 9 #[.val (.ref ao0), .val (.int (4 : Int32)), .val (.long (1 : Int64)), .second] [(.int (0 : Int32)), (.ref ao0), (.long (1 : Int64))])) rfl rfl (hb hby d2_9)) ?_
  refine own_go (x' := s₁.setTop (mkF m 18 #[.val (.ref ao0), .val (.int (4 : Int32)), .val (.long ((1 : Int64) * (r0.toInt64))), .second] [])) (fun _ k => XS.i2l X0.here hx rfl (hb hby d2_10) rfl (XS.lmul X0.here hx rfl (hb hby d2_11) rfl (XS.lstoreN X0.here hx rfl (hb hby d2_12) rfl (l' := #[.val (.ref ao0), .val (.int (4 : Int32)), .val (.long ((1 : Int64) * (r0.toInt64))), .second]) rfl (XS.iloadN X0.here hx rfl (hb hby d2_13) rfl (XS.iconst X0.here hx rfl (hb hby d2_14) (XS.icmpNo X0.here hx rfl (hb hby d2_15) rfl (tlt (by decide +kernel : ((1 : Int32) < (4 : Int32)))).2.2.2 k)))))) ?_
  refine own_go (x' := s₁.setTop (mkF m 21 #[.val (.ref ao0), .val (.int (4 : Int32)), .val (.long ((1 : Int64) * (r0.toInt64))), .second] [(.int (1 : Int32)), (.ref ao0), (.long ((1 : Int64) * (r0.toInt64)))])) (fun _ k => XS.lloadN X0.here hx rfl (hb hby d2_18) rfl (XS.aloadN X0.here hx rfl (hb hby d2_19) rfl rfl (XS.iconst X0.here hx rfl (hb hby d2_20) k))) ?_
  obtain ⟨cl2, Ar2, q2, Sz2, Nn2, Hh2, Gg2⟩ := id V_ao0
  have hin2 : ¬ ((1 : Int32) < 0 ∨ cl2.slots.size ≤ ((1 : Int32)).toNatClampNeg) := inb_of Sz2 ⟨by decide, by decide⟩
  refine own_go (x' := s₁.setTop (mkF m 22 #[.val (.ref ao0), .val (.int (4 : Int32)), .val (.long ((1 : Int64) * (r0.toInt64))), .second] [(.int r1), (.long ((1 : Int64) * (r0.toInt64)))])) (X0.iaload hx (j := (1 : Int32)) (v := (.int r1)) (by rw [e0]; exact Ar2.1) (State.isArrayOf_alike hZ.alike Ar2.2.1) Ar2.2.2 hin2 (Hh2.at hin2 rfl) (g := (mkF m 21 #[.val (.ref ao0), .val (.int (4 : Int32)), .val (.long ((1 : Int64) * (r0.toInt64))), .second] [(.int (1 : Int32)), (.ref ao0), (.long ((1 : Int64) * (r0.toInt64)))])) rfl rfl (hb hby d2_21)) ?_
  refine own_go (x' := s₁.setTop (mkF m 30 #[.val (.ref ao0), .val (.int (4 : Int32)), .val (.long (((1 : Int64) * (r0.toInt64)) * (r1.toInt64))), .second] [])) (fun _ k => XS.i2l X0.here hx rfl (hb hby d2_22) rfl (XS.lmul X0.here hx rfl (hb hby d2_23) rfl (XS.lstoreN X0.here hx rfl (hb hby d2_24) rfl (l' := #[.val (.ref ao0), .val (.int (4 : Int32)), .val (.long (((1 : Int64) * (r0.toInt64)) * (r1.toInt64))), .second]) rfl (XS.iloadN X0.here hx rfl (hb hby d2_25) rfl (XS.iconst X0.here hx rfl (hb hby d2_26) (XS.icmpNo X0.here hx rfl (hb hby d2_27) rfl (tlt (by decide +kernel : ((2 : Int32) < (4 : Int32)))).2.2.2 k)))))) ?_
  refine own_go (x' := s₁.setTop (mkF m 33 #[.val (.ref ao0), .val (.int (4 : Int32)), .val (.long (((1 : Int64) * (r0.toInt64)) * (r1.toInt64))), .second] [(.int (2 : Int32)), (.ref ao0), (.long (((1 : Int64) * (r0.toInt64)) * (r1.toInt64)))])) (fun _ k => XS.lloadN X0.here hx rfl (hb hby d2_30) rfl (XS.aloadN X0.here hx rfl (hb hby d2_31) rfl rfl (XS.iconst X0.here hx rfl (hb hby d2_32) k))) ?_
  obtain ⟨cl3, Ar3, q3, Sz3, Nn3, Hh3, Gg3⟩ := id V_ao0
  have hin3 : ¬ ((2 : Int32) < 0 ∨ cl3.slots.size ≤ ((2 : Int32)).toNatClampNeg) := inb_of Sz3 ⟨by decide, by decide⟩
  refine own_go (x' := s₁.setTop (mkF m 34 #[.val (.ref ao0), .val (.int (4 : Int32)), .val (.long (((1 : Int64) * (r0.toInt64)) * (r1.toInt64))), .second] [(.int r2), (.long (((1 : Int64) * (r0.toInt64)) * (r1.toInt64)))])) (X0.iaload hx (j := (2 : Int32)) (v := (.int r2)) (by rw [e0]; exact Ar3.1) (State.isArrayOf_alike hZ.alike Ar3.2.1) Ar3.2.2 hin3 (Hh3.at hin3 rfl) (g := (mkF m 33 #[.val (.ref ao0), .val (.int (4 : Int32)), .val (.long (((1 : Int64) * (r0.toInt64)) * (r1.toInt64))), .second] [(.int (2 : Int32)), (.ref ao0), (.long (((1 : Int64) * (r0.toInt64)) * (r1.toInt64)))])) rfl rfl (hb hby d2_33)) ?_
  refine own_go (x' := s₁.setTop (mkF m 42 #[.val (.ref ao0), .val (.int (4 : Int32)), .val (.long ((((1 : Int64) * (r0.toInt64)) * (r1.toInt64)) * (r2.toInt64))), .second] [])) (fun _ k => XS.i2l X0.here hx rfl (hb hby d2_34) rfl (XS.lmul X0.here hx rfl (hb hby d2_35) rfl (XS.lstoreN X0.here hx rfl (hb hby d2_36) rfl (l' := #[.val (.ref ao0), .val (.int (4 : Int32)), .val (.long ((((1 : Int64) * (r0.toInt64)) * (r1.toInt64)) * (r2.toInt64))), .second]) rfl (XS.iloadN X0.here hx rfl (hb hby d2_37) rfl (XS.iconst X0.here hx rfl (hb hby d2_38) (XS.icmpNo X0.here hx rfl (hb hby d2_39) rfl (tlt (by decide +kernel : ((3 : Int32) < (4 : Int32)))).2.2.2 k)))))) ?_
  refine own_go (x' := s₁.setTop (mkF m 45 #[.val (.ref ao0), .val (.int (4 : Int32)), .val (.long ((((1 : Int64) * (r0.toInt64)) * (r1.toInt64)) * (r2.toInt64))), .second] [(.int (3 : Int32)), (.ref ao0), (.long ((((1 : Int64) * (r0.toInt64)) * (r1.toInt64)) * (r2.toInt64)))])) (fun _ k => XS.lloadN X0.here hx rfl (hb hby d2_42) rfl (XS.aloadN X0.here hx rfl (hb hby d2_43) rfl rfl (XS.iconst X0.here hx rfl (hb hby d2_44) k))) ?_
  obtain ⟨cl4, Ar4, q4, Sz4, Nn4, Hh4, Gg4⟩ := id V_ao0
  have hin4 : ¬ ((3 : Int32) < 0 ∨ cl4.slots.size ≤ ((3 : Int32)).toNatClampNeg) := inb_of Sz4 ⟨by decide, by decide⟩
  refine own_go (x' := s₁.setTop (mkF m 46 #[.val (.ref ao0), .val (.int (4 : Int32)), .val (.long ((((1 : Int64) * (r0.toInt64)) * (r1.toInt64)) * (r2.toInt64))), .second] [(.int r3), (.long ((((1 : Int64) * (r0.toInt64)) * (r1.toInt64)) * (r2.toInt64)))])) (X0.iaload hx (j := (3 : Int32)) (v := (.int r3)) (by rw [e0]; exact Ar4.1) (State.isArrayOf_alike hZ.alike Ar4.2.1) Ar4.2.2 hin4 (Hh4.at hin4 rfl) (g := (mkF m 45 #[.val (.ref ao0), .val (.int (4 : Int32)), .val (.long ((((1 : Int64) * (r0.toInt64)) * (r1.toInt64)) * (r2.toInt64))), .second] [(.int (3 : Int32)), (.ref ao0), (.long ((((1 : Int64) * (r0.toInt64)) * (r1.toInt64)) * (r2.toInt64)))])) rfl rfl (hb hby d2_45)) ?_
  refine own_go (x' := s₁.setTop (mkF m 50 #[.val (.ref ao0), .val (.int (4 : Int32)), .val (.long (((((1 : Int64) * (r0.toInt64)) * (r1.toInt64)) * (r2.toInt64)) * (r3.toInt64))), .second] [(.long (((((1 : Int64) * (r0.toInt64)) * (r1.toInt64)) * (r2.toInt64)) * (r3.toInt64)))])) (fun _ k => XS.i2l X0.here hx rfl (hb hby d2_46) rfl (XS.lmul X0.here hx rfl (hb hby d2_47) rfl (XS.lstoreN X0.here hx rfl (hb hby d2_48) rfl (l' := #[.val (.ref ao0), .val (.int (4 : Int32)), .val (.long (((((1 : Int64) * (r0.toInt64)) * (r1.toInt64)) * (r2.toInt64)) * (r3.toInt64))), .second]) rfl (XS.lloadN X0.here hx rfl (hb hby d2_49) rfl k)))) ?_
  refine own_retJ X0 hx hlk hret (hb hby d2_50) ?_ (by decide) (by decide)
  rw [e0]
  exact ⟨rfl, Nf, rfl⟩
def own_adv_4_b (d0 d1 d2 d3 r0 r1 r2 r3 : Int32) : Int32 := (if (d3 + (1 : Int32)) < r3 then (1 : Int32) else (if (d2 + (1 : Int32)) < r2 then (1 : Int32) else (if (d1 + (1 : Int32)) < r1 then (1 : Int32) else (if (d0 + (1 : Int32)) < r0 then (1 : Int32) else (0 : Int32)))))
def own_adv_4_0 (d0 d1 d2 d3 r0 r1 r2 r3 : Int32) : Int32 := (if (d3 + (1 : Int32)) < r3 then d0 else (if (d2 + (1 : Int32)) < r2 then d0 else (if (d1 + (1 : Int32)) < r1 then d0 else (if (d0 + (1 : Int32)) < r0 then (d0 + (1 : Int32)) else (0 : Int32)))))
def own_adv_4_1 (d0 d1 d2 d3 r0 r1 r2 r3 : Int32) : Int32 := (if (d3 + (1 : Int32)) < r3 then d1 else (if (d2 + (1 : Int32)) < r2 then d1 else (if (d1 + (1 : Int32)) < r1 then (d1 + (1 : Int32)) else (if (d0 + (1 : Int32)) < r0 then (0 : Int32) else (0 : Int32)))))
def own_adv_4_2 (d0 d1 d2 d3 r0 r1 r2 r3 : Int32) : Int32 := (if (d3 + (1 : Int32)) < r3 then d2 else (if (d2 + (1 : Int32)) < r2 then (d2 + (1 : Int32)) else (if (d1 + (1 : Int32)) < r1 then (0 : Int32) else (if (d0 + (1 : Int32)) < r0 then (0 : Int32) else (0 : Int32)))))
def own_adv_4_3 (d0 d1 d2 d3 r0 r1 r2 r3 : Int32) : Int32 := (if (d3 + (1 : Int32)) < r3 then (d3 + (1 : Int32)) else (if (d2 + (1 : Int32)) < r2 then (0 : Int32) else (if (d1 + (1 : Int32)) < r1 then (0 : Int32) else (if (d0 + (1 : Int32)) < r0 then (0 : Int32) else (0 : Int32)))))
def Q_rm3_4 (Z : State) (ao0 ao1 : Addr) (kd kr : ClassId) (d0 d1 d2 d3 r0 r1 r2 r3 : Int32) (h0 : Heap) (n0 : Nat) (v : Option Value) (h : Heap) (L : List Loc) : Prop := v = some (.int (own_adv_4_b d0 d1 d2 d3 r0 r1 r2 r3)) ∧ Fr n0 L ∧ Keep h0 h [ao0] ∧ Arv Z h ao0 kd .int (4 : Int32) [(.int (own_adv_4_0 d0 d1 d2 d3 r0 r1 r2 r3)), (.int (own_adv_4_1 d0 d1 d2 d3 r0 r1 r2 r3)), (.int (own_adv_4_2 d0 d1 d2 d3 r0 r1 r2 r3)), (.int (own_adv_4_3 d0 d1 d2 d3 r0 r1 r2 r3))] (.int (0 : Int32))
theorem pn_rm3_4 : plainName "com/example/stratgen/stratgen/model/StateSpace" = true := by first | (simp [plainName, overriddenIn]; done) | decide +kernel
theorem ef_rm3_4 (m : MethodId) (x0 : Addr) (x1 : Addr) (x2 : Int32) : entryFrame m #[(.ref x0), (.ref x1), (.int x2)] 4 = mkF m 0 #[.val (.ref x0), .val (.ref x1), .val (.int x2), .unset] [] := by first | (simp [entryFrame, mkF, argsToLocals, Value.category]; done) | rfl
set_option maxRecDepth 65536 in
set_option maxHeartbeats 40000000 in
theorem rm3_4 (l : Launch) (Z : State) (a0 : Array Value) (hw : ∀ d ∈ tables_1, d.before a0 Z = true) (ws : List Jvm.Cond) (ao0 ao1 : Addr) (kd kr : ClassId) (d0 d1 d2 d3 r0 r1 r2 r3 : Int32) (h0 : Heap) (n0 : Nat) (Z0 : n0 ≤ h0.size) (V_ao0 : Arv Z h0 ao0 kd .int (4 : Int32) [(.int d0), (.int d1), (.int d2), (.int d3)] (.int (0 : Int32))) (V_ao1 : Arv Z h0 ao1 kr .int (4 : Int32) [(.int r0), (.int r1), (.int r2), (.int r3)] (.int (0 : Int32))) (ne_ao0_ao1 : ao0 ≠ ao1) (g_ao0 : n0 ≤ ao0) :
    MetFree l (⟨"com/example/stratgen/stratgen/model/StateSpace", "advance", "([I[II)Z"⟩ : MethodName) (head1 (Jvm.Cond.code (⟨"com/example/stratgen/stratgen/model/StateSpace", "advance", "([I[II)Z"⟩ : MethodName) prog_90_method_21_code 4 (some .boolean) :: ws) ({ frames := 0, cells := 0, slots := 0, locals := 0 } : Room)) (fun a U => a = #[(.ref ao0), (.ref ao1), (.int (4 : Int32))] ∧ Z.Warmed39 U.vm ∧ U.heap = h0) (fun _ _ _ _ _ => True) (fun _ U o U' => ∃ v L, o = .returned v ∧ (Q_rm3_4 Z ao0 ao1 kd kr d0 d1 d2 d3 r0 r1 r2 r3 h0 n0) v U'.heap L ∧ FrameEnd U o U' L ({ frames := 0, cells := 0, slots := 0, locals := 0 } : Room).cells ({ frames := 0, cells := 0, slots := 0, locals := 0 } : Room).slots) := by
  refine MetFree.of_bodySF (plainFor_of_name pn_rm3_4) hisR ?_
  intro p e s m args below meth c s₁ Bd hml0 hP hK
  obtain ⟨rfl, hZ, hh⟩ := hP
  have hx := Bd.exec
  have hby := Bd.bytes
  have hlk := BodyLoose.notSynchronized Bd
  have hret := Bd.returns
  have hml : c.maxLocals = 4 := hml0
  have hown : s.vm.findClass "com/example/stratgen/stratgen/model/StateSpace" = some m.cls := findClass_of_methodNamed Bd.named
  have hnm := (name_of_methodNamed Bd.named Bd.method).1
  have X0 : Stand p l e ({ frames := 0, cells := 0, slots := 0, locals := 0 } : Room) s m #[(.ref ao0), (.ref ao1), (.int (4 : Int32))] below meth c s₁ [] 0 0 := Stand.of_body Bd
  have e0 : s₁.heap = h0 := by rw [← hh, Bd.state]; rfl
  have Nf := Fr.nil n0
  have Zs := Z0
  have Kp : Keep h0 h0 [ao0] := Keep.refl _ _
  show own_End p e below s (Q_rm3_4 Z ao0 ao1 kd kr d0 d1 d2 d3 r0 r1 r2 r3 h0 n0) ({ frames := 0, cells := 0, slots := 0, locals := 0 } : Room).cells ({ frames := 0, cells := 0, slots := 0, locals := 0 } : Room).slots (s₁.setTop (entryFrame m #[(.ref ao0), (.ref ao1), (.int (4 : Int32))] 4))
  refine own_go (x' := s₁.setTop (mkF m 0 #[.val (.ref ao0), .val (.ref ao1), .val (.int (4 : Int32)), .unset] [])) (fun t k => castTop (ef_rm3_4 m ao0 ao1 (4 : Int32)) k) ?_
  refine own_go (x' := s₁.setTop (mkF m 4 #[.val (.ref ao0), .val (.ref ao1), .val (.int (4 : Int32)), .val (.int ((4 : Int32) - (1 : Int32)))] [])) (fun _ k => XS.iloadN X0.here hx rfl (hb hby d3_0) rfl (XS.iconst X0.here hx rfl (hb hby d3_1) (XS.isub X0.here hx rfl (hb hby d3_2) rfl (XS.istoreN X0.here hx rfl (hb hby d3_3) rfl (l' := #[.val (.ref ao0), .val (.ref ao1), .val (.int (4 : Int32)), .val (.int ((4 : Int32) - (1 : Int32)))]) rfl k)))) ?_
  rw [show ((4 : Int32) - (1 : Int32)) = (3 : Int32) from by decide +kernel]
  refine own_go (x' := s₁.setTop (mkF m 11 #[.val (.ref ao0), .val (.ref ao1), .val (.int (4 : Int32)), .val (.int (3 : Int32))] [(.int (3 : Int32)), (.ref ao0), (.int (3 : Int32)), (.ref ao0)])) (fun _ k => XS.iloadN X0.here hx rfl (hb hby d3_4) rfl (XS.ifNo X0.here hx rfl (hb hby d3_5) rfl ((if0 _ _).trans (flt (by decide +kernel : ¬ ((3 : Int32) < (0 : Int32)))).1) (XS.aloadN X0.here hx rfl (hb hby d3_8) rfl rfl (XS.iloadN X0.here hx rfl (hb hby d3_9) rfl (Jvm.Free.XT.dup2 X0.here hx rfl (hb hby d3_10) rfl rfl rfl k))))) ?_
  obtain ⟨cl1, Ar1, q1, Sz1, Nn1, Hh1, Gg1⟩ := id V_ao0
  have hin1 : ¬ ((3 : Int32) < 0 ∨ cl1.slots.size ≤ ((3 : Int32)).toNatClampNeg) := inb_of Sz1 ⟨by decide, by decide⟩
  refine own_go (x' := s₁.setTop (mkF m 12 #[.val (.ref ao0), .val (.ref ao1), .val (.int (4 : Int32)), .val (.int (3 : Int32))] [(.int d3), (.int (3 : Int32)), (.ref ao0)])) (X0.iaload hx (j := (3 : Int32)) (v := (.int d3)) (by rw [e0]; exact Ar1.1) (State.isArrayOf_alike hZ.alike Ar1.2.1) Ar1.2.2 hin1 (Hh1.at hin1 rfl) (g := (mkF m 11 #[.val (.ref ao0), .val (.ref ao1), .val (.int (4 : Int32)), .val (.int (3 : Int32))] [(.int (3 : Int32)), (.ref ao0), (.int (3 : Int32)), (.ref ao0)])) rfl rfl (hb hby d3_11)) ?_
  refine own_go (x' := s₁.setTop (mkF m 14 #[.val (.ref ao0), .val (.ref ao1), .val (.int (4 : Int32)), .val (.int (3 : Int32))] [(.int (d3 + (1 : Int32))), (.int (3 : Int32)), (.ref ao0)])) (fun _ k => XS.iconst X0.here hx rfl (hb hby d3_12) (XS.iadd X0.here hx rfl (hb hby d3_13) rfl k)) ?_
  obtain ⟨cl2, Ar2, q2, Sz2, Nn2, Hh2, Gg2⟩ := V_ao0
  have hin2 : ¬ ((3 : Int32) < 0 ∨ cl2.slots.size ≤ ((3 : Int32)).toNatClampNeg) := inb_of Sz2 ⟨by decide, by decide⟩
  obtain ⟨T2, h2, X2, e2, W2, st2⟩ := stI X0 hx hZ e0 Ar2 (j := (3 : Int32)) hin2 (g := (mkF m 14 #[.val (.ref ao0), .val (.ref ao1), .val (.int (4 : Int32)), .val (.int (3 : Int32))] [(.int (d3 + (1 : Int32))), (.int (3 : Int32)), (.ref ao0)])) rfl rfl (hb hby d3_14)
  refine own_go (x' := T2.setTop (mkF m 15 #[.val (.ref ao0), .val (.ref ao1), .val (.int (4 : Int32)), .val (.int (3 : Int32))] [])) st2 ?_
  replace V_ao1 := V_ao1.other W2 (Ne.symm ne_ao0_ao1)
  replace Zs := Nat.le_trans Zs (Keep.of_wr W2).1
  replace Nf := Fr.snoc X2 Nf g_ao0
  replace Kp := Kp.wr W2 (Or.inl (by simp))
  have V_ao0 : Arv Z h2 ao0 kd .int (4 : Int32) [(.int d0), (.int d1), (.int d2), (.int (d3 + (1 : Int32)))] (.int (0 : Int32)) := Arv.set Ar2 q2 Sz2 Nn2 Hh2 Gg2 rfl W2 3 rfl (Nat.le_of_ble_eq_true rfl)
  refine own_go (x' := T2.setTop (mkF m 17 #[.val (.ref ao0), .val (.ref ao1), .val (.int (4 : Int32)), .val (.int (3 : Int32))] [(.int (3 : Int32)), (.ref ao0)])) (fun _ k => XS.aloadN X2.here hx rfl (hb hby d3_15) rfl rfl (XS.iloadN X2.here hx rfl (hb hby d3_16) rfl k)) ?_
  obtain ⟨cl3, Ar3, q3, Sz3, Nn3, Hh3, Gg3⟩ := id V_ao0
  have hin3 : ¬ ((3 : Int32) < 0 ∨ cl3.slots.size ≤ ((3 : Int32)).toNatClampNeg) := inb_of Sz3 ⟨by decide, by decide⟩
  refine own_go (x' := T2.setTop (mkF m 18 #[.val (.ref ao0), .val (.ref ao1), .val (.int (4 : Int32)), .val (.int (3 : Int32))] [(.int (d3 + (1 : Int32)))])) (X2.iaload hx (j := (3 : Int32)) (v := (.int (d3 + (1 : Int32)))) (by rw [e2]; exact Ar3.1) (State.isArrayOf_alike hZ.alike Ar3.2.1) Ar3.2.2 hin3 (Hh3.at hin3 rfl) (g := (mkF m 17 #[.val (.ref ao0), .val (.ref ao1), .val (.int (4 : Int32)), .val (.int (3 : Int32))] [(.int (3 : Int32)), (.ref ao0)])) rfl rfl (hb hby d3_17)) ?_
  refine own_go (x' := T2.setTop (mkF m 20 #[.val (.ref ao0), .val (.ref ao1), .val (.int (4 : Int32)), .val (.int (3 : Int32))] [(.int (3 : Int32)), (.ref ao1), (.int (d3 + (1 : Int32)))])) (fun _ k => XS.aloadN X2.here hx rfl (hb hby d3_18) rfl rfl (XS.iloadN X2.here hx rfl (hb hby d3_19) rfl k)) ?_
  obtain ⟨cl4, Ar4, q4, Sz4, Nn4, Hh4, Gg4⟩ := id V_ao1
  have hin4 : ¬ ((3 : Int32) < 0 ∨ cl4.slots.size ≤ ((3 : Int32)).toNatClampNeg) := inb_of Sz4 ⟨by decide, by decide⟩
  refine own_go (x' := T2.setTop (mkF m 21 #[.val (.ref ao0), .val (.ref ao1), .val (.int (4 : Int32)), .val (.int (3 : Int32))] [(.int r3), (.int (d3 + (1 : Int32)))])) (X2.iaload hx (j := (3 : Int32)) (v := (.int r3)) (by rw [e2]; exact Ar4.1) (State.isArrayOf_alike hZ.alike Ar4.2.1) Ar4.2.2 hin4 (Hh4.at hin4 rfl) (g := (mkF m 20 #[.val (.ref ao0), .val (.ref ao1), .val (.int (4 : Int32)), .val (.int (3 : Int32))] [(.int (3 : Int32)), (.ref ao1), (.int (d3 + (1 : Int32)))])) rfl rfl (hb hby d3_20)) ?_
  by_cases hc21 : (d3 + (1 : Int32)) < r3
  · refine own_go (x' := T2.setTop (mkF m 25 #[.val (.ref ao0), .val (.ref ao1), .val (.int (4 : Int32)), .val (.int (3 : Int32))] [(.int (1 : Int32))])) (fun _ k => XS.icmpNo X2.here hx rfl (hb hby d3_21) rfl (tlt hc21).2.1 (XS.iconst X2.here hx rfl (hb hby d3_24) k)) ?_
    refine own_retN X2 hx hlk (t := .boolean) hret (by simp) (hb hby d3_25) (w := (1 : Int32)) rfl ?_ (by decide) (by decide)
    rw [e2]
    refine ⟨by simp only [own_adv_4_b, own_adv_4_0, own_adv_4_1, own_adv_4_2, own_adv_4_3, if_pos hc21], Nf, Kp, ?_⟩
    simp only [own_adv_4_b, own_adv_4_0, own_adv_4_1, own_adv_4_2, own_adv_4_3, if_pos hc21]
    exact V_ao0
  · refine own_go (x' := T2.setTop (mkF m 29 #[.val (.ref ao0), .val (.ref ao1), .val (.int (4 : Int32)), .val (.int (3 : Int32))] [(.int (0 : Int32)), (.int (3 : Int32)), (.ref ao0)])) (fun _ k => XS.icmpYes X2.here hx rfl (pc0 := 21) (pc' := 26) rfl (hb hby d3_21) rfl (flt hc21).2.1 (by decide) (by decide) (XS.aloadN X2.here hx rfl (hb hby d3_26) rfl rfl (XS.iloadN X2.here hx rfl (hb hby d3_27) rfl (XS.iconst X2.here hx rfl (hb hby d3_28) k)))) ?_
    obtain ⟨cl5, Ar5, q5, Sz5, Nn5, Hh5, Gg5⟩ := V_ao0
    have hin5 : ¬ ((3 : Int32) < 0 ∨ cl5.slots.size ≤ ((3 : Int32)).toNatClampNeg) := inb_of Sz5 ⟨by decide, by decide⟩
    obtain ⟨T5, h5, X5, e5, W5, st5⟩ := stI X2 hx hZ e2 Ar5 (j := (3 : Int32)) hin5 (g := (mkF m 29 #[.val (.ref ao0), .val (.ref ao1), .val (.int (4 : Int32)), .val (.int (3 : Int32))] [(.int (0 : Int32)), (.int (3 : Int32)), (.ref ao0)])) rfl rfl (hb hby d3_29)
    refine own_go (x' := T5.setTop (mkF m 30 #[.val (.ref ao0), .val (.ref ao1), .val (.int (4 : Int32)), .val (.int (3 : Int32))] [])) st5 ?_
    replace V_ao1 := V_ao1.other W5 (Ne.symm ne_ao0_ao1)
    replace Zs := Nat.le_trans Zs (Keep.of_wr W5).1
    replace Nf := Fr.snoc X5 Nf g_ao0
    replace Kp := Kp.wr W5 (Or.inl (by simp))
    have V_ao0 : Arv Z h5 ao0 kd .int (4 : Int32) [(.int d0), (.int d1), (.int d2), (.int (0 : Int32))] (.int (0 : Int32)) := Arv.set Ar5 q5 Sz5 Nn5 Hh5 Gg5 rfl W5 3 rfl (Nat.le_of_ble_eq_true rfl)
    refine own_go (x' := T5.setTop (mkF m 4 #[.val (.ref ao0), .val (.ref ao1), .val (.int (4 : Int32)), .val (.int ((3 : Int32) + (-1 : Int32)))] [])) (fun _ k => XS.iinc X5.here hx rfl (hb hby d3_30) rfl (l' := #[.val (.ref ao0), .val (.ref ao1), .val (.int (4 : Int32)), .val (.int ((3 : Int32) + (-1 : Int32)))]) rfl (XS.goto X5.here hx rfl (pc0 := 33) (pc' := 4) rfl (hb hby d3_33) (by decide) (by decide) k)) ?_
    rw [show ((3 : Int32) + (-1 : Int32)) = (2 : Int32) from by decide +kernel]
    refine own_go (x' := T5.setTop (mkF m 11 #[.val (.ref ao0), .val (.ref ao1), .val (.int (4 : Int32)), .val (.int (2 : Int32))] [(.int (2 : Int32)), (.ref ao0), (.int (2 : Int32)), (.ref ao0)])) (fun _ k => XS.iloadN X5.here hx rfl (hb hby d3_4) rfl (XS.ifNo X5.here hx rfl (hb hby d3_5) rfl ((if0 _ _).trans (flt (by decide +kernel : ¬ ((2 : Int32) < (0 : Int32)))).1) (XS.aloadN X5.here hx rfl (hb hby d3_8) rfl rfl (XS.iloadN X5.here hx rfl (hb hby d3_9) rfl (Jvm.Free.XT.dup2 X5.here hx rfl (hb hby d3_10) rfl rfl rfl k))))) ?_
    obtain ⟨cl6, Ar6, q6, Sz6, Nn6, Hh6, Gg6⟩ := id V_ao0
    have hin6 : ¬ ((2 : Int32) < 0 ∨ cl6.slots.size ≤ ((2 : Int32)).toNatClampNeg) := inb_of Sz6 ⟨by decide, by decide⟩
    refine own_go (x' := T5.setTop (mkF m 12 #[.val (.ref ao0), .val (.ref ao1), .val (.int (4 : Int32)), .val (.int (2 : Int32))] [(.int d2), (.int (2 : Int32)), (.ref ao0)])) (X5.iaload hx (j := (2 : Int32)) (v := (.int d2)) (by rw [e5]; exact Ar6.1) (State.isArrayOf_alike hZ.alike Ar6.2.1) Ar6.2.2 hin6 (Hh6.at hin6 rfl) (g := (mkF m 11 #[.val (.ref ao0), .val (.ref ao1), .val (.int (4 : Int32)), .val (.int (2 : Int32))] [(.int (2 : Int32)), (.ref ao0), (.int (2 : Int32)), (.ref ao0)])) rfl rfl (hb hby d3_11)) ?_
    refine own_go (x' := T5.setTop (mkF m 14 #[.val (.ref ao0), .val (.ref ao1), .val (.int (4 : Int32)), .val (.int (2 : Int32))] [(.int (d2 + (1 : Int32))), (.int (2 : Int32)), (.ref ao0)])) (fun _ k => XS.iconst X5.here hx rfl (hb hby d3_12) (XS.iadd X5.here hx rfl (hb hby d3_13) rfl k)) ?_
    obtain ⟨cl7, Ar7, q7, Sz7, Nn7, Hh7, Gg7⟩ := V_ao0
    have hin7 : ¬ ((2 : Int32) < 0 ∨ cl7.slots.size ≤ ((2 : Int32)).toNatClampNeg) := inb_of Sz7 ⟨by decide, by decide⟩
    obtain ⟨T7, h7, X7, e7, W7, st7⟩ := stI X5 hx hZ e5 Ar7 (j := (2 : Int32)) hin7 (g := (mkF m 14 #[.val (.ref ao0), .val (.ref ao1), .val (.int (4 : Int32)), .val (.int (2 : Int32))] [(.int (d2 + (1 : Int32))), (.int (2 : Int32)), (.ref ao0)])) rfl rfl (hb hby d3_14)
    refine own_go (x' := T7.setTop (mkF m 15 #[.val (.ref ao0), .val (.ref ao1), .val (.int (4 : Int32)), .val (.int (2 : Int32))] [])) st7 ?_
    replace V_ao1 := V_ao1.other W7 (Ne.symm ne_ao0_ao1)
    replace Zs := Nat.le_trans Zs (Keep.of_wr W7).1
    replace Nf := Fr.snoc X7 Nf g_ao0
    replace Kp := Kp.wr W7 (Or.inl (by simp))
    have V_ao0 : Arv Z h7 ao0 kd .int (4 : Int32) [(.int d0), (.int d1), (.int (d2 + (1 : Int32))), (.int (0 : Int32))] (.int (0 : Int32)) := Arv.set Ar7 q7 Sz7 Nn7 Hh7 Gg7 rfl W7 2 rfl (Nat.le_of_ble_eq_true rfl)
    refine own_go (x' := T7.setTop (mkF m 17 #[.val (.ref ao0), .val (.ref ao1), .val (.int (4 : Int32)), .val (.int (2 : Int32))] [(.int (2 : Int32)), (.ref ao0)])) (fun _ k => XS.aloadN X7.here hx rfl (hb hby d3_15) rfl rfl (XS.iloadN X7.here hx rfl (hb hby d3_16) rfl k)) ?_
    obtain ⟨cl8, Ar8, q8, Sz8, Nn8, Hh8, Gg8⟩ := id V_ao0
    have hin8 : ¬ ((2 : Int32) < 0 ∨ cl8.slots.size ≤ ((2 : Int32)).toNatClampNeg) := inb_of Sz8 ⟨by decide, by decide⟩
    refine own_go (x' := T7.setTop (mkF m 18 #[.val (.ref ao0), .val (.ref ao1), .val (.int (4 : Int32)), .val (.int (2 : Int32))] [(.int (d2 + (1 : Int32)))])) (X7.iaload hx (j := (2 : Int32)) (v := (.int (d2 + (1 : Int32)))) (by rw [e7]; exact Ar8.1) (State.isArrayOf_alike hZ.alike Ar8.2.1) Ar8.2.2 hin8 (Hh8.at hin8 rfl) (g := (mkF m 17 #[.val (.ref ao0), .val (.ref ao1), .val (.int (4 : Int32)), .val (.int (2 : Int32))] [(.int (2 : Int32)), (.ref ao0)])) rfl rfl (hb hby d3_17)) ?_
    refine own_go (x' := T7.setTop (mkF m 20 #[.val (.ref ao0), .val (.ref ao1), .val (.int (4 : Int32)), .val (.int (2 : Int32))] [(.int (2 : Int32)), (.ref ao1), (.int (d2 + (1 : Int32)))])) (fun _ k => XS.aloadN X7.here hx rfl (hb hby d3_18) rfl rfl (XS.iloadN X7.here hx rfl (hb hby d3_19) rfl k)) ?_
    obtain ⟨cl9, Ar9, q9, Sz9, Nn9, Hh9, Gg9⟩ := id V_ao1
    have hin9 : ¬ ((2 : Int32) < 0 ∨ cl9.slots.size ≤ ((2 : Int32)).toNatClampNeg) := inb_of Sz9 ⟨by decide, by decide⟩
    refine own_go (x' := T7.setTop (mkF m 21 #[.val (.ref ao0), .val (.ref ao1), .val (.int (4 : Int32)), .val (.int (2 : Int32))] [(.int r2), (.int (d2 + (1 : Int32)))])) (X7.iaload hx (j := (2 : Int32)) (v := (.int r2)) (by rw [e7]; exact Ar9.1) (State.isArrayOf_alike hZ.alike Ar9.2.1) Ar9.2.2 hin9 (Hh9.at hin9 rfl) (g := (mkF m 20 #[.val (.ref ao0), .val (.ref ao1), .val (.int (4 : Int32)), .val (.int (2 : Int32))] [(.int (2 : Int32)), (.ref ao1), (.int (d2 + (1 : Int32)))])) rfl rfl (hb hby d3_20)) ?_
    by_cases hc21_10 : (d2 + (1 : Int32)) < r2
    · refine own_go (x' := T7.setTop (mkF m 25 #[.val (.ref ao0), .val (.ref ao1), .val (.int (4 : Int32)), .val (.int (2 : Int32))] [(.int (1 : Int32))])) (fun _ k => XS.icmpNo X7.here hx rfl (hb hby d3_21) rfl (tlt hc21_10).2.1 (XS.iconst X7.here hx rfl (hb hby d3_24) k)) ?_
      refine own_retN X7 hx hlk (t := .boolean) hret (by simp) (hb hby d3_25) (w := (1 : Int32)) rfl ?_ (by decide) (by decide)
      rw [e7]
      refine ⟨by simp only [own_adv_4_b, own_adv_4_0, own_adv_4_1, own_adv_4_2, own_adv_4_3, if_neg hc21, if_pos hc21_10], Nf, Kp, ?_⟩
      simp only [own_adv_4_b, own_adv_4_0, own_adv_4_1, own_adv_4_2, own_adv_4_3, if_neg hc21, if_pos hc21_10]
      exact V_ao0
    · refine own_go (x' := T7.setTop (mkF m 29 #[.val (.ref ao0), .val (.ref ao1), .val (.int (4 : Int32)), .val (.int (2 : Int32))] [(.int (0 : Int32)), (.int (2 : Int32)), (.ref ao0)])) (fun _ k => XS.icmpYes X7.here hx rfl (pc0 := 21) (pc' := 26) rfl (hb hby d3_21) rfl (flt hc21_10).2.1 (by decide) (by decide) (XS.aloadN X7.here hx rfl (hb hby d3_26) rfl rfl (XS.iloadN X7.here hx rfl (hb hby d3_27) rfl (XS.iconst X7.here hx rfl (hb hby d3_28) k)))) ?_
      obtain ⟨cl11, Ar11, q11, Sz11, Nn11, Hh11, Gg11⟩ := V_ao0
      have hin11 : ¬ ((2 : Int32) < 0 ∨ cl11.slots.size ≤ ((2 : Int32)).toNatClampNeg) := inb_of Sz11 ⟨by decide, by decide⟩
      obtain ⟨T11, h11, X11, e11, W11, st11⟩ := stI X7 hx hZ e7 Ar11 (j := (2 : Int32)) hin11 (g := (mkF m 29 #[.val (.ref ao0), .val (.ref ao1), .val (.int (4 : Int32)), .val (.int (2 : Int32))] [(.int (0 : Int32)), (.int (2 : Int32)), (.ref ao0)])) rfl rfl (hb hby d3_29)
      refine own_go (x' := T11.setTop (mkF m 30 #[.val (.ref ao0), .val (.ref ao1), .val (.int (4 : Int32)), .val (.int (2 : Int32))] [])) st11 ?_
      replace V_ao1 := V_ao1.other W11 (Ne.symm ne_ao0_ao1)
      replace Zs := Nat.le_trans Zs (Keep.of_wr W11).1
      replace Nf := Fr.snoc X11 Nf g_ao0
      replace Kp := Kp.wr W11 (Or.inl (by simp))
      have V_ao0 : Arv Z h11 ao0 kd .int (4 : Int32) [(.int d0), (.int d1), (.int (0 : Int32)), (.int (0 : Int32))] (.int (0 : Int32)) := Arv.set Ar11 q11 Sz11 Nn11 Hh11 Gg11 rfl W11 2 rfl (Nat.le_of_ble_eq_true rfl)
      refine own_go (x' := T11.setTop (mkF m 4 #[.val (.ref ao0), .val (.ref ao1), .val (.int (4 : Int32)), .val (.int ((2 : Int32) + (-1 : Int32)))] [])) (fun _ k => XS.iinc X11.here hx rfl (hb hby d3_30) rfl (l' := #[.val (.ref ao0), .val (.ref ao1), .val (.int (4 : Int32)), .val (.int ((2 : Int32) + (-1 : Int32)))]) rfl (XS.goto X11.here hx rfl (pc0 := 33) (pc' := 4) rfl (hb hby d3_33) (by decide) (by decide) k)) ?_
      rw [show ((2 : Int32) + (-1 : Int32)) = (1 : Int32) from by decide +kernel]
      refine own_go (x' := T11.setTop (mkF m 11 #[.val (.ref ao0), .val (.ref ao1), .val (.int (4 : Int32)), .val (.int (1 : Int32))] [(.int (1 : Int32)), (.ref ao0), (.int (1 : Int32)), (.ref ao0)])) (fun _ k => XS.iloadN X11.here hx rfl (hb hby d3_4) rfl (XS.ifNo X11.here hx rfl (hb hby d3_5) rfl ((if0 _ _).trans (flt (by decide +kernel : ¬ ((1 : Int32) < (0 : Int32)))).1) (XS.aloadN X11.here hx rfl (hb hby d3_8) rfl rfl (XS.iloadN X11.here hx rfl (hb hby d3_9) rfl (Jvm.Free.XT.dup2 X11.here hx rfl (hb hby d3_10) rfl rfl rfl k))))) ?_
      obtain ⟨cl12, Ar12, q12, Sz12, Nn12, Hh12, Gg12⟩ := id V_ao0
      have hin12 : ¬ ((1 : Int32) < 0 ∨ cl12.slots.size ≤ ((1 : Int32)).toNatClampNeg) := inb_of Sz12 ⟨by decide, by decide⟩
      refine own_go (x' := T11.setTop (mkF m 12 #[.val (.ref ao0), .val (.ref ao1), .val (.int (4 : Int32)), .val (.int (1 : Int32))] [(.int d1), (.int (1 : Int32)), (.ref ao0)])) (X11.iaload hx (j := (1 : Int32)) (v := (.int d1)) (by rw [e11]; exact Ar12.1) (State.isArrayOf_alike hZ.alike Ar12.2.1) Ar12.2.2 hin12 (Hh12.at hin12 rfl) (g := (mkF m 11 #[.val (.ref ao0), .val (.ref ao1), .val (.int (4 : Int32)), .val (.int (1 : Int32))] [(.int (1 : Int32)), (.ref ao0), (.int (1 : Int32)), (.ref ao0)])) rfl rfl (hb hby d3_11)) ?_
      refine own_go (x' := T11.setTop (mkF m 14 #[.val (.ref ao0), .val (.ref ao1), .val (.int (4 : Int32)), .val (.int (1 : Int32))] [(.int (d1 + (1 : Int32))), (.int (1 : Int32)), (.ref ao0)])) (fun _ k => XS.iconst X11.here hx rfl (hb hby d3_12) (XS.iadd X11.here hx rfl (hb hby d3_13) rfl k)) ?_
      obtain ⟨cl13, Ar13, q13, Sz13, Nn13, Hh13, Gg13⟩ := V_ao0
      have hin13 : ¬ ((1 : Int32) < 0 ∨ cl13.slots.size ≤ ((1 : Int32)).toNatClampNeg) := inb_of Sz13 ⟨by decide, by decide⟩
      obtain ⟨T13, h13, X13, e13, W13, st13⟩ := stI X11 hx hZ e11 Ar13 (j := (1 : Int32)) hin13 (g := (mkF m 14 #[.val (.ref ao0), .val (.ref ao1), .val (.int (4 : Int32)), .val (.int (1 : Int32))] [(.int (d1 + (1 : Int32))), (.int (1 : Int32)), (.ref ao0)])) rfl rfl (hb hby d3_14)
      refine own_go (x' := T13.setTop (mkF m 15 #[.val (.ref ao0), .val (.ref ao1), .val (.int (4 : Int32)), .val (.int (1 : Int32))] [])) st13 ?_
      replace V_ao1 := V_ao1.other W13 (Ne.symm ne_ao0_ao1)
      replace Zs := Nat.le_trans Zs (Keep.of_wr W13).1
      replace Nf := Fr.snoc X13 Nf g_ao0
      replace Kp := Kp.wr W13 (Or.inl (by simp))
      have V_ao0 : Arv Z h13 ao0 kd .int (4 : Int32) [(.int d0), (.int (d1 + (1 : Int32))), (.int (0 : Int32)), (.int (0 : Int32))] (.int (0 : Int32)) := Arv.set Ar13 q13 Sz13 Nn13 Hh13 Gg13 rfl W13 1 rfl (Nat.le_of_ble_eq_true rfl)
      refine own_go (x' := T13.setTop (mkF m 17 #[.val (.ref ao0), .val (.ref ao1), .val (.int (4 : Int32)), .val (.int (1 : Int32))] [(.int (1 : Int32)), (.ref ao0)])) (fun _ k => XS.aloadN X13.here hx rfl (hb hby d3_15) rfl rfl (XS.iloadN X13.here hx rfl (hb hby d3_16) rfl k)) ?_
      obtain ⟨cl14, Ar14, q14, Sz14, Nn14, Hh14, Gg14⟩ := id V_ao0
      have hin14 : ¬ ((1 : Int32) < 0 ∨ cl14.slots.size ≤ ((1 : Int32)).toNatClampNeg) := inb_of Sz14 ⟨by decide, by decide⟩
      refine own_go (x' := T13.setTop (mkF m 18 #[.val (.ref ao0), .val (.ref ao1), .val (.int (4 : Int32)), .val (.int (1 : Int32))] [(.int (d1 + (1 : Int32)))])) (X13.iaload hx (j := (1 : Int32)) (v := (.int (d1 + (1 : Int32)))) (by rw [e13]; exact Ar14.1) (State.isArrayOf_alike hZ.alike Ar14.2.1) Ar14.2.2 hin14 (Hh14.at hin14 rfl) (g := (mkF m 17 #[.val (.ref ao0), .val (.ref ao1), .val (.int (4 : Int32)), .val (.int (1 : Int32))] [(.int (1 : Int32)), (.ref ao0)])) rfl rfl (hb hby d3_17)) ?_
      refine own_go (x' := T13.setTop (mkF m 20 #[.val (.ref ao0), .val (.ref ao1), .val (.int (4 : Int32)), .val (.int (1 : Int32))] [(.int (1 : Int32)), (.ref ao1), (.int (d1 + (1 : Int32)))])) (fun _ k => XS.aloadN X13.here hx rfl (hb hby d3_18) rfl rfl (XS.iloadN X13.here hx rfl (hb hby d3_19) rfl k)) ?_
      obtain ⟨cl15, Ar15, q15, Sz15, Nn15, Hh15, Gg15⟩ := id V_ao1
      have hin15 : ¬ ((1 : Int32) < 0 ∨ cl15.slots.size ≤ ((1 : Int32)).toNatClampNeg) := inb_of Sz15 ⟨by decide, by decide⟩
      refine own_go (x' := T13.setTop (mkF m 21 #[.val (.ref ao0), .val (.ref ao1), .val (.int (4 : Int32)), .val (.int (1 : Int32))] [(.int r1), (.int (d1 + (1 : Int32)))])) (X13.iaload hx (j := (1 : Int32)) (v := (.int r1)) (by rw [e13]; exact Ar15.1) (State.isArrayOf_alike hZ.alike Ar15.2.1) Ar15.2.2 hin15 (Hh15.at hin15 rfl) (g := (mkF m 20 #[.val (.ref ao0), .val (.ref ao1), .val (.int (4 : Int32)), .val (.int (1 : Int32))] [(.int (1 : Int32)), (.ref ao1), (.int (d1 + (1 : Int32)))])) rfl rfl (hb hby d3_20)) ?_
      by_cases hc21_16 : (d1 + (1 : Int32)) < r1
      · refine own_go (x' := T13.setTop (mkF m 25 #[.val (.ref ao0), .val (.ref ao1), .val (.int (4 : Int32)), .val (.int (1 : Int32))] [(.int (1 : Int32))])) (fun _ k => XS.icmpNo X13.here hx rfl (hb hby d3_21) rfl (tlt hc21_16).2.1 (XS.iconst X13.here hx rfl (hb hby d3_24) k)) ?_
        refine own_retN X13 hx hlk (t := .boolean) hret (by simp) (hb hby d3_25) (w := (1 : Int32)) rfl ?_ (by decide) (by decide)
        rw [e13]
        refine ⟨by simp only [own_adv_4_b, own_adv_4_0, own_adv_4_1, own_adv_4_2, own_adv_4_3, if_neg hc21, if_neg hc21_10, if_pos hc21_16], Nf, Kp, ?_⟩
        simp only [own_adv_4_b, own_adv_4_0, own_adv_4_1, own_adv_4_2, own_adv_4_3, if_neg hc21, if_neg hc21_10, if_pos hc21_16]
        exact V_ao0
      · refine own_go (x' := T13.setTop (mkF m 29 #[.val (.ref ao0), .val (.ref ao1), .val (.int (4 : Int32)), .val (.int (1 : Int32))] [(.int (0 : Int32)), (.int (1 : Int32)), (.ref ao0)])) (fun _ k => XS.icmpYes X13.here hx rfl (pc0 := 21) (pc' := 26) rfl (hb hby d3_21) rfl (flt hc21_16).2.1 (by decide) (by decide) (XS.aloadN X13.here hx rfl (hb hby d3_26) rfl rfl (XS.iloadN X13.here hx rfl (hb hby d3_27) rfl (XS.iconst X13.here hx rfl (hb hby d3_28) k)))) ?_
        obtain ⟨cl17, Ar17, q17, Sz17, Nn17, Hh17, Gg17⟩ := V_ao0
        have hin17 : ¬ ((1 : Int32) < 0 ∨ cl17.slots.size ≤ ((1 : Int32)).toNatClampNeg) := inb_of Sz17 ⟨by decide, by decide⟩
        obtain ⟨T17, h17, X17, e17, W17, st17⟩ := stI X13 hx hZ e13 Ar17 (j := (1 : Int32)) hin17 (g := (mkF m 29 #[.val (.ref ao0), .val (.ref ao1), .val (.int (4 : Int32)), .val (.int (1 : Int32))] [(.int (0 : Int32)), (.int (1 : Int32)), (.ref ao0)])) rfl rfl (hb hby d3_29)
        refine own_go (x' := T17.setTop (mkF m 30 #[.val (.ref ao0), .val (.ref ao1), .val (.int (4 : Int32)), .val (.int (1 : Int32))] [])) st17 ?_
        replace V_ao1 := V_ao1.other W17 (Ne.symm ne_ao0_ao1)
        replace Zs := Nat.le_trans Zs (Keep.of_wr W17).1
        replace Nf := Fr.snoc X17 Nf g_ao0
        replace Kp := Kp.wr W17 (Or.inl (by simp))
        have V_ao0 : Arv Z h17 ao0 kd .int (4 : Int32) [(.int d0), (.int (0 : Int32)), (.int (0 : Int32)), (.int (0 : Int32))] (.int (0 : Int32)) := Arv.set Ar17 q17 Sz17 Nn17 Hh17 Gg17 rfl W17 1 rfl (Nat.le_of_ble_eq_true rfl)
        refine own_go (x' := T17.setTop (mkF m 4 #[.val (.ref ao0), .val (.ref ao1), .val (.int (4 : Int32)), .val (.int ((1 : Int32) + (-1 : Int32)))] [])) (fun _ k => XS.iinc X17.here hx rfl (hb hby d3_30) rfl (l' := #[.val (.ref ao0), .val (.ref ao1), .val (.int (4 : Int32)), .val (.int ((1 : Int32) + (-1 : Int32)))]) rfl (XS.goto X17.here hx rfl (pc0 := 33) (pc' := 4) rfl (hb hby d3_33) (by decide) (by decide) k)) ?_
        rw [show ((1 : Int32) + (-1 : Int32)) = (0 : Int32) from by decide +kernel]
        refine own_go (x' := T17.setTop (mkF m 11 #[.val (.ref ao0), .val (.ref ao1), .val (.int (4 : Int32)), .val (.int (0 : Int32))] [(.int (0 : Int32)), (.ref ao0), (.int (0 : Int32)), (.ref ao0)])) (fun _ k => XS.iloadN X17.here hx rfl (hb hby d3_4) rfl (XS.ifNo X17.here hx rfl (hb hby d3_5) rfl ((if0 _ _).trans (flt (Int32.lt_irrefl)).1) (XS.aloadN X17.here hx rfl (hb hby d3_8) rfl rfl (XS.iloadN X17.here hx rfl (hb hby d3_9) rfl (Jvm.Free.XT.dup2 X17.here hx rfl (hb hby d3_10) rfl rfl rfl k))))) ?_
        obtain ⟨cl18, Ar18, q18, Sz18, Nn18, Hh18, Gg18⟩ := id V_ao0
        have hin18 : ¬ ((0 : Int32) < 0 ∨ cl18.slots.size ≤ ((0 : Int32)).toNatClampNeg) := inb_of Sz18 ⟨by decide, by decide⟩
        refine own_go (x' := T17.setTop (mkF m 12 #[.val (.ref ao0), .val (.ref ao1), .val (.int (4 : Int32)), .val (.int (0 : Int32))] [(.int d0), (.int (0 : Int32)), (.ref ao0)])) (X17.iaload hx (j := (0 : Int32)) (v := (.int d0)) (by rw [e17]; exact Ar18.1) (State.isArrayOf_alike hZ.alike Ar18.2.1) Ar18.2.2 hin18 (Hh18.at hin18 rfl) (g := (mkF m 11 #[.val (.ref ao0), .val (.ref ao1), .val (.int (4 : Int32)), .val (.int (0 : Int32))] [(.int (0 : Int32)), (.ref ao0), (.int (0 : Int32)), (.ref ao0)])) rfl rfl (hb hby d3_11)) ?_
        refine own_go (x' := T17.setTop (mkF m 14 #[.val (.ref ao0), .val (.ref ao1), .val (.int (4 : Int32)), .val (.int (0 : Int32))] [(.int (d0 + (1 : Int32))), (.int (0 : Int32)), (.ref ao0)])) (fun _ k => XS.iconst X17.here hx rfl (hb hby d3_12) (XS.iadd X17.here hx rfl (hb hby d3_13) rfl k)) ?_
        obtain ⟨cl19, Ar19, q19, Sz19, Nn19, Hh19, Gg19⟩ := V_ao0
        have hin19 : ¬ ((0 : Int32) < 0 ∨ cl19.slots.size ≤ ((0 : Int32)).toNatClampNeg) := inb_of Sz19 ⟨by decide, by decide⟩
        obtain ⟨T19, h19, X19, e19, W19, st19⟩ := stI X17 hx hZ e17 Ar19 (j := (0 : Int32)) hin19 (g := (mkF m 14 #[.val (.ref ao0), .val (.ref ao1), .val (.int (4 : Int32)), .val (.int (0 : Int32))] [(.int (d0 + (1 : Int32))), (.int (0 : Int32)), (.ref ao0)])) rfl rfl (hb hby d3_14)
        refine own_go (x' := T19.setTop (mkF m 15 #[.val (.ref ao0), .val (.ref ao1), .val (.int (4 : Int32)), .val (.int (0 : Int32))] [])) st19 ?_
        replace V_ao1 := V_ao1.other W19 (Ne.symm ne_ao0_ao1)
        replace Zs := Nat.le_trans Zs (Keep.of_wr W19).1
        replace Nf := Fr.snoc X19 Nf g_ao0
        replace Kp := Kp.wr W19 (Or.inl (by simp))
        have V_ao0 : Arv Z h19 ao0 kd .int (4 : Int32) [(.int (d0 + (1 : Int32))), (.int (0 : Int32)), (.int (0 : Int32)), (.int (0 : Int32))] (.int (0 : Int32)) := Arv.set Ar19 q19 Sz19 Nn19 Hh19 Gg19 rfl W19 0 rfl (Nat.le_of_ble_eq_true rfl)
        refine own_go (x' := T19.setTop (mkF m 17 #[.val (.ref ao0), .val (.ref ao1), .val (.int (4 : Int32)), .val (.int (0 : Int32))] [(.int (0 : Int32)), (.ref ao0)])) (fun _ k => XS.aloadN X19.here hx rfl (hb hby d3_15) rfl rfl (XS.iloadN X19.here hx rfl (hb hby d3_16) rfl k)) ?_
        obtain ⟨cl20, Ar20, q20, Sz20, Nn20, Hh20, Gg20⟩ := id V_ao0
        have hin20 : ¬ ((0 : Int32) < 0 ∨ cl20.slots.size ≤ ((0 : Int32)).toNatClampNeg) := inb_of Sz20 ⟨by decide, by decide⟩
        refine own_go (x' := T19.setTop (mkF m 18 #[.val (.ref ao0), .val (.ref ao1), .val (.int (4 : Int32)), .val (.int (0 : Int32))] [(.int (d0 + (1 : Int32)))])) (X19.iaload hx (j := (0 : Int32)) (v := (.int (d0 + (1 : Int32)))) (by rw [e19]; exact Ar20.1) (State.isArrayOf_alike hZ.alike Ar20.2.1) Ar20.2.2 hin20 (Hh20.at hin20 rfl) (g := (mkF m 17 #[.val (.ref ao0), .val (.ref ao1), .val (.int (4 : Int32)), .val (.int (0 : Int32))] [(.int (0 : Int32)), (.ref ao0)])) rfl rfl (hb hby d3_17)) ?_
        refine own_go (x' := T19.setTop (mkF m 20 #[.val (.ref ao0), .val (.ref ao1), .val (.int (4 : Int32)), .val (.int (0 : Int32))] [(.int (0 : Int32)), (.ref ao1), (.int (d0 + (1 : Int32)))])) (fun _ k => XS.aloadN X19.here hx rfl (hb hby d3_18) rfl rfl (XS.iloadN X19.here hx rfl (hb hby d3_19) rfl k)) ?_
        obtain ⟨cl21, Ar21, q21, Sz21, Nn21, Hh21, Gg21⟩ := id V_ao1
        have hin21 : ¬ ((0 : Int32) < 0 ∨ cl21.slots.size ≤ ((0 : Int32)).toNatClampNeg) := inb_of Sz21 ⟨by decide, by decide⟩
        refine own_go (x' := T19.setTop (mkF m 21 #[.val (.ref ao0), .val (.ref ao1), .val (.int (4 : Int32)), .val (.int (0 : Int32))] [(.int r0), (.int (d0 + (1 : Int32)))])) (X19.iaload hx (j := (0 : Int32)) (v := (.int r0)) (by rw [e19]; exact Ar21.1) (State.isArrayOf_alike hZ.alike Ar21.2.1) Ar21.2.2 hin21 (Hh21.at hin21 rfl) (g := (mkF m 20 #[.val (.ref ao0), .val (.ref ao1), .val (.int (4 : Int32)), .val (.int (0 : Int32))] [(.int (0 : Int32)), (.ref ao1), (.int (d0 + (1 : Int32)))])) rfl rfl (hb hby d3_20)) ?_
        by_cases hc21_22 : (d0 + (1 : Int32)) < r0
        · refine own_go (x' := T19.setTop (mkF m 25 #[.val (.ref ao0), .val (.ref ao1), .val (.int (4 : Int32)), .val (.int (0 : Int32))] [(.int (1 : Int32))])) (fun _ k => XS.icmpNo X19.here hx rfl (hb hby d3_21) rfl (tlt hc21_22).2.1 (XS.iconst X19.here hx rfl (hb hby d3_24) k)) ?_
          refine own_retN X19 hx hlk (t := .boolean) hret (by simp) (hb hby d3_25) (w := (1 : Int32)) rfl ?_ (by decide) (by decide)
          rw [e19]
          refine ⟨by simp only [own_adv_4_b, own_adv_4_0, own_adv_4_1, own_adv_4_2, own_adv_4_3, if_neg hc21, if_neg hc21_10, if_neg hc21_16, if_pos hc21_22], Nf, Kp, ?_⟩
          simp only [own_adv_4_b, own_adv_4_0, own_adv_4_1, own_adv_4_2, own_adv_4_3, if_neg hc21, if_neg hc21_10, if_neg hc21_16, if_pos hc21_22]
          exact V_ao0
        · refine own_go (x' := T19.setTop (mkF m 29 #[.val (.ref ao0), .val (.ref ao1), .val (.int (4 : Int32)), .val (.int (0 : Int32))] [(.int (0 : Int32)), (.int (0 : Int32)), (.ref ao0)])) (fun _ k => XS.icmpYes X19.here hx rfl (pc0 := 21) (pc' := 26) rfl (hb hby d3_21) rfl (flt hc21_22).2.1 (by decide) (by decide) (XS.aloadN X19.here hx rfl (hb hby d3_26) rfl rfl (XS.iloadN X19.here hx rfl (hb hby d3_27) rfl (XS.iconst X19.here hx rfl (hb hby d3_28) k)))) ?_
          obtain ⟨cl23, Ar23, q23, Sz23, Nn23, Hh23, Gg23⟩ := V_ao0
          have hin23 : ¬ ((0 : Int32) < 0 ∨ cl23.slots.size ≤ ((0 : Int32)).toNatClampNeg) := inb_of Sz23 ⟨by decide, by decide⟩
          obtain ⟨T23, h23, X23, e23, W23, st23⟩ := stI X19 hx hZ e19 Ar23 (j := (0 : Int32)) hin23 (g := (mkF m 29 #[.val (.ref ao0), .val (.ref ao1), .val (.int (4 : Int32)), .val (.int (0 : Int32))] [(.int (0 : Int32)), (.int (0 : Int32)), (.ref ao0)])) rfl rfl (hb hby d3_29)
          refine own_go (x' := T23.setTop (mkF m 30 #[.val (.ref ao0), .val (.ref ao1), .val (.int (4 : Int32)), .val (.int (0 : Int32))] [])) st23 ?_
          replace V_ao1 := V_ao1.other W23 (Ne.symm ne_ao0_ao1)
          replace Zs := Nat.le_trans Zs (Keep.of_wr W23).1
          replace Nf := Fr.snoc X23 Nf g_ao0
          replace Kp := Kp.wr W23 (Or.inl (by simp))
          have V_ao0 : Arv Z h23 ao0 kd .int (4 : Int32) [(.int (0 : Int32)), (.int (0 : Int32)), (.int (0 : Int32)), (.int (0 : Int32))] (.int (0 : Int32)) := Arv.set Ar23 q23 Sz23 Nn23 Hh23 Gg23 rfl W23 0 rfl (Nat.le_of_ble_eq_true rfl)
          refine own_go (x' := T23.setTop (mkF m 4 #[.val (.ref ao0), .val (.ref ao1), .val (.int (4 : Int32)), .val (.int ((0 : Int32) + (-1 : Int32)))] [])) (fun _ k => XS.iinc X23.here hx rfl (hb hby d3_30) rfl (l' := #[.val (.ref ao0), .val (.ref ao1), .val (.int (4 : Int32)), .val (.int ((0 : Int32) + (-1 : Int32)))]) rfl (XS.goto X23.here hx rfl (pc0 := 33) (pc' := 4) rfl (hb hby d3_33) (by decide) (by decide) k)) ?_
          rw [show ((0 : Int32) + (-1 : Int32)) = (-1 : Int32) from by decide +kernel]
          refine own_go (x' := T23.setTop (mkF m 37 #[.val (.ref ao0), .val (.ref ao1), .val (.int (4 : Int32)), .val (.int (-1 : Int32))] [(.int (0 : Int32))])) (fun _ k => XS.iloadN X23.here hx rfl (hb hby d3_4) rfl (XS.ifYes X23.here hx rfl (pc0 := 5) (pc' := 36) rfl (hb hby d3_5) rfl ((if0 _ _).trans (tlt (by decide +kernel : ((-1 : Int32) < (0 : Int32)))).1) (by decide) (by decide) (XS.iconst X23.here hx rfl (hb hby d3_36) k))) ?_
          refine own_retN X23 hx hlk (t := .boolean) hret (by simp) (hb hby d3_37) (w := (0 : Int32)) rfl ?_ (by decide) (by decide)
          rw [e23]
          refine ⟨by simp only [own_adv_4_b, own_adv_4_0, own_adv_4_1, own_adv_4_2, own_adv_4_3, if_neg hc21, if_neg hc21_10, if_neg hc21_16, if_neg hc21_22], Nf, Kp, ?_⟩
          simp only [own_adv_4_b, own_adv_4_0, own_adv_4_1, own_adv_4_2, own_adv_4_3, if_neg hc21, if_neg hc21_10, if_neg hc21_16, if_neg hc21_22]
          exact V_ao0
def own_dok_0_4 (d0 r0 p4 : Int32) : Int32 := (if d0 < (0 : Int32) then (0 : Int32) else (if d0 < r0 then (1 : Int32) else (0 : Int32)))
def Q_rm4_0_4 (Z : State) (ao0 ao1 : Addr) (kd kr : ClassId) (d0 d1 d2 d3 r0 r1 r2 r3 : Int32) (p4 : Int32) (h0 : Heap) (n0 : Nat) (v : Option Value) (h : Heap) (L : List Loc) : Prop := v = some (.int (own_dok_0_4 d0 r0 p4)) ∧ Fr n0 L ∧ h = h0
theorem pn_rm4_0_4 : plainName "com/example/stratgen/stratgen/model/StateSpaceAdvancePinLaw" = true := by first | (simp [plainName, overriddenIn]; done) | decide +kernel
theorem ef_rm4_0_4 (m : MethodId) (x0 : Addr) (x1 : Addr) (x2 : Int32) (x3 : Int32) (x4 : Int32) : entryFrame m #[(.ref x0), (.ref x1), (.int x2), (.int x3), (.int x4)] 5 = mkF m 0 #[.val (.ref x0), .val (.ref x1), .val (.int x2), .val (.int x3), .val (.int x4)] [] := by first | (simp [entryFrame, mkF, argsToLocals, Value.category]; done) | rfl
set_option maxRecDepth 65536 in
set_option maxHeartbeats 40000000 in
theorem rm4_0_4 (l : Launch) (Z : State) (a0 : Array Value) (hw : ∀ d ∈ tables_1, d.before a0 Z = true) (ws : List Jvm.Cond) (ao0 ao1 : Addr) (kd kr : ClassId) (d0 d1 d2 d3 r0 r1 r2 r3 : Int32) (p4 : Int32) (h0 : Heap) (n0 : Nat) (Z0 : n0 ≤ h0.size) (V_ao0 : Arv Z h0 ao0 kd .int (4 : Int32) [(.int d0), (.int d1), (.int d2), (.int d3)] (.int (0 : Int32))) (V_ao1 : Arv Z h0 ao1 kr .int (4 : Int32) [(.int r0), (.int r1), (.int r2), (.int r3)] (.int (0 : Int32))) :
    MetFree l (⟨"com/example/stratgen/stratgen/model/StateSpaceAdvancePinLaw", "digitOk", "([I[IIII)Z"⟩ : MethodName) (head1 (Jvm.Cond.code (⟨"com/example/stratgen/stratgen/model/StateSpaceAdvancePinLaw", "digitOk", "([I[IIII)Z"⟩ : MethodName) method_4_code 5 (some .boolean) :: ws) ({ frames := 0, cells := 0, slots := 0, locals := 0 } : Room)) (fun a U => a = #[(.ref ao0), (.ref ao1), (.int (0 : Int32)), (.int (4 : Int32)), (.int p4)] ∧ Z.Warmed39 U.vm ∧ U.heap = h0) (fun _ _ _ _ _ => True) (fun _ U o U' => ∃ v L, o = .returned v ∧ (Q_rm4_0_4 Z ao0 ao1 kd kr d0 d1 d2 d3 r0 r1 r2 r3 p4 h0 n0) v U'.heap L ∧ FrameEnd U o U' L ({ frames := 0, cells := 0, slots := 0, locals := 0 } : Room).cells ({ frames := 0, cells := 0, slots := 0, locals := 0 } : Room).slots) := by
  refine MetFree.of_bodySF (plainFor_of_name pn_rm4_0_4) hisR ?_
  intro p e s m args below meth c s₁ Bd hml0 hP hK
  obtain ⟨rfl, hZ, hh⟩ := hP
  have hx := Bd.exec
  have hby := Bd.bytes
  have hlk := BodyLoose.notSynchronized Bd
  have hret := Bd.returns
  have hml : c.maxLocals = 5 := hml0
  have hown : s.vm.findClass "com/example/stratgen/stratgen/model/StateSpaceAdvancePinLaw" = some m.cls := findClass_of_methodNamed Bd.named
  have hnm := (name_of_methodNamed Bd.named Bd.method).1
  have X0 : Stand p l e ({ frames := 0, cells := 0, slots := 0, locals := 0 } : Room) s m #[(.ref ao0), (.ref ao1), (.int (0 : Int32)), (.int (4 : Int32)), (.int p4)] below meth c s₁ [] 0 0 := Stand.of_body Bd
  have e0 : s₁.heap = h0 := by rw [← hh, Bd.state]; rfl
  have Nf := Fr.nil n0
  have Zs := Z0
  have Kp : Keep h0 h0 [] := Keep.refl _ _
  show own_End p e below s (Q_rm4_0_4 Z ao0 ao1 kd kr d0 d1 d2 d3 r0 r1 r2 r3 p4 h0 n0) ({ frames := 0, cells := 0, slots := 0, locals := 0 } : Room).cells ({ frames := 0, cells := 0, slots := 0, locals := 0 } : Room).slots (s₁.setTop (entryFrame m #[(.ref ao0), (.ref ao1), (.int (0 : Int32)), (.int (4 : Int32)), (.int p4)] 5))
  refine own_go (x' := s₁.setTop (mkF m 0 #[.val (.ref ao0), .val (.ref ao1), .val (.int (0 : Int32)), .val (.int (4 : Int32)), .val (.int p4)] [])) (fun t k => castTop (ef_rm4_0_4 m ao0 ao1 (0 : Int32) (4 : Int32) p4) k) ?_
  refine own_go (x' := s₁.setTop (mkF m 7 #[.val (.ref ao0), .val (.ref ao1), .val (.int (0 : Int32)), .val (.int (4 : Int32)), .val (.int p4)] [(.int (0 : Int32)), (.ref ao0)])) (fun _ k => XS.iloadN X0.here hx rfl (hb hby d4_0) rfl (XS.iloadN X0.here hx rfl (hb hby d4_1) rfl (XS.icmpNo X0.here hx rfl (hb hby d4_2) rfl (tlt (by decide +kernel : ((0 : Int32) < (4 : Int32)))).2.1 (XS.aloadN X0.here hx rfl (hb hby d4_5) rfl rfl (XS.iloadN X0.here hx rfl (hb hby d4_6) rfl k))))) ?_
  obtain ⟨cl1, Ar1, q1, Sz1, Nn1, Hh1, Gg1⟩ := id V_ao0
  have hin1 : ¬ ((0 : Int32) < 0 ∨ cl1.slots.size ≤ ((0 : Int32)).toNatClampNeg) := inb_of Sz1 ⟨by decide, by decide⟩
  refine own_go (x' := s₁.setTop (mkF m 8 #[.val (.ref ao0), .val (.ref ao1), .val (.int (0 : Int32)), .val (.int (4 : Int32)), .val (.int p4)] [(.int d0)])) (X0.iaload hx (j := (0 : Int32)) (v := (.int d0)) (by rw [e0]; exact Ar1.1) (State.isArrayOf_alike hZ.alike Ar1.2.1) Ar1.2.2 hin1 (Hh1.at hin1 rfl) (g := (mkF m 7 #[.val (.ref ao0), .val (.ref ao1), .val (.int (0 : Int32)), .val (.int (4 : Int32)), .val (.int p4)] [(.int (0 : Int32)), (.ref ao0)])) rfl rfl (hb hby d4_7)) ?_
  by_cases hc8 : d0 < (0 : Int32)
  · refine own_go (x' := s₁.setTop (mkF m 25 #[.val (.ref ao0), .val (.ref ao1), .val (.int (0 : Int32)), .val (.int (4 : Int32)), .val (.int p4)] [(.int (0 : Int32))])) (fun _ k => XS.ifYes X0.here hx rfl (pc0 := 8) (pc' := 24) rfl (hb hby d4_8) rfl ((if0 _ _).trans (tlt hc8).1) (by decide) (by decide) (XS.iconst X0.here hx rfl (hb hby d4_24) k)) ?_
    refine own_retN X0 hx hlk (t := .boolean) hret (by simp) (hb hby d4_25) (w := (0 : Int32)) rfl ?_ (by decide) (by decide)
    rw [e0]
    exact ⟨by simp only [own_dok_0_4, if_pos hc8], Nf, rfl⟩
  · refine own_go (x' := s₁.setTop (mkF m 13 #[.val (.ref ao0), .val (.ref ao1), .val (.int (0 : Int32)), .val (.int (4 : Int32)), .val (.int p4)] [(.int (0 : Int32)), (.ref ao0)])) (fun _ k => XS.ifNo X0.here hx rfl (hb hby d4_8) rfl ((if0 _ _).trans (flt hc8).1) (XS.aloadN X0.here hx rfl (hb hby d4_11) rfl rfl (XS.iloadN X0.here hx rfl (hb hby d4_12) rfl k))) ?_
    obtain ⟨cl2, Ar2, q2, Sz2, Nn2, Hh2, Gg2⟩ := id V_ao0
    have hin2 : ¬ ((0 : Int32) < 0 ∨ cl2.slots.size ≤ ((0 : Int32)).toNatClampNeg) := inb_of Sz2 ⟨by decide, by decide⟩
    refine own_go (x' := s₁.setTop (mkF m 14 #[.val (.ref ao0), .val (.ref ao1), .val (.int (0 : Int32)), .val (.int (4 : Int32)), .val (.int p4)] [(.int d0)])) (X0.iaload hx (j := (0 : Int32)) (v := (.int d0)) (by rw [e0]; exact Ar2.1) (State.isArrayOf_alike hZ.alike Ar2.2.1) Ar2.2.2 hin2 (Hh2.at hin2 rfl) (g := (mkF m 13 #[.val (.ref ao0), .val (.ref ao1), .val (.int (0 : Int32)), .val (.int (4 : Int32)), .val (.int p4)] [(.int (0 : Int32)), (.ref ao0)])) rfl rfl (hb hby d4_13)) ?_
    refine own_go (x' := s₁.setTop (mkF m 16 #[.val (.ref ao0), .val (.ref ao1), .val (.int (0 : Int32)), .val (.int (4 : Int32)), .val (.int p4)] [(.int (0 : Int32)), (.ref ao1), (.int d0)])) (fun _ k => XS.aloadN X0.here hx rfl (hb hby d4_14) rfl rfl (XS.iloadN X0.here hx rfl (hb hby d4_15) rfl k)) ?_
    obtain ⟨cl3, Ar3, q3, Sz3, Nn3, Hh3, Gg3⟩ := id V_ao1
    have hin3 : ¬ ((0 : Int32) < 0 ∨ cl3.slots.size ≤ ((0 : Int32)).toNatClampNeg) := inb_of Sz3 ⟨by decide, by decide⟩
    refine own_go (x' := s₁.setTop (mkF m 17 #[.val (.ref ao0), .val (.ref ao1), .val (.int (0 : Int32)), .val (.int (4 : Int32)), .val (.int p4)] [(.int r0), (.int d0)])) (X0.iaload hx (j := (0 : Int32)) (v := (.int r0)) (by rw [e0]; exact Ar3.1) (State.isArrayOf_alike hZ.alike Ar3.2.1) Ar3.2.2 hin3 (Hh3.at hin3 rfl) (g := (mkF m 16 #[.val (.ref ao0), .val (.ref ao1), .val (.int (0 : Int32)), .val (.int (4 : Int32)), .val (.int p4)] [(.int (0 : Int32)), (.ref ao1), (.int d0)])) rfl rfl (hb hby d4_16)) ?_
    by_cases hc17 : d0 < r0
    · refine own_go (x' := s₁.setTop (mkF m 25 #[.val (.ref ao0), .val (.ref ao1), .val (.int (0 : Int32)), .val (.int (4 : Int32)), .val (.int p4)] [(.int (1 : Int32))])) (fun _ k => XS.icmpNo X0.here hx rfl (hb hby d4_17) rfl (tlt hc17).2.1 (XS.iconst X0.here hx rfl (hb hby d4_20) (XS.goto X0.here hx rfl (pc0 := 21) (pc' := 25) rfl (hb hby d4_21) (by decide) (by decide) k))) ?_
      refine own_retN X0 hx hlk (t := .boolean) hret (by simp) (hb hby d4_25) (w := (1 : Int32)) rfl ?_ (by decide) (by decide)
      rw [e0]
      exact ⟨by simp only [own_dok_0_4, if_neg hc8, if_pos hc17], Nf, rfl⟩
    · refine own_go (x' := s₁.setTop (mkF m 25 #[.val (.ref ao0), .val (.ref ao1), .val (.int (0 : Int32)), .val (.int (4 : Int32)), .val (.int p4)] [(.int (0 : Int32))])) (fun _ k => XS.icmpYes X0.here hx rfl (pc0 := 17) (pc' := 24) rfl (hb hby d4_17) rfl (flt hc17).2.1 (by decide) (by decide) (XS.iconst X0.here hx rfl (hb hby d4_24) k)) ?_
      refine own_retN X0 hx hlk (t := .boolean) hret (by simp) (hb hby d4_25) (w := (0 : Int32)) rfl ?_ (by decide) (by decide)
      rw [e0]
      exact ⟨by simp only [own_dok_0_4, if_neg hc8, if_neg hc17], Nf, rfl⟩
def own_dok_1_4 (d1 r1 p4 : Int32) : Int32 := (if d1 < (0 : Int32) then (0 : Int32) else (if d1 < r1 then (1 : Int32) else (0 : Int32)))
def Q_rm4_1_4 (Z : State) (ao0 ao1 : Addr) (kd kr : ClassId) (d0 d1 d2 d3 r0 r1 r2 r3 : Int32) (p4 : Int32) (h0 : Heap) (n0 : Nat) (v : Option Value) (h : Heap) (L : List Loc) : Prop := v = some (.int (own_dok_1_4 d1 r1 p4)) ∧ Fr n0 L ∧ h = h0
theorem pn_rm4_1_4 : plainName "com/example/stratgen/stratgen/model/StateSpaceAdvancePinLaw" = true := by first | (simp [plainName, overriddenIn]; done) | decide +kernel
theorem ef_rm4_1_4 (m : MethodId) (x0 : Addr) (x1 : Addr) (x2 : Int32) (x3 : Int32) (x4 : Int32) : entryFrame m #[(.ref x0), (.ref x1), (.int x2), (.int x3), (.int x4)] 5 = mkF m 0 #[.val (.ref x0), .val (.ref x1), .val (.int x2), .val (.int x3), .val (.int x4)] [] := by first | (simp [entryFrame, mkF, argsToLocals, Value.category]; done) | rfl
set_option maxRecDepth 65536 in
set_option maxHeartbeats 40000000 in
theorem rm4_1_4 (l : Launch) (Z : State) (a0 : Array Value) (hw : ∀ d ∈ tables_1, d.before a0 Z = true) (ws : List Jvm.Cond) (ao0 ao1 : Addr) (kd kr : ClassId) (d0 d1 d2 d3 r0 r1 r2 r3 : Int32) (p4 : Int32) (h0 : Heap) (n0 : Nat) (Z0 : n0 ≤ h0.size) (V_ao0 : Arv Z h0 ao0 kd .int (4 : Int32) [(.int d0), (.int d1), (.int d2), (.int d3)] (.int (0 : Int32))) (V_ao1 : Arv Z h0 ao1 kr .int (4 : Int32) [(.int r0), (.int r1), (.int r2), (.int r3)] (.int (0 : Int32))) :
    MetFree l (⟨"com/example/stratgen/stratgen/model/StateSpaceAdvancePinLaw", "digitOk", "([I[IIII)Z"⟩ : MethodName) (head1 (Jvm.Cond.code (⟨"com/example/stratgen/stratgen/model/StateSpaceAdvancePinLaw", "digitOk", "([I[IIII)Z"⟩ : MethodName) method_4_code 5 (some .boolean) :: ws) ({ frames := 0, cells := 0, slots := 0, locals := 0 } : Room)) (fun a U => a = #[(.ref ao0), (.ref ao1), (.int (1 : Int32)), (.int (4 : Int32)), (.int p4)] ∧ Z.Warmed39 U.vm ∧ U.heap = h0) (fun _ _ _ _ _ => True) (fun _ U o U' => ∃ v L, o = .returned v ∧ (Q_rm4_1_4 Z ao0 ao1 kd kr d0 d1 d2 d3 r0 r1 r2 r3 p4 h0 n0) v U'.heap L ∧ FrameEnd U o U' L ({ frames := 0, cells := 0, slots := 0, locals := 0 } : Room).cells ({ frames := 0, cells := 0, slots := 0, locals := 0 } : Room).slots) := by
  refine MetFree.of_bodySF (plainFor_of_name pn_rm4_1_4) hisR ?_
  intro p e s m args below meth c s₁ Bd hml0 hP hK
  obtain ⟨rfl, hZ, hh⟩ := hP
  have hx := Bd.exec
  have hby := Bd.bytes
  have hlk := BodyLoose.notSynchronized Bd
  have hret := Bd.returns
  have hml : c.maxLocals = 5 := hml0
  have hown : s.vm.findClass "com/example/stratgen/stratgen/model/StateSpaceAdvancePinLaw" = some m.cls := findClass_of_methodNamed Bd.named
  have hnm := (name_of_methodNamed Bd.named Bd.method).1
  have X0 : Stand p l e ({ frames := 0, cells := 0, slots := 0, locals := 0 } : Room) s m #[(.ref ao0), (.ref ao1), (.int (1 : Int32)), (.int (4 : Int32)), (.int p4)] below meth c s₁ [] 0 0 := Stand.of_body Bd
  have e0 : s₁.heap = h0 := by rw [← hh, Bd.state]; rfl
  have Nf := Fr.nil n0
  have Zs := Z0
  have Kp : Keep h0 h0 [] := Keep.refl _ _
  show own_End p e below s (Q_rm4_1_4 Z ao0 ao1 kd kr d0 d1 d2 d3 r0 r1 r2 r3 p4 h0 n0) ({ frames := 0, cells := 0, slots := 0, locals := 0 } : Room).cells ({ frames := 0, cells := 0, slots := 0, locals := 0 } : Room).slots (s₁.setTop (entryFrame m #[(.ref ao0), (.ref ao1), (.int (1 : Int32)), (.int (4 : Int32)), (.int p4)] 5))
  refine own_go (x' := s₁.setTop (mkF m 0 #[.val (.ref ao0), .val (.ref ao1), .val (.int (1 : Int32)), .val (.int (4 : Int32)), .val (.int p4)] [])) (fun t k => castTop (ef_rm4_1_4 m ao0 ao1 (1 : Int32) (4 : Int32) p4) k) ?_
  refine own_go (x' := s₁.setTop (mkF m 7 #[.val (.ref ao0), .val (.ref ao1), .val (.int (1 : Int32)), .val (.int (4 : Int32)), .val (.int p4)] [(.int (1 : Int32)), (.ref ao0)])) (fun _ k => XS.iloadN X0.here hx rfl (hb hby d4_0) rfl (XS.iloadN X0.here hx rfl (hb hby d4_1) rfl (XS.icmpNo X0.here hx rfl (hb hby d4_2) rfl (tlt (by decide +kernel : ((1 : Int32) < (4 : Int32)))).2.1 (XS.aloadN X0.here hx rfl (hb hby d4_5) rfl rfl (XS.iloadN X0.here hx rfl (hb hby d4_6) rfl k))))) ?_
  obtain ⟨cl1, Ar1, q1, Sz1, Nn1, Hh1, Gg1⟩ := id V_ao0
  have hin1 : ¬ ((1 : Int32) < 0 ∨ cl1.slots.size ≤ ((1 : Int32)).toNatClampNeg) := inb_of Sz1 ⟨by decide, by decide⟩
  refine own_go (x' := s₁.setTop (mkF m 8 #[.val (.ref ao0), .val (.ref ao1), .val (.int (1 : Int32)), .val (.int (4 : Int32)), .val (.int p4)] [(.int d1)])) (X0.iaload hx (j := (1 : Int32)) (v := (.int d1)) (by rw [e0]; exact Ar1.1) (State.isArrayOf_alike hZ.alike Ar1.2.1) Ar1.2.2 hin1 (Hh1.at hin1 rfl) (g := (mkF m 7 #[.val (.ref ao0), .val (.ref ao1), .val (.int (1 : Int32)), .val (.int (4 : Int32)), .val (.int p4)] [(.int (1 : Int32)), (.ref ao0)])) rfl rfl (hb hby d4_7)) ?_
  by_cases hc8 : d1 < (0 : Int32)
  · refine own_go (x' := s₁.setTop (mkF m 25 #[.val (.ref ao0), .val (.ref ao1), .val (.int (1 : Int32)), .val (.int (4 : Int32)), .val (.int p4)] [(.int (0 : Int32))])) (fun _ k => XS.ifYes X0.here hx rfl (pc0 := 8) (pc' := 24) rfl (hb hby d4_8) rfl ((if0 _ _).trans (tlt hc8).1) (by decide) (by decide) (XS.iconst X0.here hx rfl (hb hby d4_24) k)) ?_
    refine own_retN X0 hx hlk (t := .boolean) hret (by simp) (hb hby d4_25) (w := (0 : Int32)) rfl ?_ (by decide) (by decide)
    rw [e0]
    exact ⟨by simp only [own_dok_1_4, if_pos hc8], Nf, rfl⟩
  · refine own_go (x' := s₁.setTop (mkF m 13 #[.val (.ref ao0), .val (.ref ao1), .val (.int (1 : Int32)), .val (.int (4 : Int32)), .val (.int p4)] [(.int (1 : Int32)), (.ref ao0)])) (fun _ k => XS.ifNo X0.here hx rfl (hb hby d4_8) rfl ((if0 _ _).trans (flt hc8).1) (XS.aloadN X0.here hx rfl (hb hby d4_11) rfl rfl (XS.iloadN X0.here hx rfl (hb hby d4_12) rfl k))) ?_
    obtain ⟨cl2, Ar2, q2, Sz2, Nn2, Hh2, Gg2⟩ := id V_ao0
    have hin2 : ¬ ((1 : Int32) < 0 ∨ cl2.slots.size ≤ ((1 : Int32)).toNatClampNeg) := inb_of Sz2 ⟨by decide, by decide⟩
    refine own_go (x' := s₁.setTop (mkF m 14 #[.val (.ref ao0), .val (.ref ao1), .val (.int (1 : Int32)), .val (.int (4 : Int32)), .val (.int p4)] [(.int d1)])) (X0.iaload hx (j := (1 : Int32)) (v := (.int d1)) (by rw [e0]; exact Ar2.1) (State.isArrayOf_alike hZ.alike Ar2.2.1) Ar2.2.2 hin2 (Hh2.at hin2 rfl) (g := (mkF m 13 #[.val (.ref ao0), .val (.ref ao1), .val (.int (1 : Int32)), .val (.int (4 : Int32)), .val (.int p4)] [(.int (1 : Int32)), (.ref ao0)])) rfl rfl (hb hby d4_13)) ?_
    refine own_go (x' := s₁.setTop (mkF m 16 #[.val (.ref ao0), .val (.ref ao1), .val (.int (1 : Int32)), .val (.int (4 : Int32)), .val (.int p4)] [(.int (1 : Int32)), (.ref ao1), (.int d1)])) (fun _ k => XS.aloadN X0.here hx rfl (hb hby d4_14) rfl rfl (XS.iloadN X0.here hx rfl (hb hby d4_15) rfl k)) ?_
    obtain ⟨cl3, Ar3, q3, Sz3, Nn3, Hh3, Gg3⟩ := id V_ao1
    have hin3 : ¬ ((1 : Int32) < 0 ∨ cl3.slots.size ≤ ((1 : Int32)).toNatClampNeg) := inb_of Sz3 ⟨by decide, by decide⟩
    refine own_go (x' := s₁.setTop (mkF m 17 #[.val (.ref ao0), .val (.ref ao1), .val (.int (1 : Int32)), .val (.int (4 : Int32)), .val (.int p4)] [(.int r1), (.int d1)])) (X0.iaload hx (j := (1 : Int32)) (v := (.int r1)) (by rw [e0]; exact Ar3.1) (State.isArrayOf_alike hZ.alike Ar3.2.1) Ar3.2.2 hin3 (Hh3.at hin3 rfl) (g := (mkF m 16 #[.val (.ref ao0), .val (.ref ao1), .val (.int (1 : Int32)), .val (.int (4 : Int32)), .val (.int p4)] [(.int (1 : Int32)), (.ref ao1), (.int d1)])) rfl rfl (hb hby d4_16)) ?_
    by_cases hc17 : d1 < r1
    · refine own_go (x' := s₁.setTop (mkF m 25 #[.val (.ref ao0), .val (.ref ao1), .val (.int (1 : Int32)), .val (.int (4 : Int32)), .val (.int p4)] [(.int (1 : Int32))])) (fun _ k => XS.icmpNo X0.here hx rfl (hb hby d4_17) rfl (tlt hc17).2.1 (XS.iconst X0.here hx rfl (hb hby d4_20) (XS.goto X0.here hx rfl (pc0 := 21) (pc' := 25) rfl (hb hby d4_21) (by decide) (by decide) k))) ?_
      refine own_retN X0 hx hlk (t := .boolean) hret (by simp) (hb hby d4_25) (w := (1 : Int32)) rfl ?_ (by decide) (by decide)
      rw [e0]
      exact ⟨by simp only [own_dok_1_4, if_neg hc8, if_pos hc17], Nf, rfl⟩
    · refine own_go (x' := s₁.setTop (mkF m 25 #[.val (.ref ao0), .val (.ref ao1), .val (.int (1 : Int32)), .val (.int (4 : Int32)), .val (.int p4)] [(.int (0 : Int32))])) (fun _ k => XS.icmpYes X0.here hx rfl (pc0 := 17) (pc' := 24) rfl (hb hby d4_17) rfl (flt hc17).2.1 (by decide) (by decide) (XS.iconst X0.here hx rfl (hb hby d4_24) k)) ?_
      refine own_retN X0 hx hlk (t := .boolean) hret (by simp) (hb hby d4_25) (w := (0 : Int32)) rfl ?_ (by decide) (by decide)
      rw [e0]
      exact ⟨by simp only [own_dok_1_4, if_neg hc8, if_neg hc17], Nf, rfl⟩
def own_dok_2_4 (d2 r2 p4 : Int32) : Int32 := (if d2 < (0 : Int32) then (0 : Int32) else (if d2 < r2 then (1 : Int32) else (0 : Int32)))
def Q_rm4_2_4 (Z : State) (ao0 ao1 : Addr) (kd kr : ClassId) (d0 d1 d2 d3 r0 r1 r2 r3 : Int32) (p4 : Int32) (h0 : Heap) (n0 : Nat) (v : Option Value) (h : Heap) (L : List Loc) : Prop := v = some (.int (own_dok_2_4 d2 r2 p4)) ∧ Fr n0 L ∧ h = h0
theorem pn_rm4_2_4 : plainName "com/example/stratgen/stratgen/model/StateSpaceAdvancePinLaw" = true := by first | (simp [plainName, overriddenIn]; done) | decide +kernel
theorem ef_rm4_2_4 (m : MethodId) (x0 : Addr) (x1 : Addr) (x2 : Int32) (x3 : Int32) (x4 : Int32) : entryFrame m #[(.ref x0), (.ref x1), (.int x2), (.int x3), (.int x4)] 5 = mkF m 0 #[.val (.ref x0), .val (.ref x1), .val (.int x2), .val (.int x3), .val (.int x4)] [] := by first | (simp [entryFrame, mkF, argsToLocals, Value.category]; done) | rfl
set_option maxRecDepth 65536 in
set_option maxHeartbeats 40000000 in
theorem rm4_2_4 (l : Launch) (Z : State) (a0 : Array Value) (hw : ∀ d ∈ tables_1, d.before a0 Z = true) (ws : List Jvm.Cond) (ao0 ao1 : Addr) (kd kr : ClassId) (d0 d1 d2 d3 r0 r1 r2 r3 : Int32) (p4 : Int32) (h0 : Heap) (n0 : Nat) (Z0 : n0 ≤ h0.size) (V_ao0 : Arv Z h0 ao0 kd .int (4 : Int32) [(.int d0), (.int d1), (.int d2), (.int d3)] (.int (0 : Int32))) (V_ao1 : Arv Z h0 ao1 kr .int (4 : Int32) [(.int r0), (.int r1), (.int r2), (.int r3)] (.int (0 : Int32))) :
    MetFree l (⟨"com/example/stratgen/stratgen/model/StateSpaceAdvancePinLaw", "digitOk", "([I[IIII)Z"⟩ : MethodName) (head1 (Jvm.Cond.code (⟨"com/example/stratgen/stratgen/model/StateSpaceAdvancePinLaw", "digitOk", "([I[IIII)Z"⟩ : MethodName) method_4_code 5 (some .boolean) :: ws) ({ frames := 0, cells := 0, slots := 0, locals := 0 } : Room)) (fun a U => a = #[(.ref ao0), (.ref ao1), (.int (2 : Int32)), (.int (4 : Int32)), (.int p4)] ∧ Z.Warmed39 U.vm ∧ U.heap = h0) (fun _ _ _ _ _ => True) (fun _ U o U' => ∃ v L, o = .returned v ∧ (Q_rm4_2_4 Z ao0 ao1 kd kr d0 d1 d2 d3 r0 r1 r2 r3 p4 h0 n0) v U'.heap L ∧ FrameEnd U o U' L ({ frames := 0, cells := 0, slots := 0, locals := 0 } : Room).cells ({ frames := 0, cells := 0, slots := 0, locals := 0 } : Room).slots) := by
  refine MetFree.of_bodySF (plainFor_of_name pn_rm4_2_4) hisR ?_
  intro p e s m args below meth c s₁ Bd hml0 hP hK
  obtain ⟨rfl, hZ, hh⟩ := hP
  have hx := Bd.exec
  have hby := Bd.bytes
  have hlk := BodyLoose.notSynchronized Bd
  have hret := Bd.returns
  have hml : c.maxLocals = 5 := hml0
  have hown : s.vm.findClass "com/example/stratgen/stratgen/model/StateSpaceAdvancePinLaw" = some m.cls := findClass_of_methodNamed Bd.named
  have hnm := (name_of_methodNamed Bd.named Bd.method).1
  have X0 : Stand p l e ({ frames := 0, cells := 0, slots := 0, locals := 0 } : Room) s m #[(.ref ao0), (.ref ao1), (.int (2 : Int32)), (.int (4 : Int32)), (.int p4)] below meth c s₁ [] 0 0 := Stand.of_body Bd
  have e0 : s₁.heap = h0 := by rw [← hh, Bd.state]; rfl
  have Nf := Fr.nil n0
  have Zs := Z0
  have Kp : Keep h0 h0 [] := Keep.refl _ _
  show own_End p e below s (Q_rm4_2_4 Z ao0 ao1 kd kr d0 d1 d2 d3 r0 r1 r2 r3 p4 h0 n0) ({ frames := 0, cells := 0, slots := 0, locals := 0 } : Room).cells ({ frames := 0, cells := 0, slots := 0, locals := 0 } : Room).slots (s₁.setTop (entryFrame m #[(.ref ao0), (.ref ao1), (.int (2 : Int32)), (.int (4 : Int32)), (.int p4)] 5))
  refine own_go (x' := s₁.setTop (mkF m 0 #[.val (.ref ao0), .val (.ref ao1), .val (.int (2 : Int32)), .val (.int (4 : Int32)), .val (.int p4)] [])) (fun t k => castTop (ef_rm4_2_4 m ao0 ao1 (2 : Int32) (4 : Int32) p4) k) ?_
  refine own_go (x' := s₁.setTop (mkF m 7 #[.val (.ref ao0), .val (.ref ao1), .val (.int (2 : Int32)), .val (.int (4 : Int32)), .val (.int p4)] [(.int (2 : Int32)), (.ref ao0)])) (fun _ k => XS.iloadN X0.here hx rfl (hb hby d4_0) rfl (XS.iloadN X0.here hx rfl (hb hby d4_1) rfl (XS.icmpNo X0.here hx rfl (hb hby d4_2) rfl (tlt (by decide +kernel : ((2 : Int32) < (4 : Int32)))).2.1 (XS.aloadN X0.here hx rfl (hb hby d4_5) rfl rfl (XS.iloadN X0.here hx rfl (hb hby d4_6) rfl k))))) ?_
  obtain ⟨cl1, Ar1, q1, Sz1, Nn1, Hh1, Gg1⟩ := id V_ao0
  have hin1 : ¬ ((2 : Int32) < 0 ∨ cl1.slots.size ≤ ((2 : Int32)).toNatClampNeg) := inb_of Sz1 ⟨by decide, by decide⟩
  refine own_go (x' := s₁.setTop (mkF m 8 #[.val (.ref ao0), .val (.ref ao1), .val (.int (2 : Int32)), .val (.int (4 : Int32)), .val (.int p4)] [(.int d2)])) (X0.iaload hx (j := (2 : Int32)) (v := (.int d2)) (by rw [e0]; exact Ar1.1) (State.isArrayOf_alike hZ.alike Ar1.2.1) Ar1.2.2 hin1 (Hh1.at hin1 rfl) (g := (mkF m 7 #[.val (.ref ao0), .val (.ref ao1), .val (.int (2 : Int32)), .val (.int (4 : Int32)), .val (.int p4)] [(.int (2 : Int32)), (.ref ao0)])) rfl rfl (hb hby d4_7)) ?_
  by_cases hc8 : d2 < (0 : Int32)
  · refine own_go (x' := s₁.setTop (mkF m 25 #[.val (.ref ao0), .val (.ref ao1), .val (.int (2 : Int32)), .val (.int (4 : Int32)), .val (.int p4)] [(.int (0 : Int32))])) (fun _ k => XS.ifYes X0.here hx rfl (pc0 := 8) (pc' := 24) rfl (hb hby d4_8) rfl ((if0 _ _).trans (tlt hc8).1) (by decide) (by decide) (XS.iconst X0.here hx rfl (hb hby d4_24) k)) ?_
    refine own_retN X0 hx hlk (t := .boolean) hret (by simp) (hb hby d4_25) (w := (0 : Int32)) rfl ?_ (by decide) (by decide)
    rw [e0]
    exact ⟨by simp only [own_dok_2_4, if_pos hc8], Nf, rfl⟩
  · refine own_go (x' := s₁.setTop (mkF m 13 #[.val (.ref ao0), .val (.ref ao1), .val (.int (2 : Int32)), .val (.int (4 : Int32)), .val (.int p4)] [(.int (2 : Int32)), (.ref ao0)])) (fun _ k => XS.ifNo X0.here hx rfl (hb hby d4_8) rfl ((if0 _ _).trans (flt hc8).1) (XS.aloadN X0.here hx rfl (hb hby d4_11) rfl rfl (XS.iloadN X0.here hx rfl (hb hby d4_12) rfl k))) ?_
    obtain ⟨cl2, Ar2, q2, Sz2, Nn2, Hh2, Gg2⟩ := id V_ao0
    have hin2 : ¬ ((2 : Int32) < 0 ∨ cl2.slots.size ≤ ((2 : Int32)).toNatClampNeg) := inb_of Sz2 ⟨by decide, by decide⟩
    refine own_go (x' := s₁.setTop (mkF m 14 #[.val (.ref ao0), .val (.ref ao1), .val (.int (2 : Int32)), .val (.int (4 : Int32)), .val (.int p4)] [(.int d2)])) (X0.iaload hx (j := (2 : Int32)) (v := (.int d2)) (by rw [e0]; exact Ar2.1) (State.isArrayOf_alike hZ.alike Ar2.2.1) Ar2.2.2 hin2 (Hh2.at hin2 rfl) (g := (mkF m 13 #[.val (.ref ao0), .val (.ref ao1), .val (.int (2 : Int32)), .val (.int (4 : Int32)), .val (.int p4)] [(.int (2 : Int32)), (.ref ao0)])) rfl rfl (hb hby d4_13)) ?_
    refine own_go (x' := s₁.setTop (mkF m 16 #[.val (.ref ao0), .val (.ref ao1), .val (.int (2 : Int32)), .val (.int (4 : Int32)), .val (.int p4)] [(.int (2 : Int32)), (.ref ao1), (.int d2)])) (fun _ k => XS.aloadN X0.here hx rfl (hb hby d4_14) rfl rfl (XS.iloadN X0.here hx rfl (hb hby d4_15) rfl k)) ?_
    obtain ⟨cl3, Ar3, q3, Sz3, Nn3, Hh3, Gg3⟩ := id V_ao1
    have hin3 : ¬ ((2 : Int32) < 0 ∨ cl3.slots.size ≤ ((2 : Int32)).toNatClampNeg) := inb_of Sz3 ⟨by decide, by decide⟩
    refine own_go (x' := s₁.setTop (mkF m 17 #[.val (.ref ao0), .val (.ref ao1), .val (.int (2 : Int32)), .val (.int (4 : Int32)), .val (.int p4)] [(.int r2), (.int d2)])) (X0.iaload hx (j := (2 : Int32)) (v := (.int r2)) (by rw [e0]; exact Ar3.1) (State.isArrayOf_alike hZ.alike Ar3.2.1) Ar3.2.2 hin3 (Hh3.at hin3 rfl) (g := (mkF m 16 #[.val (.ref ao0), .val (.ref ao1), .val (.int (2 : Int32)), .val (.int (4 : Int32)), .val (.int p4)] [(.int (2 : Int32)), (.ref ao1), (.int d2)])) rfl rfl (hb hby d4_16)) ?_
    by_cases hc17 : d2 < r2
    · refine own_go (x' := s₁.setTop (mkF m 25 #[.val (.ref ao0), .val (.ref ao1), .val (.int (2 : Int32)), .val (.int (4 : Int32)), .val (.int p4)] [(.int (1 : Int32))])) (fun _ k => XS.icmpNo X0.here hx rfl (hb hby d4_17) rfl (tlt hc17).2.1 (XS.iconst X0.here hx rfl (hb hby d4_20) (XS.goto X0.here hx rfl (pc0 := 21) (pc' := 25) rfl (hb hby d4_21) (by decide) (by decide) k))) ?_
      refine own_retN X0 hx hlk (t := .boolean) hret (by simp) (hb hby d4_25) (w := (1 : Int32)) rfl ?_ (by decide) (by decide)
      rw [e0]
      exact ⟨by simp only [own_dok_2_4, if_neg hc8, if_pos hc17], Nf, rfl⟩
    · refine own_go (x' := s₁.setTop (mkF m 25 #[.val (.ref ao0), .val (.ref ao1), .val (.int (2 : Int32)), .val (.int (4 : Int32)), .val (.int p4)] [(.int (0 : Int32))])) (fun _ k => XS.icmpYes X0.here hx rfl (pc0 := 17) (pc' := 24) rfl (hb hby d4_17) rfl (flt hc17).2.1 (by decide) (by decide) (XS.iconst X0.here hx rfl (hb hby d4_24) k)) ?_
      refine own_retN X0 hx hlk (t := .boolean) hret (by simp) (hb hby d4_25) (w := (0 : Int32)) rfl ?_ (by decide) (by decide)
      rw [e0]
      exact ⟨by simp only [own_dok_2_4, if_neg hc8, if_neg hc17], Nf, rfl⟩
def own_dok_3_4 (d3 r3 p4 : Int32) : Int32 := (if d3 < (0 : Int32) then (0 : Int32) else (if d3 < r3 then (1 : Int32) else (0 : Int32)))
def Q_rm4_3_4 (Z : State) (ao0 ao1 : Addr) (kd kr : ClassId) (d0 d1 d2 d3 r0 r1 r2 r3 : Int32) (p4 : Int32) (h0 : Heap) (n0 : Nat) (v : Option Value) (h : Heap) (L : List Loc) : Prop := v = some (.int (own_dok_3_4 d3 r3 p4)) ∧ Fr n0 L ∧ h = h0
theorem pn_rm4_3_4 : plainName "com/example/stratgen/stratgen/model/StateSpaceAdvancePinLaw" = true := by first | (simp [plainName, overriddenIn]; done) | decide +kernel
theorem ef_rm4_3_4 (m : MethodId) (x0 : Addr) (x1 : Addr) (x2 : Int32) (x3 : Int32) (x4 : Int32) : entryFrame m #[(.ref x0), (.ref x1), (.int x2), (.int x3), (.int x4)] 5 = mkF m 0 #[.val (.ref x0), .val (.ref x1), .val (.int x2), .val (.int x3), .val (.int x4)] [] := by first | (simp [entryFrame, mkF, argsToLocals, Value.category]; done) | rfl
set_option maxRecDepth 65536 in
set_option maxHeartbeats 40000000 in
theorem rm4_3_4 (l : Launch) (Z : State) (a0 : Array Value) (hw : ∀ d ∈ tables_1, d.before a0 Z = true) (ws : List Jvm.Cond) (ao0 ao1 : Addr) (kd kr : ClassId) (d0 d1 d2 d3 r0 r1 r2 r3 : Int32) (p4 : Int32) (h0 : Heap) (n0 : Nat) (Z0 : n0 ≤ h0.size) (V_ao0 : Arv Z h0 ao0 kd .int (4 : Int32) [(.int d0), (.int d1), (.int d2), (.int d3)] (.int (0 : Int32))) (V_ao1 : Arv Z h0 ao1 kr .int (4 : Int32) [(.int r0), (.int r1), (.int r2), (.int r3)] (.int (0 : Int32))) :
    MetFree l (⟨"com/example/stratgen/stratgen/model/StateSpaceAdvancePinLaw", "digitOk", "([I[IIII)Z"⟩ : MethodName) (head1 (Jvm.Cond.code (⟨"com/example/stratgen/stratgen/model/StateSpaceAdvancePinLaw", "digitOk", "([I[IIII)Z"⟩ : MethodName) method_4_code 5 (some .boolean) :: ws) ({ frames := 0, cells := 0, slots := 0, locals := 0 } : Room)) (fun a U => a = #[(.ref ao0), (.ref ao1), (.int (3 : Int32)), (.int (4 : Int32)), (.int p4)] ∧ Z.Warmed39 U.vm ∧ U.heap = h0) (fun _ _ _ _ _ => True) (fun _ U o U' => ∃ v L, o = .returned v ∧ (Q_rm4_3_4 Z ao0 ao1 kd kr d0 d1 d2 d3 r0 r1 r2 r3 p4 h0 n0) v U'.heap L ∧ FrameEnd U o U' L ({ frames := 0, cells := 0, slots := 0, locals := 0 } : Room).cells ({ frames := 0, cells := 0, slots := 0, locals := 0 } : Room).slots) := by
  refine MetFree.of_bodySF (plainFor_of_name pn_rm4_3_4) hisR ?_
  intro p e s m args below meth c s₁ Bd hml0 hP hK
  obtain ⟨rfl, hZ, hh⟩ := hP
  have hx := Bd.exec
  have hby := Bd.bytes
  have hlk := BodyLoose.notSynchronized Bd
  have hret := Bd.returns
  have hml : c.maxLocals = 5 := hml0
  have hown : s.vm.findClass "com/example/stratgen/stratgen/model/StateSpaceAdvancePinLaw" = some m.cls := findClass_of_methodNamed Bd.named
  have hnm := (name_of_methodNamed Bd.named Bd.method).1
  have X0 : Stand p l e ({ frames := 0, cells := 0, slots := 0, locals := 0 } : Room) s m #[(.ref ao0), (.ref ao1), (.int (3 : Int32)), (.int (4 : Int32)), (.int p4)] below meth c s₁ [] 0 0 := Stand.of_body Bd
  have e0 : s₁.heap = h0 := by rw [← hh, Bd.state]; rfl
  have Nf := Fr.nil n0
  have Zs := Z0
  have Kp : Keep h0 h0 [] := Keep.refl _ _
  show own_End p e below s (Q_rm4_3_4 Z ao0 ao1 kd kr d0 d1 d2 d3 r0 r1 r2 r3 p4 h0 n0) ({ frames := 0, cells := 0, slots := 0, locals := 0 } : Room).cells ({ frames := 0, cells := 0, slots := 0, locals := 0 } : Room).slots (s₁.setTop (entryFrame m #[(.ref ao0), (.ref ao1), (.int (3 : Int32)), (.int (4 : Int32)), (.int p4)] 5))
  refine own_go (x' := s₁.setTop (mkF m 0 #[.val (.ref ao0), .val (.ref ao1), .val (.int (3 : Int32)), .val (.int (4 : Int32)), .val (.int p4)] [])) (fun t k => castTop (ef_rm4_3_4 m ao0 ao1 (3 : Int32) (4 : Int32) p4) k) ?_
  refine own_go (x' := s₁.setTop (mkF m 7 #[.val (.ref ao0), .val (.ref ao1), .val (.int (3 : Int32)), .val (.int (4 : Int32)), .val (.int p4)] [(.int (3 : Int32)), (.ref ao0)])) (fun _ k => XS.iloadN X0.here hx rfl (hb hby d4_0) rfl (XS.iloadN X0.here hx rfl (hb hby d4_1) rfl (XS.icmpNo X0.here hx rfl (hb hby d4_2) rfl (tlt (by decide +kernel : ((3 : Int32) < (4 : Int32)))).2.1 (XS.aloadN X0.here hx rfl (hb hby d4_5) rfl rfl (XS.iloadN X0.here hx rfl (hb hby d4_6) rfl k))))) ?_
  obtain ⟨cl1, Ar1, q1, Sz1, Nn1, Hh1, Gg1⟩ := id V_ao0
  have hin1 : ¬ ((3 : Int32) < 0 ∨ cl1.slots.size ≤ ((3 : Int32)).toNatClampNeg) := inb_of Sz1 ⟨by decide, by decide⟩
  refine own_go (x' := s₁.setTop (mkF m 8 #[.val (.ref ao0), .val (.ref ao1), .val (.int (3 : Int32)), .val (.int (4 : Int32)), .val (.int p4)] [(.int d3)])) (X0.iaload hx (j := (3 : Int32)) (v := (.int d3)) (by rw [e0]; exact Ar1.1) (State.isArrayOf_alike hZ.alike Ar1.2.1) Ar1.2.2 hin1 (Hh1.at hin1 rfl) (g := (mkF m 7 #[.val (.ref ao0), .val (.ref ao1), .val (.int (3 : Int32)), .val (.int (4 : Int32)), .val (.int p4)] [(.int (3 : Int32)), (.ref ao0)])) rfl rfl (hb hby d4_7)) ?_
  by_cases hc8 : d3 < (0 : Int32)
  · refine own_go (x' := s₁.setTop (mkF m 25 #[.val (.ref ao0), .val (.ref ao1), .val (.int (3 : Int32)), .val (.int (4 : Int32)), .val (.int p4)] [(.int (0 : Int32))])) (fun _ k => XS.ifYes X0.here hx rfl (pc0 := 8) (pc' := 24) rfl (hb hby d4_8) rfl ((if0 _ _).trans (tlt hc8).1) (by decide) (by decide) (XS.iconst X0.here hx rfl (hb hby d4_24) k)) ?_
    refine own_retN X0 hx hlk (t := .boolean) hret (by simp) (hb hby d4_25) (w := (0 : Int32)) rfl ?_ (by decide) (by decide)
    rw [e0]
    exact ⟨by simp only [own_dok_3_4, if_pos hc8], Nf, rfl⟩
  · refine own_go (x' := s₁.setTop (mkF m 13 #[.val (.ref ao0), .val (.ref ao1), .val (.int (3 : Int32)), .val (.int (4 : Int32)), .val (.int p4)] [(.int (3 : Int32)), (.ref ao0)])) (fun _ k => XS.ifNo X0.here hx rfl (hb hby d4_8) rfl ((if0 _ _).trans (flt hc8).1) (XS.aloadN X0.here hx rfl (hb hby d4_11) rfl rfl (XS.iloadN X0.here hx rfl (hb hby d4_12) rfl k))) ?_
    obtain ⟨cl2, Ar2, q2, Sz2, Nn2, Hh2, Gg2⟩ := id V_ao0
    have hin2 : ¬ ((3 : Int32) < 0 ∨ cl2.slots.size ≤ ((3 : Int32)).toNatClampNeg) := inb_of Sz2 ⟨by decide, by decide⟩
    refine own_go (x' := s₁.setTop (mkF m 14 #[.val (.ref ao0), .val (.ref ao1), .val (.int (3 : Int32)), .val (.int (4 : Int32)), .val (.int p4)] [(.int d3)])) (X0.iaload hx (j := (3 : Int32)) (v := (.int d3)) (by rw [e0]; exact Ar2.1) (State.isArrayOf_alike hZ.alike Ar2.2.1) Ar2.2.2 hin2 (Hh2.at hin2 rfl) (g := (mkF m 13 #[.val (.ref ao0), .val (.ref ao1), .val (.int (3 : Int32)), .val (.int (4 : Int32)), .val (.int p4)] [(.int (3 : Int32)), (.ref ao0)])) rfl rfl (hb hby d4_13)) ?_
    refine own_go (x' := s₁.setTop (mkF m 16 #[.val (.ref ao0), .val (.ref ao1), .val (.int (3 : Int32)), .val (.int (4 : Int32)), .val (.int p4)] [(.int (3 : Int32)), (.ref ao1), (.int d3)])) (fun _ k => XS.aloadN X0.here hx rfl (hb hby d4_14) rfl rfl (XS.iloadN X0.here hx rfl (hb hby d4_15) rfl k)) ?_
    obtain ⟨cl3, Ar3, q3, Sz3, Nn3, Hh3, Gg3⟩ := id V_ao1
    have hin3 : ¬ ((3 : Int32) < 0 ∨ cl3.slots.size ≤ ((3 : Int32)).toNatClampNeg) := inb_of Sz3 ⟨by decide, by decide⟩
    refine own_go (x' := s₁.setTop (mkF m 17 #[.val (.ref ao0), .val (.ref ao1), .val (.int (3 : Int32)), .val (.int (4 : Int32)), .val (.int p4)] [(.int r3), (.int d3)])) (X0.iaload hx (j := (3 : Int32)) (v := (.int r3)) (by rw [e0]; exact Ar3.1) (State.isArrayOf_alike hZ.alike Ar3.2.1) Ar3.2.2 hin3 (Hh3.at hin3 rfl) (g := (mkF m 16 #[.val (.ref ao0), .val (.ref ao1), .val (.int (3 : Int32)), .val (.int (4 : Int32)), .val (.int p4)] [(.int (3 : Int32)), (.ref ao1), (.int d3)])) rfl rfl (hb hby d4_16)) ?_
    by_cases hc17 : d3 < r3
    · refine own_go (x' := s₁.setTop (mkF m 25 #[.val (.ref ao0), .val (.ref ao1), .val (.int (3 : Int32)), .val (.int (4 : Int32)), .val (.int p4)] [(.int (1 : Int32))])) (fun _ k => XS.icmpNo X0.here hx rfl (hb hby d4_17) rfl (tlt hc17).2.1 (XS.iconst X0.here hx rfl (hb hby d4_20) (XS.goto X0.here hx rfl (pc0 := 21) (pc' := 25) rfl (hb hby d4_21) (by decide) (by decide) k))) ?_
      refine own_retN X0 hx hlk (t := .boolean) hret (by simp) (hb hby d4_25) (w := (1 : Int32)) rfl ?_ (by decide) (by decide)
      rw [e0]
      exact ⟨by simp only [own_dok_3_4, if_neg hc8, if_pos hc17], Nf, rfl⟩
    · refine own_go (x' := s₁.setTop (mkF m 25 #[.val (.ref ao0), .val (.ref ao1), .val (.int (3 : Int32)), .val (.int (4 : Int32)), .val (.int p4)] [(.int (0 : Int32))])) (fun _ k => XS.icmpYes X0.here hx rfl (pc0 := 17) (pc' := 24) rfl (hb hby d4_17) rfl (flt hc17).2.1 (by decide) (by decide) (XS.iconst X0.here hx rfl (hb hby d4_24) k)) ?_
      refine own_retN X0 hx hlk (t := .boolean) hret (by simp) (hb hby d4_25) (w := (0 : Int32)) rfl ?_ (by decide) (by decide)
      rw [e0]
      exact ⟨by simp only [own_dok_3_4, if_neg hc8, if_neg hc17], Nf, rfl⟩
theorem own_law_0 (d0 d1 d2 d3 r0 r1 r2 r3 : Int32) (g0 : own_dg d0 r0) (g1 : own_dg d1 r1) (g2 : own_dg d2 r2) (g3 : own_dg d3 r3) : ((own_val_0 d0 d1 d2 d3 r0 r1 r2 r3 + 1 < own_tot_0 r0 r1 r2 r3 ∧ own_adv_0_b d0 d1 d2 d3 r0 r1 r2 r3 = 1 ∧ own_val_0 (own_adv_0_0 d0 d1 d2 d3 r0 r1 r2 r3) (own_adv_0_1 d0 d1 d2 d3 r0 r1 r2 r3) (own_adv_0_2 d0 d1 d2 d3 r0 r1 r2 r3) (own_adv_0_3 d0 d1 d2 d3 r0 r1 r2 r3) r0 r1 r2 r3 = own_val_0 d0 d1 d2 d3 r0 r1 r2 r3 + 1) ∨ (¬ own_val_0 d0 d1 d2 d3 r0 r1 r2 r3 + 1 < own_tot_0 r0 r1 r2 r3 ∧ own_adv_0_b d0 d1 d2 d3 r0 r1 r2 r3 = 0 ∧ own_val_0 (own_adv_0_0 d0 d1 d2 d3 r0 r1 r2 r3) (own_adv_0_1 d0 d1 d2 d3 r0 r1 r2 r3) (own_adv_0_2 d0 d1 d2 d3 r0 r1 r2 r3) (own_adv_0_3 d0 d1 d2 d3 r0 r1 r2 r3) r0 r1 r2 r3 = 0)) ∧ (own_adv_0_0 d0 d1 d2 d3 r0 r1 r2 r3) = d0 ∧ (own_adv_0_1 d0 d1 d2 d3 r0 r1 r2 r3) = d1 ∧ (own_adv_0_2 d0 d1 d2 d3 r0 r1 r2 r3) = d2 ∧ (own_adv_0_3 d0 d1 d2 d3 r0 r1 r2 r3) = d3 := by
  simp only [own_val_0, own_tot_0, own_adv_0_b, own_adv_0_0, own_adv_0_1, own_adv_0_2, own_adv_0_3]
  exact ⟨Or.inr ⟨by decide, trivial, trivial⟩, trivial, trivial, trivial, trivial⟩
theorem own_law_1 (d0 d1 d2 d3 r0 r1 r2 r3 : Int32) (g0 : own_dg d0 r0) (g1 : own_dg d1 r1) (g2 : own_dg d2 r2) (g3 : own_dg d3 r3) : ((own_val_1 d0 d1 d2 d3 r0 r1 r2 r3 + 1 < own_tot_1 r0 r1 r2 r3 ∧ own_adv_1_b d0 d1 d2 d3 r0 r1 r2 r3 = 1 ∧ own_val_1 (own_adv_1_0 d0 d1 d2 d3 r0 r1 r2 r3) (own_adv_1_1 d0 d1 d2 d3 r0 r1 r2 r3) (own_adv_1_2 d0 d1 d2 d3 r0 r1 r2 r3) (own_adv_1_3 d0 d1 d2 d3 r0 r1 r2 r3) r0 r1 r2 r3 = own_val_1 d0 d1 d2 d3 r0 r1 r2 r3 + 1) ∨ (¬ own_val_1 d0 d1 d2 d3 r0 r1 r2 r3 + 1 < own_tot_1 r0 r1 r2 r3 ∧ own_adv_1_b d0 d1 d2 d3 r0 r1 r2 r3 = 0 ∧ own_val_1 (own_adv_1_0 d0 d1 d2 d3 r0 r1 r2 r3) (own_adv_1_1 d0 d1 d2 d3 r0 r1 r2 r3) (own_adv_1_2 d0 d1 d2 d3 r0 r1 r2 r3) (own_adv_1_3 d0 d1 d2 d3 r0 r1 r2 r3) r0 r1 r2 r3 = 0)) ∧ own_dg (own_adv_1_0 d0 d1 d2 d3 r0 r1 r2 r3) r0 ∧ (own_adv_1_1 d0 d1 d2 d3 r0 r1 r2 r3) = d1 ∧ (own_adv_1_2 d0 d1 d2 d3 r0 r1 r2 r3) = d2 ∧ (own_adv_1_3 d0 d1 d2 d3 r0 r1 r2 r3) = d3 := by
  have q0 : 0 ≤ r0.toInt := by have := g0.1; have := g0.2.1; omega
  by_cases c0 : d0 + (1 : Int32) < r0
  · simp only [own_val_1, own_tot_1, own_adv_1_b, own_adv_1_0, own_adv_1_1, own_adv_1_2, own_adv_1_3, if_pos c0]
    have A := own_v1 g0
    have B := own_v1 (own_dg1 g0 c0)
    have T := own_t1 q0 g0.2.2
    have u := own_up g0
    have z : (0 : Int32).toInt = 0 := by decide
    have N := own_next A.1 B.1 T A.2.1 B.2.2 (by simp only [u, Int.add_mul, Int.sub_mul, Int.one_mul, Int.zero_mul, Int.add_zero] <;> omega)
    exact ⟨Or.inl ⟨N.1, (by first | rfl | trivial), N.2⟩, (own_dg1 g0 c0), (by first | rfl | trivial), (by first | rfl | trivial), (by first | rfl | trivial)⟩
  · simp only [own_val_1, own_tot_1, own_adv_1_b, own_adv_1_0, own_adv_1_1, own_adv_1_2, own_adv_1_3, if_neg c0]
    have A := own_v1 g0
    have B := own_v1 (own_dg0 g0)
    have T := own_t1 q0 g0.2.2
    have m0 := own_mx g0 c0
    have z : (0 : Int32).toInt = 0 := by decide
    have N := own_last A.1 B.1 T A.2.1 (by simp only [m0, Int.add_mul, Int.sub_mul, Int.one_mul] <;> omega) (by simp only [z, Int.zero_mul, Int.add_zero])
    exact ⟨Or.inr ⟨N.1, (by first | rfl | trivial), N.2⟩, (own_dg0 g0), (by first | rfl | trivial), (by first | rfl | trivial), (by first | rfl | trivial)⟩
theorem own_law_2 (d0 d1 d2 d3 r0 r1 r2 r3 : Int32) (g0 : own_dg d0 r0) (g1 : own_dg d1 r1) (g2 : own_dg d2 r2) (g3 : own_dg d3 r3) : ((own_val_2 d0 d1 d2 d3 r0 r1 r2 r3 + 1 < own_tot_2 r0 r1 r2 r3 ∧ own_adv_2_b d0 d1 d2 d3 r0 r1 r2 r3 = 1 ∧ own_val_2 (own_adv_2_0 d0 d1 d2 d3 r0 r1 r2 r3) (own_adv_2_1 d0 d1 d2 d3 r0 r1 r2 r3) (own_adv_2_2 d0 d1 d2 d3 r0 r1 r2 r3) (own_adv_2_3 d0 d1 d2 d3 r0 r1 r2 r3) r0 r1 r2 r3 = own_val_2 d0 d1 d2 d3 r0 r1 r2 r3 + 1) ∨ (¬ own_val_2 d0 d1 d2 d3 r0 r1 r2 r3 + 1 < own_tot_2 r0 r1 r2 r3 ∧ own_adv_2_b d0 d1 d2 d3 r0 r1 r2 r3 = 0 ∧ own_val_2 (own_adv_2_0 d0 d1 d2 d3 r0 r1 r2 r3) (own_adv_2_1 d0 d1 d2 d3 r0 r1 r2 r3) (own_adv_2_2 d0 d1 d2 d3 r0 r1 r2 r3) (own_adv_2_3 d0 d1 d2 d3 r0 r1 r2 r3) r0 r1 r2 r3 = 0)) ∧ own_dg (own_adv_2_0 d0 d1 d2 d3 r0 r1 r2 r3) r0 ∧ own_dg (own_adv_2_1 d0 d1 d2 d3 r0 r1 r2 r3) r1 ∧ (own_adv_2_2 d0 d1 d2 d3 r0 r1 r2 r3) = d2 ∧ (own_adv_2_3 d0 d1 d2 d3 r0 r1 r2 r3) = d3 := by
  have q0 : 0 ≤ r0.toInt := by have := g0.1; have := g0.2.1; omega
  have q1 : 0 ≤ r1.toInt := by have := g1.1; have := g1.2.1; omega
  by_cases c1 : d1 + (1 : Int32) < r1
  · simp only [own_val_2, own_tot_2, own_adv_2_b, own_adv_2_0, own_adv_2_1, own_adv_2_2, own_adv_2_3, if_pos c1]
    have A := own_v2 g0 g1
    have B := own_v2 g0 (own_dg1 g1 c1)
    have T := own_t2 q0 g0.2.2 q1 g1.2.2
    have u := own_up g1
    have z : (0 : Int32).toInt = 0 := by decide
    have N := own_next A.1 B.1 T A.2.1 B.2.2 (by simp only [u, Int.add_mul, Int.sub_mul, Int.one_mul, Int.zero_mul, Int.add_zero] <;> omega)
    exact ⟨Or.inl ⟨N.1, (by first | rfl | trivial), N.2⟩, g0, (own_dg1 g1 c1), (by first | rfl | trivial), (by first | rfl | trivial)⟩
  · by_cases c0 : d0 + (1 : Int32) < r0
    · simp only [own_val_2, own_tot_2, own_adv_2_b, own_adv_2_0, own_adv_2_1, own_adv_2_2, own_adv_2_3, if_neg c1, if_pos c0]
      have A := own_v2 g0 g1
      have B := own_v2 (own_dg1 g0 c0) (own_dg0 g1)
      have T := own_t2 q0 g0.2.2 q1 g1.2.2
      have m1 := own_mx g1 c1
      have u := own_up g0
      have z : (0 : Int32).toInt = 0 := by decide
      have N := own_next A.1 B.1 T A.2.1 B.2.2 (by simp only [u, z, m1, Int.add_mul, Int.sub_mul, Int.one_mul, Int.zero_mul, Int.add_zero] <;> omega)
      exact ⟨Or.inl ⟨N.1, (by first | rfl | trivial), N.2⟩, (own_dg1 g0 c0), (own_dg0 g1), (by first | rfl | trivial), (by first | rfl | trivial)⟩
    · simp only [own_val_2, own_tot_2, own_adv_2_b, own_adv_2_0, own_adv_2_1, own_adv_2_2, own_adv_2_3, if_neg c1, if_neg c0]
      have A := own_v2 g0 g1
      have B := own_v2 (own_dg0 g0) (own_dg0 g1)
      have T := own_t2 q0 g0.2.2 q1 g1.2.2
      have m1 := own_mx g1 c1
      have m0 := own_mx g0 c0
      have z : (0 : Int32).toInt = 0 := by decide
      have N := own_last A.1 B.1 T A.2.1 (by simp only [m1, m0, Int.add_mul, Int.sub_mul, Int.one_mul] <;> omega) (by simp only [z, Int.zero_mul, Int.add_zero])
      exact ⟨Or.inr ⟨N.1, (by first | rfl | trivial), N.2⟩, (own_dg0 g0), (own_dg0 g1), (by first | rfl | trivial), (by first | rfl | trivial)⟩
theorem own_law_3 (d0 d1 d2 d3 r0 r1 r2 r3 : Int32) (g0 : own_dg d0 r0) (g1 : own_dg d1 r1) (g2 : own_dg d2 r2) (g3 : own_dg d3 r3) : ((own_val_3 d0 d1 d2 d3 r0 r1 r2 r3 + 1 < own_tot_3 r0 r1 r2 r3 ∧ own_adv_3_b d0 d1 d2 d3 r0 r1 r2 r3 = 1 ∧ own_val_3 (own_adv_3_0 d0 d1 d2 d3 r0 r1 r2 r3) (own_adv_3_1 d0 d1 d2 d3 r0 r1 r2 r3) (own_adv_3_2 d0 d1 d2 d3 r0 r1 r2 r3) (own_adv_3_3 d0 d1 d2 d3 r0 r1 r2 r3) r0 r1 r2 r3 = own_val_3 d0 d1 d2 d3 r0 r1 r2 r3 + 1) ∨ (¬ own_val_3 d0 d1 d2 d3 r0 r1 r2 r3 + 1 < own_tot_3 r0 r1 r2 r3 ∧ own_adv_3_b d0 d1 d2 d3 r0 r1 r2 r3 = 0 ∧ own_val_3 (own_adv_3_0 d0 d1 d2 d3 r0 r1 r2 r3) (own_adv_3_1 d0 d1 d2 d3 r0 r1 r2 r3) (own_adv_3_2 d0 d1 d2 d3 r0 r1 r2 r3) (own_adv_3_3 d0 d1 d2 d3 r0 r1 r2 r3) r0 r1 r2 r3 = 0)) ∧ own_dg (own_adv_3_0 d0 d1 d2 d3 r0 r1 r2 r3) r0 ∧ own_dg (own_adv_3_1 d0 d1 d2 d3 r0 r1 r2 r3) r1 ∧ own_dg (own_adv_3_2 d0 d1 d2 d3 r0 r1 r2 r3) r2 ∧ (own_adv_3_3 d0 d1 d2 d3 r0 r1 r2 r3) = d3 := by
  have q0 : 0 ≤ r0.toInt := by have := g0.1; have := g0.2.1; omega
  have q1 : 0 ≤ r1.toInt := by have := g1.1; have := g1.2.1; omega
  have q2 : 0 ≤ r2.toInt := by have := g2.1; have := g2.2.1; omega
  by_cases c2 : d2 + (1 : Int32) < r2
  · simp only [own_val_3, own_tot_3, own_adv_3_b, own_adv_3_0, own_adv_3_1, own_adv_3_2, own_adv_3_3, if_pos c2]
    have A := own_v3 g0 g1 g2
    have B := own_v3 g0 g1 (own_dg1 g2 c2)
    have T := own_t3 q0 g0.2.2 q1 g1.2.2 q2 g2.2.2
    have u := own_up g2
    have z : (0 : Int32).toInt = 0 := by decide
    have N := own_next A.1 B.1 T A.2.1 B.2.2 (by simp only [u, Int.add_mul, Int.sub_mul, Int.one_mul, Int.zero_mul, Int.add_zero] <;> omega)
    exact ⟨Or.inl ⟨N.1, (by first | rfl | trivial), N.2⟩, g0, g1, (own_dg1 g2 c2), (by first | rfl | trivial)⟩
  · by_cases c1 : d1 + (1 : Int32) < r1
    · simp only [own_val_3, own_tot_3, own_adv_3_b, own_adv_3_0, own_adv_3_1, own_adv_3_2, own_adv_3_3, if_neg c2, if_pos c1]
      have A := own_v3 g0 g1 g2
      have B := own_v3 g0 (own_dg1 g1 c1) (own_dg0 g2)
      have T := own_t3 q0 g0.2.2 q1 g1.2.2 q2 g2.2.2
      have m2 := own_mx g2 c2
      have u := own_up g1
      have z : (0 : Int32).toInt = 0 := by decide
      have N := own_next A.1 B.1 T A.2.1 B.2.2 (by simp only [u, z, m2, Int.add_mul, Int.sub_mul, Int.one_mul, Int.zero_mul, Int.add_zero] <;> omega)
      exact ⟨Or.inl ⟨N.1, (by first | rfl | trivial), N.2⟩, g0, (own_dg1 g1 c1), (own_dg0 g2), (by first | rfl | trivial)⟩
    · by_cases c0 : d0 + (1 : Int32) < r0
      · simp only [own_val_3, own_tot_3, own_adv_3_b, own_adv_3_0, own_adv_3_1, own_adv_3_2, own_adv_3_3, if_neg c2, if_neg c1, if_pos c0]
        have A := own_v3 g0 g1 g2
        have B := own_v3 (own_dg1 g0 c0) (own_dg0 g1) (own_dg0 g2)
        have T := own_t3 q0 g0.2.2 q1 g1.2.2 q2 g2.2.2
        have m2 := own_mx g2 c2
        have m1 := own_mx g1 c1
        have u := own_up g0
        have z : (0 : Int32).toInt = 0 := by decide
        have N := own_next A.1 B.1 T A.2.1 B.2.2 (by simp only [u, z, m2, m1, Int.add_mul, Int.sub_mul, Int.one_mul, Int.zero_mul, Int.add_zero] <;> omega)
        exact ⟨Or.inl ⟨N.1, (by first | rfl | trivial), N.2⟩, (own_dg1 g0 c0), (own_dg0 g1), (own_dg0 g2), (by first | rfl | trivial)⟩
      · simp only [own_val_3, own_tot_3, own_adv_3_b, own_adv_3_0, own_adv_3_1, own_adv_3_2, own_adv_3_3, if_neg c2, if_neg c1, if_neg c0]
        have A := own_v3 g0 g1 g2
        have B := own_v3 (own_dg0 g0) (own_dg0 g1) (own_dg0 g2)
        have T := own_t3 q0 g0.2.2 q1 g1.2.2 q2 g2.2.2
        have m2 := own_mx g2 c2
        have m1 := own_mx g1 c1
        have m0 := own_mx g0 c0
        have z : (0 : Int32).toInt = 0 := by decide
        have N := own_last A.1 B.1 T A.2.1 (by simp only [m2, m1, m0, Int.add_mul, Int.sub_mul, Int.one_mul] <;> omega) (by simp only [z, Int.zero_mul, Int.add_zero])
        exact ⟨Or.inr ⟨N.1, (by first | rfl | trivial), N.2⟩, (own_dg0 g0), (own_dg0 g1), (own_dg0 g2), (by first | rfl | trivial)⟩
theorem own_law_4 (d0 d1 d2 d3 r0 r1 r2 r3 : Int32) (g0 : own_dg d0 r0) (g1 : own_dg d1 r1) (g2 : own_dg d2 r2) (g3 : own_dg d3 r3) : ((own_val_4 d0 d1 d2 d3 r0 r1 r2 r3 + 1 < own_tot_4 r0 r1 r2 r3 ∧ own_adv_4_b d0 d1 d2 d3 r0 r1 r2 r3 = 1 ∧ own_val_4 (own_adv_4_0 d0 d1 d2 d3 r0 r1 r2 r3) (own_adv_4_1 d0 d1 d2 d3 r0 r1 r2 r3) (own_adv_4_2 d0 d1 d2 d3 r0 r1 r2 r3) (own_adv_4_3 d0 d1 d2 d3 r0 r1 r2 r3) r0 r1 r2 r3 = own_val_4 d0 d1 d2 d3 r0 r1 r2 r3 + 1) ∨ (¬ own_val_4 d0 d1 d2 d3 r0 r1 r2 r3 + 1 < own_tot_4 r0 r1 r2 r3 ∧ own_adv_4_b d0 d1 d2 d3 r0 r1 r2 r3 = 0 ∧ own_val_4 (own_adv_4_0 d0 d1 d2 d3 r0 r1 r2 r3) (own_adv_4_1 d0 d1 d2 d3 r0 r1 r2 r3) (own_adv_4_2 d0 d1 d2 d3 r0 r1 r2 r3) (own_adv_4_3 d0 d1 d2 d3 r0 r1 r2 r3) r0 r1 r2 r3 = 0)) ∧ own_dg (own_adv_4_0 d0 d1 d2 d3 r0 r1 r2 r3) r0 ∧ own_dg (own_adv_4_1 d0 d1 d2 d3 r0 r1 r2 r3) r1 ∧ own_dg (own_adv_4_2 d0 d1 d2 d3 r0 r1 r2 r3) r2 ∧ own_dg (own_adv_4_3 d0 d1 d2 d3 r0 r1 r2 r3) r3 := by
  have q0 : 0 ≤ r0.toInt := by have := g0.1; have := g0.2.1; omega
  have q1 : 0 ≤ r1.toInt := by have := g1.1; have := g1.2.1; omega
  have q2 : 0 ≤ r2.toInt := by have := g2.1; have := g2.2.1; omega
  have q3 : 0 ≤ r3.toInt := by have := g3.1; have := g3.2.1; omega
  by_cases c3 : d3 + (1 : Int32) < r3
  · simp only [own_val_4, own_tot_4, own_adv_4_b, own_adv_4_0, own_adv_4_1, own_adv_4_2, own_adv_4_3, if_pos c3]
    have A := own_v4 g0 g1 g2 g3
    have B := own_v4 g0 g1 g2 (own_dg1 g3 c3)
    have T := own_t4 q0 g0.2.2 q1 g1.2.2 q2 g2.2.2 q3 g3.2.2
    have u := own_up g3
    have z : (0 : Int32).toInt = 0 := by decide
    have N := own_next A.1 B.1 T A.2.1 B.2.2 (by simp only [u, Int.add_mul, Int.sub_mul, Int.one_mul, Int.zero_mul, Int.add_zero] <;> omega)
    exact ⟨Or.inl ⟨N.1, (by first | rfl | trivial), N.2⟩, g0, g1, g2, (own_dg1 g3 c3)⟩
  · by_cases c2 : d2 + (1 : Int32) < r2
    · simp only [own_val_4, own_tot_4, own_adv_4_b, own_adv_4_0, own_adv_4_1, own_adv_4_2, own_adv_4_3, if_neg c3, if_pos c2]
      have A := own_v4 g0 g1 g2 g3
      have B := own_v4 g0 g1 (own_dg1 g2 c2) (own_dg0 g3)
      have T := own_t4 q0 g0.2.2 q1 g1.2.2 q2 g2.2.2 q3 g3.2.2
      have m3 := own_mx g3 c3
      have u := own_up g2
      have z : (0 : Int32).toInt = 0 := by decide
      have N := own_next A.1 B.1 T A.2.1 B.2.2 (by simp only [u, z, m3, Int.add_mul, Int.sub_mul, Int.one_mul, Int.zero_mul, Int.add_zero] <;> omega)
      exact ⟨Or.inl ⟨N.1, (by first | rfl | trivial), N.2⟩, g0, g1, (own_dg1 g2 c2), (own_dg0 g3)⟩
    · by_cases c1 : d1 + (1 : Int32) < r1
      · simp only [own_val_4, own_tot_4, own_adv_4_b, own_adv_4_0, own_adv_4_1, own_adv_4_2, own_adv_4_3, if_neg c3, if_neg c2, if_pos c1]
        have A := own_v4 g0 g1 g2 g3
        have B := own_v4 g0 (own_dg1 g1 c1) (own_dg0 g2) (own_dg0 g3)
        have T := own_t4 q0 g0.2.2 q1 g1.2.2 q2 g2.2.2 q3 g3.2.2
        have m3 := own_mx g3 c3
        have m2 := own_mx g2 c2
        have u := own_up g1
        have z : (0 : Int32).toInt = 0 := by decide
        have N := own_next A.1 B.1 T A.2.1 B.2.2 (by simp only [u, z, m3, m2, Int.add_mul, Int.sub_mul, Int.one_mul, Int.zero_mul, Int.add_zero] <;> omega)
        exact ⟨Or.inl ⟨N.1, (by first | rfl | trivial), N.2⟩, g0, (own_dg1 g1 c1), (own_dg0 g2), (own_dg0 g3)⟩
      · by_cases c0 : d0 + (1 : Int32) < r0
        · simp only [own_val_4, own_tot_4, own_adv_4_b, own_adv_4_0, own_adv_4_1, own_adv_4_2, own_adv_4_3, if_neg c3, if_neg c2, if_neg c1, if_pos c0]
          have A := own_v4 g0 g1 g2 g3
          have B := own_v4 (own_dg1 g0 c0) (own_dg0 g1) (own_dg0 g2) (own_dg0 g3)
          have T := own_t4 q0 g0.2.2 q1 g1.2.2 q2 g2.2.2 q3 g3.2.2
          have m3 := own_mx g3 c3
          have m2 := own_mx g2 c2
          have m1 := own_mx g1 c1
          have u := own_up g0
          have z : (0 : Int32).toInt = 0 := by decide
          have N := own_next A.1 B.1 T A.2.1 B.2.2 (by simp only [u, z, m3, m2, m1, Int.add_mul, Int.sub_mul, Int.one_mul, Int.zero_mul, Int.add_zero] <;> omega)
          exact ⟨Or.inl ⟨N.1, (by first | rfl | trivial), N.2⟩, (own_dg1 g0 c0), (own_dg0 g1), (own_dg0 g2), (own_dg0 g3)⟩
        · simp only [own_val_4, own_tot_4, own_adv_4_b, own_adv_4_0, own_adv_4_1, own_adv_4_2, own_adv_4_3, if_neg c3, if_neg c2, if_neg c1, if_neg c0]
          have A := own_v4 g0 g1 g2 g3
          have B := own_v4 (own_dg0 g0) (own_dg0 g1) (own_dg0 g2) (own_dg0 g3)
          have T := own_t4 q0 g0.2.2 q1 g1.2.2 q2 g2.2.2 q3 g3.2.2
          have m3 := own_mx g3 c3
          have m2 := own_mx g2 c2
          have m1 := own_mx g1 c1
          have m0 := own_mx g0 c0
          have z : (0 : Int32).toInt = 0 := by decide
          have N := own_last A.1 B.1 T A.2.1 (by simp only [m3, m2, m1, m0, Int.add_mul, Int.sub_mul, Int.one_mul] <;> omega) (by simp only [z, Int.zero_mul, Int.add_zero])
          exact ⟨Or.inr ⟨N.1, (by first | rfl | trivial), N.2⟩, (own_dg0 g0), (own_dg0 g1), (own_dg0 g2), (own_dg0 g3)⟩
theorem own_ok {d r : Int32} (g : own_dg d r) : ¬ d < 0 ∧ d < r := by
  obtain ⟨h1, h2, h3⟩ := g
  have z : (0 : Int32).toInt = 0 := by decide
  exact ⟨mt Int32.lt_iff_toInt_lt.mp (by omega), Int32.lt_iff_toInt_lt.mpr h2⟩
theorem own_r (p : Int32) : 1 ≤ ((1 : Int32) + (p &&& (32767 : Int32))).toInt ∧ ((1 : Int32) + (p &&& (32767 : Int32))).toInt ≤ 32768 := by
  have h := c_mask p 32767 15 (by decide) (by decide)
  have e := c_iadd 1 (p &&& 32767)
  have o : (1 : Int32).toInt = 1 := by decide
  have r := rng32 ((1 : Int32) + (p &&& 32767))
  omega
theorem own_rnz (p : Int32) : ¬ ((1 : Int32) + (p &&& (32767 : Int32))) = 0 := fun h => by
  have := own_r p
  rw [h] at this
  have z : (0 : Int32).toInt = 0 := by decide
  omega
theorem own_dgp (p : Int32) : own_dg (((p.toUInt32 >>> ((15 : Int32) &&& 31).toUInt32).toInt32) % ((1 : Int32) + (p &&& (32767 : Int32)))) ((1 : Int32) + (p &&& (32767 : Int32))) := by
  have h := own_r p
  have u := c_iushr p 15 15 (by decide) (by decide)
  have q : 0 ≤ ((p.toUInt32 >>> ((15 : Int32) &&& 31).toUInt32).toInt32).toInt := by rw [u]; omega
  have v := (c_iremV ((p.toUInt32 >>> ((15 : Int32) &&& 31).toUInt32).toInt32) ((1 : Int32) + (p &&& 32767))).1 q (by omega)
  exact ⟨v.1, v.2.1, h.2⟩
theorem own_m5 (p : Int32) : (p &&& (7 : Int32)) % (5 : Int32) = 0 ∨ (p &&& (7 : Int32)) % (5 : Int32) = 1 ∨ (p &&& (7 : Int32)) % (5 : Int32) = 2 ∨ (p &&& (7 : Int32)) % (5 : Int32) = 3 ∨ (p &&& (7 : Int32)) % (5 : Int32) = 4 := by
  have h1 := c_and p 7 (by decide)
  have h2 := (c_irem (p &&& 7) 5 5 (by decide)).1 h1.1
  have h3 : ((p &&& 7) % 5).toInt = 0 ∨ ((p &&& 7) % 5).toInt = 1 ∨ ((p &&& 7) % 5).toInt = 2 ∨ ((p &&& 7) % 5).toInt = 3 ∨ ((p &&& 7) % 5).toInt = 4 := by omega
  rcases h3 with h | h | h | h | h
  · exact Or.inl (Int32.toInt_inj.mp h)
  · exact Or.inr (Or.inl (Int32.toInt_inj.mp h))
  · exact Or.inr (Or.inr (Or.inl (Int32.toInt_inj.mp h)))
  · exact Or.inr (Or.inr (Or.inr (Or.inl (Int32.toInt_inj.mp h))))
  · exact Or.inr (Or.inr (Or.inr (Or.inr (Int32.toInt_inj.mp h))))
theorem pd_0 : parseMethodDescriptor "([I[II)J" = some ⟨[(.array .int), (.array .int), .int], some .long⟩ := by decide +kernel
theorem pd_1 : parseMethodDescriptor "([II)J" = some ⟨[(.array .int), .int], some .long⟩ := by decide +kernel
theorem pd_2 : parseMethodDescriptor "([I[II)Z" = some ⟨[(.array .int), (.array .int), .int], some .boolean⟩ := by decide +kernel
theorem pd_3 : parseMethodDescriptor "([I[IIII)Z" = some ⟨[(.array .int), (.array .int), .int, .int, .int], some .boolean⟩ := by decide +kernel
def Q_rm0 (Z : State) (p0 : Int32) (p1 : Int32) (p2 : Int32) (p3 : Int32) (p4 : Int32) (h0 : Heap) (n0 : Nat) (v : Option Value) (h : Heap) (L : List Loc) : Prop := v = some (.int 1) ∧ Fr n0 L
theorem pn_rm0 : plainName "com/example/stratgen/stratgen/model/StateSpaceAdvancePinLaw" = true := by first | (simp [plainName, overriddenIn]; done) | decide +kernel
theorem ef_rm0 (m : MethodId) (x0 : Int32) (x1 : Int32) (x2 : Int32) (x3 : Int32) (x4 : Int32) : entryFrame m #[(.int x0), (.int x1), (.int x2), (.int x3), (.int x4)] maxLocals = mkF m 0 #[.val (.int x0), .val (.int x1), .val (.int x2), .val (.int x3), .val (.int x4), .unset, .unset, .unset, .unset, .unset, .unset, .unset, .unset, .unset, .unset, .unset, .unset, .unset, .unset, .unset] [] := by first | (simp [entryFrame, mkF, argsToLocals, Value.category, maxLocals]; done) | rfl
set_option maxRecDepth 65536 in
set_option maxHeartbeats 40000000 in
theorem rm0 (l : Launch) (Z : State) (a0 : Array Value) (hw : ∀ d ∈ tables_1, d.before a0 Z = true) (ws : List Jvm.Cond) (p0 : Int32) (p1 : Int32) (p2 : Int32) (p3 : Int32) (p4 : Int32) (h0 : Heap) (n0 : Nat) (Z0 : n0 ≤ h0.size) :
    MetFree l x (head1 (Jvm.Cond.code x code maxLocals ret :: ws) room_1) (fun a U => a = #[(.int p0), (.int p1), (.int p2), (.int p3), (.int p4)] ∧ Z.Warmed39 U.vm ∧ U.heap = h0) (fun _ _ _ _ _ => True) (fun _ U o U' => ∃ v L, o = .returned v ∧ (Q_rm0 Z p0 p1 p2 p3 p4 h0 n0) v U'.heap L ∧ FrameEnd U o U' L room_1.cells room_1.slots) := by
  refine MetFree.of_bodySF (plainFor_of_name pn_rm0) hisR ?_
  intro p e s m args below meth c s₁ Bd hml0 hP hK
  obtain ⟨rfl, hZ, hh⟩ := hP
  have hx := Bd.exec
  have hby := Bd.bytes
  have hlk := BodyLoose.notSynchronized Bd
  have hret := Bd.returns
  have hml : c.maxLocals = 20 := hml0
  have hown : s.vm.findClass "com/example/stratgen/stratgen/model/StateSpaceAdvancePinLaw" = some m.cls := findClass_of_methodNamed Bd.named
  have hnm := (name_of_methodNamed Bd.named Bd.method).1
  have X0 : Stand p l e room_1 s m #[(.int p0), (.int p1), (.int p2), (.int p3), (.int p4)] below meth c s₁ [] 0 0 := Stand.of_body Bd
  have e0 : s₁.heap = h0 := by rw [← hh, Bd.state]; rfl
  have Nf := Fr.nil n0
  have Zs := Z0
  have Kp : Keep h0 h0 [] := Keep.refl _ _
  show own_End p e below s (Q_rm0 Z p0 p1 p2 p3 p4 h0 n0) room_1.cells room_1.slots (s₁.setTop (entryFrame m #[(.int p0), (.int p1), (.int p2), (.int p3), (.int p4)] maxLocals))
  refine own_go (x' := s₁.setTop (mkF m 0 #[.val (.int p0), .val (.int p1), .val (.int p2), .val (.int p3), .val (.int p4), .unset, .unset, .unset, .unset, .unset, .unset, .unset, .unset, .unset, .unset, .unset, .unset, .unset, .unset, .unset] [])) (fun t k => castTop (ef_rm0 m p0 p1 p2 p3 p4) k) ?_
  refine own_go (x' := s₁.setTop (mkF m 9 #[.val (.int p0), .val (.int p1), .val (.int p2), .val (.int p3), .val (.int p4), .val (.int ((p4 &&& (7 : Int32)) % (5 : Int32))), .unset, .unset, .unset, .unset, .unset, .unset, .unset, .unset, .unset, .unset, .unset, .unset, .unset, .unset] [])) (fun _ k => XS.iload X0.here hx rfl (hb hby at_0) rfl (XS.bipush X0.here hx rfl (hb hby at_2) (XS.iand X0.here hx rfl (hb hby at_4) rfl (XS.iconst X0.here hx rfl (hb hby at_5) (iremM X0 hx rfl (hb hby at_6) rfl (by decide) (XS.istore X0.here hx rfl (hb hby at_7) rfl (l' := #[.val (.int p0), .val (.int p1), .val (.int p2), .val (.int p3), .val (.int p4), .val (.int ((p4 &&& (7 : Int32)) % (5 : Int32))), .unset, .unset, .unset, .unset, .unset, .unset, .unset, .unset, .unset, .unset, .unset, .unset, .unset, .unset]) rfl k)))))) ?_
  refine own_go (x' := s₁.setTop (mkF m 10 #[.val (.int p0), .val (.int p1), .val (.int p2), .val (.int p3), .val (.int p4), .val (.int ((p4 &&& (7 : Int32)) % (5 : Int32))), .unset, .unset, .unset, .unset, .unset, .unset, .unset, .unset, .unset, .unset, .unset, .unset, .unset, .unset] [(.int (4 : Int32))])) (fun _ k => XS.iconst X0.here hx rfl (hb hby at_9) k) ?_
  obtain ⟨T1, h1, k1, X1, e1, E1, A1, st1⟩ := newP X0 hx hZ (own_w hw 0 rfl) e0 (g := (mkF m 10 #[.val (.int p0), .val (.int p1), .val (.int p2), .val (.int p3), .val (.int p4), .val (.int ((p4 &&& (7 : Int32)) % (5 : Int32))), .unset, .unset, .unset, .unset, .unset, .unset, .unset, .unset, .unset, .unset, .unset, .unset, .unset, .unset] [(.int (4 : Int32))])) rfl (hb hby at_10) rfl (by decide) (cap := 4) (by decide) (by decide) (by decide) (by decide)
  obtain ⟨b1, g1⟩ : ∃ z, z = h0.size := ⟨_, rfl⟩
  rw [← g1] at A1 st1
  have g_b1 : n0 ≤ b1 := Nat.le_trans Zs (Nat.le_of_eq g1.symm)
  replace Zs := Nat.le_trans Zs E1.1
  have V_b1 : Arv Z h1 b1 k1 .int (4 : Int32) [(.int (0 : Int32)), (.int (0 : Int32)), (.int (0 : Int32)), (.int (0 : Int32))] (.int (0 : Int32)) := (Arv.new A1 (by decide)).pad (pad_rep [] (.int (0 : Int32)) 4)
  refine own_go (x' := T1.setTop (mkF m 12 #[.val (.int p0), .val (.int p1), .val (.int p2), .val (.int p3), .val (.int p4), .val (.int ((p4 &&& (7 : Int32)) % (5 : Int32))), .unset, .unset, .unset, .unset, .unset, .unset, .unset, .unset, .unset, .unset, .unset, .unset, .unset, .unset] [(.ref b1)])) st1 ?_
  refine own_go (x' := T1.setTop (mkF m 22 #[.val (.int p0), .val (.int p1), .val (.int p2), .val (.int p3), .val (.int p4), .val (.int ((p4 &&& (7 : Int32)) % (5 : Int32))), .val (.ref b1), .unset, .unset, .unset, .unset, .unset, .unset, .unset, .unset, .unset, .unset, .unset, .unset, .unset] [(.int (32767 : Int32)), (.int p0), (.int (1 : Int32)), (.int (0 : Int32)), (.ref b1)])) (fun _ k => XS.astore X1.here hx rfl (hb hby at_12) rfl rfl (l' := #[.val (.int p0), .val (.int p1), .val (.int p2), .val (.int p3), .val (.int p4), .val (.int ((p4 &&& (7 : Int32)) % (5 : Int32))), .val (.ref b1), .unset, .unset, .unset, .unset, .unset, .unset, .unset, .unset, .unset, .unset, .unset, .unset, .unset]) rfl (XS.aload X1.here hx rfl (hb hby at_14) rfl rfl (XS.iconst X1.here hx rfl (hb hby at_16) (XS.iconst X1.here hx rfl (hb hby at_17) (XS.iloadN X1.here hx rfl (hb hby at_18) rfl (XS.sipush X1.here hx rfl (hb hby at_19) k)))))) ?_
  refine own_go (x' := T1.setTop (mkF m 24 #[.val (.int p0), .val (.int p1), .val (.int p2), .val (.int p3), .val (.int p4), .val (.int ((p4 &&& (7 : Int32)) % (5 : Int32))), .val (.ref b1), .unset, .unset, .unset, .unset, .unset, .unset, .unset, .unset, .unset, .unset, .unset, .unset, .unset] [(.int ((1 : Int32) + (p0 &&& (32767 : Int32)))), (.int (0 : Int32)), (.ref b1)])) (fun _ k => XS.iand X1.here hx rfl (hb hby at_22) rfl (XS.iadd X1.here hx rfl (hb hby at_23) rfl k)) ?_
  obtain ⟨cl2, Ar2, q2, Sz2, Nn2, Hh2, Gg2⟩ := V_b1
  have hin2 : ¬ ((0 : Int32) < 0 ∨ cl2.slots.size ≤ ((0 : Int32)).toNatClampNeg) := inb_of Sz2 ⟨by decide, by decide⟩
  obtain ⟨T2, h2, X2, e2, W2, st2⟩ := stI X1 hx hZ e1 Ar2 (j := (0 : Int32)) hin2 (g := (mkF m 24 #[.val (.int p0), .val (.int p1), .val (.int p2), .val (.int p3), .val (.int p4), .val (.int ((p4 &&& (7 : Int32)) % (5 : Int32))), .val (.ref b1), .unset, .unset, .unset, .unset, .unset, .unset, .unset, .unset, .unset, .unset, .unset, .unset, .unset] [(.int ((1 : Int32) + (p0 &&& (32767 : Int32)))), (.int (0 : Int32)), (.ref b1)])) rfl rfl (hb hby at_24)
  refine own_go (x' := T2.setTop (mkF m 25 #[.val (.int p0), .val (.int p1), .val (.int p2), .val (.int p3), .val (.int p4), .val (.int ((p4 &&& (7 : Int32)) % (5 : Int32))), .val (.ref b1), .unset, .unset, .unset, .unset, .unset, .unset, .unset, .unset, .unset, .unset, .unset, .unset, .unset] [])) st2 ?_
  replace Zs := Nat.le_trans Zs (Keep.of_wr W2).1
  replace Nf := Fr.snoc X2 Nf g_b1
  have V_b1 : Arv Z h2 b1 k1 .int (4 : Int32) [(.int ((1 : Int32) + (p0 &&& (32767 : Int32)))), (.int (0 : Int32)), (.int (0 : Int32)), (.int (0 : Int32))] (.int (0 : Int32)) := Arv.set Ar2 q2 Sz2 Nn2 Hh2 Gg2 rfl W2 0 rfl (Nat.le_of_ble_eq_true rfl)
  refine own_go (x' := T2.setTop (mkF m 34 #[.val (.int p0), .val (.int p1), .val (.int p2), .val (.int p3), .val (.int p4), .val (.int ((p4 &&& (7 : Int32)) % (5 : Int32))), .val (.ref b1), .unset, .unset, .unset, .unset, .unset, .unset, .unset, .unset, .unset, .unset, .unset, .unset, .unset] [(.int (p1 &&& (32767 : Int32))), (.int (1 : Int32)), (.int (1 : Int32)), (.ref b1)])) (fun _ k => XS.aload X2.here hx rfl (hb hby at_25) rfl rfl (XS.iconst X2.here hx rfl (hb hby at_27) (XS.iconst X2.here hx rfl (hb hby at_28) (XS.iloadN X2.here hx rfl (hb hby at_29) rfl (XS.sipush X2.here hx rfl (hb hby at_30) (XS.iand X2.here hx rfl (hb hby at_33) rfl k)))))) ?_
  refine own_go (x' := T2.setTop (mkF m 35 #[.val (.int p0), .val (.int p1), .val (.int p2), .val (.int p3), .val (.int p4), .val (.int ((p4 &&& (7 : Int32)) % (5 : Int32))), .val (.ref b1), .unset, .unset, .unset, .unset, .unset, .unset, .unset, .unset, .unset, .unset, .unset, .unset, .unset] [(.int ((1 : Int32) + (p1 &&& (32767 : Int32)))), (.int (1 : Int32)), (.ref b1)])) (fun _ k => XS.iadd X2.here hx rfl (hb hby at_34) rfl k) ?_
  obtain ⟨cl3, Ar3, q3, Sz3, Nn3, Hh3, Gg3⟩ := V_b1
  have hin3 : ¬ ((1 : Int32) < 0 ∨ cl3.slots.size ≤ ((1 : Int32)).toNatClampNeg) := inb_of Sz3 ⟨by decide, by decide⟩
  obtain ⟨T3, h3, X3, e3, W3, st3⟩ := stI X2 hx hZ e2 Ar3 (j := (1 : Int32)) hin3 (g := (mkF m 35 #[.val (.int p0), .val (.int p1), .val (.int p2), .val (.int p3), .val (.int p4), .val (.int ((p4 &&& (7 : Int32)) % (5 : Int32))), .val (.ref b1), .unset, .unset, .unset, .unset, .unset, .unset, .unset, .unset, .unset, .unset, .unset, .unset, .unset] [(.int ((1 : Int32) + (p1 &&& (32767 : Int32)))), (.int (1 : Int32)), (.ref b1)])) rfl rfl (hb hby at_35)
  refine own_go (x' := T3.setTop (mkF m 36 #[.val (.int p0), .val (.int p1), .val (.int p2), .val (.int p3), .val (.int p4), .val (.int ((p4 &&& (7 : Int32)) % (5 : Int32))), .val (.ref b1), .unset, .unset, .unset, .unset, .unset, .unset, .unset, .unset, .unset, .unset, .unset, .unset, .unset] [])) st3 ?_
  replace Zs := Nat.le_trans Zs (Keep.of_wr W3).1
  replace Nf := Fr.snoc X3 Nf g_b1
  have V_b1 : Arv Z h3 b1 k1 .int (4 : Int32) [(.int ((1 : Int32) + (p0 &&& (32767 : Int32)))), (.int ((1 : Int32) + (p1 &&& (32767 : Int32)))), (.int (0 : Int32)), (.int (0 : Int32))] (.int (0 : Int32)) := Arv.set Ar3 q3 Sz3 Nn3 Hh3 Gg3 rfl W3 1 rfl (Nat.le_of_ble_eq_true rfl)
  refine own_go (x' := T3.setTop (mkF m 45 #[.val (.int p0), .val (.int p1), .val (.int p2), .val (.int p3), .val (.int p4), .val (.int ((p4 &&& (7 : Int32)) % (5 : Int32))), .val (.ref b1), .unset, .unset, .unset, .unset, .unset, .unset, .unset, .unset, .unset, .unset, .unset, .unset, .unset] [(.int (p2 &&& (32767 : Int32))), (.int (1 : Int32)), (.int (2 : Int32)), (.ref b1)])) (fun _ k => XS.aload X3.here hx rfl (hb hby at_36) rfl rfl (XS.iconst X3.here hx rfl (hb hby at_38) (XS.iconst X3.here hx rfl (hb hby at_39) (XS.iloadN X3.here hx rfl (hb hby at_40) rfl (XS.sipush X3.here hx rfl (hb hby at_41) (XS.iand X3.here hx rfl (hb hby at_44) rfl k)))))) ?_
  refine own_go (x' := T3.setTop (mkF m 46 #[.val (.int p0), .val (.int p1), .val (.int p2), .val (.int p3), .val (.int p4), .val (.int ((p4 &&& (7 : Int32)) % (5 : Int32))), .val (.ref b1), .unset, .unset, .unset, .unset, .unset, .unset, .unset, .unset, .unset, .unset, .unset, .unset, .unset] [(.int ((1 : Int32) + (p2 &&& (32767 : Int32)))), (.int (2 : Int32)), (.ref b1)])) (fun _ k => XS.iadd X3.here hx rfl (hb hby at_45) rfl k) ?_
  obtain ⟨cl4, Ar4, q4, Sz4, Nn4, Hh4, Gg4⟩ := V_b1
  have hin4 : ¬ ((2 : Int32) < 0 ∨ cl4.slots.size ≤ ((2 : Int32)).toNatClampNeg) := inb_of Sz4 ⟨by decide, by decide⟩
  obtain ⟨T4, h4, X4, e4, W4, st4⟩ := stI X3 hx hZ e3 Ar4 (j := (2 : Int32)) hin4 (g := (mkF m 46 #[.val (.int p0), .val (.int p1), .val (.int p2), .val (.int p3), .val (.int p4), .val (.int ((p4 &&& (7 : Int32)) % (5 : Int32))), .val (.ref b1), .unset, .unset, .unset, .unset, .unset, .unset, .unset, .unset, .unset, .unset, .unset, .unset, .unset] [(.int ((1 : Int32) + (p2 &&& (32767 : Int32)))), (.int (2 : Int32)), (.ref b1)])) rfl rfl (hb hby at_46)
  refine own_go (x' := T4.setTop (mkF m 47 #[.val (.int p0), .val (.int p1), .val (.int p2), .val (.int p3), .val (.int p4), .val (.int ((p4 &&& (7 : Int32)) % (5 : Int32))), .val (.ref b1), .unset, .unset, .unset, .unset, .unset, .unset, .unset, .unset, .unset, .unset, .unset, .unset, .unset] [])) st4 ?_
  replace Zs := Nat.le_trans Zs (Keep.of_wr W4).1
  replace Nf := Fr.snoc X4 Nf g_b1
  have V_b1 : Arv Z h4 b1 k1 .int (4 : Int32) [(.int ((1 : Int32) + (p0 &&& (32767 : Int32)))), (.int ((1 : Int32) + (p1 &&& (32767 : Int32)))), (.int ((1 : Int32) + (p2 &&& (32767 : Int32)))), (.int (0 : Int32))] (.int (0 : Int32)) := Arv.set Ar4 q4 Sz4 Nn4 Hh4 Gg4 rfl W4 2 rfl (Nat.le_of_ble_eq_true rfl)
  refine own_go (x' := T4.setTop (mkF m 56 #[.val (.int p0), .val (.int p1), .val (.int p2), .val (.int p3), .val (.int p4), .val (.int ((p4 &&& (7 : Int32)) % (5 : Int32))), .val (.ref b1), .unset, .unset, .unset, .unset, .unset, .unset, .unset, .unset, .unset, .unset, .unset, .unset, .unset] [(.int (p3 &&& (32767 : Int32))), (.int (1 : Int32)), (.int (3 : Int32)), (.ref b1)])) (fun _ k => XS.aload X4.here hx rfl (hb hby at_47) rfl rfl (XS.iconst X4.here hx rfl (hb hby at_49) (XS.iconst X4.here hx rfl (hb hby at_50) (XS.iloadN X4.here hx rfl (hb hby at_51) rfl (XS.sipush X4.here hx rfl (hb hby at_52) (XS.iand X4.here hx rfl (hb hby at_55) rfl k)))))) ?_
  refine own_go (x' := T4.setTop (mkF m 57 #[.val (.int p0), .val (.int p1), .val (.int p2), .val (.int p3), .val (.int p4), .val (.int ((p4 &&& (7 : Int32)) % (5 : Int32))), .val (.ref b1), .unset, .unset, .unset, .unset, .unset, .unset, .unset, .unset, .unset, .unset, .unset, .unset, .unset] [(.int ((1 : Int32) + (p3 &&& (32767 : Int32)))), (.int (3 : Int32)), (.ref b1)])) (fun _ k => XS.iadd X4.here hx rfl (hb hby at_56) rfl k) ?_
  obtain ⟨cl5, Ar5, q5, Sz5, Nn5, Hh5, Gg5⟩ := V_b1
  have hin5 : ¬ ((3 : Int32) < 0 ∨ cl5.slots.size ≤ ((3 : Int32)).toNatClampNeg) := inb_of Sz5 ⟨by decide, by decide⟩
  obtain ⟨T5, h5, X5, e5, W5, st5⟩ := stI X4 hx hZ e4 Ar5 (j := (3 : Int32)) hin5 (g := (mkF m 57 #[.val (.int p0), .val (.int p1), .val (.int p2), .val (.int p3), .val (.int p4), .val (.int ((p4 &&& (7 : Int32)) % (5 : Int32))), .val (.ref b1), .unset, .unset, .unset, .unset, .unset, .unset, .unset, .unset, .unset, .unset, .unset, .unset, .unset] [(.int ((1 : Int32) + (p3 &&& (32767 : Int32)))), (.int (3 : Int32)), (.ref b1)])) rfl rfl (hb hby at_57)
  refine own_go (x' := T5.setTop (mkF m 58 #[.val (.int p0), .val (.int p1), .val (.int p2), .val (.int p3), .val (.int p4), .val (.int ((p4 &&& (7 : Int32)) % (5 : Int32))), .val (.ref b1), .unset, .unset, .unset, .unset, .unset, .unset, .unset, .unset, .unset, .unset, .unset, .unset, .unset] [])) st5 ?_
  replace Zs := Nat.le_trans Zs (Keep.of_wr W5).1
  replace Nf := Fr.snoc X5 Nf g_b1
  have V_b1 : Arv Z h5 b1 k1 .int (4 : Int32) [(.int ((1 : Int32) + (p0 &&& (32767 : Int32)))), (.int ((1 : Int32) + (p1 &&& (32767 : Int32)))), (.int ((1 : Int32) + (p2 &&& (32767 : Int32)))), (.int ((1 : Int32) + (p3 &&& (32767 : Int32))))] (.int (0 : Int32)) := Arv.set Ar5 q5 Sz5 Nn5 Hh5 Gg5 rfl W5 3 rfl (Nat.le_of_ble_eq_true rfl)
  refine own_go (x' := T5.setTop (mkF m 65 #[.val (.int p0), .val (.int p1), .val (.int p2), .val (.int p3), .val (.int p4), .val (.int ((p4 &&& (7 : Int32)) % (5 : Int32))), .val (.ref b1), .unset, .unset, .unset, .unset, .unset, .unset, .unset, .unset, .unset, .unset, .unset, .unset, .unset] [(.int (0 : Int32)), (.ref b1), (.int ((p0.toUInt32 >>> ((15 : Int32) &&& 31).toUInt32).toInt32))])) (fun _ k => XS.iloadN X5.here hx rfl (hb hby at_58) rfl (XS.bipush X5.here hx rfl (hb hby at_59) (XS.iushr X5.here hx rfl (hb hby at_61) rfl (XS.aload X5.here hx rfl (hb hby at_62) rfl rfl (XS.iconst X5.here hx rfl (hb hby at_64) k))))) ?_
  obtain ⟨cl6, Ar6, q6, Sz6, Nn6, Hh6, Gg6⟩ := id V_b1
  have hin6 : ¬ ((0 : Int32) < 0 ∨ cl6.slots.size ≤ ((0 : Int32)).toNatClampNeg) := inb_of Sz6 ⟨by decide, by decide⟩
  refine own_go (x' := T5.setTop (mkF m 66 #[.val (.int p0), .val (.int p1), .val (.int p2), .val (.int p3), .val (.int p4), .val (.int ((p4 &&& (7 : Int32)) % (5 : Int32))), .val (.ref b1), .unset, .unset, .unset, .unset, .unset, .unset, .unset, .unset, .unset, .unset, .unset, .unset, .unset] [(.int ((1 : Int32) + (p0 &&& (32767 : Int32)))), (.int ((p0.toUInt32 >>> ((15 : Int32) &&& 31).toUInt32).toInt32))])) (X5.iaload hx (j := (0 : Int32)) (v := (.int ((1 : Int32) + (p0 &&& (32767 : Int32))))) (by rw [e5]; exact Ar6.1) (State.isArrayOf_alike hZ.alike Ar6.2.1) Ar6.2.2 hin6 (Hh6.at hin6 rfl) (g := (mkF m 65 #[.val (.int p0), .val (.int p1), .val (.int p2), .val (.int p3), .val (.int p4), .val (.int ((p4 &&& (7 : Int32)) % (5 : Int32))), .val (.ref b1), .unset, .unset, .unset, .unset, .unset, .unset, .unset, .unset, .unset, .unset, .unset, .unset, .unset] [(.int (0 : Int32)), (.ref b1), (.int ((p0.toUInt32 >>> ((15 : Int32) &&& 31).toUInt32).toInt32))])) rfl rfl (hb hby at_65)) ?_
  refine own_go (x' := T5.setTop (mkF m 75 #[.val (.int p0), .val (.int p1), .val (.int p2), .val (.int p3), .val (.int p4), .val (.int ((p4 &&& (7 : Int32)) % (5 : Int32))), .val (.ref b1), .val (.int (((p0.toUInt32 >>> ((15 : Int32) &&& 31).toUInt32).toInt32) % ((1 : Int32) + (p0 &&& (32767 : Int32))))), .unset, .unset, .unset, .unset, .unset, .unset, .unset, .unset, .unset, .unset, .unset, .unset] [(.ref b1), (.int ((p1.toUInt32 >>> ((15 : Int32) &&& 31).toUInt32).toInt32))])) (fun _ k => iremM X5 hx rfl (hb hby at_66) rfl (own_rnz p0) (XS.istore X5.here hx rfl (hb hby at_67) rfl (l' := #[.val (.int p0), .val (.int p1), .val (.int p2), .val (.int p3), .val (.int p4), .val (.int ((p4 &&& (7 : Int32)) % (5 : Int32))), .val (.ref b1), .val (.int (((p0.toUInt32 >>> ((15 : Int32) &&& 31).toUInt32).toInt32) % ((1 : Int32) + (p0 &&& (32767 : Int32))))), .unset, .unset, .unset, .unset, .unset, .unset, .unset, .unset, .unset, .unset, .unset, .unset]) rfl (XS.iloadN X5.here hx rfl (hb hby at_69) rfl (XS.bipush X5.here hx rfl (hb hby at_70) (XS.iushr X5.here hx rfl (hb hby at_72) rfl (XS.aload X5.here hx rfl (hb hby at_73) rfl rfl k)))))) ?_
  refine own_go (x' := T5.setTop (mkF m 76 #[.val (.int p0), .val (.int p1), .val (.int p2), .val (.int p3), .val (.int p4), .val (.int ((p4 &&& (7 : Int32)) % (5 : Int32))), .val (.ref b1), .val (.int (((p0.toUInt32 >>> ((15 : Int32) &&& 31).toUInt32).toInt32) % ((1 : Int32) + (p0 &&& (32767 : Int32))))), .unset, .unset, .unset, .unset, .unset, .unset, .unset, .unset, .unset, .unset, .unset, .unset] [(.int (1 : Int32)), (.ref b1), (.int ((p1.toUInt32 >>> ((15 : Int32) &&& 31).toUInt32).toInt32))])) (fun _ k => XS.iconst X5.here hx rfl (hb hby at_75) k) ?_
  obtain ⟨cl7, Ar7, q7, Sz7, Nn7, Hh7, Gg7⟩ := id V_b1
  have hin7 : ¬ ((1 : Int32) < 0 ∨ cl7.slots.size ≤ ((1 : Int32)).toNatClampNeg) := inb_of Sz7 ⟨by decide, by decide⟩
  refine own_go (x' := T5.setTop (mkF m 77 #[.val (.int p0), .val (.int p1), .val (.int p2), .val (.int p3), .val (.int p4), .val (.int ((p4 &&& (7 : Int32)) % (5 : Int32))), .val (.ref b1), .val (.int (((p0.toUInt32 >>> ((15 : Int32) &&& 31).toUInt32).toInt32) % ((1 : Int32) + (p0 &&& (32767 : Int32))))), .unset, .unset, .unset, .unset, .unset, .unset, .unset, .unset, .unset, .unset, .unset, .unset] [(.int ((1 : Int32) + (p1 &&& (32767 : Int32)))), (.int ((p1.toUInt32 >>> ((15 : Int32) &&& 31).toUInt32).toInt32))])) (X5.iaload hx (j := (1 : Int32)) (v := (.int ((1 : Int32) + (p1 &&& (32767 : Int32))))) (by rw [e5]; exact Ar7.1) (State.isArrayOf_alike hZ.alike Ar7.2.1) Ar7.2.2 hin7 (Hh7.at hin7 rfl) (g := (mkF m 76 #[.val (.int p0), .val (.int p1), .val (.int p2), .val (.int p3), .val (.int p4), .val (.int ((p4 &&& (7 : Int32)) % (5 : Int32))), .val (.ref b1), .val (.int (((p0.toUInt32 >>> ((15 : Int32) &&& 31).toUInt32).toInt32) % ((1 : Int32) + (p0 &&& (32767 : Int32))))), .unset, .unset, .unset, .unset, .unset, .unset, .unset, .unset, .unset, .unset, .unset, .unset] [(.int (1 : Int32)), (.ref b1), (.int ((p1.toUInt32 >>> ((15 : Int32) &&& 31).toUInt32).toInt32))])) rfl rfl (hb hby at_76)) ?_
  refine own_go (x' := T5.setTop (mkF m 86 #[.val (.int p0), .val (.int p1), .val (.int p2), .val (.int p3), .val (.int p4), .val (.int ((p4 &&& (7 : Int32)) % (5 : Int32))), .val (.ref b1), .val (.int (((p0.toUInt32 >>> ((15 : Int32) &&& 31).toUInt32).toInt32) % ((1 : Int32) + (p0 &&& (32767 : Int32))))), .val (.int (((p1.toUInt32 >>> ((15 : Int32) &&& 31).toUInt32).toInt32) % ((1 : Int32) + (p1 &&& (32767 : Int32))))), .unset, .unset, .unset, .unset, .unset, .unset, .unset, .unset, .unset, .unset, .unset] [(.ref b1), (.int ((p2.toUInt32 >>> ((15 : Int32) &&& 31).toUInt32).toInt32))])) (fun _ k => iremM X5 hx rfl (hb hby at_77) rfl (own_rnz p1) (XS.istore X5.here hx rfl (hb hby at_78) rfl (l' := #[.val (.int p0), .val (.int p1), .val (.int p2), .val (.int p3), .val (.int p4), .val (.int ((p4 &&& (7 : Int32)) % (5 : Int32))), .val (.ref b1), .val (.int (((p0.toUInt32 >>> ((15 : Int32) &&& 31).toUInt32).toInt32) % ((1 : Int32) + (p0 &&& (32767 : Int32))))), .val (.int (((p1.toUInt32 >>> ((15 : Int32) &&& 31).toUInt32).toInt32) % ((1 : Int32) + (p1 &&& (32767 : Int32))))), .unset, .unset, .unset, .unset, .unset, .unset, .unset, .unset, .unset, .unset, .unset]) rfl (XS.iloadN X5.here hx rfl (hb hby at_80) rfl (XS.bipush X5.here hx rfl (hb hby at_81) (XS.iushr X5.here hx rfl (hb hby at_83) rfl (XS.aload X5.here hx rfl (hb hby at_84) rfl rfl k)))))) ?_
  refine own_go (x' := T5.setTop (mkF m 87 #[.val (.int p0), .val (.int p1), .val (.int p2), .val (.int p3), .val (.int p4), .val (.int ((p4 &&& (7 : Int32)) % (5 : Int32))), .val (.ref b1), .val (.int (((p0.toUInt32 >>> ((15 : Int32) &&& 31).toUInt32).toInt32) % ((1 : Int32) + (p0 &&& (32767 : Int32))))), .val (.int (((p1.toUInt32 >>> ((15 : Int32) &&& 31).toUInt32).toInt32) % ((1 : Int32) + (p1 &&& (32767 : Int32))))), .unset, .unset, .unset, .unset, .unset, .unset, .unset, .unset, .unset, .unset, .unset] [(.int (2 : Int32)), (.ref b1), (.int ((p2.toUInt32 >>> ((15 : Int32) &&& 31).toUInt32).toInt32))])) (fun _ k => XS.iconst X5.here hx rfl (hb hby at_86) k) ?_
  obtain ⟨cl8, Ar8, q8, Sz8, Nn8, Hh8, Gg8⟩ := id V_b1
  have hin8 : ¬ ((2 : Int32) < 0 ∨ cl8.slots.size ≤ ((2 : Int32)).toNatClampNeg) := inb_of Sz8 ⟨by decide, by decide⟩
  refine own_go (x' := T5.setTop (mkF m 88 #[.val (.int p0), .val (.int p1), .val (.int p2), .val (.int p3), .val (.int p4), .val (.int ((p4 &&& (7 : Int32)) % (5 : Int32))), .val (.ref b1), .val (.int (((p0.toUInt32 >>> ((15 : Int32) &&& 31).toUInt32).toInt32) % ((1 : Int32) + (p0 &&& (32767 : Int32))))), .val (.int (((p1.toUInt32 >>> ((15 : Int32) &&& 31).toUInt32).toInt32) % ((1 : Int32) + (p1 &&& (32767 : Int32))))), .unset, .unset, .unset, .unset, .unset, .unset, .unset, .unset, .unset, .unset, .unset] [(.int ((1 : Int32) + (p2 &&& (32767 : Int32)))), (.int ((p2.toUInt32 >>> ((15 : Int32) &&& 31).toUInt32).toInt32))])) (X5.iaload hx (j := (2 : Int32)) (v := (.int ((1 : Int32) + (p2 &&& (32767 : Int32))))) (by rw [e5]; exact Ar8.1) (State.isArrayOf_alike hZ.alike Ar8.2.1) Ar8.2.2 hin8 (Hh8.at hin8 rfl) (g := (mkF m 87 #[.val (.int p0), .val (.int p1), .val (.int p2), .val (.int p3), .val (.int p4), .val (.int ((p4 &&& (7 : Int32)) % (5 : Int32))), .val (.ref b1), .val (.int (((p0.toUInt32 >>> ((15 : Int32) &&& 31).toUInt32).toInt32) % ((1 : Int32) + (p0 &&& (32767 : Int32))))), .val (.int (((p1.toUInt32 >>> ((15 : Int32) &&& 31).toUInt32).toInt32) % ((1 : Int32) + (p1 &&& (32767 : Int32))))), .unset, .unset, .unset, .unset, .unset, .unset, .unset, .unset, .unset, .unset, .unset] [(.int (2 : Int32)), (.ref b1), (.int ((p2.toUInt32 >>> ((15 : Int32) &&& 31).toUInt32).toInt32))])) rfl rfl (hb hby at_87)) ?_
  refine own_go (x' := T5.setTop (mkF m 97 #[.val (.int p0), .val (.int p1), .val (.int p2), .val (.int p3), .val (.int p4), .val (.int ((p4 &&& (7 : Int32)) % (5 : Int32))), .val (.ref b1), .val (.int (((p0.toUInt32 >>> ((15 : Int32) &&& 31).toUInt32).toInt32) % ((1 : Int32) + (p0 &&& (32767 : Int32))))), .val (.int (((p1.toUInt32 >>> ((15 : Int32) &&& 31).toUInt32).toInt32) % ((1 : Int32) + (p1 &&& (32767 : Int32))))), .val (.int (((p2.toUInt32 >>> ((15 : Int32) &&& 31).toUInt32).toInt32) % ((1 : Int32) + (p2 &&& (32767 : Int32))))), .unset, .unset, .unset, .unset, .unset, .unset, .unset, .unset, .unset, .unset] [(.ref b1), (.int ((p3.toUInt32 >>> ((15 : Int32) &&& 31).toUInt32).toInt32))])) (fun _ k => iremM X5 hx rfl (hb hby at_88) rfl (own_rnz p2) (XS.istore X5.here hx rfl (hb hby at_89) rfl (l' := #[.val (.int p0), .val (.int p1), .val (.int p2), .val (.int p3), .val (.int p4), .val (.int ((p4 &&& (7 : Int32)) % (5 : Int32))), .val (.ref b1), .val (.int (((p0.toUInt32 >>> ((15 : Int32) &&& 31).toUInt32).toInt32) % ((1 : Int32) + (p0 &&& (32767 : Int32))))), .val (.int (((p1.toUInt32 >>> ((15 : Int32) &&& 31).toUInt32).toInt32) % ((1 : Int32) + (p1 &&& (32767 : Int32))))), .val (.int (((p2.toUInt32 >>> ((15 : Int32) &&& 31).toUInt32).toInt32) % ((1 : Int32) + (p2 &&& (32767 : Int32))))), .unset, .unset, .unset, .unset, .unset, .unset, .unset, .unset, .unset, .unset]) rfl (XS.iloadN X5.here hx rfl (hb hby at_91) rfl (XS.bipush X5.here hx rfl (hb hby at_92) (XS.iushr X5.here hx rfl (hb hby at_94) rfl (XS.aload X5.here hx rfl (hb hby at_95) rfl rfl k)))))) ?_
  refine own_go (x' := T5.setTop (mkF m 98 #[.val (.int p0), .val (.int p1), .val (.int p2), .val (.int p3), .val (.int p4), .val (.int ((p4 &&& (7 : Int32)) % (5 : Int32))), .val (.ref b1), .val (.int (((p0.toUInt32 >>> ((15 : Int32) &&& 31).toUInt32).toInt32) % ((1 : Int32) + (p0 &&& (32767 : Int32))))), .val (.int (((p1.toUInt32 >>> ((15 : Int32) &&& 31).toUInt32).toInt32) % ((1 : Int32) + (p1 &&& (32767 : Int32))))), .val (.int (((p2.toUInt32 >>> ((15 : Int32) &&& 31).toUInt32).toInt32) % ((1 : Int32) + (p2 &&& (32767 : Int32))))), .unset, .unset, .unset, .unset, .unset, .unset, .unset, .unset, .unset, .unset] [(.int (3 : Int32)), (.ref b1), (.int ((p3.toUInt32 >>> ((15 : Int32) &&& 31).toUInt32).toInt32))])) (fun _ k => XS.iconst X5.here hx rfl (hb hby at_97) k) ?_
  obtain ⟨cl9, Ar9, q9, Sz9, Nn9, Hh9, Gg9⟩ := id V_b1
  have hin9 : ¬ ((3 : Int32) < 0 ∨ cl9.slots.size ≤ ((3 : Int32)).toNatClampNeg) := inb_of Sz9 ⟨by decide, by decide⟩
  refine own_go (x' := T5.setTop (mkF m 99 #[.val (.int p0), .val (.int p1), .val (.int p2), .val (.int p3), .val (.int p4), .val (.int ((p4 &&& (7 : Int32)) % (5 : Int32))), .val (.ref b1), .val (.int (((p0.toUInt32 >>> ((15 : Int32) &&& 31).toUInt32).toInt32) % ((1 : Int32) + (p0 &&& (32767 : Int32))))), .val (.int (((p1.toUInt32 >>> ((15 : Int32) &&& 31).toUInt32).toInt32) % ((1 : Int32) + (p1 &&& (32767 : Int32))))), .val (.int (((p2.toUInt32 >>> ((15 : Int32) &&& 31).toUInt32).toInt32) % ((1 : Int32) + (p2 &&& (32767 : Int32))))), .unset, .unset, .unset, .unset, .unset, .unset, .unset, .unset, .unset, .unset] [(.int ((1 : Int32) + (p3 &&& (32767 : Int32)))), (.int ((p3.toUInt32 >>> ((15 : Int32) &&& 31).toUInt32).toInt32))])) (X5.iaload hx (j := (3 : Int32)) (v := (.int ((1 : Int32) + (p3 &&& (32767 : Int32))))) (by rw [e5]; exact Ar9.1) (State.isArrayOf_alike hZ.alike Ar9.2.1) Ar9.2.2 hin9 (Hh9.at hin9 rfl) (g := (mkF m 98 #[.val (.int p0), .val (.int p1), .val (.int p2), .val (.int p3), .val (.int p4), .val (.int ((p4 &&& (7 : Int32)) % (5 : Int32))), .val (.ref b1), .val (.int (((p0.toUInt32 >>> ((15 : Int32) &&& 31).toUInt32).toInt32) % ((1 : Int32) + (p0 &&& (32767 : Int32))))), .val (.int (((p1.toUInt32 >>> ((15 : Int32) &&& 31).toUInt32).toInt32) % ((1 : Int32) + (p1 &&& (32767 : Int32))))), .val (.int (((p2.toUInt32 >>> ((15 : Int32) &&& 31).toUInt32).toInt32) % ((1 : Int32) + (p2 &&& (32767 : Int32))))), .unset, .unset, .unset, .unset, .unset, .unset, .unset, .unset, .unset, .unset] [(.int (3 : Int32)), (.ref b1), (.int ((p3.toUInt32 >>> ((15 : Int32) &&& 31).toUInt32).toInt32))])) rfl rfl (hb hby at_98)) ?_
  refine own_go (x' := T5.setTop (mkF m 103 #[.val (.int p0), .val (.int p1), .val (.int p2), .val (.int p3), .val (.int p4), .val (.int ((p4 &&& (7 : Int32)) % (5 : Int32))), .val (.ref b1), .val (.int (((p0.toUInt32 >>> ((15 : Int32) &&& 31).toUInt32).toInt32) % ((1 : Int32) + (p0 &&& (32767 : Int32))))), .val (.int (((p1.toUInt32 >>> ((15 : Int32) &&& 31).toUInt32).toInt32) % ((1 : Int32) + (p1 &&& (32767 : Int32))))), .val (.int (((p2.toUInt32 >>> ((15 : Int32) &&& 31).toUInt32).toInt32) % ((1 : Int32) + (p2 &&& (32767 : Int32))))), .val (.int (((p3.toUInt32 >>> ((15 : Int32) &&& 31).toUInt32).toInt32) % ((1 : Int32) + (p3 &&& (32767 : Int32))))), .unset, .unset, .unset, .unset, .unset, .unset, .unset, .unset, .unset] [(.int (4 : Int32))])) (fun _ k => iremM X5 hx rfl (hb hby at_99) rfl (own_rnz p3) (XS.istore X5.here hx rfl (hb hby at_100) rfl (l' := #[.val (.int p0), .val (.int p1), .val (.int p2), .val (.int p3), .val (.int p4), .val (.int ((p4 &&& (7 : Int32)) % (5 : Int32))), .val (.ref b1), .val (.int (((p0.toUInt32 >>> ((15 : Int32) &&& 31).toUInt32).toInt32) % ((1 : Int32) + (p0 &&& (32767 : Int32))))), .val (.int (((p1.toUInt32 >>> ((15 : Int32) &&& 31).toUInt32).toInt32) % ((1 : Int32) + (p1 &&& (32767 : Int32))))), .val (.int (((p2.toUInt32 >>> ((15 : Int32) &&& 31).toUInt32).toInt32) % ((1 : Int32) + (p2 &&& (32767 : Int32))))), .val (.int (((p3.toUInt32 >>> ((15 : Int32) &&& 31).toUInt32).toInt32) % ((1 : Int32) + (p3 &&& (32767 : Int32))))), .unset, .unset, .unset, .unset, .unset, .unset, .unset, .unset, .unset]) rfl (XS.iconst X5.here hx rfl (hb hby at_102) k))) ?_
  obtain ⟨T10, h10, k10, X10, e10, E10, A10, st10⟩ := newP X5 hx hZ (own_w hw 0 rfl) e5 (g := (mkF m 103 #[.val (.int p0), .val (.int p1), .val (.int p2), .val (.int p3), .val (.int p4), .val (.int ((p4 &&& (7 : Int32)) % (5 : Int32))), .val (.ref b1), .val (.int (((p0.toUInt32 >>> ((15 : Int32) &&& 31).toUInt32).toInt32) % ((1 : Int32) + (p0 &&& (32767 : Int32))))), .val (.int (((p1.toUInt32 >>> ((15 : Int32) &&& 31).toUInt32).toInt32) % ((1 : Int32) + (p1 &&& (32767 : Int32))))), .val (.int (((p2.toUInt32 >>> ((15 : Int32) &&& 31).toUInt32).toInt32) % ((1 : Int32) + (p2 &&& (32767 : Int32))))), .val (.int (((p3.toUInt32 >>> ((15 : Int32) &&& 31).toUInt32).toInt32) % ((1 : Int32) + (p3 &&& (32767 : Int32))))), .unset, .unset, .unset, .unset, .unset, .unset, .unset, .unset, .unset] [(.int (4 : Int32))])) rfl (hb hby at_103) rfl (by decide) (cap := 4) (by decide) (by decide) (by decide) (by decide)
  obtain ⟨b10, g10⟩ : ∃ z, z = h5.size := ⟨_, rfl⟩
  rw [← g10] at A10 st10
  have ne_b1_b10 : b1 ≠ b10 := Nat.ne_of_lt (Nat.lt_of_lt_of_le V_b1.lt (Nat.le_of_eq g10.symm))
  have g_b10 : n0 ≤ b10 := Nat.le_trans Zs (Nat.le_of_eq g10.symm)
  replace V_b1 := V_b1.ext E10
  replace Zs := Nat.le_trans Zs E10.1
  have V_b10 : Arv Z h10 b10 k10 .int (4 : Int32) [(.int (0 : Int32)), (.int (0 : Int32)), (.int (0 : Int32)), (.int (0 : Int32))] (.int (0 : Int32)) := (Arv.new A10 (by decide)).pad (pad_rep [] (.int (0 : Int32)) 4)
  refine own_go (x' := T10.setTop (mkF m 105 #[.val (.int p0), .val (.int p1), .val (.int p2), .val (.int p3), .val (.int p4), .val (.int ((p4 &&& (7 : Int32)) % (5 : Int32))), .val (.ref b1), .val (.int (((p0.toUInt32 >>> ((15 : Int32) &&& 31).toUInt32).toInt32) % ((1 : Int32) + (p0 &&& (32767 : Int32))))), .val (.int (((p1.toUInt32 >>> ((15 : Int32) &&& 31).toUInt32).toInt32) % ((1 : Int32) + (p1 &&& (32767 : Int32))))), .val (.int (((p2.toUInt32 >>> ((15 : Int32) &&& 31).toUInt32).toInt32) % ((1 : Int32) + (p2 &&& (32767 : Int32))))), .val (.int (((p3.toUInt32 >>> ((15 : Int32) &&& 31).toUInt32).toInt32) % ((1 : Int32) + (p3 &&& (32767 : Int32))))), .unset, .unset, .unset, .unset, .unset, .unset, .unset, .unset, .unset] [(.ref b10)])) st10 ?_
  refine own_go (x' := T10.setTop (mkF m 112 #[.val (.int p0), .val (.int p1), .val (.int p2), .val (.int p3), .val (.int p4), .val (.int ((p4 &&& (7 : Int32)) % (5 : Int32))), .val (.ref b1), .val (.int (((p0.toUInt32 >>> ((15 : Int32) &&& 31).toUInt32).toInt32) % ((1 : Int32) + (p0 &&& (32767 : Int32))))), .val (.int (((p1.toUInt32 >>> ((15 : Int32) &&& 31).toUInt32).toInt32) % ((1 : Int32) + (p1 &&& (32767 : Int32))))), .val (.int (((p2.toUInt32 >>> ((15 : Int32) &&& 31).toUInt32).toInt32) % ((1 : Int32) + (p2 &&& (32767 : Int32))))), .val (.int (((p3.toUInt32 >>> ((15 : Int32) &&& 31).toUInt32).toInt32) % ((1 : Int32) + (p3 &&& (32767 : Int32))))), .val (.ref b10), .unset, .unset, .unset, .unset, .unset, .unset, .unset, .unset] [(.int (((p0.toUInt32 >>> ((15 : Int32) &&& 31).toUInt32).toInt32) % ((1 : Int32) + (p0 &&& (32767 : Int32))))), (.int (0 : Int32)), (.ref b10)])) (fun _ k => XS.astore X10.here hx rfl (hb hby at_105) rfl rfl (l' := #[.val (.int p0), .val (.int p1), .val (.int p2), .val (.int p3), .val (.int p4), .val (.int ((p4 &&& (7 : Int32)) % (5 : Int32))), .val (.ref b1), .val (.int (((p0.toUInt32 >>> ((15 : Int32) &&& 31).toUInt32).toInt32) % ((1 : Int32) + (p0 &&& (32767 : Int32))))), .val (.int (((p1.toUInt32 >>> ((15 : Int32) &&& 31).toUInt32).toInt32) % ((1 : Int32) + (p1 &&& (32767 : Int32))))), .val (.int (((p2.toUInt32 >>> ((15 : Int32) &&& 31).toUInt32).toInt32) % ((1 : Int32) + (p2 &&& (32767 : Int32))))), .val (.int (((p3.toUInt32 >>> ((15 : Int32) &&& 31).toUInt32).toInt32) % ((1 : Int32) + (p3 &&& (32767 : Int32))))), .val (.ref b10), .unset, .unset, .unset, .unset, .unset, .unset, .unset, .unset]) rfl (XS.aload X10.here hx rfl (hb hby at_107) rfl rfl (XS.iconst X10.here hx rfl (hb hby at_109) (XS.iload X10.here hx rfl (hb hby at_110) rfl k)))) ?_
  obtain ⟨cl11, Ar11, q11, Sz11, Nn11, Hh11, Gg11⟩ := V_b10
  have hin11 : ¬ ((0 : Int32) < 0 ∨ cl11.slots.size ≤ ((0 : Int32)).toNatClampNeg) := inb_of Sz11 ⟨by decide, by decide⟩
  obtain ⟨T11, h11, X11, e11, W11, st11⟩ := stI X10 hx hZ e10 Ar11 (j := (0 : Int32)) hin11 (g := (mkF m 112 #[.val (.int p0), .val (.int p1), .val (.int p2), .val (.int p3), .val (.int p4), .val (.int ((p4 &&& (7 : Int32)) % (5 : Int32))), .val (.ref b1), .val (.int (((p0.toUInt32 >>> ((15 : Int32) &&& 31).toUInt32).toInt32) % ((1 : Int32) + (p0 &&& (32767 : Int32))))), .val (.int (((p1.toUInt32 >>> ((15 : Int32) &&& 31).toUInt32).toInt32) % ((1 : Int32) + (p1 &&& (32767 : Int32))))), .val (.int (((p2.toUInt32 >>> ((15 : Int32) &&& 31).toUInt32).toInt32) % ((1 : Int32) + (p2 &&& (32767 : Int32))))), .val (.int (((p3.toUInt32 >>> ((15 : Int32) &&& 31).toUInt32).toInt32) % ((1 : Int32) + (p3 &&& (32767 : Int32))))), .val (.ref b10), .unset, .unset, .unset, .unset, .unset, .unset, .unset, .unset] [(.int (((p0.toUInt32 >>> ((15 : Int32) &&& 31).toUInt32).toInt32) % ((1 : Int32) + (p0 &&& (32767 : Int32))))), (.int (0 : Int32)), (.ref b10)])) rfl rfl (hb hby at_112)
  refine own_go (x' := T11.setTop (mkF m 113 #[.val (.int p0), .val (.int p1), .val (.int p2), .val (.int p3), .val (.int p4), .val (.int ((p4 &&& (7 : Int32)) % (5 : Int32))), .val (.ref b1), .val (.int (((p0.toUInt32 >>> ((15 : Int32) &&& 31).toUInt32).toInt32) % ((1 : Int32) + (p0 &&& (32767 : Int32))))), .val (.int (((p1.toUInt32 >>> ((15 : Int32) &&& 31).toUInt32).toInt32) % ((1 : Int32) + (p1 &&& (32767 : Int32))))), .val (.int (((p2.toUInt32 >>> ((15 : Int32) &&& 31).toUInt32).toInt32) % ((1 : Int32) + (p2 &&& (32767 : Int32))))), .val (.int (((p3.toUInt32 >>> ((15 : Int32) &&& 31).toUInt32).toInt32) % ((1 : Int32) + (p3 &&& (32767 : Int32))))), .val (.ref b10), .unset, .unset, .unset, .unset, .unset, .unset, .unset, .unset] [])) st11 ?_
  replace V_b1 := V_b1.other W11 ne_b1_b10
  replace Zs := Nat.le_trans Zs (Keep.of_wr W11).1
  replace Nf := Fr.snoc X11 Nf g_b10
  have V_b10 : Arv Z h11 b10 k10 .int (4 : Int32) [(.int (((p0.toUInt32 >>> ((15 : Int32) &&& 31).toUInt32).toInt32) % ((1 : Int32) + (p0 &&& (32767 : Int32))))), (.int (0 : Int32)), (.int (0 : Int32)), (.int (0 : Int32))] (.int (0 : Int32)) := Arv.set Ar11 q11 Sz11 Nn11 Hh11 Gg11 rfl W11 0 rfl (Nat.le_of_ble_eq_true rfl)
  refine own_go (x' := T11.setTop (mkF m 118 #[.val (.int p0), .val (.int p1), .val (.int p2), .val (.int p3), .val (.int p4), .val (.int ((p4 &&& (7 : Int32)) % (5 : Int32))), .val (.ref b1), .val (.int (((p0.toUInt32 >>> ((15 : Int32) &&& 31).toUInt32).toInt32) % ((1 : Int32) + (p0 &&& (32767 : Int32))))), .val (.int (((p1.toUInt32 >>> ((15 : Int32) &&& 31).toUInt32).toInt32) % ((1 : Int32) + (p1 &&& (32767 : Int32))))), .val (.int (((p2.toUInt32 >>> ((15 : Int32) &&& 31).toUInt32).toInt32) % ((1 : Int32) + (p2 &&& (32767 : Int32))))), .val (.int (((p3.toUInt32 >>> ((15 : Int32) &&& 31).toUInt32).toInt32) % ((1 : Int32) + (p3 &&& (32767 : Int32))))), .val (.ref b10), .unset, .unset, .unset, .unset, .unset, .unset, .unset, .unset] [(.int (((p1.toUInt32 >>> ((15 : Int32) &&& 31).toUInt32).toInt32) % ((1 : Int32) + (p1 &&& (32767 : Int32))))), (.int (1 : Int32)), (.ref b10)])) (fun _ k => XS.aload X11.here hx rfl (hb hby at_113) rfl rfl (XS.iconst X11.here hx rfl (hb hby at_115) (XS.iload X11.here hx rfl (hb hby at_116) rfl k))) ?_
  obtain ⟨cl12, Ar12, q12, Sz12, Nn12, Hh12, Gg12⟩ := V_b10
  have hin12 : ¬ ((1 : Int32) < 0 ∨ cl12.slots.size ≤ ((1 : Int32)).toNatClampNeg) := inb_of Sz12 ⟨by decide, by decide⟩
  obtain ⟨T12, h12, X12, e12, W12, st12⟩ := stI X11 hx hZ e11 Ar12 (j := (1 : Int32)) hin12 (g := (mkF m 118 #[.val (.int p0), .val (.int p1), .val (.int p2), .val (.int p3), .val (.int p4), .val (.int ((p4 &&& (7 : Int32)) % (5 : Int32))), .val (.ref b1), .val (.int (((p0.toUInt32 >>> ((15 : Int32) &&& 31).toUInt32).toInt32) % ((1 : Int32) + (p0 &&& (32767 : Int32))))), .val (.int (((p1.toUInt32 >>> ((15 : Int32) &&& 31).toUInt32).toInt32) % ((1 : Int32) + (p1 &&& (32767 : Int32))))), .val (.int (((p2.toUInt32 >>> ((15 : Int32) &&& 31).toUInt32).toInt32) % ((1 : Int32) + (p2 &&& (32767 : Int32))))), .val (.int (((p3.toUInt32 >>> ((15 : Int32) &&& 31).toUInt32).toInt32) % ((1 : Int32) + (p3 &&& (32767 : Int32))))), .val (.ref b10), .unset, .unset, .unset, .unset, .unset, .unset, .unset, .unset] [(.int (((p1.toUInt32 >>> ((15 : Int32) &&& 31).toUInt32).toInt32) % ((1 : Int32) + (p1 &&& (32767 : Int32))))), (.int (1 : Int32)), (.ref b10)])) rfl rfl (hb hby at_118)
  refine own_go (x' := T12.setTop (mkF m 119 #[.val (.int p0), .val (.int p1), .val (.int p2), .val (.int p3), .val (.int p4), .val (.int ((p4 &&& (7 : Int32)) % (5 : Int32))), .val (.ref b1), .val (.int (((p0.toUInt32 >>> ((15 : Int32) &&& 31).toUInt32).toInt32) % ((1 : Int32) + (p0 &&& (32767 : Int32))))), .val (.int (((p1.toUInt32 >>> ((15 : Int32) &&& 31).toUInt32).toInt32) % ((1 : Int32) + (p1 &&& (32767 : Int32))))), .val (.int (((p2.toUInt32 >>> ((15 : Int32) &&& 31).toUInt32).toInt32) % ((1 : Int32) + (p2 &&& (32767 : Int32))))), .val (.int (((p3.toUInt32 >>> ((15 : Int32) &&& 31).toUInt32).toInt32) % ((1 : Int32) + (p3 &&& (32767 : Int32))))), .val (.ref b10), .unset, .unset, .unset, .unset, .unset, .unset, .unset, .unset] [])) st12 ?_
  replace V_b1 := V_b1.other W12 ne_b1_b10
  replace Zs := Nat.le_trans Zs (Keep.of_wr W12).1
  replace Nf := Fr.snoc X12 Nf g_b10
  have V_b10 : Arv Z h12 b10 k10 .int (4 : Int32) [(.int (((p0.toUInt32 >>> ((15 : Int32) &&& 31).toUInt32).toInt32) % ((1 : Int32) + (p0 &&& (32767 : Int32))))), (.int (((p1.toUInt32 >>> ((15 : Int32) &&& 31).toUInt32).toInt32) % ((1 : Int32) + (p1 &&& (32767 : Int32))))), (.int (0 : Int32)), (.int (0 : Int32))] (.int (0 : Int32)) := Arv.set Ar12 q12 Sz12 Nn12 Hh12 Gg12 rfl W12 1 rfl (Nat.le_of_ble_eq_true rfl)
  refine own_go (x' := T12.setTop (mkF m 124 #[.val (.int p0), .val (.int p1), .val (.int p2), .val (.int p3), .val (.int p4), .val (.int ((p4 &&& (7 : Int32)) % (5 : Int32))), .val (.ref b1), .val (.int (((p0.toUInt32 >>> ((15 : Int32) &&& 31).toUInt32).toInt32) % ((1 : Int32) + (p0 &&& (32767 : Int32))))), .val (.int (((p1.toUInt32 >>> ((15 : Int32) &&& 31).toUInt32).toInt32) % ((1 : Int32) + (p1 &&& (32767 : Int32))))), .val (.int (((p2.toUInt32 >>> ((15 : Int32) &&& 31).toUInt32).toInt32) % ((1 : Int32) + (p2 &&& (32767 : Int32))))), .val (.int (((p3.toUInt32 >>> ((15 : Int32) &&& 31).toUInt32).toInt32) % ((1 : Int32) + (p3 &&& (32767 : Int32))))), .val (.ref b10), .unset, .unset, .unset, .unset, .unset, .unset, .unset, .unset] [(.int (((p2.toUInt32 >>> ((15 : Int32) &&& 31).toUInt32).toInt32) % ((1 : Int32) + (p2 &&& (32767 : Int32))))), (.int (2 : Int32)), (.ref b10)])) (fun _ k => XS.aload X12.here hx rfl (hb hby at_119) rfl rfl (XS.iconst X12.here hx rfl (hb hby at_121) (XS.iload X12.here hx rfl (hb hby at_122) rfl k))) ?_
  obtain ⟨cl13, Ar13, q13, Sz13, Nn13, Hh13, Gg13⟩ := V_b10
  have hin13 : ¬ ((2 : Int32) < 0 ∨ cl13.slots.size ≤ ((2 : Int32)).toNatClampNeg) := inb_of Sz13 ⟨by decide, by decide⟩
  obtain ⟨T13, h13, X13, e13, W13, st13⟩ := stI X12 hx hZ e12 Ar13 (j := (2 : Int32)) hin13 (g := (mkF m 124 #[.val (.int p0), .val (.int p1), .val (.int p2), .val (.int p3), .val (.int p4), .val (.int ((p4 &&& (7 : Int32)) % (5 : Int32))), .val (.ref b1), .val (.int (((p0.toUInt32 >>> ((15 : Int32) &&& 31).toUInt32).toInt32) % ((1 : Int32) + (p0 &&& (32767 : Int32))))), .val (.int (((p1.toUInt32 >>> ((15 : Int32) &&& 31).toUInt32).toInt32) % ((1 : Int32) + (p1 &&& (32767 : Int32))))), .val (.int (((p2.toUInt32 >>> ((15 : Int32) &&& 31).toUInt32).toInt32) % ((1 : Int32) + (p2 &&& (32767 : Int32))))), .val (.int (((p3.toUInt32 >>> ((15 : Int32) &&& 31).toUInt32).toInt32) % ((1 : Int32) + (p3 &&& (32767 : Int32))))), .val (.ref b10), .unset, .unset, .unset, .unset, .unset, .unset, .unset, .unset] [(.int (((p2.toUInt32 >>> ((15 : Int32) &&& 31).toUInt32).toInt32) % ((1 : Int32) + (p2 &&& (32767 : Int32))))), (.int (2 : Int32)), (.ref b10)])) rfl rfl (hb hby at_124)
  refine own_go (x' := T13.setTop (mkF m 125 #[.val (.int p0), .val (.int p1), .val (.int p2), .val (.int p3), .val (.int p4), .val (.int ((p4 &&& (7 : Int32)) % (5 : Int32))), .val (.ref b1), .val (.int (((p0.toUInt32 >>> ((15 : Int32) &&& 31).toUInt32).toInt32) % ((1 : Int32) + (p0 &&& (32767 : Int32))))), .val (.int (((p1.toUInt32 >>> ((15 : Int32) &&& 31).toUInt32).toInt32) % ((1 : Int32) + (p1 &&& (32767 : Int32))))), .val (.int (((p2.toUInt32 >>> ((15 : Int32) &&& 31).toUInt32).toInt32) % ((1 : Int32) + (p2 &&& (32767 : Int32))))), .val (.int (((p3.toUInt32 >>> ((15 : Int32) &&& 31).toUInt32).toInt32) % ((1 : Int32) + (p3 &&& (32767 : Int32))))), .val (.ref b10), .unset, .unset, .unset, .unset, .unset, .unset, .unset, .unset] [])) st13 ?_
  replace V_b1 := V_b1.other W13 ne_b1_b10
  replace Zs := Nat.le_trans Zs (Keep.of_wr W13).1
  replace Nf := Fr.snoc X13 Nf g_b10
  have V_b10 : Arv Z h13 b10 k10 .int (4 : Int32) [(.int (((p0.toUInt32 >>> ((15 : Int32) &&& 31).toUInt32).toInt32) % ((1 : Int32) + (p0 &&& (32767 : Int32))))), (.int (((p1.toUInt32 >>> ((15 : Int32) &&& 31).toUInt32).toInt32) % ((1 : Int32) + (p1 &&& (32767 : Int32))))), (.int (((p2.toUInt32 >>> ((15 : Int32) &&& 31).toUInt32).toInt32) % ((1 : Int32) + (p2 &&& (32767 : Int32))))), (.int (0 : Int32))] (.int (0 : Int32)) := Arv.set Ar13 q13 Sz13 Nn13 Hh13 Gg13 rfl W13 2 rfl (Nat.le_of_ble_eq_true rfl)
  refine own_go (x' := T13.setTop (mkF m 130 #[.val (.int p0), .val (.int p1), .val (.int p2), .val (.int p3), .val (.int p4), .val (.int ((p4 &&& (7 : Int32)) % (5 : Int32))), .val (.ref b1), .val (.int (((p0.toUInt32 >>> ((15 : Int32) &&& 31).toUInt32).toInt32) % ((1 : Int32) + (p0 &&& (32767 : Int32))))), .val (.int (((p1.toUInt32 >>> ((15 : Int32) &&& 31).toUInt32).toInt32) % ((1 : Int32) + (p1 &&& (32767 : Int32))))), .val (.int (((p2.toUInt32 >>> ((15 : Int32) &&& 31).toUInt32).toInt32) % ((1 : Int32) + (p2 &&& (32767 : Int32))))), .val (.int (((p3.toUInt32 >>> ((15 : Int32) &&& 31).toUInt32).toInt32) % ((1 : Int32) + (p3 &&& (32767 : Int32))))), .val (.ref b10), .unset, .unset, .unset, .unset, .unset, .unset, .unset, .unset] [(.int (((p3.toUInt32 >>> ((15 : Int32) &&& 31).toUInt32).toInt32) % ((1 : Int32) + (p3 &&& (32767 : Int32))))), (.int (3 : Int32)), (.ref b10)])) (fun _ k => XS.aload X13.here hx rfl (hb hby at_125) rfl rfl (XS.iconst X13.here hx rfl (hb hby at_127) (XS.iload X13.here hx rfl (hb hby at_128) rfl k))) ?_
  obtain ⟨cl14, Ar14, q14, Sz14, Nn14, Hh14, Gg14⟩ := V_b10
  have hin14 : ¬ ((3 : Int32) < 0 ∨ cl14.slots.size ≤ ((3 : Int32)).toNatClampNeg) := inb_of Sz14 ⟨by decide, by decide⟩
  obtain ⟨T14, h14, X14, e14, W14, st14⟩ := stI X13 hx hZ e13 Ar14 (j := (3 : Int32)) hin14 (g := (mkF m 130 #[.val (.int p0), .val (.int p1), .val (.int p2), .val (.int p3), .val (.int p4), .val (.int ((p4 &&& (7 : Int32)) % (5 : Int32))), .val (.ref b1), .val (.int (((p0.toUInt32 >>> ((15 : Int32) &&& 31).toUInt32).toInt32) % ((1 : Int32) + (p0 &&& (32767 : Int32))))), .val (.int (((p1.toUInt32 >>> ((15 : Int32) &&& 31).toUInt32).toInt32) % ((1 : Int32) + (p1 &&& (32767 : Int32))))), .val (.int (((p2.toUInt32 >>> ((15 : Int32) &&& 31).toUInt32).toInt32) % ((1 : Int32) + (p2 &&& (32767 : Int32))))), .val (.int (((p3.toUInt32 >>> ((15 : Int32) &&& 31).toUInt32).toInt32) % ((1 : Int32) + (p3 &&& (32767 : Int32))))), .val (.ref b10), .unset, .unset, .unset, .unset, .unset, .unset, .unset, .unset] [(.int (((p3.toUInt32 >>> ((15 : Int32) &&& 31).toUInt32).toInt32) % ((1 : Int32) + (p3 &&& (32767 : Int32))))), (.int (3 : Int32)), (.ref b10)])) rfl rfl (hb hby at_130)
  refine own_go (x' := T14.setTop (mkF m 131 #[.val (.int p0), .val (.int p1), .val (.int p2), .val (.int p3), .val (.int p4), .val (.int ((p4 &&& (7 : Int32)) % (5 : Int32))), .val (.ref b1), .val (.int (((p0.toUInt32 >>> ((15 : Int32) &&& 31).toUInt32).toInt32) % ((1 : Int32) + (p0 &&& (32767 : Int32))))), .val (.int (((p1.toUInt32 >>> ((15 : Int32) &&& 31).toUInt32).toInt32) % ((1 : Int32) + (p1 &&& (32767 : Int32))))), .val (.int (((p2.toUInt32 >>> ((15 : Int32) &&& 31).toUInt32).toInt32) % ((1 : Int32) + (p2 &&& (32767 : Int32))))), .val (.int (((p3.toUInt32 >>> ((15 : Int32) &&& 31).toUInt32).toInt32) % ((1 : Int32) + (p3 &&& (32767 : Int32))))), .val (.ref b10), .unset, .unset, .unset, .unset, .unset, .unset, .unset, .unset] [])) st14 ?_
  replace V_b1 := V_b1.other W14 ne_b1_b10
  replace Zs := Nat.le_trans Zs (Keep.of_wr W14).1
  replace Nf := Fr.snoc X14 Nf g_b10
  have V_b10 : Arv Z h14 b10 k10 .int (4 : Int32) [(.int (((p0.toUInt32 >>> ((15 : Int32) &&& 31).toUInt32).toInt32) % ((1 : Int32) + (p0 &&& (32767 : Int32))))), (.int (((p1.toUInt32 >>> ((15 : Int32) &&& 31).toUInt32).toInt32) % ((1 : Int32) + (p1 &&& (32767 : Int32))))), (.int (((p2.toUInt32 >>> ((15 : Int32) &&& 31).toUInt32).toInt32) % ((1 : Int32) + (p2 &&& (32767 : Int32))))), (.int (((p3.toUInt32 >>> ((15 : Int32) &&& 31).toUInt32).toInt32) % ((1 : Int32) + (p3 &&& (32767 : Int32)))))] (.int (0 : Int32)) := Arv.set Ar14 q14 Sz14 Nn14 Hh14 Gg14 rfl W14 3 rfl (Nat.le_of_ble_eq_true rfl)
  obtain ⟨LL15, X15, Nf⟩ : ∃ LL : List Loc, Stand p l e room_1 s m _ below meth c T14 LL 2 8 ∧ Fr n0 LL := ⟨_, X14, Nf⟩
  have gd0 := own_dgp p0
  generalize (((p0.toUInt32 >>> ((15 : Int32) &&& 31).toUInt32).toInt32) % ((1 : Int32) + (p0 &&& (32767 : Int32)))) = d0 at gd0 V_b10 ⊢
  generalize ((1 : Int32) + (p0 &&& (32767 : Int32))) = r0 at gd0 V_b1 ⊢
  have gd1 := own_dgp p1
  generalize (((p1.toUInt32 >>> ((15 : Int32) &&& 31).toUInt32).toInt32) % ((1 : Int32) + (p1 &&& (32767 : Int32)))) = d1 at gd1 V_b10 ⊢
  generalize ((1 : Int32) + (p1 &&& (32767 : Int32))) = r1 at gd1 V_b1 ⊢
  have gd2 := own_dgp p2
  generalize (((p2.toUInt32 >>> ((15 : Int32) &&& 31).toUInt32).toInt32) % ((1 : Int32) + (p2 &&& (32767 : Int32)))) = d2 at gd2 V_b10 ⊢
  generalize ((1 : Int32) + (p2 &&& (32767 : Int32))) = r2 at gd2 V_b1 ⊢
  have gd3 := own_dgp p3
  generalize (((p3.toUInt32 >>> ((15 : Int32) &&& 31).toUInt32).toInt32) % ((1 : Int32) + (p3 &&& (32767 : Int32)))) = d3 at gd3 V_b10 ⊢
  generalize ((1 : Int32) + (p3 &&& (32767 : Int32))) = r3 at gd3 V_b1 ⊢
  rcases own_m5 p4 with hm | hm | hm | hm | hm
  · rw [hm]
    obtain ⟨hlaw, hx0, hx1, hx2, hx3⟩ := own_law_0 d0 d1 d2 d3 r0 r1 r2 r3 gd0 gd1 gd2 gd3
    refine own_go (x' := T14.setTop (mkF m 137 #[.val (.int p0), .val (.int p1), .val (.int p2), .val (.int p3), .val (.int p4), .val (.int (0 : Int32)), .val (.ref b1), .val (.int d0), .val (.int d1), .val (.int d2), .val (.int d3), .val (.ref b10), .unset, .unset, .unset, .unset, .unset, .unset, .unset, .unset] [(.int (0 : Int32)), (.ref b1), (.ref b10)])) (fun _ k => XS.aload X15.here hx rfl (hb hby at_131) rfl rfl (XS.aload X15.here hx rfl (hb hby at_133) rfl rfl (XS.iload X15.here hx rfl (hb hby at_135) rfl k))) ?_
    obtain ⟨LL16, X16, Nf⟩ : ∃ LL : List Loc, Stand p l e room_1 s m _ below meth c T14 LL 2 8 ∧ Fr n0 LL := ⟨_, X15, Nf⟩
    obtain ⟨_, _, ⟨T17, L17, k17, n17⟩, -, X17, ⟨Lc17, hQ17, l17, y17, z17⟩, st17⟩ := Jvm.LawKit.callS X16 hx (y := (⟨"com/example/stratgen/stratgen/model/StateSpaceAdvancePinLaw", "value", "([I[II)J"⟩ : MethodName)) hown (mvT hZ (own_w hw 1 rfl)) (mvT hZ (own_w hw 2 rfl)) (mvT hZ (own_w hw 3 rfl)) (mvT hZ (own_w hw 4 rfl)) (by decide) (backOf (W := 0) (rm1_0 l Z a0 hw [] b10 b1 k10 k1 d0 d1 d2 d3 r0 r1 r2 r3 h14 n0 Zs V_b10 V_b1) hZ (own_w hw 4 rfl) (own_w hw 3 rfl) (by decide) (by decide)) (g := (mkF m 137 #[.val (.int p0), .val (.int p1), .val (.int p2), .val (.int p3), .val (.int p4), .val (.int (0 : Int32)), .val (.ref b1), .val (.int d0), .val (.int d1), .val (.int d2), .val (.int d3), .val (.ref b10), .unset, .unset, .unset, .unset, .unset, .unset, .unset, .unset] [(.int (0 : Int32)), (.ref b1), (.ref b10)])) rfl (by rw [hml]; rfl) (argsL := [(.ref b10), (.ref b1), (.int (0 : Int32))]) (rest := []) (lenOf pd_0 rfl) rfl (by show 2 * 0 + _ ≤ _; exact Nat.le_of_eq rfl) (hb hby at_137) (fun _ _ => ⟨rfl, e14, (by decide : 2 + 0 ≤ _), (by decide : 8 + 0 ≤ _)⟩)
    dsimp only [Pt.U, Pt.locs, Pt.cells, Pt.slots] at X17 l17 y17 z17 st17 hQ17
    subst l17 y17 z17
    obtain ⟨hv17, Nq17, eq17⟩ := hQ17
    subst hv17
    replace Nf := Fr.app Nf Nq17
    refine own_go (x' := T17.setTop (mkF m 140 #[.val (.int p0), .val (.int p1), .val (.int p2), .val (.int p3), .val (.int p4), .val (.int (0 : Int32)), .val (.ref b1), .val (.int d0), .val (.int d1), .val (.int d2), .val (.int d3), .val (.ref b10), .unset, .unset, .unset, .unset, .unset, .unset, .unset, .unset] [(.long (own_val_0 d0 d1 d2 d3 r0 r1 r2 r3))])) st17 ?_
    refine own_go (x' := T17.setTop (mkF m 146 #[.val (.int p0), .val (.int p1), .val (.int p2), .val (.int p3), .val (.int p4), .val (.int (0 : Int32)), .val (.ref b1), .val (.int d0), .val (.int d1), .val (.int d2), .val (.int d3), .val (.ref b10), .val (.long (own_val_0 d0 d1 d2 d3 r0 r1 r2 r3)), .second, .unset, .unset, .unset, .unset, .unset, .unset] [(.int (0 : Int32)), (.ref b1)])) (fun _ k => XS.lstore X17.here hx rfl (hb hby at_140) rfl (l' := #[.val (.int p0), .val (.int p1), .val (.int p2), .val (.int p3), .val (.int p4), .val (.int (0 : Int32)), .val (.ref b1), .val (.int d0), .val (.int d1), .val (.int d2), .val (.int d3), .val (.ref b10), .val (.long (own_val_0 d0 d1 d2 d3 r0 r1 r2 r3)), .second, .unset, .unset, .unset, .unset, .unset, .unset]) rfl (XS.aload X17.here hx rfl (hb hby at_142) rfl rfl (XS.iload X17.here hx rfl (hb hby at_144) rfl k))) ?_
    obtain ⟨_, _, ⟨T18, L18, k18, n18⟩, -, X18, ⟨Lc18, hQ18, l18, y18, z18⟩, st18⟩ := Jvm.LawKit.callS X17 hx (y := (⟨"com/example/stratgen/stratgen/model/StateSpaceAdvancePinLaw", "total", "([II)J"⟩ : MethodName)) hown (mvT hZ (own_w hw 5 rfl)) (mvT hZ (own_w hw 6 rfl)) (mvT hZ (own_w hw 3 rfl)) (mvT hZ (own_w hw 7 rfl)) (by decide) (backOf (W := 0) (rm2_0 l Z a0 hw [] b1 k1 r0 r1 r2 r3 h14 n0 Zs V_b1) hZ (own_w hw 7 rfl) (own_w hw 3 rfl) (by decide) (by decide)) (g := (mkF m 146 #[.val (.int p0), .val (.int p1), .val (.int p2), .val (.int p3), .val (.int p4), .val (.int (0 : Int32)), .val (.ref b1), .val (.int d0), .val (.int d1), .val (.int d2), .val (.int d3), .val (.ref b10), .val (.long (own_val_0 d0 d1 d2 d3 r0 r1 r2 r3)), .second, .unset, .unset, .unset, .unset, .unset, .unset] [(.int (0 : Int32)), (.ref b1)])) rfl (by rw [hml]; rfl) (argsL := [(.ref b1), (.int (0 : Int32))]) (rest := []) (lenOf pd_1 rfl) rfl (by show 2 * 0 + _ ≤ _; exact Nat.le_of_eq rfl) (hb hby at_146) (fun _ _ => ⟨rfl, eq17, (by decide : 2 + 0 ≤ _), (by decide : 8 + 0 ≤ _)⟩)
    dsimp only [Pt.U, Pt.locs, Pt.cells, Pt.slots] at X18 l18 y18 z18 st18 hQ18
    subst l18 y18 z18
    obtain ⟨hv18, Nq18, eq18⟩ := hQ18
    subst hv18
    replace Nf := Fr.app Nf Nq18
    refine own_go (x' := T18.setTop (mkF m 149 #[.val (.int p0), .val (.int p1), .val (.int p2), .val (.int p3), .val (.int p4), .val (.int (0 : Int32)), .val (.ref b1), .val (.int d0), .val (.int d1), .val (.int d2), .val (.int d3), .val (.ref b10), .val (.long (own_val_0 d0 d1 d2 d3 r0 r1 r2 r3)), .second, .unset, .unset, .unset, .unset, .unset, .unset] [(.long (own_tot_0 r0 r1 r2 r3))])) st18 ?_
    refine own_go (x' := T18.setTop (mkF m 159 #[.val (.int p0), .val (.int p1), .val (.int p2), .val (.int p3), .val (.int p4), .val (.int (0 : Int32)), .val (.ref b1), .val (.int d0), .val (.int d1), .val (.int d2), .val (.int d3), .val (.ref b10), .val (.long (own_val_0 d0 d1 d2 d3 r0 r1 r2 r3)), .second, .val (.long (own_tot_0 r0 r1 r2 r3)), .second, .val (.long ((own_val_0 d0 d1 d2 d3 r0 r1 r2 r3) + (1 : Int64))), .second, .unset, .unset] [(.long ((own_val_0 d0 d1 d2 d3 r0 r1 r2 r3) + (1 : Int64)))])) (fun _ k => XS.lstore X18.here hx rfl (hb hby at_149) rfl (l' := #[.val (.int p0), .val (.int p1), .val (.int p2), .val (.int p3), .val (.int p4), .val (.int (0 : Int32)), .val (.ref b1), .val (.int d0), .val (.int d1), .val (.int d2), .val (.int d3), .val (.ref b10), .val (.long (own_val_0 d0 d1 d2 d3 r0 r1 r2 r3)), .second, .val (.long (own_tot_0 r0 r1 r2 r3)), .second, .unset, .unset, .unset, .unset]) rfl (XS.lload X18.here hx rfl (hb hby at_151) rfl (XS.lconst X18.here hx rfl (hb hby at_153) (XS.ladd X18.here hx rfl (hb hby at_154) rfl (XS.lstore X18.here hx rfl (hb hby at_155) rfl (l' := #[.val (.int p0), .val (.int p1), .val (.int p2), .val (.int p3), .val (.int p4), .val (.int (0 : Int32)), .val (.ref b1), .val (.int d0), .val (.int d1), .val (.int d2), .val (.int d3), .val (.ref b10), .val (.long (own_val_0 d0 d1 d2 d3 r0 r1 r2 r3)), .second, .val (.long (own_tot_0 r0 r1 r2 r3)), .second, .val (.long ((own_val_0 d0 d1 d2 d3 r0 r1 r2 r3) + (1 : Int64))), .second, .unset, .unset]) rfl (XS.lload X18.here hx rfl (hb hby at_157) rfl k)))))) ?_
    refine own_go (x' := T18.setTop (mkF m 162 #[.val (.int p0), .val (.int p1), .val (.int p2), .val (.int p3), .val (.int p4), .val (.int (0 : Int32)), .val (.ref b1), .val (.int d0), .val (.int d1), .val (.int d2), .val (.int d3), .val (.ref b10), .val (.long (own_val_0 d0 d1 d2 d3 r0 r1 r2 r3)), .second, .val (.long (own_tot_0 r0 r1 r2 r3)), .second, .val (.long ((own_val_0 d0 d1 d2 d3 r0 r1 r2 r3) + (1 : Int64))), .second, .unset, .unset] [(.int (lcmpW ((own_val_0 d0 d1 d2 d3 r0 r1 r2 r3) + (1 : Int64)) (own_tot_0 r0 r1 r2 r3)))])) (fun _ k => XS.lload X18.here hx rfl (hb hby at_159) rfl (XS.lcmp X18.here hx rfl (hb hby at_161) rfl k)) ?_
    by_cases hc162 : ((own_val_0 d0 d1 d2 d3 r0 r1 r2 r3) + (1 : Int64)) < (own_tot_0 r0 r1 r2 r3)
    · refine own_go (x' := T18.setTop (mkF m 180 #[.val (.int p0), .val (.int p1), .val (.int p2), .val (.int p3), .val (.int p4), .val (.int (0 : Int32)), .val (.ref b1), .val (.int d0), .val (.int d1), .val (.int d2), .val (.int d3), .val (.ref b10), .val (.long (own_val_0 d0 d1 d2 d3 r0 r1 r2 r3)), .second, .val (.long (own_tot_0 r0 r1 r2 r3)), .second, .val (.long ((own_val_0 d0 d1 d2 d3 r0 r1 r2 r3) + (1 : Int64))), .second, .val (.int (1 : Int32)), .unset] [])) (fun _ k => XS.ifNo X18.here hx rfl (hb hby at_162) rfl ((if0 _ _).trans (tlt ((lw_lt ((own_val_0 d0 d1 d2 d3 r0 r1 r2 r3) + (1 : Int64)) (own_tot_0 r0 r1 r2 r3)).mpr hc162)).2.1) (XS.iconst X18.here hx rfl (hb hby at_165) (XS.goto X18.here hx rfl (pc0 := 166) (pc' := 170) rfl (hb hby at_166) (by decide) (by decide) (XS.istore X18.here hx rfl (hb hby at_170) rfl (l' := #[.val (.int p0), .val (.int p1), .val (.int p2), .val (.int p3), .val (.int p4), .val (.int (0 : Int32)), .val (.ref b1), .val (.int d0), .val (.int d1), .val (.int d2), .val (.int d3), .val (.ref b10), .val (.long (own_val_0 d0 d1 d2 d3 r0 r1 r2 r3)), .second, .val (.long (own_tot_0 r0 r1 r2 r3)), .second, .val (.long ((own_val_0 d0 d1 d2 d3 r0 r1 r2 r3) + (1 : Int64))), .second, .val (.int (1 : Int32)), .unset]) rfl (XS.iload X18.here hx rfl (hb hby at_172) rfl (XS.ifYes X18.here hx rfl (pc0 := 174) (pc' := 180) rfl (hb hby at_174) rfl ((if0 _ _).trans (feq (by decide +kernel : ¬ ((1 : Int32) = (0 : Int32)))).2) (by decide) (by decide) k)))))) ?_
      refine own_go (x' := T18.setTop (mkF m 186 #[.val (.int p0), .val (.int p1), .val (.int p2), .val (.int p3), .val (.int p4), .val (.int (0 : Int32)), .val (.ref b1), .val (.int d0), .val (.int d1), .val (.int d2), .val (.int d3), .val (.ref b10), .val (.long (own_val_0 d0 d1 d2 d3 r0 r1 r2 r3)), .second, .val (.long (own_tot_0 r0 r1 r2 r3)), .second, .val (.long ((own_val_0 d0 d1 d2 d3 r0 r1 r2 r3) + (1 : Int64))), .second, .val (.int (1 : Int32)), .unset] [(.int (0 : Int32)), (.ref b1), (.ref b10)])) (fun _ k => XS.aload X18.here hx rfl (hb hby at_180) rfl rfl (XS.aload X18.here hx rfl (hb hby at_182) rfl rfl (XS.iload X18.here hx rfl (hb hby at_184) rfl k))) ?_
      obtain ⟨_, _, ⟨T19, L19, k19, n19⟩, -, X19, ⟨Lc19, hQ19, l19, y19, z19⟩, st19⟩ := Jvm.LawKit.callS X18 hx (y := (⟨"com/example/stratgen/stratgen/model/StateSpace", "advance", "([I[II)Z"⟩ : MethodName)) hown (mvT hZ (own_w hw 8 rfl)) (mvT hZ (own_w hw 9 rfl)) (mvT hZ (own_w hw 10 rfl)) (mvT hZ (own_w hw 11 rfl)) (by decide) (backOf (W := 0) (rm3_0 l Z a0 hw [] b10 b1 k10 k1 d0 d1 d2 d3 r0 r1 r2 r3 h14 n0 Zs V_b10 V_b1 (Ne.symm ne_b1_b10) g_b10) hZ (own_w hw 11 rfl) (own_w hw 10 rfl) (by decide) (by decide)) (g := (mkF m 186 #[.val (.int p0), .val (.int p1), .val (.int p2), .val (.int p3), .val (.int p4), .val (.int (0 : Int32)), .val (.ref b1), .val (.int d0), .val (.int d1), .val (.int d2), .val (.int d3), .val (.ref b10), .val (.long (own_val_0 d0 d1 d2 d3 r0 r1 r2 r3)), .second, .val (.long (own_tot_0 r0 r1 r2 r3)), .second, .val (.long ((own_val_0 d0 d1 d2 d3 r0 r1 r2 r3) + (1 : Int64))), .second, .val (.int (1 : Int32)), .unset] [(.int (0 : Int32)), (.ref b1), (.ref b10)])) rfl (by rw [hml]; rfl) (argsL := [(.ref b10), (.ref b1), (.int (0 : Int32))]) (rest := []) (lenOf pd_2 rfl) rfl (by show 2 * 0 + _ ≤ _; exact Nat.le_of_eq rfl) (hb hby at_186) (fun _ _ => ⟨rfl, eq18, (by decide : 2 + 0 ≤ _), (by decide : 8 + 0 ≤ _)⟩)
      dsimp only [Pt.U, Pt.locs, Pt.cells, Pt.slots] at X19 l19 y19 z19 st19 hQ19
      subst l19 y19 z19
      obtain ⟨hv19, Nq19, K19, Vn19⟩ := hQ19
      subst hv19
      replace Nf := Fr.app Nf Nq19
      replace V_b1 := V_b1.keep K19 (ninS ne_b1_b10 nin0)
      replace Zs := Nat.le_trans Zs K19.1
      replace V_b10 := Vn19
      obtain ⟨e0, he0⟩ : ∃ z, z = (own_adv_0_0 d0 d1 d2 d3 r0 r1 r2 r3) := ⟨_, rfl⟩
      obtain ⟨e1, he1⟩ : ∃ z, z = (own_adv_0_1 d0 d1 d2 d3 r0 r1 r2 r3) := ⟨_, rfl⟩
      obtain ⟨e2, he2⟩ : ∃ z, z = (own_adv_0_2 d0 d1 d2 d3 r0 r1 r2 r3) := ⟨_, rfl⟩
      obtain ⟨e3, he3⟩ : ∃ z, z = (own_adv_0_3 d0 d1 d2 d3 r0 r1 r2 r3) := ⟨_, rfl⟩
      rw [← he0, ← he1, ← he2, ← he3] at V_b10
      refine own_go (x' := T19.setTop (mkF m 189 #[.val (.int p0), .val (.int p1), .val (.int p2), .val (.int p3), .val (.int p4), .val (.int (0 : Int32)), .val (.ref b1), .val (.int d0), .val (.int d1), .val (.int d2), .val (.int d3), .val (.ref b10), .val (.long (own_val_0 d0 d1 d2 d3 r0 r1 r2 r3)), .second, .val (.long (own_tot_0 r0 r1 r2 r3)), .second, .val (.long ((own_val_0 d0 d1 d2 d3 r0 r1 r2 r3) + (1 : Int64))), .second, .val (.int (1 : Int32)), .unset] [(.int (own_adv_0_b d0 d1 d2 d3 r0 r1 r2 r3))])) st19 ?_
      refine own_go (x' := T19.setTop (mkF m 191 #[.val (.int p0), .val (.int p1), .val (.int p2), .val (.int p3), .val (.int p4), .val (.int (0 : Int32)), .val (.ref b1), .val (.int d0), .val (.int d1), .val (.int d2), .val (.int d3), .val (.ref b10), .val (.long (own_val_0 d0 d1 d2 d3 r0 r1 r2 r3)), .second, .val (.long (own_tot_0 r0 r1 r2 r3)), .second, .val (.long ((own_val_0 d0 d1 d2 d3 r0 r1 r2 r3) + (1 : Int64))), .second, .val (.int (1 : Int32)), .val (.int (own_adv_0_b d0 d1 d2 d3 r0 r1 r2 r3))] [])) (fun _ k => XS.istore X19.here hx rfl (hb hby at_189) rfl (l' := #[.val (.int p0), .val (.int p1), .val (.int p2), .val (.int p3), .val (.int p4), .val (.int (0 : Int32)), .val (.ref b1), .val (.int d0), .val (.int d1), .val (.int d2), .val (.int d3), .val (.ref b10), .val (.long (own_val_0 d0 d1 d2 d3 r0 r1 r2 r3)), .second, .val (.long (own_tot_0 r0 r1 r2 r3)), .second, .val (.long ((own_val_0 d0 d1 d2 d3 r0 r1 r2 r3) + (1 : Int64))), .second, .val (.int (1 : Int32)), .val (.int (own_adv_0_b d0 d1 d2 d3 r0 r1 r2 r3))]) rfl k) ?_
      rw [← he0, ← he1, ← he2, ← he3] at hlaw
      rw [← he0] at hx0
      rw [← he1] at hx1
      rw [← he2] at hx2
      rw [← he3] at hx3
      obtain ⟨-, hB, hV⟩ := hlaw.resolve_right fun q => q.1 hc162
      refine own_go (x' := T19.setTop (mkF m 203 #[.val (.int p0), .val (.int p1), .val (.int p2), .val (.int p3), .val (.int p4), .val (.int (0 : Int32)), .val (.ref b1), .val (.int d0), .val (.int d1), .val (.int d2), .val (.int d3), .val (.ref b10), .val (.long (own_val_0 d0 d1 d2 d3 r0 r1 r2 r3)), .second, .val (.long (own_tot_0 r0 r1 r2 r3)), .second, .val (.long ((own_val_0 d0 d1 d2 d3 r0 r1 r2 r3) + (1 : Int64))), .second, .val (.int (1 : Int32)), .val (.int (own_adv_0_b d0 d1 d2 d3 r0 r1 r2 r3))] [(.int (0 : Int32)), (.ref b1), (.ref b10)])) (fun _ k => XS.iload X19.here hx rfl (hb hby at_191) rfl (XS.iload X19.here hx rfl (hb hby at_193) rfl (XS.icmpNo X19.here hx rfl (hb hby at_195) rfl (teq hB).2 (XS.aload X19.here hx rfl (hb hby at_198) rfl rfl (XS.aload X19.here hx rfl (hb hby at_200) rfl rfl (XS.iconst X19.here hx rfl (hb hby at_202) k)))))) ?_
      refine own_go (x' := T19.setTop (mkF m 207 #[.val (.int p0), .val (.int p1), .val (.int p2), .val (.int p3), .val (.int p4), .val (.int (0 : Int32)), .val (.ref b1), .val (.int d0), .val (.int d1), .val (.int d2), .val (.int d3), .val (.ref b10), .val (.long (own_val_0 d0 d1 d2 d3 r0 r1 r2 r3)), .second, .val (.long (own_tot_0 r0 r1 r2 r3)), .second, .val (.long ((own_val_0 d0 d1 d2 d3 r0 r1 r2 r3) + (1 : Int64))), .second, .val (.int (1 : Int32)), .val (.int (own_adv_0_b d0 d1 d2 d3 r0 r1 r2 r3))] [(.int d0), (.int (0 : Int32)), (.int (0 : Int32)), (.ref b1), (.ref b10)])) (fun _ k => XS.iload X19.here hx rfl (hb hby at_203) rfl (XS.iload X19.here hx rfl (hb hby at_205) rfl k)) ?_
      obtain ⟨_, _, ⟨T20, L20, k20, n20⟩, -, X20, ⟨Lc20, hQ20, l20, y20, z20⟩, st20⟩ := Jvm.LawKit.callS X19 hx (y := (⟨"com/example/stratgen/stratgen/model/StateSpaceAdvancePinLaw", "digitOk", "([I[IIII)Z"⟩ : MethodName)) hown (mvT hZ (own_w hw 12 rfl)) (mvT hZ (own_w hw 13 rfl)) (mvT hZ (own_w hw 3 rfl)) (mvT hZ (own_w hw 14 rfl)) (by decide) (backOf (W := 0) (rm4_0_0 l Z a0 hw [] b10 b1 k10 k1 e0 e1 e2 e3 r0 r1 r2 r3 d0 T19.heap n0 Zs V_b10 V_b1) hZ (own_w hw 14 rfl) (own_w hw 3 rfl) (by decide) (by decide)) (g := (mkF m 207 #[.val (.int p0), .val (.int p1), .val (.int p2), .val (.int p3), .val (.int p4), .val (.int (0 : Int32)), .val (.ref b1), .val (.int d0), .val (.int d1), .val (.int d2), .val (.int d3), .val (.ref b10), .val (.long (own_val_0 d0 d1 d2 d3 r0 r1 r2 r3)), .second, .val (.long (own_tot_0 r0 r1 r2 r3)), .second, .val (.long ((own_val_0 d0 d1 d2 d3 r0 r1 r2 r3) + (1 : Int64))), .second, .val (.int (1 : Int32)), .val (.int (own_adv_0_b d0 d1 d2 d3 r0 r1 r2 r3))] [(.int d0), (.int (0 : Int32)), (.int (0 : Int32)), (.ref b1), (.ref b10)])) rfl (by rw [hml]; rfl) (argsL := [(.ref b10), (.ref b1), (.int (0 : Int32)), (.int (0 : Int32)), (.int d0)]) (rest := []) (lenOf pd_3 rfl) rfl (by show 2 * 0 + _ ≤ _; exact Nat.le_of_eq rfl) (hb hby at_207) (fun _ _ => ⟨rfl, rfl, (by decide : 2 + 0 ≤ _), (by decide : 8 + 0 ≤ _)⟩)
      dsimp only [Pt.U, Pt.locs, Pt.cells, Pt.slots] at X20 l20 y20 z20 st20 hQ20
      subst l20 y20 z20
      obtain ⟨hv20, Nq20, eq20⟩ := hQ20
      subst hv20
      replace Nf := Fr.app Nf Nq20
      refine own_go (x' := T20.setTop (mkF m 210 #[.val (.int p0), .val (.int p1), .val (.int p2), .val (.int p3), .val (.int p4), .val (.int (0 : Int32)), .val (.ref b1), .val (.int d0), .val (.int d1), .val (.int d2), .val (.int d3), .val (.ref b10), .val (.long (own_val_0 d0 d1 d2 d3 r0 r1 r2 r3)), .second, .val (.long (own_tot_0 r0 r1 r2 r3)), .second, .val (.long ((own_val_0 d0 d1 d2 d3 r0 r1 r2 r3) + (1 : Int64))), .second, .val (.int (1 : Int32)), .val (.int (own_adv_0_b d0 d1 d2 d3 r0 r1 r2 r3))] [(.int (own_dok_0_0 e0 r0 d0))])) st20 ?_
      refine own_go (x' := T20.setTop (mkF m 222 #[.val (.int p0), .val (.int p1), .val (.int p2), .val (.int p3), .val (.int p4), .val (.int (0 : Int32)), .val (.ref b1), .val (.int d0), .val (.int d1), .val (.int d2), .val (.int d3), .val (.ref b10), .val (.long (own_val_0 d0 d1 d2 d3 r0 r1 r2 r3)), .second, .val (.long (own_tot_0 r0 r1 r2 r3)), .second, .val (.long ((own_val_0 d0 d1 d2 d3 r0 r1 r2 r3) + (1 : Int64))), .second, .val (.int (1 : Int32)), .val (.int (own_adv_0_b d0 d1 d2 d3 r0 r1 r2 r3))] [(.int d1), (.int (0 : Int32)), (.int (1 : Int32)), (.ref b1), (.ref b10)])) (fun _ k => XS.ifNo X20.here hx rfl (hb hby at_210) rfl ((if0 _ _).trans (feq (show ¬ ((own_dok_0_0 e0 r0 d0) = (0 : Int32)) from by simp only [own_dok_0_0, if_pos hx0]; decide)).1) (XS.aload X20.here hx rfl (hb hby at_213) rfl rfl (XS.aload X20.here hx rfl (hb hby at_215) rfl rfl (XS.iconst X20.here hx rfl (hb hby at_217) (XS.iload X20.here hx rfl (hb hby at_218) rfl (XS.iload X20.here hx rfl (hb hby at_220) rfl k)))))) ?_
      obtain ⟨_, _, ⟨T21, L21, k21, n21⟩, -, X21, ⟨Lc21, hQ21, l21, y21, z21⟩, st21⟩ := Jvm.LawKit.callS X20 hx (y := (⟨"com/example/stratgen/stratgen/model/StateSpaceAdvancePinLaw", "digitOk", "([I[IIII)Z"⟩ : MethodName)) hown (mvT hZ (own_w hw 12 rfl)) (mvT hZ (own_w hw 13 rfl)) (mvT hZ (own_w hw 3 rfl)) (mvT hZ (own_w hw 14 rfl)) (by decide) (backOf (W := 0) (rm4_1_0 l Z a0 hw [] b10 b1 k10 k1 e0 e1 e2 e3 r0 r1 r2 r3 d1 T19.heap n0 Zs V_b10 V_b1) hZ (own_w hw 14 rfl) (own_w hw 3 rfl) (by decide) (by decide)) (g := (mkF m 222 #[.val (.int p0), .val (.int p1), .val (.int p2), .val (.int p3), .val (.int p4), .val (.int (0 : Int32)), .val (.ref b1), .val (.int d0), .val (.int d1), .val (.int d2), .val (.int d3), .val (.ref b10), .val (.long (own_val_0 d0 d1 d2 d3 r0 r1 r2 r3)), .second, .val (.long (own_tot_0 r0 r1 r2 r3)), .second, .val (.long ((own_val_0 d0 d1 d2 d3 r0 r1 r2 r3) + (1 : Int64))), .second, .val (.int (1 : Int32)), .val (.int (own_adv_0_b d0 d1 d2 d3 r0 r1 r2 r3))] [(.int d1), (.int (0 : Int32)), (.int (1 : Int32)), (.ref b1), (.ref b10)])) rfl (by rw [hml]; rfl) (argsL := [(.ref b10), (.ref b1), (.int (1 : Int32)), (.int (0 : Int32)), (.int d1)]) (rest := []) (lenOf pd_3 rfl) rfl (by show 2 * 0 + _ ≤ _; exact Nat.le_of_eq rfl) (hb hby at_222) (fun _ _ => ⟨rfl, eq20, (by decide : 2 + 0 ≤ _), (by decide : 8 + 0 ≤ _)⟩)
      dsimp only [Pt.U, Pt.locs, Pt.cells, Pt.slots] at X21 l21 y21 z21 st21 hQ21
      subst l21 y21 z21
      obtain ⟨hv21, Nq21, eq21⟩ := hQ21
      subst hv21
      replace Nf := Fr.app Nf Nq21
      refine own_go (x' := T21.setTop (mkF m 225 #[.val (.int p0), .val (.int p1), .val (.int p2), .val (.int p3), .val (.int p4), .val (.int (0 : Int32)), .val (.ref b1), .val (.int d0), .val (.int d1), .val (.int d2), .val (.int d3), .val (.ref b10), .val (.long (own_val_0 d0 d1 d2 d3 r0 r1 r2 r3)), .second, .val (.long (own_tot_0 r0 r1 r2 r3)), .second, .val (.long ((own_val_0 d0 d1 d2 d3 r0 r1 r2 r3) + (1 : Int64))), .second, .val (.int (1 : Int32)), .val (.int (own_adv_0_b d0 d1 d2 d3 r0 r1 r2 r3))] [(.int (own_dok_1_0 e1 r1 d1))])) st21 ?_
      refine own_go (x' := T21.setTop (mkF m 237 #[.val (.int p0), .val (.int p1), .val (.int p2), .val (.int p3), .val (.int p4), .val (.int (0 : Int32)), .val (.ref b1), .val (.int d0), .val (.int d1), .val (.int d2), .val (.int d3), .val (.ref b10), .val (.long (own_val_0 d0 d1 d2 d3 r0 r1 r2 r3)), .second, .val (.long (own_tot_0 r0 r1 r2 r3)), .second, .val (.long ((own_val_0 d0 d1 d2 d3 r0 r1 r2 r3) + (1 : Int64))), .second, .val (.int (1 : Int32)), .val (.int (own_adv_0_b d0 d1 d2 d3 r0 r1 r2 r3))] [(.int d2), (.int (0 : Int32)), (.int (2 : Int32)), (.ref b1), (.ref b10)])) (fun _ k => XS.ifNo X21.here hx rfl (hb hby at_225) rfl ((if0 _ _).trans (feq (show ¬ ((own_dok_1_0 e1 r1 d1) = (0 : Int32)) from by simp only [own_dok_1_0, if_pos hx1]; decide)).1) (XS.aload X21.here hx rfl (hb hby at_228) rfl rfl (XS.aload X21.here hx rfl (hb hby at_230) rfl rfl (XS.iconst X21.here hx rfl (hb hby at_232) (XS.iload X21.here hx rfl (hb hby at_233) rfl (XS.iload X21.here hx rfl (hb hby at_235) rfl k)))))) ?_
      obtain ⟨_, _, ⟨T22, L22, k22, n22⟩, -, X22, ⟨Lc22, hQ22, l22, y22, z22⟩, st22⟩ := Jvm.LawKit.callS X21 hx (y := (⟨"com/example/stratgen/stratgen/model/StateSpaceAdvancePinLaw", "digitOk", "([I[IIII)Z"⟩ : MethodName)) hown (mvT hZ (own_w hw 12 rfl)) (mvT hZ (own_w hw 13 rfl)) (mvT hZ (own_w hw 3 rfl)) (mvT hZ (own_w hw 14 rfl)) (by decide) (backOf (W := 0) (rm4_2_0 l Z a0 hw [] b10 b1 k10 k1 e0 e1 e2 e3 r0 r1 r2 r3 d2 T19.heap n0 Zs V_b10 V_b1) hZ (own_w hw 14 rfl) (own_w hw 3 rfl) (by decide) (by decide)) (g := (mkF m 237 #[.val (.int p0), .val (.int p1), .val (.int p2), .val (.int p3), .val (.int p4), .val (.int (0 : Int32)), .val (.ref b1), .val (.int d0), .val (.int d1), .val (.int d2), .val (.int d3), .val (.ref b10), .val (.long (own_val_0 d0 d1 d2 d3 r0 r1 r2 r3)), .second, .val (.long (own_tot_0 r0 r1 r2 r3)), .second, .val (.long ((own_val_0 d0 d1 d2 d3 r0 r1 r2 r3) + (1 : Int64))), .second, .val (.int (1 : Int32)), .val (.int (own_adv_0_b d0 d1 d2 d3 r0 r1 r2 r3))] [(.int d2), (.int (0 : Int32)), (.int (2 : Int32)), (.ref b1), (.ref b10)])) rfl (by rw [hml]; rfl) (argsL := [(.ref b10), (.ref b1), (.int (2 : Int32)), (.int (0 : Int32)), (.int d2)]) (rest := []) (lenOf pd_3 rfl) rfl (by show 2 * 0 + _ ≤ _; exact Nat.le_of_eq rfl) (hb hby at_237) (fun _ _ => ⟨rfl, eq21, (by decide : 2 + 0 ≤ _), (by decide : 8 + 0 ≤ _)⟩)
      dsimp only [Pt.U, Pt.locs, Pt.cells, Pt.slots] at X22 l22 y22 z22 st22 hQ22
      subst l22 y22 z22
      obtain ⟨hv22, Nq22, eq22⟩ := hQ22
      subst hv22
      replace Nf := Fr.app Nf Nq22
      refine own_go (x' := T22.setTop (mkF m 240 #[.val (.int p0), .val (.int p1), .val (.int p2), .val (.int p3), .val (.int p4), .val (.int (0 : Int32)), .val (.ref b1), .val (.int d0), .val (.int d1), .val (.int d2), .val (.int d3), .val (.ref b10), .val (.long (own_val_0 d0 d1 d2 d3 r0 r1 r2 r3)), .second, .val (.long (own_tot_0 r0 r1 r2 r3)), .second, .val (.long ((own_val_0 d0 d1 d2 d3 r0 r1 r2 r3) + (1 : Int64))), .second, .val (.int (1 : Int32)), .val (.int (own_adv_0_b d0 d1 d2 d3 r0 r1 r2 r3))] [(.int (own_dok_2_0 e2 r2 d2))])) st22 ?_
      refine own_go (x' := T22.setTop (mkF m 252 #[.val (.int p0), .val (.int p1), .val (.int p2), .val (.int p3), .val (.int p4), .val (.int (0 : Int32)), .val (.ref b1), .val (.int d0), .val (.int d1), .val (.int d2), .val (.int d3), .val (.ref b10), .val (.long (own_val_0 d0 d1 d2 d3 r0 r1 r2 r3)), .second, .val (.long (own_tot_0 r0 r1 r2 r3)), .second, .val (.long ((own_val_0 d0 d1 d2 d3 r0 r1 r2 r3) + (1 : Int64))), .second, .val (.int (1 : Int32)), .val (.int (own_adv_0_b d0 d1 d2 d3 r0 r1 r2 r3))] [(.int d3), (.int (0 : Int32)), (.int (3 : Int32)), (.ref b1), (.ref b10)])) (fun _ k => XS.ifNo X22.here hx rfl (hb hby at_240) rfl ((if0 _ _).trans (feq (show ¬ ((own_dok_2_0 e2 r2 d2) = (0 : Int32)) from by simp only [own_dok_2_0, if_pos hx2]; decide)).1) (XS.aload X22.here hx rfl (hb hby at_243) rfl rfl (XS.aload X22.here hx rfl (hb hby at_245) rfl rfl (XS.iconst X22.here hx rfl (hb hby at_247) (XS.iload X22.here hx rfl (hb hby at_248) rfl (XS.iload X22.here hx rfl (hb hby at_250) rfl k)))))) ?_
      obtain ⟨_, _, ⟨T23, L23, k23, n23⟩, -, X23, ⟨Lc23, hQ23, l23, y23, z23⟩, st23⟩ := Jvm.LawKit.callS X22 hx (y := (⟨"com/example/stratgen/stratgen/model/StateSpaceAdvancePinLaw", "digitOk", "([I[IIII)Z"⟩ : MethodName)) hown (mvT hZ (own_w hw 12 rfl)) (mvT hZ (own_w hw 13 rfl)) (mvT hZ (own_w hw 3 rfl)) (mvT hZ (own_w hw 14 rfl)) (by decide) (backOf (W := 0) (rm4_3_0 l Z a0 hw [] b10 b1 k10 k1 e0 e1 e2 e3 r0 r1 r2 r3 d3 T19.heap n0 Zs V_b10 V_b1) hZ (own_w hw 14 rfl) (own_w hw 3 rfl) (by decide) (by decide)) (g := (mkF m 252 #[.val (.int p0), .val (.int p1), .val (.int p2), .val (.int p3), .val (.int p4), .val (.int (0 : Int32)), .val (.ref b1), .val (.int d0), .val (.int d1), .val (.int d2), .val (.int d3), .val (.ref b10), .val (.long (own_val_0 d0 d1 d2 d3 r0 r1 r2 r3)), .second, .val (.long (own_tot_0 r0 r1 r2 r3)), .second, .val (.long ((own_val_0 d0 d1 d2 d3 r0 r1 r2 r3) + (1 : Int64))), .second, .val (.int (1 : Int32)), .val (.int (own_adv_0_b d0 d1 d2 d3 r0 r1 r2 r3))] [(.int d3), (.int (0 : Int32)), (.int (3 : Int32)), (.ref b1), (.ref b10)])) rfl (by rw [hml]; rfl) (argsL := [(.ref b10), (.ref b1), (.int (3 : Int32)), (.int (0 : Int32)), (.int d3)]) (rest := []) (lenOf pd_3 rfl) rfl (by show 2 * 0 + _ ≤ _; exact Nat.le_of_eq rfl) (hb hby at_252) (fun _ _ => ⟨rfl, eq22, (by decide : 2 + 0 ≤ _), (by decide : 8 + 0 ≤ _)⟩)
      dsimp only [Pt.U, Pt.locs, Pt.cells, Pt.slots] at X23 l23 y23 z23 st23 hQ23
      subst l23 y23 z23
      obtain ⟨hv23, Nq23, eq23⟩ := hQ23
      subst hv23
      replace Nf := Fr.app Nf Nq23
      refine own_go (x' := T23.setTop (mkF m 255 #[.val (.int p0), .val (.int p1), .val (.int p2), .val (.int p3), .val (.int p4), .val (.int (0 : Int32)), .val (.ref b1), .val (.int d0), .val (.int d1), .val (.int d2), .val (.int d3), .val (.ref b10), .val (.long (own_val_0 d0 d1 d2 d3 r0 r1 r2 r3)), .second, .val (.long (own_tot_0 r0 r1 r2 r3)), .second, .val (.long ((own_val_0 d0 d1 d2 d3 r0 r1 r2 r3) + (1 : Int64))), .second, .val (.int (1 : Int32)), .val (.int (own_adv_0_b d0 d1 d2 d3 r0 r1 r2 r3))] [(.int (own_dok_3_0 e3 r3 d3))])) st23 ?_
      refine own_go (x' := T23.setTop (mkF m 264 #[.val (.int p0), .val (.int p1), .val (.int p2), .val (.int p3), .val (.int p4), .val (.int (0 : Int32)), .val (.ref b1), .val (.int d0), .val (.int d1), .val (.int d2), .val (.int d3), .val (.ref b10), .val (.long (own_val_0 d0 d1 d2 d3 r0 r1 r2 r3)), .second, .val (.long (own_tot_0 r0 r1 r2 r3)), .second, .val (.long ((own_val_0 d0 d1 d2 d3 r0 r1 r2 r3) + (1 : Int64))), .second, .val (.int (1 : Int32)), .val (.int (own_adv_0_b d0 d1 d2 d3 r0 r1 r2 r3))] [(.int (0 : Int32)), (.ref b1), (.ref b10)])) (fun _ k => XS.ifNo X23.here hx rfl (hb hby at_255) rfl ((if0 _ _).trans (feq (show ¬ ((own_dok_3_0 e3 r3 d3) = (0 : Int32)) from by simp only [own_dok_3_0, if_pos hx3]; decide)).1) (XS.aload X23.here hx rfl (hb hby at_258) rfl rfl (XS.aload X23.here hx rfl (hb hby at_260) rfl rfl (XS.iload X23.here hx rfl (hb hby at_262) rfl k)))) ?_
      obtain ⟨_, _, ⟨T24, L24, k24, n24⟩, -, X24, ⟨Lc24, hQ24, l24, y24, z24⟩, st24⟩ := Jvm.LawKit.callS X23 hx (y := (⟨"com/example/stratgen/stratgen/model/StateSpaceAdvancePinLaw", "value", "([I[II)J"⟩ : MethodName)) hown (mvT hZ (own_w hw 1 rfl)) (mvT hZ (own_w hw 2 rfl)) (mvT hZ (own_w hw 3 rfl)) (mvT hZ (own_w hw 4 rfl)) (by decide) (backOf (W := 0) (rm1_0 l Z a0 hw [] b10 b1 k10 k1 e0 e1 e2 e3 r0 r1 r2 r3 T19.heap n0 Zs V_b10 V_b1) hZ (own_w hw 4 rfl) (own_w hw 3 rfl) (by decide) (by decide)) (g := (mkF m 264 #[.val (.int p0), .val (.int p1), .val (.int p2), .val (.int p3), .val (.int p4), .val (.int (0 : Int32)), .val (.ref b1), .val (.int d0), .val (.int d1), .val (.int d2), .val (.int d3), .val (.ref b10), .val (.long (own_val_0 d0 d1 d2 d3 r0 r1 r2 r3)), .second, .val (.long (own_tot_0 r0 r1 r2 r3)), .second, .val (.long ((own_val_0 d0 d1 d2 d3 r0 r1 r2 r3) + (1 : Int64))), .second, .val (.int (1 : Int32)), .val (.int (own_adv_0_b d0 d1 d2 d3 r0 r1 r2 r3))] [(.int (0 : Int32)), (.ref b1), (.ref b10)])) rfl (by rw [hml]; rfl) (argsL := [(.ref b10), (.ref b1), (.int (0 : Int32))]) (rest := []) (lenOf pd_0 rfl) rfl (by show 2 * 0 + _ ≤ _; exact Nat.le_of_eq rfl) (hb hby at_264) (fun _ _ => ⟨rfl, eq23, (by decide : 2 + 0 ≤ _), (by decide : 8 + 0 ≤ _)⟩)
      dsimp only [Pt.U, Pt.locs, Pt.cells, Pt.slots] at X24 l24 y24 z24 st24 hQ24
      subst l24 y24 z24
      obtain ⟨hv24, Nq24, eq24⟩ := hQ24
      subst hv24
      replace Nf := Fr.app Nf Nq24
      refine own_go (x' := T24.setTop (mkF m 267 #[.val (.int p0), .val (.int p1), .val (.int p2), .val (.int p3), .val (.int p4), .val (.int (0 : Int32)), .val (.ref b1), .val (.int d0), .val (.int d1), .val (.int d2), .val (.int d3), .val (.ref b10), .val (.long (own_val_0 d0 d1 d2 d3 r0 r1 r2 r3)), .second, .val (.long (own_tot_0 r0 r1 r2 r3)), .second, .val (.long ((own_val_0 d0 d1 d2 d3 r0 r1 r2 r3) + (1 : Int64))), .second, .val (.int (1 : Int32)), .val (.int (own_adv_0_b d0 d1 d2 d3 r0 r1 r2 r3))] [(.long (own_val_0 e0 e1 e2 e3 r0 r1 r2 r3))])) st24 ?_
      refine own_go (x' := T24.setTop (mkF m 278 #[.val (.int p0), .val (.int p1), .val (.int p2), .val (.int p3), .val (.int p4), .val (.int (0 : Int32)), .val (.ref b1), .val (.int d0), .val (.int d1), .val (.int d2), .val (.int d3), .val (.ref b10), .val (.long (own_val_0 d0 d1 d2 d3 r0 r1 r2 r3)), .second, .val (.long (own_tot_0 r0 r1 r2 r3)), .second, .val (.long ((own_val_0 d0 d1 d2 d3 r0 r1 r2 r3) + (1 : Int64))), .second, .val (.int (1 : Int32)), .val (.int (own_adv_0_b d0 d1 d2 d3 r0 r1 r2 r3))] [(.int (1 : Int32))])) (fun _ k => XS.lload X24.here hx rfl (hb hby at_267) rfl (XS.lcmp X24.here hx rfl (hb hby at_269) rfl (XS.ifNo X24.here hx rfl (hb hby at_270) rfl ((if0 _ _).trans (teq ((lw_eq (own_val_0 e0 e1 e2 e3 r0 r1 r2 r3) ((own_val_0 d0 d1 d2 d3 r0 r1 r2 r3) + (1 : Int64))).mpr hV)).2) (XS.iconst X24.here hx rfl (hb hby at_273) (XS.goto X24.here hx rfl (pc0 := 274) (pc' := 278) rfl (hb hby at_274) (by decide) (by decide) k))))) ?_
      refine own_retN X24 hx hlk (t := .boolean) hret (by simp) (hb hby at_278) (w := (1 : Int32)) rfl ?_ (by decide) (by decide)
      rw [eq24]
      exact ⟨rfl, Nf⟩
    · refine own_go (x' := T18.setTop (mkF m 178 #[.val (.int p0), .val (.int p1), .val (.int p2), .val (.int p3), .val (.int p4), .val (.int (0 : Int32)), .val (.ref b1), .val (.int d0), .val (.int d1), .val (.int d2), .val (.int d3), .val (.ref b10), .val (.long (own_val_0 d0 d1 d2 d3 r0 r1 r2 r3)), .second, .val (.long (own_tot_0 r0 r1 r2 r3)), .second, .val (.long ((own_val_0 d0 d1 d2 d3 r0 r1 r2 r3) + (1 : Int64))), .second, .val (.int (0 : Int32)), .unset] [(.long (0 : Int64))])) (fun _ k => XS.ifYes X18.here hx rfl (pc0 := 162) (pc' := 169) rfl (hb hby at_162) rfl ((if0 _ _).trans (flt (fun q_ => hc162 ((lw_lt ((own_val_0 d0 d1 d2 d3 r0 r1 r2 r3) + (1 : Int64)) (own_tot_0 r0 r1 r2 r3)).mp q_))).2.1) (by decide) (by decide) (XS.iconst X18.here hx rfl (hb hby at_169) (XS.istore X18.here hx rfl (hb hby at_170) rfl (l' := #[.val (.int p0), .val (.int p1), .val (.int p2), .val (.int p3), .val (.int p4), .val (.int (0 : Int32)), .val (.ref b1), .val (.int d0), .val (.int d1), .val (.int d2), .val (.int d3), .val (.ref b10), .val (.long (own_val_0 d0 d1 d2 d3 r0 r1 r2 r3)), .second, .val (.long (own_tot_0 r0 r1 r2 r3)), .second, .val (.long ((own_val_0 d0 d1 d2 d3 r0 r1 r2 r3) + (1 : Int64))), .second, .val (.int (0 : Int32)), .unset]) rfl (XS.iload X18.here hx rfl (hb hby at_172) rfl (XS.ifNo X18.here hx rfl (hb hby at_174) rfl ((if0 _ _).trans (teq rfl).2) (XS.lconst X18.here hx rfl (hb hby at_177) k)))))) ?_
      refine own_go (x' := T18.setTop (mkF m 186 #[.val (.int p0), .val (.int p1), .val (.int p2), .val (.int p3), .val (.int p4), .val (.int (0 : Int32)), .val (.ref b1), .val (.int d0), .val (.int d1), .val (.int d2), .val (.int d3), .val (.ref b10), .val (.long (own_val_0 d0 d1 d2 d3 r0 r1 r2 r3)), .second, .val (.long (own_tot_0 r0 r1 r2 r3)), .second, .val (.long (0 : Int64)), .second, .val (.int (0 : Int32)), .unset] [(.int (0 : Int32)), (.ref b1), (.ref b10)])) (fun _ k => XS.lstore X18.here hx rfl (hb hby at_178) rfl (l' := #[.val (.int p0), .val (.int p1), .val (.int p2), .val (.int p3), .val (.int p4), .val (.int (0 : Int32)), .val (.ref b1), .val (.int d0), .val (.int d1), .val (.int d2), .val (.int d3), .val (.ref b10), .val (.long (own_val_0 d0 d1 d2 d3 r0 r1 r2 r3)), .second, .val (.long (own_tot_0 r0 r1 r2 r3)), .second, .val (.long (0 : Int64)), .second, .val (.int (0 : Int32)), .unset]) rfl (XS.aload X18.here hx rfl (hb hby at_180) rfl rfl (XS.aload X18.here hx rfl (hb hby at_182) rfl rfl (XS.iload X18.here hx rfl (hb hby at_184) rfl k)))) ?_
      obtain ⟨_, _, ⟨T25, L25, k25, n25⟩, -, X25, ⟨Lc25, hQ25, l25, y25, z25⟩, st25⟩ := Jvm.LawKit.callS X18 hx (y := (⟨"com/example/stratgen/stratgen/model/StateSpace", "advance", "([I[II)Z"⟩ : MethodName)) hown (mvT hZ (own_w hw 8 rfl)) (mvT hZ (own_w hw 9 rfl)) (mvT hZ (own_w hw 10 rfl)) (mvT hZ (own_w hw 11 rfl)) (by decide) (backOf (W := 0) (rm3_0 l Z a0 hw [] b10 b1 k10 k1 d0 d1 d2 d3 r0 r1 r2 r3 h14 n0 Zs V_b10 V_b1 (Ne.symm ne_b1_b10) g_b10) hZ (own_w hw 11 rfl) (own_w hw 10 rfl) (by decide) (by decide)) (g := (mkF m 186 #[.val (.int p0), .val (.int p1), .val (.int p2), .val (.int p3), .val (.int p4), .val (.int (0 : Int32)), .val (.ref b1), .val (.int d0), .val (.int d1), .val (.int d2), .val (.int d3), .val (.ref b10), .val (.long (own_val_0 d0 d1 d2 d3 r0 r1 r2 r3)), .second, .val (.long (own_tot_0 r0 r1 r2 r3)), .second, .val (.long (0 : Int64)), .second, .val (.int (0 : Int32)), .unset] [(.int (0 : Int32)), (.ref b1), (.ref b10)])) rfl (by rw [hml]; rfl) (argsL := [(.ref b10), (.ref b1), (.int (0 : Int32))]) (rest := []) (lenOf pd_2 rfl) rfl (by show 2 * 0 + _ ≤ _; exact Nat.le_of_eq rfl) (hb hby at_186) (fun _ _ => ⟨rfl, eq18, (by decide : 2 + 0 ≤ _), (by decide : 8 + 0 ≤ _)⟩)
      dsimp only [Pt.U, Pt.locs, Pt.cells, Pt.slots] at X25 l25 y25 z25 st25 hQ25
      subst l25 y25 z25
      obtain ⟨hv25, Nq25, K25, Vn25⟩ := hQ25
      subst hv25
      replace Nf := Fr.app Nf Nq25
      replace V_b1 := V_b1.keep K25 (ninS ne_b1_b10 nin0)
      replace Zs := Nat.le_trans Zs K25.1
      replace V_b10 := Vn25
      obtain ⟨e0, he0⟩ : ∃ z, z = (own_adv_0_0 d0 d1 d2 d3 r0 r1 r2 r3) := ⟨_, rfl⟩
      obtain ⟨e1, he1⟩ : ∃ z, z = (own_adv_0_1 d0 d1 d2 d3 r0 r1 r2 r3) := ⟨_, rfl⟩
      obtain ⟨e2, he2⟩ : ∃ z, z = (own_adv_0_2 d0 d1 d2 d3 r0 r1 r2 r3) := ⟨_, rfl⟩
      obtain ⟨e3, he3⟩ : ∃ z, z = (own_adv_0_3 d0 d1 d2 d3 r0 r1 r2 r3) := ⟨_, rfl⟩
      rw [← he0, ← he1, ← he2, ← he3] at V_b10
      refine own_go (x' := T25.setTop (mkF m 189 #[.val (.int p0), .val (.int p1), .val (.int p2), .val (.int p3), .val (.int p4), .val (.int (0 : Int32)), .val (.ref b1), .val (.int d0), .val (.int d1), .val (.int d2), .val (.int d3), .val (.ref b10), .val (.long (own_val_0 d0 d1 d2 d3 r0 r1 r2 r3)), .second, .val (.long (own_tot_0 r0 r1 r2 r3)), .second, .val (.long (0 : Int64)), .second, .val (.int (0 : Int32)), .unset] [(.int (own_adv_0_b d0 d1 d2 d3 r0 r1 r2 r3))])) st25 ?_
      refine own_go (x' := T25.setTop (mkF m 191 #[.val (.int p0), .val (.int p1), .val (.int p2), .val (.int p3), .val (.int p4), .val (.int (0 : Int32)), .val (.ref b1), .val (.int d0), .val (.int d1), .val (.int d2), .val (.int d3), .val (.ref b10), .val (.long (own_val_0 d0 d1 d2 d3 r0 r1 r2 r3)), .second, .val (.long (own_tot_0 r0 r1 r2 r3)), .second, .val (.long (0 : Int64)), .second, .val (.int (0 : Int32)), .val (.int (own_adv_0_b d0 d1 d2 d3 r0 r1 r2 r3))] [])) (fun _ k => XS.istore X25.here hx rfl (hb hby at_189) rfl (l' := #[.val (.int p0), .val (.int p1), .val (.int p2), .val (.int p3), .val (.int p4), .val (.int (0 : Int32)), .val (.ref b1), .val (.int d0), .val (.int d1), .val (.int d2), .val (.int d3), .val (.ref b10), .val (.long (own_val_0 d0 d1 d2 d3 r0 r1 r2 r3)), .second, .val (.long (own_tot_0 r0 r1 r2 r3)), .second, .val (.long (0 : Int64)), .second, .val (.int (0 : Int32)), .val (.int (own_adv_0_b d0 d1 d2 d3 r0 r1 r2 r3))]) rfl k) ?_
      rw [← he0, ← he1, ← he2, ← he3] at hlaw
      rw [← he0] at hx0
      rw [← he1] at hx1
      rw [← he2] at hx2
      rw [← he3] at hx3
      obtain ⟨-, hB, hV⟩ := hlaw.resolve_left fun q => hc162 q.1
      refine own_go (x' := T25.setTop (mkF m 203 #[.val (.int p0), .val (.int p1), .val (.int p2), .val (.int p3), .val (.int p4), .val (.int (0 : Int32)), .val (.ref b1), .val (.int d0), .val (.int d1), .val (.int d2), .val (.int d3), .val (.ref b10), .val (.long (own_val_0 d0 d1 d2 d3 r0 r1 r2 r3)), .second, .val (.long (own_tot_0 r0 r1 r2 r3)), .second, .val (.long (0 : Int64)), .second, .val (.int (0 : Int32)), .val (.int (own_adv_0_b d0 d1 d2 d3 r0 r1 r2 r3))] [(.int (0 : Int32)), (.ref b1), (.ref b10)])) (fun _ k => XS.iload X25.here hx rfl (hb hby at_191) rfl (XS.iload X25.here hx rfl (hb hby at_193) rfl (XS.icmpNo X25.here hx rfl (hb hby at_195) rfl (teq hB).2 (XS.aload X25.here hx rfl (hb hby at_198) rfl rfl (XS.aload X25.here hx rfl (hb hby at_200) rfl rfl (XS.iconst X25.here hx rfl (hb hby at_202) k)))))) ?_
      refine own_go (x' := T25.setTop (mkF m 207 #[.val (.int p0), .val (.int p1), .val (.int p2), .val (.int p3), .val (.int p4), .val (.int (0 : Int32)), .val (.ref b1), .val (.int d0), .val (.int d1), .val (.int d2), .val (.int d3), .val (.ref b10), .val (.long (own_val_0 d0 d1 d2 d3 r0 r1 r2 r3)), .second, .val (.long (own_tot_0 r0 r1 r2 r3)), .second, .val (.long (0 : Int64)), .second, .val (.int (0 : Int32)), .val (.int (own_adv_0_b d0 d1 d2 d3 r0 r1 r2 r3))] [(.int d0), (.int (0 : Int32)), (.int (0 : Int32)), (.ref b1), (.ref b10)])) (fun _ k => XS.iload X25.here hx rfl (hb hby at_203) rfl (XS.iload X25.here hx rfl (hb hby at_205) rfl k)) ?_
      obtain ⟨_, _, ⟨T26, L26, k26, n26⟩, -, X26, ⟨Lc26, hQ26, l26, y26, z26⟩, st26⟩ := Jvm.LawKit.callS X25 hx (y := (⟨"com/example/stratgen/stratgen/model/StateSpaceAdvancePinLaw", "digitOk", "([I[IIII)Z"⟩ : MethodName)) hown (mvT hZ (own_w hw 12 rfl)) (mvT hZ (own_w hw 13 rfl)) (mvT hZ (own_w hw 3 rfl)) (mvT hZ (own_w hw 14 rfl)) (by decide) (backOf (W := 0) (rm4_0_0 l Z a0 hw [] b10 b1 k10 k1 e0 e1 e2 e3 r0 r1 r2 r3 d0 T25.heap n0 Zs V_b10 V_b1) hZ (own_w hw 14 rfl) (own_w hw 3 rfl) (by decide) (by decide)) (g := (mkF m 207 #[.val (.int p0), .val (.int p1), .val (.int p2), .val (.int p3), .val (.int p4), .val (.int (0 : Int32)), .val (.ref b1), .val (.int d0), .val (.int d1), .val (.int d2), .val (.int d3), .val (.ref b10), .val (.long (own_val_0 d0 d1 d2 d3 r0 r1 r2 r3)), .second, .val (.long (own_tot_0 r0 r1 r2 r3)), .second, .val (.long (0 : Int64)), .second, .val (.int (0 : Int32)), .val (.int (own_adv_0_b d0 d1 d2 d3 r0 r1 r2 r3))] [(.int d0), (.int (0 : Int32)), (.int (0 : Int32)), (.ref b1), (.ref b10)])) rfl (by rw [hml]; rfl) (argsL := [(.ref b10), (.ref b1), (.int (0 : Int32)), (.int (0 : Int32)), (.int d0)]) (rest := []) (lenOf pd_3 rfl) rfl (by show 2 * 0 + _ ≤ _; exact Nat.le_of_eq rfl) (hb hby at_207) (fun _ _ => ⟨rfl, rfl, (by decide : 2 + 0 ≤ _), (by decide : 8 + 0 ≤ _)⟩)
      dsimp only [Pt.U, Pt.locs, Pt.cells, Pt.slots] at X26 l26 y26 z26 st26 hQ26
      subst l26 y26 z26
      obtain ⟨hv26, Nq26, eq26⟩ := hQ26
      subst hv26
      replace Nf := Fr.app Nf Nq26
      refine own_go (x' := T26.setTop (mkF m 210 #[.val (.int p0), .val (.int p1), .val (.int p2), .val (.int p3), .val (.int p4), .val (.int (0 : Int32)), .val (.ref b1), .val (.int d0), .val (.int d1), .val (.int d2), .val (.int d3), .val (.ref b10), .val (.long (own_val_0 d0 d1 d2 d3 r0 r1 r2 r3)), .second, .val (.long (own_tot_0 r0 r1 r2 r3)), .second, .val (.long (0 : Int64)), .second, .val (.int (0 : Int32)), .val (.int (own_adv_0_b d0 d1 d2 d3 r0 r1 r2 r3))] [(.int (own_dok_0_0 e0 r0 d0))])) st26 ?_
      refine own_go (x' := T26.setTop (mkF m 222 #[.val (.int p0), .val (.int p1), .val (.int p2), .val (.int p3), .val (.int p4), .val (.int (0 : Int32)), .val (.ref b1), .val (.int d0), .val (.int d1), .val (.int d2), .val (.int d3), .val (.ref b10), .val (.long (own_val_0 d0 d1 d2 d3 r0 r1 r2 r3)), .second, .val (.long (own_tot_0 r0 r1 r2 r3)), .second, .val (.long (0 : Int64)), .second, .val (.int (0 : Int32)), .val (.int (own_adv_0_b d0 d1 d2 d3 r0 r1 r2 r3))] [(.int d1), (.int (0 : Int32)), (.int (1 : Int32)), (.ref b1), (.ref b10)])) (fun _ k => XS.ifNo X26.here hx rfl (hb hby at_210) rfl ((if0 _ _).trans (feq (show ¬ ((own_dok_0_0 e0 r0 d0) = (0 : Int32)) from by simp only [own_dok_0_0, if_pos hx0]; decide)).1) (XS.aload X26.here hx rfl (hb hby at_213) rfl rfl (XS.aload X26.here hx rfl (hb hby at_215) rfl rfl (XS.iconst X26.here hx rfl (hb hby at_217) (XS.iload X26.here hx rfl (hb hby at_218) rfl (XS.iload X26.here hx rfl (hb hby at_220) rfl k)))))) ?_
      obtain ⟨_, _, ⟨T27, L27, k27, n27⟩, -, X27, ⟨Lc27, hQ27, l27, y27, z27⟩, st27⟩ := Jvm.LawKit.callS X26 hx (y := (⟨"com/example/stratgen/stratgen/model/StateSpaceAdvancePinLaw", "digitOk", "([I[IIII)Z"⟩ : MethodName)) hown (mvT hZ (own_w hw 12 rfl)) (mvT hZ (own_w hw 13 rfl)) (mvT hZ (own_w hw 3 rfl)) (mvT hZ (own_w hw 14 rfl)) (by decide) (backOf (W := 0) (rm4_1_0 l Z a0 hw [] b10 b1 k10 k1 e0 e1 e2 e3 r0 r1 r2 r3 d1 T25.heap n0 Zs V_b10 V_b1) hZ (own_w hw 14 rfl) (own_w hw 3 rfl) (by decide) (by decide)) (g := (mkF m 222 #[.val (.int p0), .val (.int p1), .val (.int p2), .val (.int p3), .val (.int p4), .val (.int (0 : Int32)), .val (.ref b1), .val (.int d0), .val (.int d1), .val (.int d2), .val (.int d3), .val (.ref b10), .val (.long (own_val_0 d0 d1 d2 d3 r0 r1 r2 r3)), .second, .val (.long (own_tot_0 r0 r1 r2 r3)), .second, .val (.long (0 : Int64)), .second, .val (.int (0 : Int32)), .val (.int (own_adv_0_b d0 d1 d2 d3 r0 r1 r2 r3))] [(.int d1), (.int (0 : Int32)), (.int (1 : Int32)), (.ref b1), (.ref b10)])) rfl (by rw [hml]; rfl) (argsL := [(.ref b10), (.ref b1), (.int (1 : Int32)), (.int (0 : Int32)), (.int d1)]) (rest := []) (lenOf pd_3 rfl) rfl (by show 2 * 0 + _ ≤ _; exact Nat.le_of_eq rfl) (hb hby at_222) (fun _ _ => ⟨rfl, eq26, (by decide : 2 + 0 ≤ _), (by decide : 8 + 0 ≤ _)⟩)
      dsimp only [Pt.U, Pt.locs, Pt.cells, Pt.slots] at X27 l27 y27 z27 st27 hQ27
      subst l27 y27 z27
      obtain ⟨hv27, Nq27, eq27⟩ := hQ27
      subst hv27
      replace Nf := Fr.app Nf Nq27
      refine own_go (x' := T27.setTop (mkF m 225 #[.val (.int p0), .val (.int p1), .val (.int p2), .val (.int p3), .val (.int p4), .val (.int (0 : Int32)), .val (.ref b1), .val (.int d0), .val (.int d1), .val (.int d2), .val (.int d3), .val (.ref b10), .val (.long (own_val_0 d0 d1 d2 d3 r0 r1 r2 r3)), .second, .val (.long (own_tot_0 r0 r1 r2 r3)), .second, .val (.long (0 : Int64)), .second, .val (.int (0 : Int32)), .val (.int (own_adv_0_b d0 d1 d2 d3 r0 r1 r2 r3))] [(.int (own_dok_1_0 e1 r1 d1))])) st27 ?_
      refine own_go (x' := T27.setTop (mkF m 237 #[.val (.int p0), .val (.int p1), .val (.int p2), .val (.int p3), .val (.int p4), .val (.int (0 : Int32)), .val (.ref b1), .val (.int d0), .val (.int d1), .val (.int d2), .val (.int d3), .val (.ref b10), .val (.long (own_val_0 d0 d1 d2 d3 r0 r1 r2 r3)), .second, .val (.long (own_tot_0 r0 r1 r2 r3)), .second, .val (.long (0 : Int64)), .second, .val (.int (0 : Int32)), .val (.int (own_adv_0_b d0 d1 d2 d3 r0 r1 r2 r3))] [(.int d2), (.int (0 : Int32)), (.int (2 : Int32)), (.ref b1), (.ref b10)])) (fun _ k => XS.ifNo X27.here hx rfl (hb hby at_225) rfl ((if0 _ _).trans (feq (show ¬ ((own_dok_1_0 e1 r1 d1) = (0 : Int32)) from by simp only [own_dok_1_0, if_pos hx1]; decide)).1) (XS.aload X27.here hx rfl (hb hby at_228) rfl rfl (XS.aload X27.here hx rfl (hb hby at_230) rfl rfl (XS.iconst X27.here hx rfl (hb hby at_232) (XS.iload X27.here hx rfl (hb hby at_233) rfl (XS.iload X27.here hx rfl (hb hby at_235) rfl k)))))) ?_
      obtain ⟨_, _, ⟨T28, L28, k28, n28⟩, -, X28, ⟨Lc28, hQ28, l28, y28, z28⟩, st28⟩ := Jvm.LawKit.callS X27 hx (y := (⟨"com/example/stratgen/stratgen/model/StateSpaceAdvancePinLaw", "digitOk", "([I[IIII)Z"⟩ : MethodName)) hown (mvT hZ (own_w hw 12 rfl)) (mvT hZ (own_w hw 13 rfl)) (mvT hZ (own_w hw 3 rfl)) (mvT hZ (own_w hw 14 rfl)) (by decide) (backOf (W := 0) (rm4_2_0 l Z a0 hw [] b10 b1 k10 k1 e0 e1 e2 e3 r0 r1 r2 r3 d2 T25.heap n0 Zs V_b10 V_b1) hZ (own_w hw 14 rfl) (own_w hw 3 rfl) (by decide) (by decide)) (g := (mkF m 237 #[.val (.int p0), .val (.int p1), .val (.int p2), .val (.int p3), .val (.int p4), .val (.int (0 : Int32)), .val (.ref b1), .val (.int d0), .val (.int d1), .val (.int d2), .val (.int d3), .val (.ref b10), .val (.long (own_val_0 d0 d1 d2 d3 r0 r1 r2 r3)), .second, .val (.long (own_tot_0 r0 r1 r2 r3)), .second, .val (.long (0 : Int64)), .second, .val (.int (0 : Int32)), .val (.int (own_adv_0_b d0 d1 d2 d3 r0 r1 r2 r3))] [(.int d2), (.int (0 : Int32)), (.int (2 : Int32)), (.ref b1), (.ref b10)])) rfl (by rw [hml]; rfl) (argsL := [(.ref b10), (.ref b1), (.int (2 : Int32)), (.int (0 : Int32)), (.int d2)]) (rest := []) (lenOf pd_3 rfl) rfl (by show 2 * 0 + _ ≤ _; exact Nat.le_of_eq rfl) (hb hby at_237) (fun _ _ => ⟨rfl, eq27, (by decide : 2 + 0 ≤ _), (by decide : 8 + 0 ≤ _)⟩)
      dsimp only [Pt.U, Pt.locs, Pt.cells, Pt.slots] at X28 l28 y28 z28 st28 hQ28
      subst l28 y28 z28
      obtain ⟨hv28, Nq28, eq28⟩ := hQ28
      subst hv28
      replace Nf := Fr.app Nf Nq28
      refine own_go (x' := T28.setTop (mkF m 240 #[.val (.int p0), .val (.int p1), .val (.int p2), .val (.int p3), .val (.int p4), .val (.int (0 : Int32)), .val (.ref b1), .val (.int d0), .val (.int d1), .val (.int d2), .val (.int d3), .val (.ref b10), .val (.long (own_val_0 d0 d1 d2 d3 r0 r1 r2 r3)), .second, .val (.long (own_tot_0 r0 r1 r2 r3)), .second, .val (.long (0 : Int64)), .second, .val (.int (0 : Int32)), .val (.int (own_adv_0_b d0 d1 d2 d3 r0 r1 r2 r3))] [(.int (own_dok_2_0 e2 r2 d2))])) st28 ?_
      refine own_go (x' := T28.setTop (mkF m 252 #[.val (.int p0), .val (.int p1), .val (.int p2), .val (.int p3), .val (.int p4), .val (.int (0 : Int32)), .val (.ref b1), .val (.int d0), .val (.int d1), .val (.int d2), .val (.int d3), .val (.ref b10), .val (.long (own_val_0 d0 d1 d2 d3 r0 r1 r2 r3)), .second, .val (.long (own_tot_0 r0 r1 r2 r3)), .second, .val (.long (0 : Int64)), .second, .val (.int (0 : Int32)), .val (.int (own_adv_0_b d0 d1 d2 d3 r0 r1 r2 r3))] [(.int d3), (.int (0 : Int32)), (.int (3 : Int32)), (.ref b1), (.ref b10)])) (fun _ k => XS.ifNo X28.here hx rfl (hb hby at_240) rfl ((if0 _ _).trans (feq (show ¬ ((own_dok_2_0 e2 r2 d2) = (0 : Int32)) from by simp only [own_dok_2_0, if_pos hx2]; decide)).1) (XS.aload X28.here hx rfl (hb hby at_243) rfl rfl (XS.aload X28.here hx rfl (hb hby at_245) rfl rfl (XS.iconst X28.here hx rfl (hb hby at_247) (XS.iload X28.here hx rfl (hb hby at_248) rfl (XS.iload X28.here hx rfl (hb hby at_250) rfl k)))))) ?_
      obtain ⟨_, _, ⟨T29, L29, k29, n29⟩, -, X29, ⟨Lc29, hQ29, l29, y29, z29⟩, st29⟩ := Jvm.LawKit.callS X28 hx (y := (⟨"com/example/stratgen/stratgen/model/StateSpaceAdvancePinLaw", "digitOk", "([I[IIII)Z"⟩ : MethodName)) hown (mvT hZ (own_w hw 12 rfl)) (mvT hZ (own_w hw 13 rfl)) (mvT hZ (own_w hw 3 rfl)) (mvT hZ (own_w hw 14 rfl)) (by decide) (backOf (W := 0) (rm4_3_0 l Z a0 hw [] b10 b1 k10 k1 e0 e1 e2 e3 r0 r1 r2 r3 d3 T25.heap n0 Zs V_b10 V_b1) hZ (own_w hw 14 rfl) (own_w hw 3 rfl) (by decide) (by decide)) (g := (mkF m 252 #[.val (.int p0), .val (.int p1), .val (.int p2), .val (.int p3), .val (.int p4), .val (.int (0 : Int32)), .val (.ref b1), .val (.int d0), .val (.int d1), .val (.int d2), .val (.int d3), .val (.ref b10), .val (.long (own_val_0 d0 d1 d2 d3 r0 r1 r2 r3)), .second, .val (.long (own_tot_0 r0 r1 r2 r3)), .second, .val (.long (0 : Int64)), .second, .val (.int (0 : Int32)), .val (.int (own_adv_0_b d0 d1 d2 d3 r0 r1 r2 r3))] [(.int d3), (.int (0 : Int32)), (.int (3 : Int32)), (.ref b1), (.ref b10)])) rfl (by rw [hml]; rfl) (argsL := [(.ref b10), (.ref b1), (.int (3 : Int32)), (.int (0 : Int32)), (.int d3)]) (rest := []) (lenOf pd_3 rfl) rfl (by show 2 * 0 + _ ≤ _; exact Nat.le_of_eq rfl) (hb hby at_252) (fun _ _ => ⟨rfl, eq28, (by decide : 2 + 0 ≤ _), (by decide : 8 + 0 ≤ _)⟩)
      dsimp only [Pt.U, Pt.locs, Pt.cells, Pt.slots] at X29 l29 y29 z29 st29 hQ29
      subst l29 y29 z29
      obtain ⟨hv29, Nq29, eq29⟩ := hQ29
      subst hv29
      replace Nf := Fr.app Nf Nq29
      refine own_go (x' := T29.setTop (mkF m 255 #[.val (.int p0), .val (.int p1), .val (.int p2), .val (.int p3), .val (.int p4), .val (.int (0 : Int32)), .val (.ref b1), .val (.int d0), .val (.int d1), .val (.int d2), .val (.int d3), .val (.ref b10), .val (.long (own_val_0 d0 d1 d2 d3 r0 r1 r2 r3)), .second, .val (.long (own_tot_0 r0 r1 r2 r3)), .second, .val (.long (0 : Int64)), .second, .val (.int (0 : Int32)), .val (.int (own_adv_0_b d0 d1 d2 d3 r0 r1 r2 r3))] [(.int (own_dok_3_0 e3 r3 d3))])) st29 ?_
      refine own_go (x' := T29.setTop (mkF m 264 #[.val (.int p0), .val (.int p1), .val (.int p2), .val (.int p3), .val (.int p4), .val (.int (0 : Int32)), .val (.ref b1), .val (.int d0), .val (.int d1), .val (.int d2), .val (.int d3), .val (.ref b10), .val (.long (own_val_0 d0 d1 d2 d3 r0 r1 r2 r3)), .second, .val (.long (own_tot_0 r0 r1 r2 r3)), .second, .val (.long (0 : Int64)), .second, .val (.int (0 : Int32)), .val (.int (own_adv_0_b d0 d1 d2 d3 r0 r1 r2 r3))] [(.int (0 : Int32)), (.ref b1), (.ref b10)])) (fun _ k => XS.ifNo X29.here hx rfl (hb hby at_255) rfl ((if0 _ _).trans (feq (show ¬ ((own_dok_3_0 e3 r3 d3) = (0 : Int32)) from by simp only [own_dok_3_0, if_pos hx3]; decide)).1) (XS.aload X29.here hx rfl (hb hby at_258) rfl rfl (XS.aload X29.here hx rfl (hb hby at_260) rfl rfl (XS.iload X29.here hx rfl (hb hby at_262) rfl k)))) ?_
      obtain ⟨_, _, ⟨T30, L30, k30, n30⟩, -, X30, ⟨Lc30, hQ30, l30, y30, z30⟩, st30⟩ := Jvm.LawKit.callS X29 hx (y := (⟨"com/example/stratgen/stratgen/model/StateSpaceAdvancePinLaw", "value", "([I[II)J"⟩ : MethodName)) hown (mvT hZ (own_w hw 1 rfl)) (mvT hZ (own_w hw 2 rfl)) (mvT hZ (own_w hw 3 rfl)) (mvT hZ (own_w hw 4 rfl)) (by decide) (backOf (W := 0) (rm1_0 l Z a0 hw [] b10 b1 k10 k1 e0 e1 e2 e3 r0 r1 r2 r3 T25.heap n0 Zs V_b10 V_b1) hZ (own_w hw 4 rfl) (own_w hw 3 rfl) (by decide) (by decide)) (g := (mkF m 264 #[.val (.int p0), .val (.int p1), .val (.int p2), .val (.int p3), .val (.int p4), .val (.int (0 : Int32)), .val (.ref b1), .val (.int d0), .val (.int d1), .val (.int d2), .val (.int d3), .val (.ref b10), .val (.long (own_val_0 d0 d1 d2 d3 r0 r1 r2 r3)), .second, .val (.long (own_tot_0 r0 r1 r2 r3)), .second, .val (.long (0 : Int64)), .second, .val (.int (0 : Int32)), .val (.int (own_adv_0_b d0 d1 d2 d3 r0 r1 r2 r3))] [(.int (0 : Int32)), (.ref b1), (.ref b10)])) rfl (by rw [hml]; rfl) (argsL := [(.ref b10), (.ref b1), (.int (0 : Int32))]) (rest := []) (lenOf pd_0 rfl) rfl (by show 2 * 0 + _ ≤ _; exact Nat.le_of_eq rfl) (hb hby at_264) (fun _ _ => ⟨rfl, eq29, (by decide : 2 + 0 ≤ _), (by decide : 8 + 0 ≤ _)⟩)
      dsimp only [Pt.U, Pt.locs, Pt.cells, Pt.slots] at X30 l30 y30 z30 st30 hQ30
      subst l30 y30 z30
      obtain ⟨hv30, Nq30, eq30⟩ := hQ30
      subst hv30
      replace Nf := Fr.app Nf Nq30
      refine own_go (x' := T30.setTop (mkF m 267 #[.val (.int p0), .val (.int p1), .val (.int p2), .val (.int p3), .val (.int p4), .val (.int (0 : Int32)), .val (.ref b1), .val (.int d0), .val (.int d1), .val (.int d2), .val (.int d3), .val (.ref b10), .val (.long (own_val_0 d0 d1 d2 d3 r0 r1 r2 r3)), .second, .val (.long (own_tot_0 r0 r1 r2 r3)), .second, .val (.long (0 : Int64)), .second, .val (.int (0 : Int32)), .val (.int (own_adv_0_b d0 d1 d2 d3 r0 r1 r2 r3))] [(.long (own_val_0 e0 e1 e2 e3 r0 r1 r2 r3))])) st30 ?_
      refine own_go (x' := T30.setTop (mkF m 278 #[.val (.int p0), .val (.int p1), .val (.int p2), .val (.int p3), .val (.int p4), .val (.int (0 : Int32)), .val (.ref b1), .val (.int d0), .val (.int d1), .val (.int d2), .val (.int d3), .val (.ref b10), .val (.long (own_val_0 d0 d1 d2 d3 r0 r1 r2 r3)), .second, .val (.long (own_tot_0 r0 r1 r2 r3)), .second, .val (.long (0 : Int64)), .second, .val (.int (0 : Int32)), .val (.int (own_adv_0_b d0 d1 d2 d3 r0 r1 r2 r3))] [(.int (1 : Int32))])) (fun _ k => XS.lload X30.here hx rfl (hb hby at_267) rfl (XS.lcmp X30.here hx rfl (hb hby at_269) rfl (XS.ifNo X30.here hx rfl (hb hby at_270) rfl ((if0 _ _).trans (teq ((lw_eq (own_val_0 e0 e1 e2 e3 r0 r1 r2 r3) (0 : Int64)).mpr hV)).2) (XS.iconst X30.here hx rfl (hb hby at_273) (XS.goto X30.here hx rfl (pc0 := 274) (pc' := 278) rfl (hb hby at_274) (by decide) (by decide) k))))) ?_
      refine own_retN X30 hx hlk (t := .boolean) hret (by simp) (hb hby at_278) (w := (1 : Int32)) rfl ?_ (by decide) (by decide)
      rw [eq30]
      exact ⟨rfl, Nf⟩
  · rw [hm]
    obtain ⟨hlaw, hx0, hx1, hx2, hx3⟩ := own_law_1 d0 d1 d2 d3 r0 r1 r2 r3 gd0 gd1 gd2 gd3
    refine own_go (x' := T14.setTop (mkF m 137 #[.val (.int p0), .val (.int p1), .val (.int p2), .val (.int p3), .val (.int p4), .val (.int (1 : Int32)), .val (.ref b1), .val (.int d0), .val (.int d1), .val (.int d2), .val (.int d3), .val (.ref b10), .unset, .unset, .unset, .unset, .unset, .unset, .unset, .unset] [(.int (1 : Int32)), (.ref b1), (.ref b10)])) (fun _ k => XS.aload X15.here hx rfl (hb hby at_131) rfl rfl (XS.aload X15.here hx rfl (hb hby at_133) rfl rfl (XS.iload X15.here hx rfl (hb hby at_135) rfl k))) ?_
    obtain ⟨LL31, X31, Nf⟩ : ∃ LL : List Loc, Stand p l e room_1 s m _ below meth c T14 LL 2 8 ∧ Fr n0 LL := ⟨_, X15, Nf⟩
    obtain ⟨_, _, ⟨T32, L32, k32, n32⟩, -, X32, ⟨Lc32, hQ32, l32, y32, z32⟩, st32⟩ := Jvm.LawKit.callS X31 hx (y := (⟨"com/example/stratgen/stratgen/model/StateSpaceAdvancePinLaw", "value", "([I[II)J"⟩ : MethodName)) hown (mvT hZ (own_w hw 1 rfl)) (mvT hZ (own_w hw 2 rfl)) (mvT hZ (own_w hw 3 rfl)) (mvT hZ (own_w hw 4 rfl)) (by decide) (backOf (W := 0) (rm1_1 l Z a0 hw [] b10 b1 k10 k1 d0 d1 d2 d3 r0 r1 r2 r3 h14 n0 Zs V_b10 V_b1) hZ (own_w hw 4 rfl) (own_w hw 3 rfl) (by decide) (by decide)) (g := (mkF m 137 #[.val (.int p0), .val (.int p1), .val (.int p2), .val (.int p3), .val (.int p4), .val (.int (1 : Int32)), .val (.ref b1), .val (.int d0), .val (.int d1), .val (.int d2), .val (.int d3), .val (.ref b10), .unset, .unset, .unset, .unset, .unset, .unset, .unset, .unset] [(.int (1 : Int32)), (.ref b1), (.ref b10)])) rfl (by rw [hml]; rfl) (argsL := [(.ref b10), (.ref b1), (.int (1 : Int32))]) (rest := []) (lenOf pd_0 rfl) rfl (by show 2 * 0 + _ ≤ _; exact Nat.le_of_eq rfl) (hb hby at_137) (fun _ _ => ⟨rfl, e14, (by decide : 2 + 0 ≤ _), (by decide : 8 + 0 ≤ _)⟩)
    dsimp only [Pt.U, Pt.locs, Pt.cells, Pt.slots] at X32 l32 y32 z32 st32 hQ32
    subst l32 y32 z32
    obtain ⟨hv32, Nq32, eq32⟩ := hQ32
    subst hv32
    replace Nf := Fr.app Nf Nq32
    refine own_go (x' := T32.setTop (mkF m 140 #[.val (.int p0), .val (.int p1), .val (.int p2), .val (.int p3), .val (.int p4), .val (.int (1 : Int32)), .val (.ref b1), .val (.int d0), .val (.int d1), .val (.int d2), .val (.int d3), .val (.ref b10), .unset, .unset, .unset, .unset, .unset, .unset, .unset, .unset] [(.long (own_val_1 d0 d1 d2 d3 r0 r1 r2 r3))])) st32 ?_
    refine own_go (x' := T32.setTop (mkF m 146 #[.val (.int p0), .val (.int p1), .val (.int p2), .val (.int p3), .val (.int p4), .val (.int (1 : Int32)), .val (.ref b1), .val (.int d0), .val (.int d1), .val (.int d2), .val (.int d3), .val (.ref b10), .val (.long (own_val_1 d0 d1 d2 d3 r0 r1 r2 r3)), .second, .unset, .unset, .unset, .unset, .unset, .unset] [(.int (1 : Int32)), (.ref b1)])) (fun _ k => XS.lstore X32.here hx rfl (hb hby at_140) rfl (l' := #[.val (.int p0), .val (.int p1), .val (.int p2), .val (.int p3), .val (.int p4), .val (.int (1 : Int32)), .val (.ref b1), .val (.int d0), .val (.int d1), .val (.int d2), .val (.int d3), .val (.ref b10), .val (.long (own_val_1 d0 d1 d2 d3 r0 r1 r2 r3)), .second, .unset, .unset, .unset, .unset, .unset, .unset]) rfl (XS.aload X32.here hx rfl (hb hby at_142) rfl rfl (XS.iload X32.here hx rfl (hb hby at_144) rfl k))) ?_
    obtain ⟨_, _, ⟨T33, L33, k33, n33⟩, -, X33, ⟨Lc33, hQ33, l33, y33, z33⟩, st33⟩ := Jvm.LawKit.callS X32 hx (y := (⟨"com/example/stratgen/stratgen/model/StateSpaceAdvancePinLaw", "total", "([II)J"⟩ : MethodName)) hown (mvT hZ (own_w hw 5 rfl)) (mvT hZ (own_w hw 6 rfl)) (mvT hZ (own_w hw 3 rfl)) (mvT hZ (own_w hw 7 rfl)) (by decide) (backOf (W := 0) (rm2_1 l Z a0 hw [] b1 k1 r0 r1 r2 r3 h14 n0 Zs V_b1) hZ (own_w hw 7 rfl) (own_w hw 3 rfl) (by decide) (by decide)) (g := (mkF m 146 #[.val (.int p0), .val (.int p1), .val (.int p2), .val (.int p3), .val (.int p4), .val (.int (1 : Int32)), .val (.ref b1), .val (.int d0), .val (.int d1), .val (.int d2), .val (.int d3), .val (.ref b10), .val (.long (own_val_1 d0 d1 d2 d3 r0 r1 r2 r3)), .second, .unset, .unset, .unset, .unset, .unset, .unset] [(.int (1 : Int32)), (.ref b1)])) rfl (by rw [hml]; rfl) (argsL := [(.ref b1), (.int (1 : Int32))]) (rest := []) (lenOf pd_1 rfl) rfl (by show 2 * 0 + _ ≤ _; exact Nat.le_of_eq rfl) (hb hby at_146) (fun _ _ => ⟨rfl, eq32, (by decide : 2 + 0 ≤ _), (by decide : 8 + 0 ≤ _)⟩)
    dsimp only [Pt.U, Pt.locs, Pt.cells, Pt.slots] at X33 l33 y33 z33 st33 hQ33
    subst l33 y33 z33
    obtain ⟨hv33, Nq33, eq33⟩ := hQ33
    subst hv33
    replace Nf := Fr.app Nf Nq33
    refine own_go (x' := T33.setTop (mkF m 149 #[.val (.int p0), .val (.int p1), .val (.int p2), .val (.int p3), .val (.int p4), .val (.int (1 : Int32)), .val (.ref b1), .val (.int d0), .val (.int d1), .val (.int d2), .val (.int d3), .val (.ref b10), .val (.long (own_val_1 d0 d1 d2 d3 r0 r1 r2 r3)), .second, .unset, .unset, .unset, .unset, .unset, .unset] [(.long (own_tot_1 r0 r1 r2 r3))])) st33 ?_
    refine own_go (x' := T33.setTop (mkF m 159 #[.val (.int p0), .val (.int p1), .val (.int p2), .val (.int p3), .val (.int p4), .val (.int (1 : Int32)), .val (.ref b1), .val (.int d0), .val (.int d1), .val (.int d2), .val (.int d3), .val (.ref b10), .val (.long (own_val_1 d0 d1 d2 d3 r0 r1 r2 r3)), .second, .val (.long (own_tot_1 r0 r1 r2 r3)), .second, .val (.long ((own_val_1 d0 d1 d2 d3 r0 r1 r2 r3) + (1 : Int64))), .second, .unset, .unset] [(.long ((own_val_1 d0 d1 d2 d3 r0 r1 r2 r3) + (1 : Int64)))])) (fun _ k => XS.lstore X33.here hx rfl (hb hby at_149) rfl (l' := #[.val (.int p0), .val (.int p1), .val (.int p2), .val (.int p3), .val (.int p4), .val (.int (1 : Int32)), .val (.ref b1), .val (.int d0), .val (.int d1), .val (.int d2), .val (.int d3), .val (.ref b10), .val (.long (own_val_1 d0 d1 d2 d3 r0 r1 r2 r3)), .second, .val (.long (own_tot_1 r0 r1 r2 r3)), .second, .unset, .unset, .unset, .unset]) rfl (XS.lload X33.here hx rfl (hb hby at_151) rfl (XS.lconst X33.here hx rfl (hb hby at_153) (XS.ladd X33.here hx rfl (hb hby at_154) rfl (XS.lstore X33.here hx rfl (hb hby at_155) rfl (l' := #[.val (.int p0), .val (.int p1), .val (.int p2), .val (.int p3), .val (.int p4), .val (.int (1 : Int32)), .val (.ref b1), .val (.int d0), .val (.int d1), .val (.int d2), .val (.int d3), .val (.ref b10), .val (.long (own_val_1 d0 d1 d2 d3 r0 r1 r2 r3)), .second, .val (.long (own_tot_1 r0 r1 r2 r3)), .second, .val (.long ((own_val_1 d0 d1 d2 d3 r0 r1 r2 r3) + (1 : Int64))), .second, .unset, .unset]) rfl (XS.lload X33.here hx rfl (hb hby at_157) rfl k)))))) ?_
    refine own_go (x' := T33.setTop (mkF m 162 #[.val (.int p0), .val (.int p1), .val (.int p2), .val (.int p3), .val (.int p4), .val (.int (1 : Int32)), .val (.ref b1), .val (.int d0), .val (.int d1), .val (.int d2), .val (.int d3), .val (.ref b10), .val (.long (own_val_1 d0 d1 d2 d3 r0 r1 r2 r3)), .second, .val (.long (own_tot_1 r0 r1 r2 r3)), .second, .val (.long ((own_val_1 d0 d1 d2 d3 r0 r1 r2 r3) + (1 : Int64))), .second, .unset, .unset] [(.int (lcmpW ((own_val_1 d0 d1 d2 d3 r0 r1 r2 r3) + (1 : Int64)) (own_tot_1 r0 r1 r2 r3)))])) (fun _ k => XS.lload X33.here hx rfl (hb hby at_159) rfl (XS.lcmp X33.here hx rfl (hb hby at_161) rfl k)) ?_
    by_cases hc162 : ((own_val_1 d0 d1 d2 d3 r0 r1 r2 r3) + (1 : Int64)) < (own_tot_1 r0 r1 r2 r3)
    · refine own_go (x' := T33.setTop (mkF m 180 #[.val (.int p0), .val (.int p1), .val (.int p2), .val (.int p3), .val (.int p4), .val (.int (1 : Int32)), .val (.ref b1), .val (.int d0), .val (.int d1), .val (.int d2), .val (.int d3), .val (.ref b10), .val (.long (own_val_1 d0 d1 d2 d3 r0 r1 r2 r3)), .second, .val (.long (own_tot_1 r0 r1 r2 r3)), .second, .val (.long ((own_val_1 d0 d1 d2 d3 r0 r1 r2 r3) + (1 : Int64))), .second, .val (.int (1 : Int32)), .unset] [])) (fun _ k => XS.ifNo X33.here hx rfl (hb hby at_162) rfl ((if0 _ _).trans (tlt ((lw_lt ((own_val_1 d0 d1 d2 d3 r0 r1 r2 r3) + (1 : Int64)) (own_tot_1 r0 r1 r2 r3)).mpr hc162)).2.1) (XS.iconst X33.here hx rfl (hb hby at_165) (XS.goto X33.here hx rfl (pc0 := 166) (pc' := 170) rfl (hb hby at_166) (by decide) (by decide) (XS.istore X33.here hx rfl (hb hby at_170) rfl (l' := #[.val (.int p0), .val (.int p1), .val (.int p2), .val (.int p3), .val (.int p4), .val (.int (1 : Int32)), .val (.ref b1), .val (.int d0), .val (.int d1), .val (.int d2), .val (.int d3), .val (.ref b10), .val (.long (own_val_1 d0 d1 d2 d3 r0 r1 r2 r3)), .second, .val (.long (own_tot_1 r0 r1 r2 r3)), .second, .val (.long ((own_val_1 d0 d1 d2 d3 r0 r1 r2 r3) + (1 : Int64))), .second, .val (.int (1 : Int32)), .unset]) rfl (XS.iload X33.here hx rfl (hb hby at_172) rfl (XS.ifYes X33.here hx rfl (pc0 := 174) (pc' := 180) rfl (hb hby at_174) rfl ((if0 _ _).trans (feq (by decide +kernel : ¬ ((1 : Int32) = (0 : Int32)))).2) (by decide) (by decide) k)))))) ?_
      refine own_go (x' := T33.setTop (mkF m 186 #[.val (.int p0), .val (.int p1), .val (.int p2), .val (.int p3), .val (.int p4), .val (.int (1 : Int32)), .val (.ref b1), .val (.int d0), .val (.int d1), .val (.int d2), .val (.int d3), .val (.ref b10), .val (.long (own_val_1 d0 d1 d2 d3 r0 r1 r2 r3)), .second, .val (.long (own_tot_1 r0 r1 r2 r3)), .second, .val (.long ((own_val_1 d0 d1 d2 d3 r0 r1 r2 r3) + (1 : Int64))), .second, .val (.int (1 : Int32)), .unset] [(.int (1 : Int32)), (.ref b1), (.ref b10)])) (fun _ k => XS.aload X33.here hx rfl (hb hby at_180) rfl rfl (XS.aload X33.here hx rfl (hb hby at_182) rfl rfl (XS.iload X33.here hx rfl (hb hby at_184) rfl k))) ?_
      obtain ⟨_, _, ⟨T34, L34, k34, n34⟩, -, X34, ⟨Lc34, hQ34, l34, y34, z34⟩, st34⟩ := Jvm.LawKit.callS X33 hx (y := (⟨"com/example/stratgen/stratgen/model/StateSpace", "advance", "([I[II)Z"⟩ : MethodName)) hown (mvT hZ (own_w hw 8 rfl)) (mvT hZ (own_w hw 9 rfl)) (mvT hZ (own_w hw 10 rfl)) (mvT hZ (own_w hw 11 rfl)) (by decide) (backOf (W := 0) (rm3_1 l Z a0 hw [] b10 b1 k10 k1 d0 d1 d2 d3 r0 r1 r2 r3 h14 n0 Zs V_b10 V_b1 (Ne.symm ne_b1_b10) g_b10) hZ (own_w hw 11 rfl) (own_w hw 10 rfl) (by decide) (by decide)) (g := (mkF m 186 #[.val (.int p0), .val (.int p1), .val (.int p2), .val (.int p3), .val (.int p4), .val (.int (1 : Int32)), .val (.ref b1), .val (.int d0), .val (.int d1), .val (.int d2), .val (.int d3), .val (.ref b10), .val (.long (own_val_1 d0 d1 d2 d3 r0 r1 r2 r3)), .second, .val (.long (own_tot_1 r0 r1 r2 r3)), .second, .val (.long ((own_val_1 d0 d1 d2 d3 r0 r1 r2 r3) + (1 : Int64))), .second, .val (.int (1 : Int32)), .unset] [(.int (1 : Int32)), (.ref b1), (.ref b10)])) rfl (by rw [hml]; rfl) (argsL := [(.ref b10), (.ref b1), (.int (1 : Int32))]) (rest := []) (lenOf pd_2 rfl) rfl (by show 2 * 0 + _ ≤ _; exact Nat.le_of_eq rfl) (hb hby at_186) (fun _ _ => ⟨rfl, eq33, (by decide : 2 + 0 ≤ _), (by decide : 8 + 0 ≤ _)⟩)
      dsimp only [Pt.U, Pt.locs, Pt.cells, Pt.slots] at X34 l34 y34 z34 st34 hQ34
      subst l34 y34 z34
      obtain ⟨hv34, Nq34, K34, Vn34⟩ := hQ34
      subst hv34
      replace Nf := Fr.app Nf Nq34
      replace V_b1 := V_b1.keep K34 (ninS ne_b1_b10 nin0)
      replace Zs := Nat.le_trans Zs K34.1
      replace V_b10 := Vn34
      obtain ⟨e0, he0⟩ : ∃ z, z = (own_adv_1_0 d0 d1 d2 d3 r0 r1 r2 r3) := ⟨_, rfl⟩
      obtain ⟨e1, he1⟩ : ∃ z, z = (own_adv_1_1 d0 d1 d2 d3 r0 r1 r2 r3) := ⟨_, rfl⟩
      obtain ⟨e2, he2⟩ : ∃ z, z = (own_adv_1_2 d0 d1 d2 d3 r0 r1 r2 r3) := ⟨_, rfl⟩
      obtain ⟨e3, he3⟩ : ∃ z, z = (own_adv_1_3 d0 d1 d2 d3 r0 r1 r2 r3) := ⟨_, rfl⟩
      rw [← he0, ← he1, ← he2, ← he3] at V_b10
      refine own_go (x' := T34.setTop (mkF m 189 #[.val (.int p0), .val (.int p1), .val (.int p2), .val (.int p3), .val (.int p4), .val (.int (1 : Int32)), .val (.ref b1), .val (.int d0), .val (.int d1), .val (.int d2), .val (.int d3), .val (.ref b10), .val (.long (own_val_1 d0 d1 d2 d3 r0 r1 r2 r3)), .second, .val (.long (own_tot_1 r0 r1 r2 r3)), .second, .val (.long ((own_val_1 d0 d1 d2 d3 r0 r1 r2 r3) + (1 : Int64))), .second, .val (.int (1 : Int32)), .unset] [(.int (own_adv_1_b d0 d1 d2 d3 r0 r1 r2 r3))])) st34 ?_
      refine own_go (x' := T34.setTop (mkF m 191 #[.val (.int p0), .val (.int p1), .val (.int p2), .val (.int p3), .val (.int p4), .val (.int (1 : Int32)), .val (.ref b1), .val (.int d0), .val (.int d1), .val (.int d2), .val (.int d3), .val (.ref b10), .val (.long (own_val_1 d0 d1 d2 d3 r0 r1 r2 r3)), .second, .val (.long (own_tot_1 r0 r1 r2 r3)), .second, .val (.long ((own_val_1 d0 d1 d2 d3 r0 r1 r2 r3) + (1 : Int64))), .second, .val (.int (1 : Int32)), .val (.int (own_adv_1_b d0 d1 d2 d3 r0 r1 r2 r3))] [])) (fun _ k => XS.istore X34.here hx rfl (hb hby at_189) rfl (l' := #[.val (.int p0), .val (.int p1), .val (.int p2), .val (.int p3), .val (.int p4), .val (.int (1 : Int32)), .val (.ref b1), .val (.int d0), .val (.int d1), .val (.int d2), .val (.int d3), .val (.ref b10), .val (.long (own_val_1 d0 d1 d2 d3 r0 r1 r2 r3)), .second, .val (.long (own_tot_1 r0 r1 r2 r3)), .second, .val (.long ((own_val_1 d0 d1 d2 d3 r0 r1 r2 r3) + (1 : Int64))), .second, .val (.int (1 : Int32)), .val (.int (own_adv_1_b d0 d1 d2 d3 r0 r1 r2 r3))]) rfl k) ?_
      rw [← he0, ← he1, ← he2, ← he3] at hlaw
      rw [← he0] at hx0
      rw [← he1] at hx1
      rw [← he2] at hx2
      rw [← he3] at hx3
      obtain ⟨-, hB, hV⟩ := hlaw.resolve_right fun q => q.1 hc162
      refine own_go (x' := T34.setTop (mkF m 203 #[.val (.int p0), .val (.int p1), .val (.int p2), .val (.int p3), .val (.int p4), .val (.int (1 : Int32)), .val (.ref b1), .val (.int d0), .val (.int d1), .val (.int d2), .val (.int d3), .val (.ref b10), .val (.long (own_val_1 d0 d1 d2 d3 r0 r1 r2 r3)), .second, .val (.long (own_tot_1 r0 r1 r2 r3)), .second, .val (.long ((own_val_1 d0 d1 d2 d3 r0 r1 r2 r3) + (1 : Int64))), .second, .val (.int (1 : Int32)), .val (.int (own_adv_1_b d0 d1 d2 d3 r0 r1 r2 r3))] [(.int (0 : Int32)), (.ref b1), (.ref b10)])) (fun _ k => XS.iload X34.here hx rfl (hb hby at_191) rfl (XS.iload X34.here hx rfl (hb hby at_193) rfl (XS.icmpNo X34.here hx rfl (hb hby at_195) rfl (teq hB).2 (XS.aload X34.here hx rfl (hb hby at_198) rfl rfl (XS.aload X34.here hx rfl (hb hby at_200) rfl rfl (XS.iconst X34.here hx rfl (hb hby at_202) k)))))) ?_
      refine own_go (x' := T34.setTop (mkF m 207 #[.val (.int p0), .val (.int p1), .val (.int p2), .val (.int p3), .val (.int p4), .val (.int (1 : Int32)), .val (.ref b1), .val (.int d0), .val (.int d1), .val (.int d2), .val (.int d3), .val (.ref b10), .val (.long (own_val_1 d0 d1 d2 d3 r0 r1 r2 r3)), .second, .val (.long (own_tot_1 r0 r1 r2 r3)), .second, .val (.long ((own_val_1 d0 d1 d2 d3 r0 r1 r2 r3) + (1 : Int64))), .second, .val (.int (1 : Int32)), .val (.int (own_adv_1_b d0 d1 d2 d3 r0 r1 r2 r3))] [(.int d0), (.int (1 : Int32)), (.int (0 : Int32)), (.ref b1), (.ref b10)])) (fun _ k => XS.iload X34.here hx rfl (hb hby at_203) rfl (XS.iload X34.here hx rfl (hb hby at_205) rfl k)) ?_
      obtain ⟨_, _, ⟨T35, L35, k35, n35⟩, -, X35, ⟨Lc35, hQ35, l35, y35, z35⟩, st35⟩ := Jvm.LawKit.callS X34 hx (y := (⟨"com/example/stratgen/stratgen/model/StateSpaceAdvancePinLaw", "digitOk", "([I[IIII)Z"⟩ : MethodName)) hown (mvT hZ (own_w hw 12 rfl)) (mvT hZ (own_w hw 13 rfl)) (mvT hZ (own_w hw 3 rfl)) (mvT hZ (own_w hw 14 rfl)) (by decide) (backOf (W := 0) (rm4_0_1 l Z a0 hw [] b10 b1 k10 k1 e0 e1 e2 e3 r0 r1 r2 r3 d0 T34.heap n0 Zs V_b10 V_b1) hZ (own_w hw 14 rfl) (own_w hw 3 rfl) (by decide) (by decide)) (g := (mkF m 207 #[.val (.int p0), .val (.int p1), .val (.int p2), .val (.int p3), .val (.int p4), .val (.int (1 : Int32)), .val (.ref b1), .val (.int d0), .val (.int d1), .val (.int d2), .val (.int d3), .val (.ref b10), .val (.long (own_val_1 d0 d1 d2 d3 r0 r1 r2 r3)), .second, .val (.long (own_tot_1 r0 r1 r2 r3)), .second, .val (.long ((own_val_1 d0 d1 d2 d3 r0 r1 r2 r3) + (1 : Int64))), .second, .val (.int (1 : Int32)), .val (.int (own_adv_1_b d0 d1 d2 d3 r0 r1 r2 r3))] [(.int d0), (.int (1 : Int32)), (.int (0 : Int32)), (.ref b1), (.ref b10)])) rfl (by rw [hml]; rfl) (argsL := [(.ref b10), (.ref b1), (.int (0 : Int32)), (.int (1 : Int32)), (.int d0)]) (rest := []) (lenOf pd_3 rfl) rfl (by show 2 * 0 + _ ≤ _; exact Nat.le_of_eq rfl) (hb hby at_207) (fun _ _ => ⟨rfl, rfl, (by decide : 2 + 0 ≤ _), (by decide : 8 + 0 ≤ _)⟩)
      dsimp only [Pt.U, Pt.locs, Pt.cells, Pt.slots] at X35 l35 y35 z35 st35 hQ35
      subst l35 y35 z35
      obtain ⟨hv35, Nq35, eq35⟩ := hQ35
      subst hv35
      replace Nf := Fr.app Nf Nq35
      refine own_go (x' := T35.setTop (mkF m 210 #[.val (.int p0), .val (.int p1), .val (.int p2), .val (.int p3), .val (.int p4), .val (.int (1 : Int32)), .val (.ref b1), .val (.int d0), .val (.int d1), .val (.int d2), .val (.int d3), .val (.ref b10), .val (.long (own_val_1 d0 d1 d2 d3 r0 r1 r2 r3)), .second, .val (.long (own_tot_1 r0 r1 r2 r3)), .second, .val (.long ((own_val_1 d0 d1 d2 d3 r0 r1 r2 r3) + (1 : Int64))), .second, .val (.int (1 : Int32)), .val (.int (own_adv_1_b d0 d1 d2 d3 r0 r1 r2 r3))] [(.int (own_dok_0_1 e0 r0 d0))])) st35 ?_
      refine own_go (x' := T35.setTop (mkF m 222 #[.val (.int p0), .val (.int p1), .val (.int p2), .val (.int p3), .val (.int p4), .val (.int (1 : Int32)), .val (.ref b1), .val (.int d0), .val (.int d1), .val (.int d2), .val (.int d3), .val (.ref b10), .val (.long (own_val_1 d0 d1 d2 d3 r0 r1 r2 r3)), .second, .val (.long (own_tot_1 r0 r1 r2 r3)), .second, .val (.long ((own_val_1 d0 d1 d2 d3 r0 r1 r2 r3) + (1 : Int64))), .second, .val (.int (1 : Int32)), .val (.int (own_adv_1_b d0 d1 d2 d3 r0 r1 r2 r3))] [(.int d1), (.int (1 : Int32)), (.int (1 : Int32)), (.ref b1), (.ref b10)])) (fun _ k => XS.ifNo X35.here hx rfl (hb hby at_210) rfl ((if0 _ _).trans (feq (show ¬ ((own_dok_0_1 e0 r0 d0) = (0 : Int32)) from by simp only [own_dok_0_1, if_neg (own_ok hx0).1, if_pos (own_ok hx0).2]; decide)).1) (XS.aload X35.here hx rfl (hb hby at_213) rfl rfl (XS.aload X35.here hx rfl (hb hby at_215) rfl rfl (XS.iconst X35.here hx rfl (hb hby at_217) (XS.iload X35.here hx rfl (hb hby at_218) rfl (XS.iload X35.here hx rfl (hb hby at_220) rfl k)))))) ?_
      obtain ⟨_, _, ⟨T36, L36, k36, n36⟩, -, X36, ⟨Lc36, hQ36, l36, y36, z36⟩, st36⟩ := Jvm.LawKit.callS X35 hx (y := (⟨"com/example/stratgen/stratgen/model/StateSpaceAdvancePinLaw", "digitOk", "([I[IIII)Z"⟩ : MethodName)) hown (mvT hZ (own_w hw 12 rfl)) (mvT hZ (own_w hw 13 rfl)) (mvT hZ (own_w hw 3 rfl)) (mvT hZ (own_w hw 14 rfl)) (by decide) (backOf (W := 0) (rm4_1_1 l Z a0 hw [] b10 b1 k10 k1 e0 e1 e2 e3 r0 r1 r2 r3 d1 T34.heap n0 Zs V_b10 V_b1) hZ (own_w hw 14 rfl) (own_w hw 3 rfl) (by decide) (by decide)) (g := (mkF m 222 #[.val (.int p0), .val (.int p1), .val (.int p2), .val (.int p3), .val (.int p4), .val (.int (1 : Int32)), .val (.ref b1), .val (.int d0), .val (.int d1), .val (.int d2), .val (.int d3), .val (.ref b10), .val (.long (own_val_1 d0 d1 d2 d3 r0 r1 r2 r3)), .second, .val (.long (own_tot_1 r0 r1 r2 r3)), .second, .val (.long ((own_val_1 d0 d1 d2 d3 r0 r1 r2 r3) + (1 : Int64))), .second, .val (.int (1 : Int32)), .val (.int (own_adv_1_b d0 d1 d2 d3 r0 r1 r2 r3))] [(.int d1), (.int (1 : Int32)), (.int (1 : Int32)), (.ref b1), (.ref b10)])) rfl (by rw [hml]; rfl) (argsL := [(.ref b10), (.ref b1), (.int (1 : Int32)), (.int (1 : Int32)), (.int d1)]) (rest := []) (lenOf pd_3 rfl) rfl (by show 2 * 0 + _ ≤ _; exact Nat.le_of_eq rfl) (hb hby at_222) (fun _ _ => ⟨rfl, eq35, (by decide : 2 + 0 ≤ _), (by decide : 8 + 0 ≤ _)⟩)
      dsimp only [Pt.U, Pt.locs, Pt.cells, Pt.slots] at X36 l36 y36 z36 st36 hQ36
      subst l36 y36 z36
      obtain ⟨hv36, Nq36, eq36⟩ := hQ36
      subst hv36
      replace Nf := Fr.app Nf Nq36
      refine own_go (x' := T36.setTop (mkF m 225 #[.val (.int p0), .val (.int p1), .val (.int p2), .val (.int p3), .val (.int p4), .val (.int (1 : Int32)), .val (.ref b1), .val (.int d0), .val (.int d1), .val (.int d2), .val (.int d3), .val (.ref b10), .val (.long (own_val_1 d0 d1 d2 d3 r0 r1 r2 r3)), .second, .val (.long (own_tot_1 r0 r1 r2 r3)), .second, .val (.long ((own_val_1 d0 d1 d2 d3 r0 r1 r2 r3) + (1 : Int64))), .second, .val (.int (1 : Int32)), .val (.int (own_adv_1_b d0 d1 d2 d3 r0 r1 r2 r3))] [(.int (own_dok_1_1 e1 r1 d1))])) st36 ?_
      refine own_go (x' := T36.setTop (mkF m 237 #[.val (.int p0), .val (.int p1), .val (.int p2), .val (.int p3), .val (.int p4), .val (.int (1 : Int32)), .val (.ref b1), .val (.int d0), .val (.int d1), .val (.int d2), .val (.int d3), .val (.ref b10), .val (.long (own_val_1 d0 d1 d2 d3 r0 r1 r2 r3)), .second, .val (.long (own_tot_1 r0 r1 r2 r3)), .second, .val (.long ((own_val_1 d0 d1 d2 d3 r0 r1 r2 r3) + (1 : Int64))), .second, .val (.int (1 : Int32)), .val (.int (own_adv_1_b d0 d1 d2 d3 r0 r1 r2 r3))] [(.int d2), (.int (1 : Int32)), (.int (2 : Int32)), (.ref b1), (.ref b10)])) (fun _ k => XS.ifNo X36.here hx rfl (hb hby at_225) rfl ((if0 _ _).trans (feq (show ¬ ((own_dok_1_1 e1 r1 d1) = (0 : Int32)) from by simp only [own_dok_1_1, if_pos hx1]; decide)).1) (XS.aload X36.here hx rfl (hb hby at_228) rfl rfl (XS.aload X36.here hx rfl (hb hby at_230) rfl rfl (XS.iconst X36.here hx rfl (hb hby at_232) (XS.iload X36.here hx rfl (hb hby at_233) rfl (XS.iload X36.here hx rfl (hb hby at_235) rfl k)))))) ?_
      obtain ⟨_, _, ⟨T37, L37, k37, n37⟩, -, X37, ⟨Lc37, hQ37, l37, y37, z37⟩, st37⟩ := Jvm.LawKit.callS X36 hx (y := (⟨"com/example/stratgen/stratgen/model/StateSpaceAdvancePinLaw", "digitOk", "([I[IIII)Z"⟩ : MethodName)) hown (mvT hZ (own_w hw 12 rfl)) (mvT hZ (own_w hw 13 rfl)) (mvT hZ (own_w hw 3 rfl)) (mvT hZ (own_w hw 14 rfl)) (by decide) (backOf (W := 0) (rm4_2_1 l Z a0 hw [] b10 b1 k10 k1 e0 e1 e2 e3 r0 r1 r2 r3 d2 T34.heap n0 Zs V_b10 V_b1) hZ (own_w hw 14 rfl) (own_w hw 3 rfl) (by decide) (by decide)) (g := (mkF m 237 #[.val (.int p0), .val (.int p1), .val (.int p2), .val (.int p3), .val (.int p4), .val (.int (1 : Int32)), .val (.ref b1), .val (.int d0), .val (.int d1), .val (.int d2), .val (.int d3), .val (.ref b10), .val (.long (own_val_1 d0 d1 d2 d3 r0 r1 r2 r3)), .second, .val (.long (own_tot_1 r0 r1 r2 r3)), .second, .val (.long ((own_val_1 d0 d1 d2 d3 r0 r1 r2 r3) + (1 : Int64))), .second, .val (.int (1 : Int32)), .val (.int (own_adv_1_b d0 d1 d2 d3 r0 r1 r2 r3))] [(.int d2), (.int (1 : Int32)), (.int (2 : Int32)), (.ref b1), (.ref b10)])) rfl (by rw [hml]; rfl) (argsL := [(.ref b10), (.ref b1), (.int (2 : Int32)), (.int (1 : Int32)), (.int d2)]) (rest := []) (lenOf pd_3 rfl) rfl (by show 2 * 0 + _ ≤ _; exact Nat.le_of_eq rfl) (hb hby at_237) (fun _ _ => ⟨rfl, eq36, (by decide : 2 + 0 ≤ _), (by decide : 8 + 0 ≤ _)⟩)
      dsimp only [Pt.U, Pt.locs, Pt.cells, Pt.slots] at X37 l37 y37 z37 st37 hQ37
      subst l37 y37 z37
      obtain ⟨hv37, Nq37, eq37⟩ := hQ37
      subst hv37
      replace Nf := Fr.app Nf Nq37
      refine own_go (x' := T37.setTop (mkF m 240 #[.val (.int p0), .val (.int p1), .val (.int p2), .val (.int p3), .val (.int p4), .val (.int (1 : Int32)), .val (.ref b1), .val (.int d0), .val (.int d1), .val (.int d2), .val (.int d3), .val (.ref b10), .val (.long (own_val_1 d0 d1 d2 d3 r0 r1 r2 r3)), .second, .val (.long (own_tot_1 r0 r1 r2 r3)), .second, .val (.long ((own_val_1 d0 d1 d2 d3 r0 r1 r2 r3) + (1 : Int64))), .second, .val (.int (1 : Int32)), .val (.int (own_adv_1_b d0 d1 d2 d3 r0 r1 r2 r3))] [(.int (own_dok_2_1 e2 r2 d2))])) st37 ?_
      refine own_go (x' := T37.setTop (mkF m 252 #[.val (.int p0), .val (.int p1), .val (.int p2), .val (.int p3), .val (.int p4), .val (.int (1 : Int32)), .val (.ref b1), .val (.int d0), .val (.int d1), .val (.int d2), .val (.int d3), .val (.ref b10), .val (.long (own_val_1 d0 d1 d2 d3 r0 r1 r2 r3)), .second, .val (.long (own_tot_1 r0 r1 r2 r3)), .second, .val (.long ((own_val_1 d0 d1 d2 d3 r0 r1 r2 r3) + (1 : Int64))), .second, .val (.int (1 : Int32)), .val (.int (own_adv_1_b d0 d1 d2 d3 r0 r1 r2 r3))] [(.int d3), (.int (1 : Int32)), (.int (3 : Int32)), (.ref b1), (.ref b10)])) (fun _ k => XS.ifNo X37.here hx rfl (hb hby at_240) rfl ((if0 _ _).trans (feq (show ¬ ((own_dok_2_1 e2 r2 d2) = (0 : Int32)) from by simp only [own_dok_2_1, if_pos hx2]; decide)).1) (XS.aload X37.here hx rfl (hb hby at_243) rfl rfl (XS.aload X37.here hx rfl (hb hby at_245) rfl rfl (XS.iconst X37.here hx rfl (hb hby at_247) (XS.iload X37.here hx rfl (hb hby at_248) rfl (XS.iload X37.here hx rfl (hb hby at_250) rfl k)))))) ?_
      obtain ⟨_, _, ⟨T38, L38, k38, n38⟩, -, X38, ⟨Lc38, hQ38, l38, y38, z38⟩, st38⟩ := Jvm.LawKit.callS X37 hx (y := (⟨"com/example/stratgen/stratgen/model/StateSpaceAdvancePinLaw", "digitOk", "([I[IIII)Z"⟩ : MethodName)) hown (mvT hZ (own_w hw 12 rfl)) (mvT hZ (own_w hw 13 rfl)) (mvT hZ (own_w hw 3 rfl)) (mvT hZ (own_w hw 14 rfl)) (by decide) (backOf (W := 0) (rm4_3_1 l Z a0 hw [] b10 b1 k10 k1 e0 e1 e2 e3 r0 r1 r2 r3 d3 T34.heap n0 Zs V_b10 V_b1) hZ (own_w hw 14 rfl) (own_w hw 3 rfl) (by decide) (by decide)) (g := (mkF m 252 #[.val (.int p0), .val (.int p1), .val (.int p2), .val (.int p3), .val (.int p4), .val (.int (1 : Int32)), .val (.ref b1), .val (.int d0), .val (.int d1), .val (.int d2), .val (.int d3), .val (.ref b10), .val (.long (own_val_1 d0 d1 d2 d3 r0 r1 r2 r3)), .second, .val (.long (own_tot_1 r0 r1 r2 r3)), .second, .val (.long ((own_val_1 d0 d1 d2 d3 r0 r1 r2 r3) + (1 : Int64))), .second, .val (.int (1 : Int32)), .val (.int (own_adv_1_b d0 d1 d2 d3 r0 r1 r2 r3))] [(.int d3), (.int (1 : Int32)), (.int (3 : Int32)), (.ref b1), (.ref b10)])) rfl (by rw [hml]; rfl) (argsL := [(.ref b10), (.ref b1), (.int (3 : Int32)), (.int (1 : Int32)), (.int d3)]) (rest := []) (lenOf pd_3 rfl) rfl (by show 2 * 0 + _ ≤ _; exact Nat.le_of_eq rfl) (hb hby at_252) (fun _ _ => ⟨rfl, eq37, (by decide : 2 + 0 ≤ _), (by decide : 8 + 0 ≤ _)⟩)
      dsimp only [Pt.U, Pt.locs, Pt.cells, Pt.slots] at X38 l38 y38 z38 st38 hQ38
      subst l38 y38 z38
      obtain ⟨hv38, Nq38, eq38⟩ := hQ38
      subst hv38
      replace Nf := Fr.app Nf Nq38
      refine own_go (x' := T38.setTop (mkF m 255 #[.val (.int p0), .val (.int p1), .val (.int p2), .val (.int p3), .val (.int p4), .val (.int (1 : Int32)), .val (.ref b1), .val (.int d0), .val (.int d1), .val (.int d2), .val (.int d3), .val (.ref b10), .val (.long (own_val_1 d0 d1 d2 d3 r0 r1 r2 r3)), .second, .val (.long (own_tot_1 r0 r1 r2 r3)), .second, .val (.long ((own_val_1 d0 d1 d2 d3 r0 r1 r2 r3) + (1 : Int64))), .second, .val (.int (1 : Int32)), .val (.int (own_adv_1_b d0 d1 d2 d3 r0 r1 r2 r3))] [(.int (own_dok_3_1 e3 r3 d3))])) st38 ?_
      refine own_go (x' := T38.setTop (mkF m 264 #[.val (.int p0), .val (.int p1), .val (.int p2), .val (.int p3), .val (.int p4), .val (.int (1 : Int32)), .val (.ref b1), .val (.int d0), .val (.int d1), .val (.int d2), .val (.int d3), .val (.ref b10), .val (.long (own_val_1 d0 d1 d2 d3 r0 r1 r2 r3)), .second, .val (.long (own_tot_1 r0 r1 r2 r3)), .second, .val (.long ((own_val_1 d0 d1 d2 d3 r0 r1 r2 r3) + (1 : Int64))), .second, .val (.int (1 : Int32)), .val (.int (own_adv_1_b d0 d1 d2 d3 r0 r1 r2 r3))] [(.int (1 : Int32)), (.ref b1), (.ref b10)])) (fun _ k => XS.ifNo X38.here hx rfl (hb hby at_255) rfl ((if0 _ _).trans (feq (show ¬ ((own_dok_3_1 e3 r3 d3) = (0 : Int32)) from by simp only [own_dok_3_1, if_pos hx3]; decide)).1) (XS.aload X38.here hx rfl (hb hby at_258) rfl rfl (XS.aload X38.here hx rfl (hb hby at_260) rfl rfl (XS.iload X38.here hx rfl (hb hby at_262) rfl k)))) ?_
      obtain ⟨_, _, ⟨T39, L39, k39, n39⟩, -, X39, ⟨Lc39, hQ39, l39, y39, z39⟩, st39⟩ := Jvm.LawKit.callS X38 hx (y := (⟨"com/example/stratgen/stratgen/model/StateSpaceAdvancePinLaw", "value", "([I[II)J"⟩ : MethodName)) hown (mvT hZ (own_w hw 1 rfl)) (mvT hZ (own_w hw 2 rfl)) (mvT hZ (own_w hw 3 rfl)) (mvT hZ (own_w hw 4 rfl)) (by decide) (backOf (W := 0) (rm1_1 l Z a0 hw [] b10 b1 k10 k1 e0 e1 e2 e3 r0 r1 r2 r3 T34.heap n0 Zs V_b10 V_b1) hZ (own_w hw 4 rfl) (own_w hw 3 rfl) (by decide) (by decide)) (g := (mkF m 264 #[.val (.int p0), .val (.int p1), .val (.int p2), .val (.int p3), .val (.int p4), .val (.int (1 : Int32)), .val (.ref b1), .val (.int d0), .val (.int d1), .val (.int d2), .val (.int d3), .val (.ref b10), .val (.long (own_val_1 d0 d1 d2 d3 r0 r1 r2 r3)), .second, .val (.long (own_tot_1 r0 r1 r2 r3)), .second, .val (.long ((own_val_1 d0 d1 d2 d3 r0 r1 r2 r3) + (1 : Int64))), .second, .val (.int (1 : Int32)), .val (.int (own_adv_1_b d0 d1 d2 d3 r0 r1 r2 r3))] [(.int (1 : Int32)), (.ref b1), (.ref b10)])) rfl (by rw [hml]; rfl) (argsL := [(.ref b10), (.ref b1), (.int (1 : Int32))]) (rest := []) (lenOf pd_0 rfl) rfl (by show 2 * 0 + _ ≤ _; exact Nat.le_of_eq rfl) (hb hby at_264) (fun _ _ => ⟨rfl, eq38, (by decide : 2 + 0 ≤ _), (by decide : 8 + 0 ≤ _)⟩)
      dsimp only [Pt.U, Pt.locs, Pt.cells, Pt.slots] at X39 l39 y39 z39 st39 hQ39
      subst l39 y39 z39
      obtain ⟨hv39, Nq39, eq39⟩ := hQ39
      subst hv39
      replace Nf := Fr.app Nf Nq39
      refine own_go (x' := T39.setTop (mkF m 267 #[.val (.int p0), .val (.int p1), .val (.int p2), .val (.int p3), .val (.int p4), .val (.int (1 : Int32)), .val (.ref b1), .val (.int d0), .val (.int d1), .val (.int d2), .val (.int d3), .val (.ref b10), .val (.long (own_val_1 d0 d1 d2 d3 r0 r1 r2 r3)), .second, .val (.long (own_tot_1 r0 r1 r2 r3)), .second, .val (.long ((own_val_1 d0 d1 d2 d3 r0 r1 r2 r3) + (1 : Int64))), .second, .val (.int (1 : Int32)), .val (.int (own_adv_1_b d0 d1 d2 d3 r0 r1 r2 r3))] [(.long (own_val_1 e0 e1 e2 e3 r0 r1 r2 r3))])) st39 ?_
      refine own_go (x' := T39.setTop (mkF m 278 #[.val (.int p0), .val (.int p1), .val (.int p2), .val (.int p3), .val (.int p4), .val (.int (1 : Int32)), .val (.ref b1), .val (.int d0), .val (.int d1), .val (.int d2), .val (.int d3), .val (.ref b10), .val (.long (own_val_1 d0 d1 d2 d3 r0 r1 r2 r3)), .second, .val (.long (own_tot_1 r0 r1 r2 r3)), .second, .val (.long ((own_val_1 d0 d1 d2 d3 r0 r1 r2 r3) + (1 : Int64))), .second, .val (.int (1 : Int32)), .val (.int (own_adv_1_b d0 d1 d2 d3 r0 r1 r2 r3))] [(.int (1 : Int32))])) (fun _ k => XS.lload X39.here hx rfl (hb hby at_267) rfl (XS.lcmp X39.here hx rfl (hb hby at_269) rfl (XS.ifNo X39.here hx rfl (hb hby at_270) rfl ((if0 _ _).trans (teq ((lw_eq (own_val_1 e0 e1 e2 e3 r0 r1 r2 r3) ((own_val_1 d0 d1 d2 d3 r0 r1 r2 r3) + (1 : Int64))).mpr hV)).2) (XS.iconst X39.here hx rfl (hb hby at_273) (XS.goto X39.here hx rfl (pc0 := 274) (pc' := 278) rfl (hb hby at_274) (by decide) (by decide) k))))) ?_
      refine own_retN X39 hx hlk (t := .boolean) hret (by simp) (hb hby at_278) (w := (1 : Int32)) rfl ?_ (by decide) (by decide)
      rw [eq39]
      exact ⟨rfl, Nf⟩
    · refine own_go (x' := T33.setTop (mkF m 178 #[.val (.int p0), .val (.int p1), .val (.int p2), .val (.int p3), .val (.int p4), .val (.int (1 : Int32)), .val (.ref b1), .val (.int d0), .val (.int d1), .val (.int d2), .val (.int d3), .val (.ref b10), .val (.long (own_val_1 d0 d1 d2 d3 r0 r1 r2 r3)), .second, .val (.long (own_tot_1 r0 r1 r2 r3)), .second, .val (.long ((own_val_1 d0 d1 d2 d3 r0 r1 r2 r3) + (1 : Int64))), .second, .val (.int (0 : Int32)), .unset] [(.long (0 : Int64))])) (fun _ k => XS.ifYes X33.here hx rfl (pc0 := 162) (pc' := 169) rfl (hb hby at_162) rfl ((if0 _ _).trans (flt (fun q_ => hc162 ((lw_lt ((own_val_1 d0 d1 d2 d3 r0 r1 r2 r3) + (1 : Int64)) (own_tot_1 r0 r1 r2 r3)).mp q_))).2.1) (by decide) (by decide) (XS.iconst X33.here hx rfl (hb hby at_169) (XS.istore X33.here hx rfl (hb hby at_170) rfl (l' := #[.val (.int p0), .val (.int p1), .val (.int p2), .val (.int p3), .val (.int p4), .val (.int (1 : Int32)), .val (.ref b1), .val (.int d0), .val (.int d1), .val (.int d2), .val (.int d3), .val (.ref b10), .val (.long (own_val_1 d0 d1 d2 d3 r0 r1 r2 r3)), .second, .val (.long (own_tot_1 r0 r1 r2 r3)), .second, .val (.long ((own_val_1 d0 d1 d2 d3 r0 r1 r2 r3) + (1 : Int64))), .second, .val (.int (0 : Int32)), .unset]) rfl (XS.iload X33.here hx rfl (hb hby at_172) rfl (XS.ifNo X33.here hx rfl (hb hby at_174) rfl ((if0 _ _).trans (teq rfl).2) (XS.lconst X33.here hx rfl (hb hby at_177) k)))))) ?_
      refine own_go (x' := T33.setTop (mkF m 186 #[.val (.int p0), .val (.int p1), .val (.int p2), .val (.int p3), .val (.int p4), .val (.int (1 : Int32)), .val (.ref b1), .val (.int d0), .val (.int d1), .val (.int d2), .val (.int d3), .val (.ref b10), .val (.long (own_val_1 d0 d1 d2 d3 r0 r1 r2 r3)), .second, .val (.long (own_tot_1 r0 r1 r2 r3)), .second, .val (.long (0 : Int64)), .second, .val (.int (0 : Int32)), .unset] [(.int (1 : Int32)), (.ref b1), (.ref b10)])) (fun _ k => XS.lstore X33.here hx rfl (hb hby at_178) rfl (l' := #[.val (.int p0), .val (.int p1), .val (.int p2), .val (.int p3), .val (.int p4), .val (.int (1 : Int32)), .val (.ref b1), .val (.int d0), .val (.int d1), .val (.int d2), .val (.int d3), .val (.ref b10), .val (.long (own_val_1 d0 d1 d2 d3 r0 r1 r2 r3)), .second, .val (.long (own_tot_1 r0 r1 r2 r3)), .second, .val (.long (0 : Int64)), .second, .val (.int (0 : Int32)), .unset]) rfl (XS.aload X33.here hx rfl (hb hby at_180) rfl rfl (XS.aload X33.here hx rfl (hb hby at_182) rfl rfl (XS.iload X33.here hx rfl (hb hby at_184) rfl k)))) ?_
      obtain ⟨_, _, ⟨T40, L40, k40, n40⟩, -, X40, ⟨Lc40, hQ40, l40, y40, z40⟩, st40⟩ := Jvm.LawKit.callS X33 hx (y := (⟨"com/example/stratgen/stratgen/model/StateSpace", "advance", "([I[II)Z"⟩ : MethodName)) hown (mvT hZ (own_w hw 8 rfl)) (mvT hZ (own_w hw 9 rfl)) (mvT hZ (own_w hw 10 rfl)) (mvT hZ (own_w hw 11 rfl)) (by decide) (backOf (W := 0) (rm3_1 l Z a0 hw [] b10 b1 k10 k1 d0 d1 d2 d3 r0 r1 r2 r3 h14 n0 Zs V_b10 V_b1 (Ne.symm ne_b1_b10) g_b10) hZ (own_w hw 11 rfl) (own_w hw 10 rfl) (by decide) (by decide)) (g := (mkF m 186 #[.val (.int p0), .val (.int p1), .val (.int p2), .val (.int p3), .val (.int p4), .val (.int (1 : Int32)), .val (.ref b1), .val (.int d0), .val (.int d1), .val (.int d2), .val (.int d3), .val (.ref b10), .val (.long (own_val_1 d0 d1 d2 d3 r0 r1 r2 r3)), .second, .val (.long (own_tot_1 r0 r1 r2 r3)), .second, .val (.long (0 : Int64)), .second, .val (.int (0 : Int32)), .unset] [(.int (1 : Int32)), (.ref b1), (.ref b10)])) rfl (by rw [hml]; rfl) (argsL := [(.ref b10), (.ref b1), (.int (1 : Int32))]) (rest := []) (lenOf pd_2 rfl) rfl (by show 2 * 0 + _ ≤ _; exact Nat.le_of_eq rfl) (hb hby at_186) (fun _ _ => ⟨rfl, eq33, (by decide : 2 + 0 ≤ _), (by decide : 8 + 0 ≤ _)⟩)
      dsimp only [Pt.U, Pt.locs, Pt.cells, Pt.slots] at X40 l40 y40 z40 st40 hQ40
      subst l40 y40 z40
      obtain ⟨hv40, Nq40, K40, Vn40⟩ := hQ40
      subst hv40
      replace Nf := Fr.app Nf Nq40
      replace V_b1 := V_b1.keep K40 (ninS ne_b1_b10 nin0)
      replace Zs := Nat.le_trans Zs K40.1
      replace V_b10 := Vn40
      obtain ⟨e0, he0⟩ : ∃ z, z = (own_adv_1_0 d0 d1 d2 d3 r0 r1 r2 r3) := ⟨_, rfl⟩
      obtain ⟨e1, he1⟩ : ∃ z, z = (own_adv_1_1 d0 d1 d2 d3 r0 r1 r2 r3) := ⟨_, rfl⟩
      obtain ⟨e2, he2⟩ : ∃ z, z = (own_adv_1_2 d0 d1 d2 d3 r0 r1 r2 r3) := ⟨_, rfl⟩
      obtain ⟨e3, he3⟩ : ∃ z, z = (own_adv_1_3 d0 d1 d2 d3 r0 r1 r2 r3) := ⟨_, rfl⟩
      rw [← he0, ← he1, ← he2, ← he3] at V_b10
      refine own_go (x' := T40.setTop (mkF m 189 #[.val (.int p0), .val (.int p1), .val (.int p2), .val (.int p3), .val (.int p4), .val (.int (1 : Int32)), .val (.ref b1), .val (.int d0), .val (.int d1), .val (.int d2), .val (.int d3), .val (.ref b10), .val (.long (own_val_1 d0 d1 d2 d3 r0 r1 r2 r3)), .second, .val (.long (own_tot_1 r0 r1 r2 r3)), .second, .val (.long (0 : Int64)), .second, .val (.int (0 : Int32)), .unset] [(.int (own_adv_1_b d0 d1 d2 d3 r0 r1 r2 r3))])) st40 ?_
      refine own_go (x' := T40.setTop (mkF m 191 #[.val (.int p0), .val (.int p1), .val (.int p2), .val (.int p3), .val (.int p4), .val (.int (1 : Int32)), .val (.ref b1), .val (.int d0), .val (.int d1), .val (.int d2), .val (.int d3), .val (.ref b10), .val (.long (own_val_1 d0 d1 d2 d3 r0 r1 r2 r3)), .second, .val (.long (own_tot_1 r0 r1 r2 r3)), .second, .val (.long (0 : Int64)), .second, .val (.int (0 : Int32)), .val (.int (own_adv_1_b d0 d1 d2 d3 r0 r1 r2 r3))] [])) (fun _ k => XS.istore X40.here hx rfl (hb hby at_189) rfl (l' := #[.val (.int p0), .val (.int p1), .val (.int p2), .val (.int p3), .val (.int p4), .val (.int (1 : Int32)), .val (.ref b1), .val (.int d0), .val (.int d1), .val (.int d2), .val (.int d3), .val (.ref b10), .val (.long (own_val_1 d0 d1 d2 d3 r0 r1 r2 r3)), .second, .val (.long (own_tot_1 r0 r1 r2 r3)), .second, .val (.long (0 : Int64)), .second, .val (.int (0 : Int32)), .val (.int (own_adv_1_b d0 d1 d2 d3 r0 r1 r2 r3))]) rfl k) ?_
      rw [← he0, ← he1, ← he2, ← he3] at hlaw
      rw [← he0] at hx0
      rw [← he1] at hx1
      rw [← he2] at hx2
      rw [← he3] at hx3
      obtain ⟨-, hB, hV⟩ := hlaw.resolve_left fun q => hc162 q.1
      refine own_go (x' := T40.setTop (mkF m 203 #[.val (.int p0), .val (.int p1), .val (.int p2), .val (.int p3), .val (.int p4), .val (.int (1 : Int32)), .val (.ref b1), .val (.int d0), .val (.int d1), .val (.int d2), .val (.int d3), .val (.ref b10), .val (.long (own_val_1 d0 d1 d2 d3 r0 r1 r2 r3)), .second, .val (.long (own_tot_1 r0 r1 r2 r3)), .second, .val (.long (0 : Int64)), .second, .val (.int (0 : Int32)), .val (.int (own_adv_1_b d0 d1 d2 d3 r0 r1 r2 r3))] [(.int (0 : Int32)), (.ref b1), (.ref b10)])) (fun _ k => XS.iload X40.here hx rfl (hb hby at_191) rfl (XS.iload X40.here hx rfl (hb hby at_193) rfl (XS.icmpNo X40.here hx rfl (hb hby at_195) rfl (teq hB).2 (XS.aload X40.here hx rfl (hb hby at_198) rfl rfl (XS.aload X40.here hx rfl (hb hby at_200) rfl rfl (XS.iconst X40.here hx rfl (hb hby at_202) k)))))) ?_
      refine own_go (x' := T40.setTop (mkF m 207 #[.val (.int p0), .val (.int p1), .val (.int p2), .val (.int p3), .val (.int p4), .val (.int (1 : Int32)), .val (.ref b1), .val (.int d0), .val (.int d1), .val (.int d2), .val (.int d3), .val (.ref b10), .val (.long (own_val_1 d0 d1 d2 d3 r0 r1 r2 r3)), .second, .val (.long (own_tot_1 r0 r1 r2 r3)), .second, .val (.long (0 : Int64)), .second, .val (.int (0 : Int32)), .val (.int (own_adv_1_b d0 d1 d2 d3 r0 r1 r2 r3))] [(.int d0), (.int (1 : Int32)), (.int (0 : Int32)), (.ref b1), (.ref b10)])) (fun _ k => XS.iload X40.here hx rfl (hb hby at_203) rfl (XS.iload X40.here hx rfl (hb hby at_205) rfl k)) ?_
      obtain ⟨_, _, ⟨T41, L41, k41, n41⟩, -, X41, ⟨Lc41, hQ41, l41, y41, z41⟩, st41⟩ := Jvm.LawKit.callS X40 hx (y := (⟨"com/example/stratgen/stratgen/model/StateSpaceAdvancePinLaw", "digitOk", "([I[IIII)Z"⟩ : MethodName)) hown (mvT hZ (own_w hw 12 rfl)) (mvT hZ (own_w hw 13 rfl)) (mvT hZ (own_w hw 3 rfl)) (mvT hZ (own_w hw 14 rfl)) (by decide) (backOf (W := 0) (rm4_0_1 l Z a0 hw [] b10 b1 k10 k1 e0 e1 e2 e3 r0 r1 r2 r3 d0 T40.heap n0 Zs V_b10 V_b1) hZ (own_w hw 14 rfl) (own_w hw 3 rfl) (by decide) (by decide)) (g := (mkF m 207 #[.val (.int p0), .val (.int p1), .val (.int p2), .val (.int p3), .val (.int p4), .val (.int (1 : Int32)), .val (.ref b1), .val (.int d0), .val (.int d1), .val (.int d2), .val (.int d3), .val (.ref b10), .val (.long (own_val_1 d0 d1 d2 d3 r0 r1 r2 r3)), .second, .val (.long (own_tot_1 r0 r1 r2 r3)), .second, .val (.long (0 : Int64)), .second, .val (.int (0 : Int32)), .val (.int (own_adv_1_b d0 d1 d2 d3 r0 r1 r2 r3))] [(.int d0), (.int (1 : Int32)), (.int (0 : Int32)), (.ref b1), (.ref b10)])) rfl (by rw [hml]; rfl) (argsL := [(.ref b10), (.ref b1), (.int (0 : Int32)), (.int (1 : Int32)), (.int d0)]) (rest := []) (lenOf pd_3 rfl) rfl (by show 2 * 0 + _ ≤ _; exact Nat.le_of_eq rfl) (hb hby at_207) (fun _ _ => ⟨rfl, rfl, (by decide : 2 + 0 ≤ _), (by decide : 8 + 0 ≤ _)⟩)
      dsimp only [Pt.U, Pt.locs, Pt.cells, Pt.slots] at X41 l41 y41 z41 st41 hQ41
      subst l41 y41 z41
      obtain ⟨hv41, Nq41, eq41⟩ := hQ41
      subst hv41
      replace Nf := Fr.app Nf Nq41
      refine own_go (x' := T41.setTop (mkF m 210 #[.val (.int p0), .val (.int p1), .val (.int p2), .val (.int p3), .val (.int p4), .val (.int (1 : Int32)), .val (.ref b1), .val (.int d0), .val (.int d1), .val (.int d2), .val (.int d3), .val (.ref b10), .val (.long (own_val_1 d0 d1 d2 d3 r0 r1 r2 r3)), .second, .val (.long (own_tot_1 r0 r1 r2 r3)), .second, .val (.long (0 : Int64)), .second, .val (.int (0 : Int32)), .val (.int (own_adv_1_b d0 d1 d2 d3 r0 r1 r2 r3))] [(.int (own_dok_0_1 e0 r0 d0))])) st41 ?_
      refine own_go (x' := T41.setTop (mkF m 222 #[.val (.int p0), .val (.int p1), .val (.int p2), .val (.int p3), .val (.int p4), .val (.int (1 : Int32)), .val (.ref b1), .val (.int d0), .val (.int d1), .val (.int d2), .val (.int d3), .val (.ref b10), .val (.long (own_val_1 d0 d1 d2 d3 r0 r1 r2 r3)), .second, .val (.long (own_tot_1 r0 r1 r2 r3)), .second, .val (.long (0 : Int64)), .second, .val (.int (0 : Int32)), .val (.int (own_adv_1_b d0 d1 d2 d3 r0 r1 r2 r3))] [(.int d1), (.int (1 : Int32)), (.int (1 : Int32)), (.ref b1), (.ref b10)])) (fun _ k => XS.ifNo X41.here hx rfl (hb hby at_210) rfl ((if0 _ _).trans (feq (show ¬ ((own_dok_0_1 e0 r0 d0) = (0 : Int32)) from by simp only [own_dok_0_1, if_neg (own_ok hx0).1, if_pos (own_ok hx0).2]; decide)).1) (XS.aload X41.here hx rfl (hb hby at_213) rfl rfl (XS.aload X41.here hx rfl (hb hby at_215) rfl rfl (XS.iconst X41.here hx rfl (hb hby at_217) (XS.iload X41.here hx rfl (hb hby at_218) rfl (XS.iload X41.here hx rfl (hb hby at_220) rfl k)))))) ?_
      obtain ⟨_, _, ⟨T42, L42, k42, n42⟩, -, X42, ⟨Lc42, hQ42, l42, y42, z42⟩, st42⟩ := Jvm.LawKit.callS X41 hx (y := (⟨"com/example/stratgen/stratgen/model/StateSpaceAdvancePinLaw", "digitOk", "([I[IIII)Z"⟩ : MethodName)) hown (mvT hZ (own_w hw 12 rfl)) (mvT hZ (own_w hw 13 rfl)) (mvT hZ (own_w hw 3 rfl)) (mvT hZ (own_w hw 14 rfl)) (by decide) (backOf (W := 0) (rm4_1_1 l Z a0 hw [] b10 b1 k10 k1 e0 e1 e2 e3 r0 r1 r2 r3 d1 T40.heap n0 Zs V_b10 V_b1) hZ (own_w hw 14 rfl) (own_w hw 3 rfl) (by decide) (by decide)) (g := (mkF m 222 #[.val (.int p0), .val (.int p1), .val (.int p2), .val (.int p3), .val (.int p4), .val (.int (1 : Int32)), .val (.ref b1), .val (.int d0), .val (.int d1), .val (.int d2), .val (.int d3), .val (.ref b10), .val (.long (own_val_1 d0 d1 d2 d3 r0 r1 r2 r3)), .second, .val (.long (own_tot_1 r0 r1 r2 r3)), .second, .val (.long (0 : Int64)), .second, .val (.int (0 : Int32)), .val (.int (own_adv_1_b d0 d1 d2 d3 r0 r1 r2 r3))] [(.int d1), (.int (1 : Int32)), (.int (1 : Int32)), (.ref b1), (.ref b10)])) rfl (by rw [hml]; rfl) (argsL := [(.ref b10), (.ref b1), (.int (1 : Int32)), (.int (1 : Int32)), (.int d1)]) (rest := []) (lenOf pd_3 rfl) rfl (by show 2 * 0 + _ ≤ _; exact Nat.le_of_eq rfl) (hb hby at_222) (fun _ _ => ⟨rfl, eq41, (by decide : 2 + 0 ≤ _), (by decide : 8 + 0 ≤ _)⟩)
      dsimp only [Pt.U, Pt.locs, Pt.cells, Pt.slots] at X42 l42 y42 z42 st42 hQ42
      subst l42 y42 z42
      obtain ⟨hv42, Nq42, eq42⟩ := hQ42
      subst hv42
      replace Nf := Fr.app Nf Nq42
      refine own_go (x' := T42.setTop (mkF m 225 #[.val (.int p0), .val (.int p1), .val (.int p2), .val (.int p3), .val (.int p4), .val (.int (1 : Int32)), .val (.ref b1), .val (.int d0), .val (.int d1), .val (.int d2), .val (.int d3), .val (.ref b10), .val (.long (own_val_1 d0 d1 d2 d3 r0 r1 r2 r3)), .second, .val (.long (own_tot_1 r0 r1 r2 r3)), .second, .val (.long (0 : Int64)), .second, .val (.int (0 : Int32)), .val (.int (own_adv_1_b d0 d1 d2 d3 r0 r1 r2 r3))] [(.int (own_dok_1_1 e1 r1 d1))])) st42 ?_
      refine own_go (x' := T42.setTop (mkF m 237 #[.val (.int p0), .val (.int p1), .val (.int p2), .val (.int p3), .val (.int p4), .val (.int (1 : Int32)), .val (.ref b1), .val (.int d0), .val (.int d1), .val (.int d2), .val (.int d3), .val (.ref b10), .val (.long (own_val_1 d0 d1 d2 d3 r0 r1 r2 r3)), .second, .val (.long (own_tot_1 r0 r1 r2 r3)), .second, .val (.long (0 : Int64)), .second, .val (.int (0 : Int32)), .val (.int (own_adv_1_b d0 d1 d2 d3 r0 r1 r2 r3))] [(.int d2), (.int (1 : Int32)), (.int (2 : Int32)), (.ref b1), (.ref b10)])) (fun _ k => XS.ifNo X42.here hx rfl (hb hby at_225) rfl ((if0 _ _).trans (feq (show ¬ ((own_dok_1_1 e1 r1 d1) = (0 : Int32)) from by simp only [own_dok_1_1, if_pos hx1]; decide)).1) (XS.aload X42.here hx rfl (hb hby at_228) rfl rfl (XS.aload X42.here hx rfl (hb hby at_230) rfl rfl (XS.iconst X42.here hx rfl (hb hby at_232) (XS.iload X42.here hx rfl (hb hby at_233) rfl (XS.iload X42.here hx rfl (hb hby at_235) rfl k)))))) ?_
      obtain ⟨_, _, ⟨T43, L43, k43, n43⟩, -, X43, ⟨Lc43, hQ43, l43, y43, z43⟩, st43⟩ := Jvm.LawKit.callS X42 hx (y := (⟨"com/example/stratgen/stratgen/model/StateSpaceAdvancePinLaw", "digitOk", "([I[IIII)Z"⟩ : MethodName)) hown (mvT hZ (own_w hw 12 rfl)) (mvT hZ (own_w hw 13 rfl)) (mvT hZ (own_w hw 3 rfl)) (mvT hZ (own_w hw 14 rfl)) (by decide) (backOf (W := 0) (rm4_2_1 l Z a0 hw [] b10 b1 k10 k1 e0 e1 e2 e3 r0 r1 r2 r3 d2 T40.heap n0 Zs V_b10 V_b1) hZ (own_w hw 14 rfl) (own_w hw 3 rfl) (by decide) (by decide)) (g := (mkF m 237 #[.val (.int p0), .val (.int p1), .val (.int p2), .val (.int p3), .val (.int p4), .val (.int (1 : Int32)), .val (.ref b1), .val (.int d0), .val (.int d1), .val (.int d2), .val (.int d3), .val (.ref b10), .val (.long (own_val_1 d0 d1 d2 d3 r0 r1 r2 r3)), .second, .val (.long (own_tot_1 r0 r1 r2 r3)), .second, .val (.long (0 : Int64)), .second, .val (.int (0 : Int32)), .val (.int (own_adv_1_b d0 d1 d2 d3 r0 r1 r2 r3))] [(.int d2), (.int (1 : Int32)), (.int (2 : Int32)), (.ref b1), (.ref b10)])) rfl (by rw [hml]; rfl) (argsL := [(.ref b10), (.ref b1), (.int (2 : Int32)), (.int (1 : Int32)), (.int d2)]) (rest := []) (lenOf pd_3 rfl) rfl (by show 2 * 0 + _ ≤ _; exact Nat.le_of_eq rfl) (hb hby at_237) (fun _ _ => ⟨rfl, eq42, (by decide : 2 + 0 ≤ _), (by decide : 8 + 0 ≤ _)⟩)
      dsimp only [Pt.U, Pt.locs, Pt.cells, Pt.slots] at X43 l43 y43 z43 st43 hQ43
      subst l43 y43 z43
      obtain ⟨hv43, Nq43, eq43⟩ := hQ43
      subst hv43
      replace Nf := Fr.app Nf Nq43
      refine own_go (x' := T43.setTop (mkF m 240 #[.val (.int p0), .val (.int p1), .val (.int p2), .val (.int p3), .val (.int p4), .val (.int (1 : Int32)), .val (.ref b1), .val (.int d0), .val (.int d1), .val (.int d2), .val (.int d3), .val (.ref b10), .val (.long (own_val_1 d0 d1 d2 d3 r0 r1 r2 r3)), .second, .val (.long (own_tot_1 r0 r1 r2 r3)), .second, .val (.long (0 : Int64)), .second, .val (.int (0 : Int32)), .val (.int (own_adv_1_b d0 d1 d2 d3 r0 r1 r2 r3))] [(.int (own_dok_2_1 e2 r2 d2))])) st43 ?_
      refine own_go (x' := T43.setTop (mkF m 252 #[.val (.int p0), .val (.int p1), .val (.int p2), .val (.int p3), .val (.int p4), .val (.int (1 : Int32)), .val (.ref b1), .val (.int d0), .val (.int d1), .val (.int d2), .val (.int d3), .val (.ref b10), .val (.long (own_val_1 d0 d1 d2 d3 r0 r1 r2 r3)), .second, .val (.long (own_tot_1 r0 r1 r2 r3)), .second, .val (.long (0 : Int64)), .second, .val (.int (0 : Int32)), .val (.int (own_adv_1_b d0 d1 d2 d3 r0 r1 r2 r3))] [(.int d3), (.int (1 : Int32)), (.int (3 : Int32)), (.ref b1), (.ref b10)])) (fun _ k => XS.ifNo X43.here hx rfl (hb hby at_240) rfl ((if0 _ _).trans (feq (show ¬ ((own_dok_2_1 e2 r2 d2) = (0 : Int32)) from by simp only [own_dok_2_1, if_pos hx2]; decide)).1) (XS.aload X43.here hx rfl (hb hby at_243) rfl rfl (XS.aload X43.here hx rfl (hb hby at_245) rfl rfl (XS.iconst X43.here hx rfl (hb hby at_247) (XS.iload X43.here hx rfl (hb hby at_248) rfl (XS.iload X43.here hx rfl (hb hby at_250) rfl k)))))) ?_
      obtain ⟨_, _, ⟨T44, L44, k44, n44⟩, -, X44, ⟨Lc44, hQ44, l44, y44, z44⟩, st44⟩ := Jvm.LawKit.callS X43 hx (y := (⟨"com/example/stratgen/stratgen/model/StateSpaceAdvancePinLaw", "digitOk", "([I[IIII)Z"⟩ : MethodName)) hown (mvT hZ (own_w hw 12 rfl)) (mvT hZ (own_w hw 13 rfl)) (mvT hZ (own_w hw 3 rfl)) (mvT hZ (own_w hw 14 rfl)) (by decide) (backOf (W := 0) (rm4_3_1 l Z a0 hw [] b10 b1 k10 k1 e0 e1 e2 e3 r0 r1 r2 r3 d3 T40.heap n0 Zs V_b10 V_b1) hZ (own_w hw 14 rfl) (own_w hw 3 rfl) (by decide) (by decide)) (g := (mkF m 252 #[.val (.int p0), .val (.int p1), .val (.int p2), .val (.int p3), .val (.int p4), .val (.int (1 : Int32)), .val (.ref b1), .val (.int d0), .val (.int d1), .val (.int d2), .val (.int d3), .val (.ref b10), .val (.long (own_val_1 d0 d1 d2 d3 r0 r1 r2 r3)), .second, .val (.long (own_tot_1 r0 r1 r2 r3)), .second, .val (.long (0 : Int64)), .second, .val (.int (0 : Int32)), .val (.int (own_adv_1_b d0 d1 d2 d3 r0 r1 r2 r3))] [(.int d3), (.int (1 : Int32)), (.int (3 : Int32)), (.ref b1), (.ref b10)])) rfl (by rw [hml]; rfl) (argsL := [(.ref b10), (.ref b1), (.int (3 : Int32)), (.int (1 : Int32)), (.int d3)]) (rest := []) (lenOf pd_3 rfl) rfl (by show 2 * 0 + _ ≤ _; exact Nat.le_of_eq rfl) (hb hby at_252) (fun _ _ => ⟨rfl, eq43, (by decide : 2 + 0 ≤ _), (by decide : 8 + 0 ≤ _)⟩)
      dsimp only [Pt.U, Pt.locs, Pt.cells, Pt.slots] at X44 l44 y44 z44 st44 hQ44
      subst l44 y44 z44
      obtain ⟨hv44, Nq44, eq44⟩ := hQ44
      subst hv44
      replace Nf := Fr.app Nf Nq44
      refine own_go (x' := T44.setTop (mkF m 255 #[.val (.int p0), .val (.int p1), .val (.int p2), .val (.int p3), .val (.int p4), .val (.int (1 : Int32)), .val (.ref b1), .val (.int d0), .val (.int d1), .val (.int d2), .val (.int d3), .val (.ref b10), .val (.long (own_val_1 d0 d1 d2 d3 r0 r1 r2 r3)), .second, .val (.long (own_tot_1 r0 r1 r2 r3)), .second, .val (.long (0 : Int64)), .second, .val (.int (0 : Int32)), .val (.int (own_adv_1_b d0 d1 d2 d3 r0 r1 r2 r3))] [(.int (own_dok_3_1 e3 r3 d3))])) st44 ?_
      refine own_go (x' := T44.setTop (mkF m 264 #[.val (.int p0), .val (.int p1), .val (.int p2), .val (.int p3), .val (.int p4), .val (.int (1 : Int32)), .val (.ref b1), .val (.int d0), .val (.int d1), .val (.int d2), .val (.int d3), .val (.ref b10), .val (.long (own_val_1 d0 d1 d2 d3 r0 r1 r2 r3)), .second, .val (.long (own_tot_1 r0 r1 r2 r3)), .second, .val (.long (0 : Int64)), .second, .val (.int (0 : Int32)), .val (.int (own_adv_1_b d0 d1 d2 d3 r0 r1 r2 r3))] [(.int (1 : Int32)), (.ref b1), (.ref b10)])) (fun _ k => XS.ifNo X44.here hx rfl (hb hby at_255) rfl ((if0 _ _).trans (feq (show ¬ ((own_dok_3_1 e3 r3 d3) = (0 : Int32)) from by simp only [own_dok_3_1, if_pos hx3]; decide)).1) (XS.aload X44.here hx rfl (hb hby at_258) rfl rfl (XS.aload X44.here hx rfl (hb hby at_260) rfl rfl (XS.iload X44.here hx rfl (hb hby at_262) rfl k)))) ?_
      obtain ⟨_, _, ⟨T45, L45, k45, n45⟩, -, X45, ⟨Lc45, hQ45, l45, y45, z45⟩, st45⟩ := Jvm.LawKit.callS X44 hx (y := (⟨"com/example/stratgen/stratgen/model/StateSpaceAdvancePinLaw", "value", "([I[II)J"⟩ : MethodName)) hown (mvT hZ (own_w hw 1 rfl)) (mvT hZ (own_w hw 2 rfl)) (mvT hZ (own_w hw 3 rfl)) (mvT hZ (own_w hw 4 rfl)) (by decide) (backOf (W := 0) (rm1_1 l Z a0 hw [] b10 b1 k10 k1 e0 e1 e2 e3 r0 r1 r2 r3 T40.heap n0 Zs V_b10 V_b1) hZ (own_w hw 4 rfl) (own_w hw 3 rfl) (by decide) (by decide)) (g := (mkF m 264 #[.val (.int p0), .val (.int p1), .val (.int p2), .val (.int p3), .val (.int p4), .val (.int (1 : Int32)), .val (.ref b1), .val (.int d0), .val (.int d1), .val (.int d2), .val (.int d3), .val (.ref b10), .val (.long (own_val_1 d0 d1 d2 d3 r0 r1 r2 r3)), .second, .val (.long (own_tot_1 r0 r1 r2 r3)), .second, .val (.long (0 : Int64)), .second, .val (.int (0 : Int32)), .val (.int (own_adv_1_b d0 d1 d2 d3 r0 r1 r2 r3))] [(.int (1 : Int32)), (.ref b1), (.ref b10)])) rfl (by rw [hml]; rfl) (argsL := [(.ref b10), (.ref b1), (.int (1 : Int32))]) (rest := []) (lenOf pd_0 rfl) rfl (by show 2 * 0 + _ ≤ _; exact Nat.le_of_eq rfl) (hb hby at_264) (fun _ _ => ⟨rfl, eq44, (by decide : 2 + 0 ≤ _), (by decide : 8 + 0 ≤ _)⟩)
      dsimp only [Pt.U, Pt.locs, Pt.cells, Pt.slots] at X45 l45 y45 z45 st45 hQ45
      subst l45 y45 z45
      obtain ⟨hv45, Nq45, eq45⟩ := hQ45
      subst hv45
      replace Nf := Fr.app Nf Nq45
      refine own_go (x' := T45.setTop (mkF m 267 #[.val (.int p0), .val (.int p1), .val (.int p2), .val (.int p3), .val (.int p4), .val (.int (1 : Int32)), .val (.ref b1), .val (.int d0), .val (.int d1), .val (.int d2), .val (.int d3), .val (.ref b10), .val (.long (own_val_1 d0 d1 d2 d3 r0 r1 r2 r3)), .second, .val (.long (own_tot_1 r0 r1 r2 r3)), .second, .val (.long (0 : Int64)), .second, .val (.int (0 : Int32)), .val (.int (own_adv_1_b d0 d1 d2 d3 r0 r1 r2 r3))] [(.long (own_val_1 e0 e1 e2 e3 r0 r1 r2 r3))])) st45 ?_
      refine own_go (x' := T45.setTop (mkF m 278 #[.val (.int p0), .val (.int p1), .val (.int p2), .val (.int p3), .val (.int p4), .val (.int (1 : Int32)), .val (.ref b1), .val (.int d0), .val (.int d1), .val (.int d2), .val (.int d3), .val (.ref b10), .val (.long (own_val_1 d0 d1 d2 d3 r0 r1 r2 r3)), .second, .val (.long (own_tot_1 r0 r1 r2 r3)), .second, .val (.long (0 : Int64)), .second, .val (.int (0 : Int32)), .val (.int (own_adv_1_b d0 d1 d2 d3 r0 r1 r2 r3))] [(.int (1 : Int32))])) (fun _ k => XS.lload X45.here hx rfl (hb hby at_267) rfl (XS.lcmp X45.here hx rfl (hb hby at_269) rfl (XS.ifNo X45.here hx rfl (hb hby at_270) rfl ((if0 _ _).trans (teq ((lw_eq (own_val_1 e0 e1 e2 e3 r0 r1 r2 r3) (0 : Int64)).mpr hV)).2) (XS.iconst X45.here hx rfl (hb hby at_273) (XS.goto X45.here hx rfl (pc0 := 274) (pc' := 278) rfl (hb hby at_274) (by decide) (by decide) k))))) ?_
      refine own_retN X45 hx hlk (t := .boolean) hret (by simp) (hb hby at_278) (w := (1 : Int32)) rfl ?_ (by decide) (by decide)
      rw [eq45]
      exact ⟨rfl, Nf⟩
  · rw [hm]
    obtain ⟨hlaw, hx0, hx1, hx2, hx3⟩ := own_law_2 d0 d1 d2 d3 r0 r1 r2 r3 gd0 gd1 gd2 gd3
    refine own_go (x' := T14.setTop (mkF m 137 #[.val (.int p0), .val (.int p1), .val (.int p2), .val (.int p3), .val (.int p4), .val (.int (2 : Int32)), .val (.ref b1), .val (.int d0), .val (.int d1), .val (.int d2), .val (.int d3), .val (.ref b10), .unset, .unset, .unset, .unset, .unset, .unset, .unset, .unset] [(.int (2 : Int32)), (.ref b1), (.ref b10)])) (fun _ k => XS.aload X15.here hx rfl (hb hby at_131) rfl rfl (XS.aload X15.here hx rfl (hb hby at_133) rfl rfl (XS.iload X15.here hx rfl (hb hby at_135) rfl k))) ?_
    obtain ⟨LL46, X46, Nf⟩ : ∃ LL : List Loc, Stand p l e room_1 s m _ below meth c T14 LL 2 8 ∧ Fr n0 LL := ⟨_, X15, Nf⟩
    obtain ⟨_, _, ⟨T47, L47, k47, n47⟩, -, X47, ⟨Lc47, hQ47, l47, y47, z47⟩, st47⟩ := Jvm.LawKit.callS X46 hx (y := (⟨"com/example/stratgen/stratgen/model/StateSpaceAdvancePinLaw", "value", "([I[II)J"⟩ : MethodName)) hown (mvT hZ (own_w hw 1 rfl)) (mvT hZ (own_w hw 2 rfl)) (mvT hZ (own_w hw 3 rfl)) (mvT hZ (own_w hw 4 rfl)) (by decide) (backOf (W := 0) (rm1_2 l Z a0 hw [] b10 b1 k10 k1 d0 d1 d2 d3 r0 r1 r2 r3 h14 n0 Zs V_b10 V_b1) hZ (own_w hw 4 rfl) (own_w hw 3 rfl) (by decide) (by decide)) (g := (mkF m 137 #[.val (.int p0), .val (.int p1), .val (.int p2), .val (.int p3), .val (.int p4), .val (.int (2 : Int32)), .val (.ref b1), .val (.int d0), .val (.int d1), .val (.int d2), .val (.int d3), .val (.ref b10), .unset, .unset, .unset, .unset, .unset, .unset, .unset, .unset] [(.int (2 : Int32)), (.ref b1), (.ref b10)])) rfl (by rw [hml]; rfl) (argsL := [(.ref b10), (.ref b1), (.int (2 : Int32))]) (rest := []) (lenOf pd_0 rfl) rfl (by show 2 * 0 + _ ≤ _; exact Nat.le_of_eq rfl) (hb hby at_137) (fun _ _ => ⟨rfl, e14, (by decide : 2 + 0 ≤ _), (by decide : 8 + 0 ≤ _)⟩)
    dsimp only [Pt.U, Pt.locs, Pt.cells, Pt.slots] at X47 l47 y47 z47 st47 hQ47
    subst l47 y47 z47
    obtain ⟨hv47, Nq47, eq47⟩ := hQ47
    subst hv47
    replace Nf := Fr.app Nf Nq47
    refine own_go (x' := T47.setTop (mkF m 140 #[.val (.int p0), .val (.int p1), .val (.int p2), .val (.int p3), .val (.int p4), .val (.int (2 : Int32)), .val (.ref b1), .val (.int d0), .val (.int d1), .val (.int d2), .val (.int d3), .val (.ref b10), .unset, .unset, .unset, .unset, .unset, .unset, .unset, .unset] [(.long (own_val_2 d0 d1 d2 d3 r0 r1 r2 r3))])) st47 ?_
    refine own_go (x' := T47.setTop (mkF m 146 #[.val (.int p0), .val (.int p1), .val (.int p2), .val (.int p3), .val (.int p4), .val (.int (2 : Int32)), .val (.ref b1), .val (.int d0), .val (.int d1), .val (.int d2), .val (.int d3), .val (.ref b10), .val (.long (own_val_2 d0 d1 d2 d3 r0 r1 r2 r3)), .second, .unset, .unset, .unset, .unset, .unset, .unset] [(.int (2 : Int32)), (.ref b1)])) (fun _ k => XS.lstore X47.here hx rfl (hb hby at_140) rfl (l' := #[.val (.int p0), .val (.int p1), .val (.int p2), .val (.int p3), .val (.int p4), .val (.int (2 : Int32)), .val (.ref b1), .val (.int d0), .val (.int d1), .val (.int d2), .val (.int d3), .val (.ref b10), .val (.long (own_val_2 d0 d1 d2 d3 r0 r1 r2 r3)), .second, .unset, .unset, .unset, .unset, .unset, .unset]) rfl (XS.aload X47.here hx rfl (hb hby at_142) rfl rfl (XS.iload X47.here hx rfl (hb hby at_144) rfl k))) ?_
    obtain ⟨_, _, ⟨T48, L48, k48, n48⟩, -, X48, ⟨Lc48, hQ48, l48, y48, z48⟩, st48⟩ := Jvm.LawKit.callS X47 hx (y := (⟨"com/example/stratgen/stratgen/model/StateSpaceAdvancePinLaw", "total", "([II)J"⟩ : MethodName)) hown (mvT hZ (own_w hw 5 rfl)) (mvT hZ (own_w hw 6 rfl)) (mvT hZ (own_w hw 3 rfl)) (mvT hZ (own_w hw 7 rfl)) (by decide) (backOf (W := 0) (rm2_2 l Z a0 hw [] b1 k1 r0 r1 r2 r3 h14 n0 Zs V_b1) hZ (own_w hw 7 rfl) (own_w hw 3 rfl) (by decide) (by decide)) (g := (mkF m 146 #[.val (.int p0), .val (.int p1), .val (.int p2), .val (.int p3), .val (.int p4), .val (.int (2 : Int32)), .val (.ref b1), .val (.int d0), .val (.int d1), .val (.int d2), .val (.int d3), .val (.ref b10), .val (.long (own_val_2 d0 d1 d2 d3 r0 r1 r2 r3)), .second, .unset, .unset, .unset, .unset, .unset, .unset] [(.int (2 : Int32)), (.ref b1)])) rfl (by rw [hml]; rfl) (argsL := [(.ref b1), (.int (2 : Int32))]) (rest := []) (lenOf pd_1 rfl) rfl (by show 2 * 0 + _ ≤ _; exact Nat.le_of_eq rfl) (hb hby at_146) (fun _ _ => ⟨rfl, eq47, (by decide : 2 + 0 ≤ _), (by decide : 8 + 0 ≤ _)⟩)
    dsimp only [Pt.U, Pt.locs, Pt.cells, Pt.slots] at X48 l48 y48 z48 st48 hQ48
    subst l48 y48 z48
    obtain ⟨hv48, Nq48, eq48⟩ := hQ48
    subst hv48
    replace Nf := Fr.app Nf Nq48
    refine own_go (x' := T48.setTop (mkF m 149 #[.val (.int p0), .val (.int p1), .val (.int p2), .val (.int p3), .val (.int p4), .val (.int (2 : Int32)), .val (.ref b1), .val (.int d0), .val (.int d1), .val (.int d2), .val (.int d3), .val (.ref b10), .val (.long (own_val_2 d0 d1 d2 d3 r0 r1 r2 r3)), .second, .unset, .unset, .unset, .unset, .unset, .unset] [(.long (own_tot_2 r0 r1 r2 r3))])) st48 ?_
    refine own_go (x' := T48.setTop (mkF m 159 #[.val (.int p0), .val (.int p1), .val (.int p2), .val (.int p3), .val (.int p4), .val (.int (2 : Int32)), .val (.ref b1), .val (.int d0), .val (.int d1), .val (.int d2), .val (.int d3), .val (.ref b10), .val (.long (own_val_2 d0 d1 d2 d3 r0 r1 r2 r3)), .second, .val (.long (own_tot_2 r0 r1 r2 r3)), .second, .val (.long ((own_val_2 d0 d1 d2 d3 r0 r1 r2 r3) + (1 : Int64))), .second, .unset, .unset] [(.long ((own_val_2 d0 d1 d2 d3 r0 r1 r2 r3) + (1 : Int64)))])) (fun _ k => XS.lstore X48.here hx rfl (hb hby at_149) rfl (l' := #[.val (.int p0), .val (.int p1), .val (.int p2), .val (.int p3), .val (.int p4), .val (.int (2 : Int32)), .val (.ref b1), .val (.int d0), .val (.int d1), .val (.int d2), .val (.int d3), .val (.ref b10), .val (.long (own_val_2 d0 d1 d2 d3 r0 r1 r2 r3)), .second, .val (.long (own_tot_2 r0 r1 r2 r3)), .second, .unset, .unset, .unset, .unset]) rfl (XS.lload X48.here hx rfl (hb hby at_151) rfl (XS.lconst X48.here hx rfl (hb hby at_153) (XS.ladd X48.here hx rfl (hb hby at_154) rfl (XS.lstore X48.here hx rfl (hb hby at_155) rfl (l' := #[.val (.int p0), .val (.int p1), .val (.int p2), .val (.int p3), .val (.int p4), .val (.int (2 : Int32)), .val (.ref b1), .val (.int d0), .val (.int d1), .val (.int d2), .val (.int d3), .val (.ref b10), .val (.long (own_val_2 d0 d1 d2 d3 r0 r1 r2 r3)), .second, .val (.long (own_tot_2 r0 r1 r2 r3)), .second, .val (.long ((own_val_2 d0 d1 d2 d3 r0 r1 r2 r3) + (1 : Int64))), .second, .unset, .unset]) rfl (XS.lload X48.here hx rfl (hb hby at_157) rfl k)))))) ?_
    refine own_go (x' := T48.setTop (mkF m 162 #[.val (.int p0), .val (.int p1), .val (.int p2), .val (.int p3), .val (.int p4), .val (.int (2 : Int32)), .val (.ref b1), .val (.int d0), .val (.int d1), .val (.int d2), .val (.int d3), .val (.ref b10), .val (.long (own_val_2 d0 d1 d2 d3 r0 r1 r2 r3)), .second, .val (.long (own_tot_2 r0 r1 r2 r3)), .second, .val (.long ((own_val_2 d0 d1 d2 d3 r0 r1 r2 r3) + (1 : Int64))), .second, .unset, .unset] [(.int (lcmpW ((own_val_2 d0 d1 d2 d3 r0 r1 r2 r3) + (1 : Int64)) (own_tot_2 r0 r1 r2 r3)))])) (fun _ k => XS.lload X48.here hx rfl (hb hby at_159) rfl (XS.lcmp X48.here hx rfl (hb hby at_161) rfl k)) ?_
    by_cases hc162 : ((own_val_2 d0 d1 d2 d3 r0 r1 r2 r3) + (1 : Int64)) < (own_tot_2 r0 r1 r2 r3)
    · refine own_go (x' := T48.setTop (mkF m 180 #[.val (.int p0), .val (.int p1), .val (.int p2), .val (.int p3), .val (.int p4), .val (.int (2 : Int32)), .val (.ref b1), .val (.int d0), .val (.int d1), .val (.int d2), .val (.int d3), .val (.ref b10), .val (.long (own_val_2 d0 d1 d2 d3 r0 r1 r2 r3)), .second, .val (.long (own_tot_2 r0 r1 r2 r3)), .second, .val (.long ((own_val_2 d0 d1 d2 d3 r0 r1 r2 r3) + (1 : Int64))), .second, .val (.int (1 : Int32)), .unset] [])) (fun _ k => XS.ifNo X48.here hx rfl (hb hby at_162) rfl ((if0 _ _).trans (tlt ((lw_lt ((own_val_2 d0 d1 d2 d3 r0 r1 r2 r3) + (1 : Int64)) (own_tot_2 r0 r1 r2 r3)).mpr hc162)).2.1) (XS.iconst X48.here hx rfl (hb hby at_165) (XS.goto X48.here hx rfl (pc0 := 166) (pc' := 170) rfl (hb hby at_166) (by decide) (by decide) (XS.istore X48.here hx rfl (hb hby at_170) rfl (l' := #[.val (.int p0), .val (.int p1), .val (.int p2), .val (.int p3), .val (.int p4), .val (.int (2 : Int32)), .val (.ref b1), .val (.int d0), .val (.int d1), .val (.int d2), .val (.int d3), .val (.ref b10), .val (.long (own_val_2 d0 d1 d2 d3 r0 r1 r2 r3)), .second, .val (.long (own_tot_2 r0 r1 r2 r3)), .second, .val (.long ((own_val_2 d0 d1 d2 d3 r0 r1 r2 r3) + (1 : Int64))), .second, .val (.int (1 : Int32)), .unset]) rfl (XS.iload X48.here hx rfl (hb hby at_172) rfl (XS.ifYes X48.here hx rfl (pc0 := 174) (pc' := 180) rfl (hb hby at_174) rfl ((if0 _ _).trans (feq (by decide +kernel : ¬ ((1 : Int32) = (0 : Int32)))).2) (by decide) (by decide) k)))))) ?_
      refine own_go (x' := T48.setTop (mkF m 186 #[.val (.int p0), .val (.int p1), .val (.int p2), .val (.int p3), .val (.int p4), .val (.int (2 : Int32)), .val (.ref b1), .val (.int d0), .val (.int d1), .val (.int d2), .val (.int d3), .val (.ref b10), .val (.long (own_val_2 d0 d1 d2 d3 r0 r1 r2 r3)), .second, .val (.long (own_tot_2 r0 r1 r2 r3)), .second, .val (.long ((own_val_2 d0 d1 d2 d3 r0 r1 r2 r3) + (1 : Int64))), .second, .val (.int (1 : Int32)), .unset] [(.int (2 : Int32)), (.ref b1), (.ref b10)])) (fun _ k => XS.aload X48.here hx rfl (hb hby at_180) rfl rfl (XS.aload X48.here hx rfl (hb hby at_182) rfl rfl (XS.iload X48.here hx rfl (hb hby at_184) rfl k))) ?_
      obtain ⟨_, _, ⟨T49, L49, k49, n49⟩, -, X49, ⟨Lc49, hQ49, l49, y49, z49⟩, st49⟩ := Jvm.LawKit.callS X48 hx (y := (⟨"com/example/stratgen/stratgen/model/StateSpace", "advance", "([I[II)Z"⟩ : MethodName)) hown (mvT hZ (own_w hw 8 rfl)) (mvT hZ (own_w hw 9 rfl)) (mvT hZ (own_w hw 10 rfl)) (mvT hZ (own_w hw 11 rfl)) (by decide) (backOf (W := 0) (rm3_2 l Z a0 hw [] b10 b1 k10 k1 d0 d1 d2 d3 r0 r1 r2 r3 h14 n0 Zs V_b10 V_b1 (Ne.symm ne_b1_b10) g_b10) hZ (own_w hw 11 rfl) (own_w hw 10 rfl) (by decide) (by decide)) (g := (mkF m 186 #[.val (.int p0), .val (.int p1), .val (.int p2), .val (.int p3), .val (.int p4), .val (.int (2 : Int32)), .val (.ref b1), .val (.int d0), .val (.int d1), .val (.int d2), .val (.int d3), .val (.ref b10), .val (.long (own_val_2 d0 d1 d2 d3 r0 r1 r2 r3)), .second, .val (.long (own_tot_2 r0 r1 r2 r3)), .second, .val (.long ((own_val_2 d0 d1 d2 d3 r0 r1 r2 r3) + (1 : Int64))), .second, .val (.int (1 : Int32)), .unset] [(.int (2 : Int32)), (.ref b1), (.ref b10)])) rfl (by rw [hml]; rfl) (argsL := [(.ref b10), (.ref b1), (.int (2 : Int32))]) (rest := []) (lenOf pd_2 rfl) rfl (by show 2 * 0 + _ ≤ _; exact Nat.le_of_eq rfl) (hb hby at_186) (fun _ _ => ⟨rfl, eq48, (by decide : 2 + 0 ≤ _), (by decide : 8 + 0 ≤ _)⟩)
      dsimp only [Pt.U, Pt.locs, Pt.cells, Pt.slots] at X49 l49 y49 z49 st49 hQ49
      subst l49 y49 z49
      obtain ⟨hv49, Nq49, K49, Vn49⟩ := hQ49
      subst hv49
      replace Nf := Fr.app Nf Nq49
      replace V_b1 := V_b1.keep K49 (ninS ne_b1_b10 nin0)
      replace Zs := Nat.le_trans Zs K49.1
      replace V_b10 := Vn49
      obtain ⟨e0, he0⟩ : ∃ z, z = (own_adv_2_0 d0 d1 d2 d3 r0 r1 r2 r3) := ⟨_, rfl⟩
      obtain ⟨e1, he1⟩ : ∃ z, z = (own_adv_2_1 d0 d1 d2 d3 r0 r1 r2 r3) := ⟨_, rfl⟩
      obtain ⟨e2, he2⟩ : ∃ z, z = (own_adv_2_2 d0 d1 d2 d3 r0 r1 r2 r3) := ⟨_, rfl⟩
      obtain ⟨e3, he3⟩ : ∃ z, z = (own_adv_2_3 d0 d1 d2 d3 r0 r1 r2 r3) := ⟨_, rfl⟩
      rw [← he0, ← he1, ← he2, ← he3] at V_b10
      refine own_go (x' := T49.setTop (mkF m 189 #[.val (.int p0), .val (.int p1), .val (.int p2), .val (.int p3), .val (.int p4), .val (.int (2 : Int32)), .val (.ref b1), .val (.int d0), .val (.int d1), .val (.int d2), .val (.int d3), .val (.ref b10), .val (.long (own_val_2 d0 d1 d2 d3 r0 r1 r2 r3)), .second, .val (.long (own_tot_2 r0 r1 r2 r3)), .second, .val (.long ((own_val_2 d0 d1 d2 d3 r0 r1 r2 r3) + (1 : Int64))), .second, .val (.int (1 : Int32)), .unset] [(.int (own_adv_2_b d0 d1 d2 d3 r0 r1 r2 r3))])) st49 ?_
      refine own_go (x' := T49.setTop (mkF m 191 #[.val (.int p0), .val (.int p1), .val (.int p2), .val (.int p3), .val (.int p4), .val (.int (2 : Int32)), .val (.ref b1), .val (.int d0), .val (.int d1), .val (.int d2), .val (.int d3), .val (.ref b10), .val (.long (own_val_2 d0 d1 d2 d3 r0 r1 r2 r3)), .second, .val (.long (own_tot_2 r0 r1 r2 r3)), .second, .val (.long ((own_val_2 d0 d1 d2 d3 r0 r1 r2 r3) + (1 : Int64))), .second, .val (.int (1 : Int32)), .val (.int (own_adv_2_b d0 d1 d2 d3 r0 r1 r2 r3))] [])) (fun _ k => XS.istore X49.here hx rfl (hb hby at_189) rfl (l' := #[.val (.int p0), .val (.int p1), .val (.int p2), .val (.int p3), .val (.int p4), .val (.int (2 : Int32)), .val (.ref b1), .val (.int d0), .val (.int d1), .val (.int d2), .val (.int d3), .val (.ref b10), .val (.long (own_val_2 d0 d1 d2 d3 r0 r1 r2 r3)), .second, .val (.long (own_tot_2 r0 r1 r2 r3)), .second, .val (.long ((own_val_2 d0 d1 d2 d3 r0 r1 r2 r3) + (1 : Int64))), .second, .val (.int (1 : Int32)), .val (.int (own_adv_2_b d0 d1 d2 d3 r0 r1 r2 r3))]) rfl k) ?_
      rw [← he0, ← he1, ← he2, ← he3] at hlaw
      rw [← he0] at hx0
      rw [← he1] at hx1
      rw [← he2] at hx2
      rw [← he3] at hx3
      obtain ⟨-, hB, hV⟩ := hlaw.resolve_right fun q => q.1 hc162
      refine own_go (x' := T49.setTop (mkF m 203 #[.val (.int p0), .val (.int p1), .val (.int p2), .val (.int p3), .val (.int p4), .val (.int (2 : Int32)), .val (.ref b1), .val (.int d0), .val (.int d1), .val (.int d2), .val (.int d3), .val (.ref b10), .val (.long (own_val_2 d0 d1 d2 d3 r0 r1 r2 r3)), .second, .val (.long (own_tot_2 r0 r1 r2 r3)), .second, .val (.long ((own_val_2 d0 d1 d2 d3 r0 r1 r2 r3) + (1 : Int64))), .second, .val (.int (1 : Int32)), .val (.int (own_adv_2_b d0 d1 d2 d3 r0 r1 r2 r3))] [(.int (0 : Int32)), (.ref b1), (.ref b10)])) (fun _ k => XS.iload X49.here hx rfl (hb hby at_191) rfl (XS.iload X49.here hx rfl (hb hby at_193) rfl (XS.icmpNo X49.here hx rfl (hb hby at_195) rfl (teq hB).2 (XS.aload X49.here hx rfl (hb hby at_198) rfl rfl (XS.aload X49.here hx rfl (hb hby at_200) rfl rfl (XS.iconst X49.here hx rfl (hb hby at_202) k)))))) ?_
      refine own_go (x' := T49.setTop (mkF m 207 #[.val (.int p0), .val (.int p1), .val (.int p2), .val (.int p3), .val (.int p4), .val (.int (2 : Int32)), .val (.ref b1), .val (.int d0), .val (.int d1), .val (.int d2), .val (.int d3), .val (.ref b10), .val (.long (own_val_2 d0 d1 d2 d3 r0 r1 r2 r3)), .second, .val (.long (own_tot_2 r0 r1 r2 r3)), .second, .val (.long ((own_val_2 d0 d1 d2 d3 r0 r1 r2 r3) + (1 : Int64))), .second, .val (.int (1 : Int32)), .val (.int (own_adv_2_b d0 d1 d2 d3 r0 r1 r2 r3))] [(.int d0), (.int (2 : Int32)), (.int (0 : Int32)), (.ref b1), (.ref b10)])) (fun _ k => XS.iload X49.here hx rfl (hb hby at_203) rfl (XS.iload X49.here hx rfl (hb hby at_205) rfl k)) ?_
      obtain ⟨_, _, ⟨T50, L50, k50, n50⟩, -, X50, ⟨Lc50, hQ50, l50, y50, z50⟩, st50⟩ := Jvm.LawKit.callS X49 hx (y := (⟨"com/example/stratgen/stratgen/model/StateSpaceAdvancePinLaw", "digitOk", "([I[IIII)Z"⟩ : MethodName)) hown (mvT hZ (own_w hw 12 rfl)) (mvT hZ (own_w hw 13 rfl)) (mvT hZ (own_w hw 3 rfl)) (mvT hZ (own_w hw 14 rfl)) (by decide) (backOf (W := 0) (rm4_0_2 l Z a0 hw [] b10 b1 k10 k1 e0 e1 e2 e3 r0 r1 r2 r3 d0 T49.heap n0 Zs V_b10 V_b1) hZ (own_w hw 14 rfl) (own_w hw 3 rfl) (by decide) (by decide)) (g := (mkF m 207 #[.val (.int p0), .val (.int p1), .val (.int p2), .val (.int p3), .val (.int p4), .val (.int (2 : Int32)), .val (.ref b1), .val (.int d0), .val (.int d1), .val (.int d2), .val (.int d3), .val (.ref b10), .val (.long (own_val_2 d0 d1 d2 d3 r0 r1 r2 r3)), .second, .val (.long (own_tot_2 r0 r1 r2 r3)), .second, .val (.long ((own_val_2 d0 d1 d2 d3 r0 r1 r2 r3) + (1 : Int64))), .second, .val (.int (1 : Int32)), .val (.int (own_adv_2_b d0 d1 d2 d3 r0 r1 r2 r3))] [(.int d0), (.int (2 : Int32)), (.int (0 : Int32)), (.ref b1), (.ref b10)])) rfl (by rw [hml]; rfl) (argsL := [(.ref b10), (.ref b1), (.int (0 : Int32)), (.int (2 : Int32)), (.int d0)]) (rest := []) (lenOf pd_3 rfl) rfl (by show 2 * 0 + _ ≤ _; exact Nat.le_of_eq rfl) (hb hby at_207) (fun _ _ => ⟨rfl, rfl, (by decide : 2 + 0 ≤ _), (by decide : 8 + 0 ≤ _)⟩)
      dsimp only [Pt.U, Pt.locs, Pt.cells, Pt.slots] at X50 l50 y50 z50 st50 hQ50
      subst l50 y50 z50
      obtain ⟨hv50, Nq50, eq50⟩ := hQ50
      subst hv50
      replace Nf := Fr.app Nf Nq50
      refine own_go (x' := T50.setTop (mkF m 210 #[.val (.int p0), .val (.int p1), .val (.int p2), .val (.int p3), .val (.int p4), .val (.int (2 : Int32)), .val (.ref b1), .val (.int d0), .val (.int d1), .val (.int d2), .val (.int d3), .val (.ref b10), .val (.long (own_val_2 d0 d1 d2 d3 r0 r1 r2 r3)), .second, .val (.long (own_tot_2 r0 r1 r2 r3)), .second, .val (.long ((own_val_2 d0 d1 d2 d3 r0 r1 r2 r3) + (1 : Int64))), .second, .val (.int (1 : Int32)), .val (.int (own_adv_2_b d0 d1 d2 d3 r0 r1 r2 r3))] [(.int (own_dok_0_2 e0 r0 d0))])) st50 ?_
      refine own_go (x' := T50.setTop (mkF m 222 #[.val (.int p0), .val (.int p1), .val (.int p2), .val (.int p3), .val (.int p4), .val (.int (2 : Int32)), .val (.ref b1), .val (.int d0), .val (.int d1), .val (.int d2), .val (.int d3), .val (.ref b10), .val (.long (own_val_2 d0 d1 d2 d3 r0 r1 r2 r3)), .second, .val (.long (own_tot_2 r0 r1 r2 r3)), .second, .val (.long ((own_val_2 d0 d1 d2 d3 r0 r1 r2 r3) + (1 : Int64))), .second, .val (.int (1 : Int32)), .val (.int (own_adv_2_b d0 d1 d2 d3 r0 r1 r2 r3))] [(.int d1), (.int (2 : Int32)), (.int (1 : Int32)), (.ref b1), (.ref b10)])) (fun _ k => XS.ifNo X50.here hx rfl (hb hby at_210) rfl ((if0 _ _).trans (feq (show ¬ ((own_dok_0_2 e0 r0 d0) = (0 : Int32)) from by simp only [own_dok_0_2, if_neg (own_ok hx0).1, if_pos (own_ok hx0).2]; decide)).1) (XS.aload X50.here hx rfl (hb hby at_213) rfl rfl (XS.aload X50.here hx rfl (hb hby at_215) rfl rfl (XS.iconst X50.here hx rfl (hb hby at_217) (XS.iload X50.here hx rfl (hb hby at_218) rfl (XS.iload X50.here hx rfl (hb hby at_220) rfl k)))))) ?_
      obtain ⟨_, _, ⟨T51, L51, k51, n51⟩, -, X51, ⟨Lc51, hQ51, l51, y51, z51⟩, st51⟩ := Jvm.LawKit.callS X50 hx (y := (⟨"com/example/stratgen/stratgen/model/StateSpaceAdvancePinLaw", "digitOk", "([I[IIII)Z"⟩ : MethodName)) hown (mvT hZ (own_w hw 12 rfl)) (mvT hZ (own_w hw 13 rfl)) (mvT hZ (own_w hw 3 rfl)) (mvT hZ (own_w hw 14 rfl)) (by decide) (backOf (W := 0) (rm4_1_2 l Z a0 hw [] b10 b1 k10 k1 e0 e1 e2 e3 r0 r1 r2 r3 d1 T49.heap n0 Zs V_b10 V_b1) hZ (own_w hw 14 rfl) (own_w hw 3 rfl) (by decide) (by decide)) (g := (mkF m 222 #[.val (.int p0), .val (.int p1), .val (.int p2), .val (.int p3), .val (.int p4), .val (.int (2 : Int32)), .val (.ref b1), .val (.int d0), .val (.int d1), .val (.int d2), .val (.int d3), .val (.ref b10), .val (.long (own_val_2 d0 d1 d2 d3 r0 r1 r2 r3)), .second, .val (.long (own_tot_2 r0 r1 r2 r3)), .second, .val (.long ((own_val_2 d0 d1 d2 d3 r0 r1 r2 r3) + (1 : Int64))), .second, .val (.int (1 : Int32)), .val (.int (own_adv_2_b d0 d1 d2 d3 r0 r1 r2 r3))] [(.int d1), (.int (2 : Int32)), (.int (1 : Int32)), (.ref b1), (.ref b10)])) rfl (by rw [hml]; rfl) (argsL := [(.ref b10), (.ref b1), (.int (1 : Int32)), (.int (2 : Int32)), (.int d1)]) (rest := []) (lenOf pd_3 rfl) rfl (by show 2 * 0 + _ ≤ _; exact Nat.le_of_eq rfl) (hb hby at_222) (fun _ _ => ⟨rfl, eq50, (by decide : 2 + 0 ≤ _), (by decide : 8 + 0 ≤ _)⟩)
      dsimp only [Pt.U, Pt.locs, Pt.cells, Pt.slots] at X51 l51 y51 z51 st51 hQ51
      subst l51 y51 z51
      obtain ⟨hv51, Nq51, eq51⟩ := hQ51
      subst hv51
      replace Nf := Fr.app Nf Nq51
      refine own_go (x' := T51.setTop (mkF m 225 #[.val (.int p0), .val (.int p1), .val (.int p2), .val (.int p3), .val (.int p4), .val (.int (2 : Int32)), .val (.ref b1), .val (.int d0), .val (.int d1), .val (.int d2), .val (.int d3), .val (.ref b10), .val (.long (own_val_2 d0 d1 d2 d3 r0 r1 r2 r3)), .second, .val (.long (own_tot_2 r0 r1 r2 r3)), .second, .val (.long ((own_val_2 d0 d1 d2 d3 r0 r1 r2 r3) + (1 : Int64))), .second, .val (.int (1 : Int32)), .val (.int (own_adv_2_b d0 d1 d2 d3 r0 r1 r2 r3))] [(.int (own_dok_1_2 e1 r1 d1))])) st51 ?_
      refine own_go (x' := T51.setTop (mkF m 237 #[.val (.int p0), .val (.int p1), .val (.int p2), .val (.int p3), .val (.int p4), .val (.int (2 : Int32)), .val (.ref b1), .val (.int d0), .val (.int d1), .val (.int d2), .val (.int d3), .val (.ref b10), .val (.long (own_val_2 d0 d1 d2 d3 r0 r1 r2 r3)), .second, .val (.long (own_tot_2 r0 r1 r2 r3)), .second, .val (.long ((own_val_2 d0 d1 d2 d3 r0 r1 r2 r3) + (1 : Int64))), .second, .val (.int (1 : Int32)), .val (.int (own_adv_2_b d0 d1 d2 d3 r0 r1 r2 r3))] [(.int d2), (.int (2 : Int32)), (.int (2 : Int32)), (.ref b1), (.ref b10)])) (fun _ k => XS.ifNo X51.here hx rfl (hb hby at_225) rfl ((if0 _ _).trans (feq (show ¬ ((own_dok_1_2 e1 r1 d1) = (0 : Int32)) from by simp only [own_dok_1_2, if_neg (own_ok hx1).1, if_pos (own_ok hx1).2]; decide)).1) (XS.aload X51.here hx rfl (hb hby at_228) rfl rfl (XS.aload X51.here hx rfl (hb hby at_230) rfl rfl (XS.iconst X51.here hx rfl (hb hby at_232) (XS.iload X51.here hx rfl (hb hby at_233) rfl (XS.iload X51.here hx rfl (hb hby at_235) rfl k)))))) ?_
      obtain ⟨_, _, ⟨T52, L52, k52, n52⟩, -, X52, ⟨Lc52, hQ52, l52, y52, z52⟩, st52⟩ := Jvm.LawKit.callS X51 hx (y := (⟨"com/example/stratgen/stratgen/model/StateSpaceAdvancePinLaw", "digitOk", "([I[IIII)Z"⟩ : MethodName)) hown (mvT hZ (own_w hw 12 rfl)) (mvT hZ (own_w hw 13 rfl)) (mvT hZ (own_w hw 3 rfl)) (mvT hZ (own_w hw 14 rfl)) (by decide) (backOf (W := 0) (rm4_2_2 l Z a0 hw [] b10 b1 k10 k1 e0 e1 e2 e3 r0 r1 r2 r3 d2 T49.heap n0 Zs V_b10 V_b1) hZ (own_w hw 14 rfl) (own_w hw 3 rfl) (by decide) (by decide)) (g := (mkF m 237 #[.val (.int p0), .val (.int p1), .val (.int p2), .val (.int p3), .val (.int p4), .val (.int (2 : Int32)), .val (.ref b1), .val (.int d0), .val (.int d1), .val (.int d2), .val (.int d3), .val (.ref b10), .val (.long (own_val_2 d0 d1 d2 d3 r0 r1 r2 r3)), .second, .val (.long (own_tot_2 r0 r1 r2 r3)), .second, .val (.long ((own_val_2 d0 d1 d2 d3 r0 r1 r2 r3) + (1 : Int64))), .second, .val (.int (1 : Int32)), .val (.int (own_adv_2_b d0 d1 d2 d3 r0 r1 r2 r3))] [(.int d2), (.int (2 : Int32)), (.int (2 : Int32)), (.ref b1), (.ref b10)])) rfl (by rw [hml]; rfl) (argsL := [(.ref b10), (.ref b1), (.int (2 : Int32)), (.int (2 : Int32)), (.int d2)]) (rest := []) (lenOf pd_3 rfl) rfl (by show 2 * 0 + _ ≤ _; exact Nat.le_of_eq rfl) (hb hby at_237) (fun _ _ => ⟨rfl, eq51, (by decide : 2 + 0 ≤ _), (by decide : 8 + 0 ≤ _)⟩)
      dsimp only [Pt.U, Pt.locs, Pt.cells, Pt.slots] at X52 l52 y52 z52 st52 hQ52
      subst l52 y52 z52
      obtain ⟨hv52, Nq52, eq52⟩ := hQ52
      subst hv52
      replace Nf := Fr.app Nf Nq52
      refine own_go (x' := T52.setTop (mkF m 240 #[.val (.int p0), .val (.int p1), .val (.int p2), .val (.int p3), .val (.int p4), .val (.int (2 : Int32)), .val (.ref b1), .val (.int d0), .val (.int d1), .val (.int d2), .val (.int d3), .val (.ref b10), .val (.long (own_val_2 d0 d1 d2 d3 r0 r1 r2 r3)), .second, .val (.long (own_tot_2 r0 r1 r2 r3)), .second, .val (.long ((own_val_2 d0 d1 d2 d3 r0 r1 r2 r3) + (1 : Int64))), .second, .val (.int (1 : Int32)), .val (.int (own_adv_2_b d0 d1 d2 d3 r0 r1 r2 r3))] [(.int (own_dok_2_2 e2 r2 d2))])) st52 ?_
      refine own_go (x' := T52.setTop (mkF m 252 #[.val (.int p0), .val (.int p1), .val (.int p2), .val (.int p3), .val (.int p4), .val (.int (2 : Int32)), .val (.ref b1), .val (.int d0), .val (.int d1), .val (.int d2), .val (.int d3), .val (.ref b10), .val (.long (own_val_2 d0 d1 d2 d3 r0 r1 r2 r3)), .second, .val (.long (own_tot_2 r0 r1 r2 r3)), .second, .val (.long ((own_val_2 d0 d1 d2 d3 r0 r1 r2 r3) + (1 : Int64))), .second, .val (.int (1 : Int32)), .val (.int (own_adv_2_b d0 d1 d2 d3 r0 r1 r2 r3))] [(.int d3), (.int (2 : Int32)), (.int (3 : Int32)), (.ref b1), (.ref b10)])) (fun _ k => XS.ifNo X52.here hx rfl (hb hby at_240) rfl ((if0 _ _).trans (feq (show ¬ ((own_dok_2_2 e2 r2 d2) = (0 : Int32)) from by simp only [own_dok_2_2, if_pos hx2]; decide)).1) (XS.aload X52.here hx rfl (hb hby at_243) rfl rfl (XS.aload X52.here hx rfl (hb hby at_245) rfl rfl (XS.iconst X52.here hx rfl (hb hby at_247) (XS.iload X52.here hx rfl (hb hby at_248) rfl (XS.iload X52.here hx rfl (hb hby at_250) rfl k)))))) ?_
      obtain ⟨_, _, ⟨T53, L53, k53, n53⟩, -, X53, ⟨Lc53, hQ53, l53, y53, z53⟩, st53⟩ := Jvm.LawKit.callS X52 hx (y := (⟨"com/example/stratgen/stratgen/model/StateSpaceAdvancePinLaw", "digitOk", "([I[IIII)Z"⟩ : MethodName)) hown (mvT hZ (own_w hw 12 rfl)) (mvT hZ (own_w hw 13 rfl)) (mvT hZ (own_w hw 3 rfl)) (mvT hZ (own_w hw 14 rfl)) (by decide) (backOf (W := 0) (rm4_3_2 l Z a0 hw [] b10 b1 k10 k1 e0 e1 e2 e3 r0 r1 r2 r3 d3 T49.heap n0 Zs V_b10 V_b1) hZ (own_w hw 14 rfl) (own_w hw 3 rfl) (by decide) (by decide)) (g := (mkF m 252 #[.val (.int p0), .val (.int p1), .val (.int p2), .val (.int p3), .val (.int p4), .val (.int (2 : Int32)), .val (.ref b1), .val (.int d0), .val (.int d1), .val (.int d2), .val (.int d3), .val (.ref b10), .val (.long (own_val_2 d0 d1 d2 d3 r0 r1 r2 r3)), .second, .val (.long (own_tot_2 r0 r1 r2 r3)), .second, .val (.long ((own_val_2 d0 d1 d2 d3 r0 r1 r2 r3) + (1 : Int64))), .second, .val (.int (1 : Int32)), .val (.int (own_adv_2_b d0 d1 d2 d3 r0 r1 r2 r3))] [(.int d3), (.int (2 : Int32)), (.int (3 : Int32)), (.ref b1), (.ref b10)])) rfl (by rw [hml]; rfl) (argsL := [(.ref b10), (.ref b1), (.int (3 : Int32)), (.int (2 : Int32)), (.int d3)]) (rest := []) (lenOf pd_3 rfl) rfl (by show 2 * 0 + _ ≤ _; exact Nat.le_of_eq rfl) (hb hby at_252) (fun _ _ => ⟨rfl, eq52, (by decide : 2 + 0 ≤ _), (by decide : 8 + 0 ≤ _)⟩)
      dsimp only [Pt.U, Pt.locs, Pt.cells, Pt.slots] at X53 l53 y53 z53 st53 hQ53
      subst l53 y53 z53
      obtain ⟨hv53, Nq53, eq53⟩ := hQ53
      subst hv53
      replace Nf := Fr.app Nf Nq53
      refine own_go (x' := T53.setTop (mkF m 255 #[.val (.int p0), .val (.int p1), .val (.int p2), .val (.int p3), .val (.int p4), .val (.int (2 : Int32)), .val (.ref b1), .val (.int d0), .val (.int d1), .val (.int d2), .val (.int d3), .val (.ref b10), .val (.long (own_val_2 d0 d1 d2 d3 r0 r1 r2 r3)), .second, .val (.long (own_tot_2 r0 r1 r2 r3)), .second, .val (.long ((own_val_2 d0 d1 d2 d3 r0 r1 r2 r3) + (1 : Int64))), .second, .val (.int (1 : Int32)), .val (.int (own_adv_2_b d0 d1 d2 d3 r0 r1 r2 r3))] [(.int (own_dok_3_2 e3 r3 d3))])) st53 ?_
      refine own_go (x' := T53.setTop (mkF m 264 #[.val (.int p0), .val (.int p1), .val (.int p2), .val (.int p3), .val (.int p4), .val (.int (2 : Int32)), .val (.ref b1), .val (.int d0), .val (.int d1), .val (.int d2), .val (.int d3), .val (.ref b10), .val (.long (own_val_2 d0 d1 d2 d3 r0 r1 r2 r3)), .second, .val (.long (own_tot_2 r0 r1 r2 r3)), .second, .val (.long ((own_val_2 d0 d1 d2 d3 r0 r1 r2 r3) + (1 : Int64))), .second, .val (.int (1 : Int32)), .val (.int (own_adv_2_b d0 d1 d2 d3 r0 r1 r2 r3))] [(.int (2 : Int32)), (.ref b1), (.ref b10)])) (fun _ k => XS.ifNo X53.here hx rfl (hb hby at_255) rfl ((if0 _ _).trans (feq (show ¬ ((own_dok_3_2 e3 r3 d3) = (0 : Int32)) from by simp only [own_dok_3_2, if_pos hx3]; decide)).1) (XS.aload X53.here hx rfl (hb hby at_258) rfl rfl (XS.aload X53.here hx rfl (hb hby at_260) rfl rfl (XS.iload X53.here hx rfl (hb hby at_262) rfl k)))) ?_
      obtain ⟨_, _, ⟨T54, L54, k54, n54⟩, -, X54, ⟨Lc54, hQ54, l54, y54, z54⟩, st54⟩ := Jvm.LawKit.callS X53 hx (y := (⟨"com/example/stratgen/stratgen/model/StateSpaceAdvancePinLaw", "value", "([I[II)J"⟩ : MethodName)) hown (mvT hZ (own_w hw 1 rfl)) (mvT hZ (own_w hw 2 rfl)) (mvT hZ (own_w hw 3 rfl)) (mvT hZ (own_w hw 4 rfl)) (by decide) (backOf (W := 0) (rm1_2 l Z a0 hw [] b10 b1 k10 k1 e0 e1 e2 e3 r0 r1 r2 r3 T49.heap n0 Zs V_b10 V_b1) hZ (own_w hw 4 rfl) (own_w hw 3 rfl) (by decide) (by decide)) (g := (mkF m 264 #[.val (.int p0), .val (.int p1), .val (.int p2), .val (.int p3), .val (.int p4), .val (.int (2 : Int32)), .val (.ref b1), .val (.int d0), .val (.int d1), .val (.int d2), .val (.int d3), .val (.ref b10), .val (.long (own_val_2 d0 d1 d2 d3 r0 r1 r2 r3)), .second, .val (.long (own_tot_2 r0 r1 r2 r3)), .second, .val (.long ((own_val_2 d0 d1 d2 d3 r0 r1 r2 r3) + (1 : Int64))), .second, .val (.int (1 : Int32)), .val (.int (own_adv_2_b d0 d1 d2 d3 r0 r1 r2 r3))] [(.int (2 : Int32)), (.ref b1), (.ref b10)])) rfl (by rw [hml]; rfl) (argsL := [(.ref b10), (.ref b1), (.int (2 : Int32))]) (rest := []) (lenOf pd_0 rfl) rfl (by show 2 * 0 + _ ≤ _; exact Nat.le_of_eq rfl) (hb hby at_264) (fun _ _ => ⟨rfl, eq53, (by decide : 2 + 0 ≤ _), (by decide : 8 + 0 ≤ _)⟩)
      dsimp only [Pt.U, Pt.locs, Pt.cells, Pt.slots] at X54 l54 y54 z54 st54 hQ54
      subst l54 y54 z54
      obtain ⟨hv54, Nq54, eq54⟩ := hQ54
      subst hv54
      replace Nf := Fr.app Nf Nq54
      refine own_go (x' := T54.setTop (mkF m 267 #[.val (.int p0), .val (.int p1), .val (.int p2), .val (.int p3), .val (.int p4), .val (.int (2 : Int32)), .val (.ref b1), .val (.int d0), .val (.int d1), .val (.int d2), .val (.int d3), .val (.ref b10), .val (.long (own_val_2 d0 d1 d2 d3 r0 r1 r2 r3)), .second, .val (.long (own_tot_2 r0 r1 r2 r3)), .second, .val (.long ((own_val_2 d0 d1 d2 d3 r0 r1 r2 r3) + (1 : Int64))), .second, .val (.int (1 : Int32)), .val (.int (own_adv_2_b d0 d1 d2 d3 r0 r1 r2 r3))] [(.long (own_val_2 e0 e1 e2 e3 r0 r1 r2 r3))])) st54 ?_
      refine own_go (x' := T54.setTop (mkF m 278 #[.val (.int p0), .val (.int p1), .val (.int p2), .val (.int p3), .val (.int p4), .val (.int (2 : Int32)), .val (.ref b1), .val (.int d0), .val (.int d1), .val (.int d2), .val (.int d3), .val (.ref b10), .val (.long (own_val_2 d0 d1 d2 d3 r0 r1 r2 r3)), .second, .val (.long (own_tot_2 r0 r1 r2 r3)), .second, .val (.long ((own_val_2 d0 d1 d2 d3 r0 r1 r2 r3) + (1 : Int64))), .second, .val (.int (1 : Int32)), .val (.int (own_adv_2_b d0 d1 d2 d3 r0 r1 r2 r3))] [(.int (1 : Int32))])) (fun _ k => XS.lload X54.here hx rfl (hb hby at_267) rfl (XS.lcmp X54.here hx rfl (hb hby at_269) rfl (XS.ifNo X54.here hx rfl (hb hby at_270) rfl ((if0 _ _).trans (teq ((lw_eq (own_val_2 e0 e1 e2 e3 r0 r1 r2 r3) ((own_val_2 d0 d1 d2 d3 r0 r1 r2 r3) + (1 : Int64))).mpr hV)).2) (XS.iconst X54.here hx rfl (hb hby at_273) (XS.goto X54.here hx rfl (pc0 := 274) (pc' := 278) rfl (hb hby at_274) (by decide) (by decide) k))))) ?_
      refine own_retN X54 hx hlk (t := .boolean) hret (by simp) (hb hby at_278) (w := (1 : Int32)) rfl ?_ (by decide) (by decide)
      rw [eq54]
      exact ⟨rfl, Nf⟩
    · refine own_go (x' := T48.setTop (mkF m 178 #[.val (.int p0), .val (.int p1), .val (.int p2), .val (.int p3), .val (.int p4), .val (.int (2 : Int32)), .val (.ref b1), .val (.int d0), .val (.int d1), .val (.int d2), .val (.int d3), .val (.ref b10), .val (.long (own_val_2 d0 d1 d2 d3 r0 r1 r2 r3)), .second, .val (.long (own_tot_2 r0 r1 r2 r3)), .second, .val (.long ((own_val_2 d0 d1 d2 d3 r0 r1 r2 r3) + (1 : Int64))), .second, .val (.int (0 : Int32)), .unset] [(.long (0 : Int64))])) (fun _ k => XS.ifYes X48.here hx rfl (pc0 := 162) (pc' := 169) rfl (hb hby at_162) rfl ((if0 _ _).trans (flt (fun q_ => hc162 ((lw_lt ((own_val_2 d0 d1 d2 d3 r0 r1 r2 r3) + (1 : Int64)) (own_tot_2 r0 r1 r2 r3)).mp q_))).2.1) (by decide) (by decide) (XS.iconst X48.here hx rfl (hb hby at_169) (XS.istore X48.here hx rfl (hb hby at_170) rfl (l' := #[.val (.int p0), .val (.int p1), .val (.int p2), .val (.int p3), .val (.int p4), .val (.int (2 : Int32)), .val (.ref b1), .val (.int d0), .val (.int d1), .val (.int d2), .val (.int d3), .val (.ref b10), .val (.long (own_val_2 d0 d1 d2 d3 r0 r1 r2 r3)), .second, .val (.long (own_tot_2 r0 r1 r2 r3)), .second, .val (.long ((own_val_2 d0 d1 d2 d3 r0 r1 r2 r3) + (1 : Int64))), .second, .val (.int (0 : Int32)), .unset]) rfl (XS.iload X48.here hx rfl (hb hby at_172) rfl (XS.ifNo X48.here hx rfl (hb hby at_174) rfl ((if0 _ _).trans (teq rfl).2) (XS.lconst X48.here hx rfl (hb hby at_177) k)))))) ?_
      refine own_go (x' := T48.setTop (mkF m 186 #[.val (.int p0), .val (.int p1), .val (.int p2), .val (.int p3), .val (.int p4), .val (.int (2 : Int32)), .val (.ref b1), .val (.int d0), .val (.int d1), .val (.int d2), .val (.int d3), .val (.ref b10), .val (.long (own_val_2 d0 d1 d2 d3 r0 r1 r2 r3)), .second, .val (.long (own_tot_2 r0 r1 r2 r3)), .second, .val (.long (0 : Int64)), .second, .val (.int (0 : Int32)), .unset] [(.int (2 : Int32)), (.ref b1), (.ref b10)])) (fun _ k => XS.lstore X48.here hx rfl (hb hby at_178) rfl (l' := #[.val (.int p0), .val (.int p1), .val (.int p2), .val (.int p3), .val (.int p4), .val (.int (2 : Int32)), .val (.ref b1), .val (.int d0), .val (.int d1), .val (.int d2), .val (.int d3), .val (.ref b10), .val (.long (own_val_2 d0 d1 d2 d3 r0 r1 r2 r3)), .second, .val (.long (own_tot_2 r0 r1 r2 r3)), .second, .val (.long (0 : Int64)), .second, .val (.int (0 : Int32)), .unset]) rfl (XS.aload X48.here hx rfl (hb hby at_180) rfl rfl (XS.aload X48.here hx rfl (hb hby at_182) rfl rfl (XS.iload X48.here hx rfl (hb hby at_184) rfl k)))) ?_
      obtain ⟨_, _, ⟨T55, L55, k55, n55⟩, -, X55, ⟨Lc55, hQ55, l55, y55, z55⟩, st55⟩ := Jvm.LawKit.callS X48 hx (y := (⟨"com/example/stratgen/stratgen/model/StateSpace", "advance", "([I[II)Z"⟩ : MethodName)) hown (mvT hZ (own_w hw 8 rfl)) (mvT hZ (own_w hw 9 rfl)) (mvT hZ (own_w hw 10 rfl)) (mvT hZ (own_w hw 11 rfl)) (by decide) (backOf (W := 0) (rm3_2 l Z a0 hw [] b10 b1 k10 k1 d0 d1 d2 d3 r0 r1 r2 r3 h14 n0 Zs V_b10 V_b1 (Ne.symm ne_b1_b10) g_b10) hZ (own_w hw 11 rfl) (own_w hw 10 rfl) (by decide) (by decide)) (g := (mkF m 186 #[.val (.int p0), .val (.int p1), .val (.int p2), .val (.int p3), .val (.int p4), .val (.int (2 : Int32)), .val (.ref b1), .val (.int d0), .val (.int d1), .val (.int d2), .val (.int d3), .val (.ref b10), .val (.long (own_val_2 d0 d1 d2 d3 r0 r1 r2 r3)), .second, .val (.long (own_tot_2 r0 r1 r2 r3)), .second, .val (.long (0 : Int64)), .second, .val (.int (0 : Int32)), .unset] [(.int (2 : Int32)), (.ref b1), (.ref b10)])) rfl (by rw [hml]; rfl) (argsL := [(.ref b10), (.ref b1), (.int (2 : Int32))]) (rest := []) (lenOf pd_2 rfl) rfl (by show 2 * 0 + _ ≤ _; exact Nat.le_of_eq rfl) (hb hby at_186) (fun _ _ => ⟨rfl, eq48, (by decide : 2 + 0 ≤ _), (by decide : 8 + 0 ≤ _)⟩)
      dsimp only [Pt.U, Pt.locs, Pt.cells, Pt.slots] at X55 l55 y55 z55 st55 hQ55
      subst l55 y55 z55
      obtain ⟨hv55, Nq55, K55, Vn55⟩ := hQ55
      subst hv55
      replace Nf := Fr.app Nf Nq55
      replace V_b1 := V_b1.keep K55 (ninS ne_b1_b10 nin0)
      replace Zs := Nat.le_trans Zs K55.1
      replace V_b10 := Vn55
      obtain ⟨e0, he0⟩ : ∃ z, z = (own_adv_2_0 d0 d1 d2 d3 r0 r1 r2 r3) := ⟨_, rfl⟩
      obtain ⟨e1, he1⟩ : ∃ z, z = (own_adv_2_1 d0 d1 d2 d3 r0 r1 r2 r3) := ⟨_, rfl⟩
      obtain ⟨e2, he2⟩ : ∃ z, z = (own_adv_2_2 d0 d1 d2 d3 r0 r1 r2 r3) := ⟨_, rfl⟩
      obtain ⟨e3, he3⟩ : ∃ z, z = (own_adv_2_3 d0 d1 d2 d3 r0 r1 r2 r3) := ⟨_, rfl⟩
      rw [← he0, ← he1, ← he2, ← he3] at V_b10
      refine own_go (x' := T55.setTop (mkF m 189 #[.val (.int p0), .val (.int p1), .val (.int p2), .val (.int p3), .val (.int p4), .val (.int (2 : Int32)), .val (.ref b1), .val (.int d0), .val (.int d1), .val (.int d2), .val (.int d3), .val (.ref b10), .val (.long (own_val_2 d0 d1 d2 d3 r0 r1 r2 r3)), .second, .val (.long (own_tot_2 r0 r1 r2 r3)), .second, .val (.long (0 : Int64)), .second, .val (.int (0 : Int32)), .unset] [(.int (own_adv_2_b d0 d1 d2 d3 r0 r1 r2 r3))])) st55 ?_
      refine own_go (x' := T55.setTop (mkF m 191 #[.val (.int p0), .val (.int p1), .val (.int p2), .val (.int p3), .val (.int p4), .val (.int (2 : Int32)), .val (.ref b1), .val (.int d0), .val (.int d1), .val (.int d2), .val (.int d3), .val (.ref b10), .val (.long (own_val_2 d0 d1 d2 d3 r0 r1 r2 r3)), .second, .val (.long (own_tot_2 r0 r1 r2 r3)), .second, .val (.long (0 : Int64)), .second, .val (.int (0 : Int32)), .val (.int (own_adv_2_b d0 d1 d2 d3 r0 r1 r2 r3))] [])) (fun _ k => XS.istore X55.here hx rfl (hb hby at_189) rfl (l' := #[.val (.int p0), .val (.int p1), .val (.int p2), .val (.int p3), .val (.int p4), .val (.int (2 : Int32)), .val (.ref b1), .val (.int d0), .val (.int d1), .val (.int d2), .val (.int d3), .val (.ref b10), .val (.long (own_val_2 d0 d1 d2 d3 r0 r1 r2 r3)), .second, .val (.long (own_tot_2 r0 r1 r2 r3)), .second, .val (.long (0 : Int64)), .second, .val (.int (0 : Int32)), .val (.int (own_adv_2_b d0 d1 d2 d3 r0 r1 r2 r3))]) rfl k) ?_
      rw [← he0, ← he1, ← he2, ← he3] at hlaw
      rw [← he0] at hx0
      rw [← he1] at hx1
      rw [← he2] at hx2
      rw [← he3] at hx3
      obtain ⟨-, hB, hV⟩ := hlaw.resolve_left fun q => hc162 q.1
      refine own_go (x' := T55.setTop (mkF m 203 #[.val (.int p0), .val (.int p1), .val (.int p2), .val (.int p3), .val (.int p4), .val (.int (2 : Int32)), .val (.ref b1), .val (.int d0), .val (.int d1), .val (.int d2), .val (.int d3), .val (.ref b10), .val (.long (own_val_2 d0 d1 d2 d3 r0 r1 r2 r3)), .second, .val (.long (own_tot_2 r0 r1 r2 r3)), .second, .val (.long (0 : Int64)), .second, .val (.int (0 : Int32)), .val (.int (own_adv_2_b d0 d1 d2 d3 r0 r1 r2 r3))] [(.int (0 : Int32)), (.ref b1), (.ref b10)])) (fun _ k => XS.iload X55.here hx rfl (hb hby at_191) rfl (XS.iload X55.here hx rfl (hb hby at_193) rfl (XS.icmpNo X55.here hx rfl (hb hby at_195) rfl (teq hB).2 (XS.aload X55.here hx rfl (hb hby at_198) rfl rfl (XS.aload X55.here hx rfl (hb hby at_200) rfl rfl (XS.iconst X55.here hx rfl (hb hby at_202) k)))))) ?_
      refine own_go (x' := T55.setTop (mkF m 207 #[.val (.int p0), .val (.int p1), .val (.int p2), .val (.int p3), .val (.int p4), .val (.int (2 : Int32)), .val (.ref b1), .val (.int d0), .val (.int d1), .val (.int d2), .val (.int d3), .val (.ref b10), .val (.long (own_val_2 d0 d1 d2 d3 r0 r1 r2 r3)), .second, .val (.long (own_tot_2 r0 r1 r2 r3)), .second, .val (.long (0 : Int64)), .second, .val (.int (0 : Int32)), .val (.int (own_adv_2_b d0 d1 d2 d3 r0 r1 r2 r3))] [(.int d0), (.int (2 : Int32)), (.int (0 : Int32)), (.ref b1), (.ref b10)])) (fun _ k => XS.iload X55.here hx rfl (hb hby at_203) rfl (XS.iload X55.here hx rfl (hb hby at_205) rfl k)) ?_
      obtain ⟨_, _, ⟨T56, L56, k56, n56⟩, -, X56, ⟨Lc56, hQ56, l56, y56, z56⟩, st56⟩ := Jvm.LawKit.callS X55 hx (y := (⟨"com/example/stratgen/stratgen/model/StateSpaceAdvancePinLaw", "digitOk", "([I[IIII)Z"⟩ : MethodName)) hown (mvT hZ (own_w hw 12 rfl)) (mvT hZ (own_w hw 13 rfl)) (mvT hZ (own_w hw 3 rfl)) (mvT hZ (own_w hw 14 rfl)) (by decide) (backOf (W := 0) (rm4_0_2 l Z a0 hw [] b10 b1 k10 k1 e0 e1 e2 e3 r0 r1 r2 r3 d0 T55.heap n0 Zs V_b10 V_b1) hZ (own_w hw 14 rfl) (own_w hw 3 rfl) (by decide) (by decide)) (g := (mkF m 207 #[.val (.int p0), .val (.int p1), .val (.int p2), .val (.int p3), .val (.int p4), .val (.int (2 : Int32)), .val (.ref b1), .val (.int d0), .val (.int d1), .val (.int d2), .val (.int d3), .val (.ref b10), .val (.long (own_val_2 d0 d1 d2 d3 r0 r1 r2 r3)), .second, .val (.long (own_tot_2 r0 r1 r2 r3)), .second, .val (.long (0 : Int64)), .second, .val (.int (0 : Int32)), .val (.int (own_adv_2_b d0 d1 d2 d3 r0 r1 r2 r3))] [(.int d0), (.int (2 : Int32)), (.int (0 : Int32)), (.ref b1), (.ref b10)])) rfl (by rw [hml]; rfl) (argsL := [(.ref b10), (.ref b1), (.int (0 : Int32)), (.int (2 : Int32)), (.int d0)]) (rest := []) (lenOf pd_3 rfl) rfl (by show 2 * 0 + _ ≤ _; exact Nat.le_of_eq rfl) (hb hby at_207) (fun _ _ => ⟨rfl, rfl, (by decide : 2 + 0 ≤ _), (by decide : 8 + 0 ≤ _)⟩)
      dsimp only [Pt.U, Pt.locs, Pt.cells, Pt.slots] at X56 l56 y56 z56 st56 hQ56
      subst l56 y56 z56
      obtain ⟨hv56, Nq56, eq56⟩ := hQ56
      subst hv56
      replace Nf := Fr.app Nf Nq56
      refine own_go (x' := T56.setTop (mkF m 210 #[.val (.int p0), .val (.int p1), .val (.int p2), .val (.int p3), .val (.int p4), .val (.int (2 : Int32)), .val (.ref b1), .val (.int d0), .val (.int d1), .val (.int d2), .val (.int d3), .val (.ref b10), .val (.long (own_val_2 d0 d1 d2 d3 r0 r1 r2 r3)), .second, .val (.long (own_tot_2 r0 r1 r2 r3)), .second, .val (.long (0 : Int64)), .second, .val (.int (0 : Int32)), .val (.int (own_adv_2_b d0 d1 d2 d3 r0 r1 r2 r3))] [(.int (own_dok_0_2 e0 r0 d0))])) st56 ?_
      refine own_go (x' := T56.setTop (mkF m 222 #[.val (.int p0), .val (.int p1), .val (.int p2), .val (.int p3), .val (.int p4), .val (.int (2 : Int32)), .val (.ref b1), .val (.int d0), .val (.int d1), .val (.int d2), .val (.int d3), .val (.ref b10), .val (.long (own_val_2 d0 d1 d2 d3 r0 r1 r2 r3)), .second, .val (.long (own_tot_2 r0 r1 r2 r3)), .second, .val (.long (0 : Int64)), .second, .val (.int (0 : Int32)), .val (.int (own_adv_2_b d0 d1 d2 d3 r0 r1 r2 r3))] [(.int d1), (.int (2 : Int32)), (.int (1 : Int32)), (.ref b1), (.ref b10)])) (fun _ k => XS.ifNo X56.here hx rfl (hb hby at_210) rfl ((if0 _ _).trans (feq (show ¬ ((own_dok_0_2 e0 r0 d0) = (0 : Int32)) from by simp only [own_dok_0_2, if_neg (own_ok hx0).1, if_pos (own_ok hx0).2]; decide)).1) (XS.aload X56.here hx rfl (hb hby at_213) rfl rfl (XS.aload X56.here hx rfl (hb hby at_215) rfl rfl (XS.iconst X56.here hx rfl (hb hby at_217) (XS.iload X56.here hx rfl (hb hby at_218) rfl (XS.iload X56.here hx rfl (hb hby at_220) rfl k)))))) ?_
      obtain ⟨_, _, ⟨T57, L57, k57, n57⟩, -, X57, ⟨Lc57, hQ57, l57, y57, z57⟩, st57⟩ := Jvm.LawKit.callS X56 hx (y := (⟨"com/example/stratgen/stratgen/model/StateSpaceAdvancePinLaw", "digitOk", "([I[IIII)Z"⟩ : MethodName)) hown (mvT hZ (own_w hw 12 rfl)) (mvT hZ (own_w hw 13 rfl)) (mvT hZ (own_w hw 3 rfl)) (mvT hZ (own_w hw 14 rfl)) (by decide) (backOf (W := 0) (rm4_1_2 l Z a0 hw [] b10 b1 k10 k1 e0 e1 e2 e3 r0 r1 r2 r3 d1 T55.heap n0 Zs V_b10 V_b1) hZ (own_w hw 14 rfl) (own_w hw 3 rfl) (by decide) (by decide)) (g := (mkF m 222 #[.val (.int p0), .val (.int p1), .val (.int p2), .val (.int p3), .val (.int p4), .val (.int (2 : Int32)), .val (.ref b1), .val (.int d0), .val (.int d1), .val (.int d2), .val (.int d3), .val (.ref b10), .val (.long (own_val_2 d0 d1 d2 d3 r0 r1 r2 r3)), .second, .val (.long (own_tot_2 r0 r1 r2 r3)), .second, .val (.long (0 : Int64)), .second, .val (.int (0 : Int32)), .val (.int (own_adv_2_b d0 d1 d2 d3 r0 r1 r2 r3))] [(.int d1), (.int (2 : Int32)), (.int (1 : Int32)), (.ref b1), (.ref b10)])) rfl (by rw [hml]; rfl) (argsL := [(.ref b10), (.ref b1), (.int (1 : Int32)), (.int (2 : Int32)), (.int d1)]) (rest := []) (lenOf pd_3 rfl) rfl (by show 2 * 0 + _ ≤ _; exact Nat.le_of_eq rfl) (hb hby at_222) (fun _ _ => ⟨rfl, eq56, (by decide : 2 + 0 ≤ _), (by decide : 8 + 0 ≤ _)⟩)
      dsimp only [Pt.U, Pt.locs, Pt.cells, Pt.slots] at X57 l57 y57 z57 st57 hQ57
      subst l57 y57 z57
      obtain ⟨hv57, Nq57, eq57⟩ := hQ57
      subst hv57
      replace Nf := Fr.app Nf Nq57
      refine own_go (x' := T57.setTop (mkF m 225 #[.val (.int p0), .val (.int p1), .val (.int p2), .val (.int p3), .val (.int p4), .val (.int (2 : Int32)), .val (.ref b1), .val (.int d0), .val (.int d1), .val (.int d2), .val (.int d3), .val (.ref b10), .val (.long (own_val_2 d0 d1 d2 d3 r0 r1 r2 r3)), .second, .val (.long (own_tot_2 r0 r1 r2 r3)), .second, .val (.long (0 : Int64)), .second, .val (.int (0 : Int32)), .val (.int (own_adv_2_b d0 d1 d2 d3 r0 r1 r2 r3))] [(.int (own_dok_1_2 e1 r1 d1))])) st57 ?_
      refine own_go (x' := T57.setTop (mkF m 237 #[.val (.int p0), .val (.int p1), .val (.int p2), .val (.int p3), .val (.int p4), .val (.int (2 : Int32)), .val (.ref b1), .val (.int d0), .val (.int d1), .val (.int d2), .val (.int d3), .val (.ref b10), .val (.long (own_val_2 d0 d1 d2 d3 r0 r1 r2 r3)), .second, .val (.long (own_tot_2 r0 r1 r2 r3)), .second, .val (.long (0 : Int64)), .second, .val (.int (0 : Int32)), .val (.int (own_adv_2_b d0 d1 d2 d3 r0 r1 r2 r3))] [(.int d2), (.int (2 : Int32)), (.int (2 : Int32)), (.ref b1), (.ref b10)])) (fun _ k => XS.ifNo X57.here hx rfl (hb hby at_225) rfl ((if0 _ _).trans (feq (show ¬ ((own_dok_1_2 e1 r1 d1) = (0 : Int32)) from by simp only [own_dok_1_2, if_neg (own_ok hx1).1, if_pos (own_ok hx1).2]; decide)).1) (XS.aload X57.here hx rfl (hb hby at_228) rfl rfl (XS.aload X57.here hx rfl (hb hby at_230) rfl rfl (XS.iconst X57.here hx rfl (hb hby at_232) (XS.iload X57.here hx rfl (hb hby at_233) rfl (XS.iload X57.here hx rfl (hb hby at_235) rfl k)))))) ?_
      obtain ⟨_, _, ⟨T58, L58, k58, n58⟩, -, X58, ⟨Lc58, hQ58, l58, y58, z58⟩, st58⟩ := Jvm.LawKit.callS X57 hx (y := (⟨"com/example/stratgen/stratgen/model/StateSpaceAdvancePinLaw", "digitOk", "([I[IIII)Z"⟩ : MethodName)) hown (mvT hZ (own_w hw 12 rfl)) (mvT hZ (own_w hw 13 rfl)) (mvT hZ (own_w hw 3 rfl)) (mvT hZ (own_w hw 14 rfl)) (by decide) (backOf (W := 0) (rm4_2_2 l Z a0 hw [] b10 b1 k10 k1 e0 e1 e2 e3 r0 r1 r2 r3 d2 T55.heap n0 Zs V_b10 V_b1) hZ (own_w hw 14 rfl) (own_w hw 3 rfl) (by decide) (by decide)) (g := (mkF m 237 #[.val (.int p0), .val (.int p1), .val (.int p2), .val (.int p3), .val (.int p4), .val (.int (2 : Int32)), .val (.ref b1), .val (.int d0), .val (.int d1), .val (.int d2), .val (.int d3), .val (.ref b10), .val (.long (own_val_2 d0 d1 d2 d3 r0 r1 r2 r3)), .second, .val (.long (own_tot_2 r0 r1 r2 r3)), .second, .val (.long (0 : Int64)), .second, .val (.int (0 : Int32)), .val (.int (own_adv_2_b d0 d1 d2 d3 r0 r1 r2 r3))] [(.int d2), (.int (2 : Int32)), (.int (2 : Int32)), (.ref b1), (.ref b10)])) rfl (by rw [hml]; rfl) (argsL := [(.ref b10), (.ref b1), (.int (2 : Int32)), (.int (2 : Int32)), (.int d2)]) (rest := []) (lenOf pd_3 rfl) rfl (by show 2 * 0 + _ ≤ _; exact Nat.le_of_eq rfl) (hb hby at_237) (fun _ _ => ⟨rfl, eq57, (by decide : 2 + 0 ≤ _), (by decide : 8 + 0 ≤ _)⟩)
      dsimp only [Pt.U, Pt.locs, Pt.cells, Pt.slots] at X58 l58 y58 z58 st58 hQ58
      subst l58 y58 z58
      obtain ⟨hv58, Nq58, eq58⟩ := hQ58
      subst hv58
      replace Nf := Fr.app Nf Nq58
      refine own_go (x' := T58.setTop (mkF m 240 #[.val (.int p0), .val (.int p1), .val (.int p2), .val (.int p3), .val (.int p4), .val (.int (2 : Int32)), .val (.ref b1), .val (.int d0), .val (.int d1), .val (.int d2), .val (.int d3), .val (.ref b10), .val (.long (own_val_2 d0 d1 d2 d3 r0 r1 r2 r3)), .second, .val (.long (own_tot_2 r0 r1 r2 r3)), .second, .val (.long (0 : Int64)), .second, .val (.int (0 : Int32)), .val (.int (own_adv_2_b d0 d1 d2 d3 r0 r1 r2 r3))] [(.int (own_dok_2_2 e2 r2 d2))])) st58 ?_
      refine own_go (x' := T58.setTop (mkF m 252 #[.val (.int p0), .val (.int p1), .val (.int p2), .val (.int p3), .val (.int p4), .val (.int (2 : Int32)), .val (.ref b1), .val (.int d0), .val (.int d1), .val (.int d2), .val (.int d3), .val (.ref b10), .val (.long (own_val_2 d0 d1 d2 d3 r0 r1 r2 r3)), .second, .val (.long (own_tot_2 r0 r1 r2 r3)), .second, .val (.long (0 : Int64)), .second, .val (.int (0 : Int32)), .val (.int (own_adv_2_b d0 d1 d2 d3 r0 r1 r2 r3))] [(.int d3), (.int (2 : Int32)), (.int (3 : Int32)), (.ref b1), (.ref b10)])) (fun _ k => XS.ifNo X58.here hx rfl (hb hby at_240) rfl ((if0 _ _).trans (feq (show ¬ ((own_dok_2_2 e2 r2 d2) = (0 : Int32)) from by simp only [own_dok_2_2, if_pos hx2]; decide)).1) (XS.aload X58.here hx rfl (hb hby at_243) rfl rfl (XS.aload X58.here hx rfl (hb hby at_245) rfl rfl (XS.iconst X58.here hx rfl (hb hby at_247) (XS.iload X58.here hx rfl (hb hby at_248) rfl (XS.iload X58.here hx rfl (hb hby at_250) rfl k)))))) ?_
      obtain ⟨_, _, ⟨T59, L59, k59, n59⟩, -, X59, ⟨Lc59, hQ59, l59, y59, z59⟩, st59⟩ := Jvm.LawKit.callS X58 hx (y := (⟨"com/example/stratgen/stratgen/model/StateSpaceAdvancePinLaw", "digitOk", "([I[IIII)Z"⟩ : MethodName)) hown (mvT hZ (own_w hw 12 rfl)) (mvT hZ (own_w hw 13 rfl)) (mvT hZ (own_w hw 3 rfl)) (mvT hZ (own_w hw 14 rfl)) (by decide) (backOf (W := 0) (rm4_3_2 l Z a0 hw [] b10 b1 k10 k1 e0 e1 e2 e3 r0 r1 r2 r3 d3 T55.heap n0 Zs V_b10 V_b1) hZ (own_w hw 14 rfl) (own_w hw 3 rfl) (by decide) (by decide)) (g := (mkF m 252 #[.val (.int p0), .val (.int p1), .val (.int p2), .val (.int p3), .val (.int p4), .val (.int (2 : Int32)), .val (.ref b1), .val (.int d0), .val (.int d1), .val (.int d2), .val (.int d3), .val (.ref b10), .val (.long (own_val_2 d0 d1 d2 d3 r0 r1 r2 r3)), .second, .val (.long (own_tot_2 r0 r1 r2 r3)), .second, .val (.long (0 : Int64)), .second, .val (.int (0 : Int32)), .val (.int (own_adv_2_b d0 d1 d2 d3 r0 r1 r2 r3))] [(.int d3), (.int (2 : Int32)), (.int (3 : Int32)), (.ref b1), (.ref b10)])) rfl (by rw [hml]; rfl) (argsL := [(.ref b10), (.ref b1), (.int (3 : Int32)), (.int (2 : Int32)), (.int d3)]) (rest := []) (lenOf pd_3 rfl) rfl (by show 2 * 0 + _ ≤ _; exact Nat.le_of_eq rfl) (hb hby at_252) (fun _ _ => ⟨rfl, eq58, (by decide : 2 + 0 ≤ _), (by decide : 8 + 0 ≤ _)⟩)
      dsimp only [Pt.U, Pt.locs, Pt.cells, Pt.slots] at X59 l59 y59 z59 st59 hQ59
      subst l59 y59 z59
      obtain ⟨hv59, Nq59, eq59⟩ := hQ59
      subst hv59
      replace Nf := Fr.app Nf Nq59
      refine own_go (x' := T59.setTop (mkF m 255 #[.val (.int p0), .val (.int p1), .val (.int p2), .val (.int p3), .val (.int p4), .val (.int (2 : Int32)), .val (.ref b1), .val (.int d0), .val (.int d1), .val (.int d2), .val (.int d3), .val (.ref b10), .val (.long (own_val_2 d0 d1 d2 d3 r0 r1 r2 r3)), .second, .val (.long (own_tot_2 r0 r1 r2 r3)), .second, .val (.long (0 : Int64)), .second, .val (.int (0 : Int32)), .val (.int (own_adv_2_b d0 d1 d2 d3 r0 r1 r2 r3))] [(.int (own_dok_3_2 e3 r3 d3))])) st59 ?_
      refine own_go (x' := T59.setTop (mkF m 264 #[.val (.int p0), .val (.int p1), .val (.int p2), .val (.int p3), .val (.int p4), .val (.int (2 : Int32)), .val (.ref b1), .val (.int d0), .val (.int d1), .val (.int d2), .val (.int d3), .val (.ref b10), .val (.long (own_val_2 d0 d1 d2 d3 r0 r1 r2 r3)), .second, .val (.long (own_tot_2 r0 r1 r2 r3)), .second, .val (.long (0 : Int64)), .second, .val (.int (0 : Int32)), .val (.int (own_adv_2_b d0 d1 d2 d3 r0 r1 r2 r3))] [(.int (2 : Int32)), (.ref b1), (.ref b10)])) (fun _ k => XS.ifNo X59.here hx rfl (hb hby at_255) rfl ((if0 _ _).trans (feq (show ¬ ((own_dok_3_2 e3 r3 d3) = (0 : Int32)) from by simp only [own_dok_3_2, if_pos hx3]; decide)).1) (XS.aload X59.here hx rfl (hb hby at_258) rfl rfl (XS.aload X59.here hx rfl (hb hby at_260) rfl rfl (XS.iload X59.here hx rfl (hb hby at_262) rfl k)))) ?_
      obtain ⟨_, _, ⟨T60, L60, k60, n60⟩, -, X60, ⟨Lc60, hQ60, l60, y60, z60⟩, st60⟩ := Jvm.LawKit.callS X59 hx (y := (⟨"com/example/stratgen/stratgen/model/StateSpaceAdvancePinLaw", "value", "([I[II)J"⟩ : MethodName)) hown (mvT hZ (own_w hw 1 rfl)) (mvT hZ (own_w hw 2 rfl)) (mvT hZ (own_w hw 3 rfl)) (mvT hZ (own_w hw 4 rfl)) (by decide) (backOf (W := 0) (rm1_2 l Z a0 hw [] b10 b1 k10 k1 e0 e1 e2 e3 r0 r1 r2 r3 T55.heap n0 Zs V_b10 V_b1) hZ (own_w hw 4 rfl) (own_w hw 3 rfl) (by decide) (by decide)) (g := (mkF m 264 #[.val (.int p0), .val (.int p1), .val (.int p2), .val (.int p3), .val (.int p4), .val (.int (2 : Int32)), .val (.ref b1), .val (.int d0), .val (.int d1), .val (.int d2), .val (.int d3), .val (.ref b10), .val (.long (own_val_2 d0 d1 d2 d3 r0 r1 r2 r3)), .second, .val (.long (own_tot_2 r0 r1 r2 r3)), .second, .val (.long (0 : Int64)), .second, .val (.int (0 : Int32)), .val (.int (own_adv_2_b d0 d1 d2 d3 r0 r1 r2 r3))] [(.int (2 : Int32)), (.ref b1), (.ref b10)])) rfl (by rw [hml]; rfl) (argsL := [(.ref b10), (.ref b1), (.int (2 : Int32))]) (rest := []) (lenOf pd_0 rfl) rfl (by show 2 * 0 + _ ≤ _; exact Nat.le_of_eq rfl) (hb hby at_264) (fun _ _ => ⟨rfl, eq59, (by decide : 2 + 0 ≤ _), (by decide : 8 + 0 ≤ _)⟩)
      dsimp only [Pt.U, Pt.locs, Pt.cells, Pt.slots] at X60 l60 y60 z60 st60 hQ60
      subst l60 y60 z60
      obtain ⟨hv60, Nq60, eq60⟩ := hQ60
      subst hv60
      replace Nf := Fr.app Nf Nq60
      refine own_go (x' := T60.setTop (mkF m 267 #[.val (.int p0), .val (.int p1), .val (.int p2), .val (.int p3), .val (.int p4), .val (.int (2 : Int32)), .val (.ref b1), .val (.int d0), .val (.int d1), .val (.int d2), .val (.int d3), .val (.ref b10), .val (.long (own_val_2 d0 d1 d2 d3 r0 r1 r2 r3)), .second, .val (.long (own_tot_2 r0 r1 r2 r3)), .second, .val (.long (0 : Int64)), .second, .val (.int (0 : Int32)), .val (.int (own_adv_2_b d0 d1 d2 d3 r0 r1 r2 r3))] [(.long (own_val_2 e0 e1 e2 e3 r0 r1 r2 r3))])) st60 ?_
      refine own_go (x' := T60.setTop (mkF m 278 #[.val (.int p0), .val (.int p1), .val (.int p2), .val (.int p3), .val (.int p4), .val (.int (2 : Int32)), .val (.ref b1), .val (.int d0), .val (.int d1), .val (.int d2), .val (.int d3), .val (.ref b10), .val (.long (own_val_2 d0 d1 d2 d3 r0 r1 r2 r3)), .second, .val (.long (own_tot_2 r0 r1 r2 r3)), .second, .val (.long (0 : Int64)), .second, .val (.int (0 : Int32)), .val (.int (own_adv_2_b d0 d1 d2 d3 r0 r1 r2 r3))] [(.int (1 : Int32))])) (fun _ k => XS.lload X60.here hx rfl (hb hby at_267) rfl (XS.lcmp X60.here hx rfl (hb hby at_269) rfl (XS.ifNo X60.here hx rfl (hb hby at_270) rfl ((if0 _ _).trans (teq ((lw_eq (own_val_2 e0 e1 e2 e3 r0 r1 r2 r3) (0 : Int64)).mpr hV)).2) (XS.iconst X60.here hx rfl (hb hby at_273) (XS.goto X60.here hx rfl (pc0 := 274) (pc' := 278) rfl (hb hby at_274) (by decide) (by decide) k))))) ?_
      refine own_retN X60 hx hlk (t := .boolean) hret (by simp) (hb hby at_278) (w := (1 : Int32)) rfl ?_ (by decide) (by decide)
      rw [eq60]
      exact ⟨rfl, Nf⟩
  · rw [hm]
    obtain ⟨hlaw, hx0, hx1, hx2, hx3⟩ := own_law_3 d0 d1 d2 d3 r0 r1 r2 r3 gd0 gd1 gd2 gd3
    refine own_go (x' := T14.setTop (mkF m 137 #[.val (.int p0), .val (.int p1), .val (.int p2), .val (.int p3), .val (.int p4), .val (.int (3 : Int32)), .val (.ref b1), .val (.int d0), .val (.int d1), .val (.int d2), .val (.int d3), .val (.ref b10), .unset, .unset, .unset, .unset, .unset, .unset, .unset, .unset] [(.int (3 : Int32)), (.ref b1), (.ref b10)])) (fun _ k => XS.aload X15.here hx rfl (hb hby at_131) rfl rfl (XS.aload X15.here hx rfl (hb hby at_133) rfl rfl (XS.iload X15.here hx rfl (hb hby at_135) rfl k))) ?_
    obtain ⟨LL61, X61, Nf⟩ : ∃ LL : List Loc, Stand p l e room_1 s m _ below meth c T14 LL 2 8 ∧ Fr n0 LL := ⟨_, X15, Nf⟩
    obtain ⟨_, _, ⟨T62, L62, k62, n62⟩, -, X62, ⟨Lc62, hQ62, l62, y62, z62⟩, st62⟩ := Jvm.LawKit.callS X61 hx (y := (⟨"com/example/stratgen/stratgen/model/StateSpaceAdvancePinLaw", "value", "([I[II)J"⟩ : MethodName)) hown (mvT hZ (own_w hw 1 rfl)) (mvT hZ (own_w hw 2 rfl)) (mvT hZ (own_w hw 3 rfl)) (mvT hZ (own_w hw 4 rfl)) (by decide) (backOf (W := 0) (rm1_3 l Z a0 hw [] b10 b1 k10 k1 d0 d1 d2 d3 r0 r1 r2 r3 h14 n0 Zs V_b10 V_b1) hZ (own_w hw 4 rfl) (own_w hw 3 rfl) (by decide) (by decide)) (g := (mkF m 137 #[.val (.int p0), .val (.int p1), .val (.int p2), .val (.int p3), .val (.int p4), .val (.int (3 : Int32)), .val (.ref b1), .val (.int d0), .val (.int d1), .val (.int d2), .val (.int d3), .val (.ref b10), .unset, .unset, .unset, .unset, .unset, .unset, .unset, .unset] [(.int (3 : Int32)), (.ref b1), (.ref b10)])) rfl (by rw [hml]; rfl) (argsL := [(.ref b10), (.ref b1), (.int (3 : Int32))]) (rest := []) (lenOf pd_0 rfl) rfl (by show 2 * 0 + _ ≤ _; exact Nat.le_of_eq rfl) (hb hby at_137) (fun _ _ => ⟨rfl, e14, (by decide : 2 + 0 ≤ _), (by decide : 8 + 0 ≤ _)⟩)
    dsimp only [Pt.U, Pt.locs, Pt.cells, Pt.slots] at X62 l62 y62 z62 st62 hQ62
    subst l62 y62 z62
    obtain ⟨hv62, Nq62, eq62⟩ := hQ62
    subst hv62
    replace Nf := Fr.app Nf Nq62
    refine own_go (x' := T62.setTop (mkF m 140 #[.val (.int p0), .val (.int p1), .val (.int p2), .val (.int p3), .val (.int p4), .val (.int (3 : Int32)), .val (.ref b1), .val (.int d0), .val (.int d1), .val (.int d2), .val (.int d3), .val (.ref b10), .unset, .unset, .unset, .unset, .unset, .unset, .unset, .unset] [(.long (own_val_3 d0 d1 d2 d3 r0 r1 r2 r3))])) st62 ?_
    refine own_go (x' := T62.setTop (mkF m 146 #[.val (.int p0), .val (.int p1), .val (.int p2), .val (.int p3), .val (.int p4), .val (.int (3 : Int32)), .val (.ref b1), .val (.int d0), .val (.int d1), .val (.int d2), .val (.int d3), .val (.ref b10), .val (.long (own_val_3 d0 d1 d2 d3 r0 r1 r2 r3)), .second, .unset, .unset, .unset, .unset, .unset, .unset] [(.int (3 : Int32)), (.ref b1)])) (fun _ k => XS.lstore X62.here hx rfl (hb hby at_140) rfl (l' := #[.val (.int p0), .val (.int p1), .val (.int p2), .val (.int p3), .val (.int p4), .val (.int (3 : Int32)), .val (.ref b1), .val (.int d0), .val (.int d1), .val (.int d2), .val (.int d3), .val (.ref b10), .val (.long (own_val_3 d0 d1 d2 d3 r0 r1 r2 r3)), .second, .unset, .unset, .unset, .unset, .unset, .unset]) rfl (XS.aload X62.here hx rfl (hb hby at_142) rfl rfl (XS.iload X62.here hx rfl (hb hby at_144) rfl k))) ?_
    obtain ⟨_, _, ⟨T63, L63, k63, n63⟩, -, X63, ⟨Lc63, hQ63, l63, y63, z63⟩, st63⟩ := Jvm.LawKit.callS X62 hx (y := (⟨"com/example/stratgen/stratgen/model/StateSpaceAdvancePinLaw", "total", "([II)J"⟩ : MethodName)) hown (mvT hZ (own_w hw 5 rfl)) (mvT hZ (own_w hw 6 rfl)) (mvT hZ (own_w hw 3 rfl)) (mvT hZ (own_w hw 7 rfl)) (by decide) (backOf (W := 0) (rm2_3 l Z a0 hw [] b1 k1 r0 r1 r2 r3 h14 n0 Zs V_b1) hZ (own_w hw 7 rfl) (own_w hw 3 rfl) (by decide) (by decide)) (g := (mkF m 146 #[.val (.int p0), .val (.int p1), .val (.int p2), .val (.int p3), .val (.int p4), .val (.int (3 : Int32)), .val (.ref b1), .val (.int d0), .val (.int d1), .val (.int d2), .val (.int d3), .val (.ref b10), .val (.long (own_val_3 d0 d1 d2 d3 r0 r1 r2 r3)), .second, .unset, .unset, .unset, .unset, .unset, .unset] [(.int (3 : Int32)), (.ref b1)])) rfl (by rw [hml]; rfl) (argsL := [(.ref b1), (.int (3 : Int32))]) (rest := []) (lenOf pd_1 rfl) rfl (by show 2 * 0 + _ ≤ _; exact Nat.le_of_eq rfl) (hb hby at_146) (fun _ _ => ⟨rfl, eq62, (by decide : 2 + 0 ≤ _), (by decide : 8 + 0 ≤ _)⟩)
    dsimp only [Pt.U, Pt.locs, Pt.cells, Pt.slots] at X63 l63 y63 z63 st63 hQ63
    subst l63 y63 z63
    obtain ⟨hv63, Nq63, eq63⟩ := hQ63
    subst hv63
    replace Nf := Fr.app Nf Nq63
    refine own_go (x' := T63.setTop (mkF m 149 #[.val (.int p0), .val (.int p1), .val (.int p2), .val (.int p3), .val (.int p4), .val (.int (3 : Int32)), .val (.ref b1), .val (.int d0), .val (.int d1), .val (.int d2), .val (.int d3), .val (.ref b10), .val (.long (own_val_3 d0 d1 d2 d3 r0 r1 r2 r3)), .second, .unset, .unset, .unset, .unset, .unset, .unset] [(.long (own_tot_3 r0 r1 r2 r3))])) st63 ?_
    refine own_go (x' := T63.setTop (mkF m 159 #[.val (.int p0), .val (.int p1), .val (.int p2), .val (.int p3), .val (.int p4), .val (.int (3 : Int32)), .val (.ref b1), .val (.int d0), .val (.int d1), .val (.int d2), .val (.int d3), .val (.ref b10), .val (.long (own_val_3 d0 d1 d2 d3 r0 r1 r2 r3)), .second, .val (.long (own_tot_3 r0 r1 r2 r3)), .second, .val (.long ((own_val_3 d0 d1 d2 d3 r0 r1 r2 r3) + (1 : Int64))), .second, .unset, .unset] [(.long ((own_val_3 d0 d1 d2 d3 r0 r1 r2 r3) + (1 : Int64)))])) (fun _ k => XS.lstore X63.here hx rfl (hb hby at_149) rfl (l' := #[.val (.int p0), .val (.int p1), .val (.int p2), .val (.int p3), .val (.int p4), .val (.int (3 : Int32)), .val (.ref b1), .val (.int d0), .val (.int d1), .val (.int d2), .val (.int d3), .val (.ref b10), .val (.long (own_val_3 d0 d1 d2 d3 r0 r1 r2 r3)), .second, .val (.long (own_tot_3 r0 r1 r2 r3)), .second, .unset, .unset, .unset, .unset]) rfl (XS.lload X63.here hx rfl (hb hby at_151) rfl (XS.lconst X63.here hx rfl (hb hby at_153) (XS.ladd X63.here hx rfl (hb hby at_154) rfl (XS.lstore X63.here hx rfl (hb hby at_155) rfl (l' := #[.val (.int p0), .val (.int p1), .val (.int p2), .val (.int p3), .val (.int p4), .val (.int (3 : Int32)), .val (.ref b1), .val (.int d0), .val (.int d1), .val (.int d2), .val (.int d3), .val (.ref b10), .val (.long (own_val_3 d0 d1 d2 d3 r0 r1 r2 r3)), .second, .val (.long (own_tot_3 r0 r1 r2 r3)), .second, .val (.long ((own_val_3 d0 d1 d2 d3 r0 r1 r2 r3) + (1 : Int64))), .second, .unset, .unset]) rfl (XS.lload X63.here hx rfl (hb hby at_157) rfl k)))))) ?_
    refine own_go (x' := T63.setTop (mkF m 162 #[.val (.int p0), .val (.int p1), .val (.int p2), .val (.int p3), .val (.int p4), .val (.int (3 : Int32)), .val (.ref b1), .val (.int d0), .val (.int d1), .val (.int d2), .val (.int d3), .val (.ref b10), .val (.long (own_val_3 d0 d1 d2 d3 r0 r1 r2 r3)), .second, .val (.long (own_tot_3 r0 r1 r2 r3)), .second, .val (.long ((own_val_3 d0 d1 d2 d3 r0 r1 r2 r3) + (1 : Int64))), .second, .unset, .unset] [(.int (lcmpW ((own_val_3 d0 d1 d2 d3 r0 r1 r2 r3) + (1 : Int64)) (own_tot_3 r0 r1 r2 r3)))])) (fun _ k => XS.lload X63.here hx rfl (hb hby at_159) rfl (XS.lcmp X63.here hx rfl (hb hby at_161) rfl k)) ?_
    by_cases hc162 : ((own_val_3 d0 d1 d2 d3 r0 r1 r2 r3) + (1 : Int64)) < (own_tot_3 r0 r1 r2 r3)
    · refine own_go (x' := T63.setTop (mkF m 180 #[.val (.int p0), .val (.int p1), .val (.int p2), .val (.int p3), .val (.int p4), .val (.int (3 : Int32)), .val (.ref b1), .val (.int d0), .val (.int d1), .val (.int d2), .val (.int d3), .val (.ref b10), .val (.long (own_val_3 d0 d1 d2 d3 r0 r1 r2 r3)), .second, .val (.long (own_tot_3 r0 r1 r2 r3)), .second, .val (.long ((own_val_3 d0 d1 d2 d3 r0 r1 r2 r3) + (1 : Int64))), .second, .val (.int (1 : Int32)), .unset] [])) (fun _ k => XS.ifNo X63.here hx rfl (hb hby at_162) rfl ((if0 _ _).trans (tlt ((lw_lt ((own_val_3 d0 d1 d2 d3 r0 r1 r2 r3) + (1 : Int64)) (own_tot_3 r0 r1 r2 r3)).mpr hc162)).2.1) (XS.iconst X63.here hx rfl (hb hby at_165) (XS.goto X63.here hx rfl (pc0 := 166) (pc' := 170) rfl (hb hby at_166) (by decide) (by decide) (XS.istore X63.here hx rfl (hb hby at_170) rfl (l' := #[.val (.int p0), .val (.int p1), .val (.int p2), .val (.int p3), .val (.int p4), .val (.int (3 : Int32)), .val (.ref b1), .val (.int d0), .val (.int d1), .val (.int d2), .val (.int d3), .val (.ref b10), .val (.long (own_val_3 d0 d1 d2 d3 r0 r1 r2 r3)), .second, .val (.long (own_tot_3 r0 r1 r2 r3)), .second, .val (.long ((own_val_3 d0 d1 d2 d3 r0 r1 r2 r3) + (1 : Int64))), .second, .val (.int (1 : Int32)), .unset]) rfl (XS.iload X63.here hx rfl (hb hby at_172) rfl (XS.ifYes X63.here hx rfl (pc0 := 174) (pc' := 180) rfl (hb hby at_174) rfl ((if0 _ _).trans (feq (by decide +kernel : ¬ ((1 : Int32) = (0 : Int32)))).2) (by decide) (by decide) k)))))) ?_
      refine own_go (x' := T63.setTop (mkF m 186 #[.val (.int p0), .val (.int p1), .val (.int p2), .val (.int p3), .val (.int p4), .val (.int (3 : Int32)), .val (.ref b1), .val (.int d0), .val (.int d1), .val (.int d2), .val (.int d3), .val (.ref b10), .val (.long (own_val_3 d0 d1 d2 d3 r0 r1 r2 r3)), .second, .val (.long (own_tot_3 r0 r1 r2 r3)), .second, .val (.long ((own_val_3 d0 d1 d2 d3 r0 r1 r2 r3) + (1 : Int64))), .second, .val (.int (1 : Int32)), .unset] [(.int (3 : Int32)), (.ref b1), (.ref b10)])) (fun _ k => XS.aload X63.here hx rfl (hb hby at_180) rfl rfl (XS.aload X63.here hx rfl (hb hby at_182) rfl rfl (XS.iload X63.here hx rfl (hb hby at_184) rfl k))) ?_
      obtain ⟨_, _, ⟨T64, L64, k64, n64⟩, -, X64, ⟨Lc64, hQ64, l64, y64, z64⟩, st64⟩ := Jvm.LawKit.callS X63 hx (y := (⟨"com/example/stratgen/stratgen/model/StateSpace", "advance", "([I[II)Z"⟩ : MethodName)) hown (mvT hZ (own_w hw 8 rfl)) (mvT hZ (own_w hw 9 rfl)) (mvT hZ (own_w hw 10 rfl)) (mvT hZ (own_w hw 11 rfl)) (by decide) (backOf (W := 0) (rm3_3 l Z a0 hw [] b10 b1 k10 k1 d0 d1 d2 d3 r0 r1 r2 r3 h14 n0 Zs V_b10 V_b1 (Ne.symm ne_b1_b10) g_b10) hZ (own_w hw 11 rfl) (own_w hw 10 rfl) (by decide) (by decide)) (g := (mkF m 186 #[.val (.int p0), .val (.int p1), .val (.int p2), .val (.int p3), .val (.int p4), .val (.int (3 : Int32)), .val (.ref b1), .val (.int d0), .val (.int d1), .val (.int d2), .val (.int d3), .val (.ref b10), .val (.long (own_val_3 d0 d1 d2 d3 r0 r1 r2 r3)), .second, .val (.long (own_tot_3 r0 r1 r2 r3)), .second, .val (.long ((own_val_3 d0 d1 d2 d3 r0 r1 r2 r3) + (1 : Int64))), .second, .val (.int (1 : Int32)), .unset] [(.int (3 : Int32)), (.ref b1), (.ref b10)])) rfl (by rw [hml]; rfl) (argsL := [(.ref b10), (.ref b1), (.int (3 : Int32))]) (rest := []) (lenOf pd_2 rfl) rfl (by show 2 * 0 + _ ≤ _; exact Nat.le_of_eq rfl) (hb hby at_186) (fun _ _ => ⟨rfl, eq63, (by decide : 2 + 0 ≤ _), (by decide : 8 + 0 ≤ _)⟩)
      dsimp only [Pt.U, Pt.locs, Pt.cells, Pt.slots] at X64 l64 y64 z64 st64 hQ64
      subst l64 y64 z64
      obtain ⟨hv64, Nq64, K64, Vn64⟩ := hQ64
      subst hv64
      replace Nf := Fr.app Nf Nq64
      replace V_b1 := V_b1.keep K64 (ninS ne_b1_b10 nin0)
      replace Zs := Nat.le_trans Zs K64.1
      replace V_b10 := Vn64
      obtain ⟨e0, he0⟩ : ∃ z, z = (own_adv_3_0 d0 d1 d2 d3 r0 r1 r2 r3) := ⟨_, rfl⟩
      obtain ⟨e1, he1⟩ : ∃ z, z = (own_adv_3_1 d0 d1 d2 d3 r0 r1 r2 r3) := ⟨_, rfl⟩
      obtain ⟨e2, he2⟩ : ∃ z, z = (own_adv_3_2 d0 d1 d2 d3 r0 r1 r2 r3) := ⟨_, rfl⟩
      obtain ⟨e3, he3⟩ : ∃ z, z = (own_adv_3_3 d0 d1 d2 d3 r0 r1 r2 r3) := ⟨_, rfl⟩
      rw [← he0, ← he1, ← he2, ← he3] at V_b10
      refine own_go (x' := T64.setTop (mkF m 189 #[.val (.int p0), .val (.int p1), .val (.int p2), .val (.int p3), .val (.int p4), .val (.int (3 : Int32)), .val (.ref b1), .val (.int d0), .val (.int d1), .val (.int d2), .val (.int d3), .val (.ref b10), .val (.long (own_val_3 d0 d1 d2 d3 r0 r1 r2 r3)), .second, .val (.long (own_tot_3 r0 r1 r2 r3)), .second, .val (.long ((own_val_3 d0 d1 d2 d3 r0 r1 r2 r3) + (1 : Int64))), .second, .val (.int (1 : Int32)), .unset] [(.int (own_adv_3_b d0 d1 d2 d3 r0 r1 r2 r3))])) st64 ?_
      refine own_go (x' := T64.setTop (mkF m 191 #[.val (.int p0), .val (.int p1), .val (.int p2), .val (.int p3), .val (.int p4), .val (.int (3 : Int32)), .val (.ref b1), .val (.int d0), .val (.int d1), .val (.int d2), .val (.int d3), .val (.ref b10), .val (.long (own_val_3 d0 d1 d2 d3 r0 r1 r2 r3)), .second, .val (.long (own_tot_3 r0 r1 r2 r3)), .second, .val (.long ((own_val_3 d0 d1 d2 d3 r0 r1 r2 r3) + (1 : Int64))), .second, .val (.int (1 : Int32)), .val (.int (own_adv_3_b d0 d1 d2 d3 r0 r1 r2 r3))] [])) (fun _ k => XS.istore X64.here hx rfl (hb hby at_189) rfl (l' := #[.val (.int p0), .val (.int p1), .val (.int p2), .val (.int p3), .val (.int p4), .val (.int (3 : Int32)), .val (.ref b1), .val (.int d0), .val (.int d1), .val (.int d2), .val (.int d3), .val (.ref b10), .val (.long (own_val_3 d0 d1 d2 d3 r0 r1 r2 r3)), .second, .val (.long (own_tot_3 r0 r1 r2 r3)), .second, .val (.long ((own_val_3 d0 d1 d2 d3 r0 r1 r2 r3) + (1 : Int64))), .second, .val (.int (1 : Int32)), .val (.int (own_adv_3_b d0 d1 d2 d3 r0 r1 r2 r3))]) rfl k) ?_
      rw [← he0, ← he1, ← he2, ← he3] at hlaw
      rw [← he0] at hx0
      rw [← he1] at hx1
      rw [← he2] at hx2
      rw [← he3] at hx3
      obtain ⟨-, hB, hV⟩ := hlaw.resolve_right fun q => q.1 hc162
      refine own_go (x' := T64.setTop (mkF m 203 #[.val (.int p0), .val (.int p1), .val (.int p2), .val (.int p3), .val (.int p4), .val (.int (3 : Int32)), .val (.ref b1), .val (.int d0), .val (.int d1), .val (.int d2), .val (.int d3), .val (.ref b10), .val (.long (own_val_3 d0 d1 d2 d3 r0 r1 r2 r3)), .second, .val (.long (own_tot_3 r0 r1 r2 r3)), .second, .val (.long ((own_val_3 d0 d1 d2 d3 r0 r1 r2 r3) + (1 : Int64))), .second, .val (.int (1 : Int32)), .val (.int (own_adv_3_b d0 d1 d2 d3 r0 r1 r2 r3))] [(.int (0 : Int32)), (.ref b1), (.ref b10)])) (fun _ k => XS.iload X64.here hx rfl (hb hby at_191) rfl (XS.iload X64.here hx rfl (hb hby at_193) rfl (XS.icmpNo X64.here hx rfl (hb hby at_195) rfl (teq hB).2 (XS.aload X64.here hx rfl (hb hby at_198) rfl rfl (XS.aload X64.here hx rfl (hb hby at_200) rfl rfl (XS.iconst X64.here hx rfl (hb hby at_202) k)))))) ?_
      refine own_go (x' := T64.setTop (mkF m 207 #[.val (.int p0), .val (.int p1), .val (.int p2), .val (.int p3), .val (.int p4), .val (.int (3 : Int32)), .val (.ref b1), .val (.int d0), .val (.int d1), .val (.int d2), .val (.int d3), .val (.ref b10), .val (.long (own_val_3 d0 d1 d2 d3 r0 r1 r2 r3)), .second, .val (.long (own_tot_3 r0 r1 r2 r3)), .second, .val (.long ((own_val_3 d0 d1 d2 d3 r0 r1 r2 r3) + (1 : Int64))), .second, .val (.int (1 : Int32)), .val (.int (own_adv_3_b d0 d1 d2 d3 r0 r1 r2 r3))] [(.int d0), (.int (3 : Int32)), (.int (0 : Int32)), (.ref b1), (.ref b10)])) (fun _ k => XS.iload X64.here hx rfl (hb hby at_203) rfl (XS.iload X64.here hx rfl (hb hby at_205) rfl k)) ?_
      obtain ⟨_, _, ⟨T65, L65, k65, n65⟩, -, X65, ⟨Lc65, hQ65, l65, y65, z65⟩, st65⟩ := Jvm.LawKit.callS X64 hx (y := (⟨"com/example/stratgen/stratgen/model/StateSpaceAdvancePinLaw", "digitOk", "([I[IIII)Z"⟩ : MethodName)) hown (mvT hZ (own_w hw 12 rfl)) (mvT hZ (own_w hw 13 rfl)) (mvT hZ (own_w hw 3 rfl)) (mvT hZ (own_w hw 14 rfl)) (by decide) (backOf (W := 0) (rm4_0_3 l Z a0 hw [] b10 b1 k10 k1 e0 e1 e2 e3 r0 r1 r2 r3 d0 T64.heap n0 Zs V_b10 V_b1) hZ (own_w hw 14 rfl) (own_w hw 3 rfl) (by decide) (by decide)) (g := (mkF m 207 #[.val (.int p0), .val (.int p1), .val (.int p2), .val (.int p3), .val (.int p4), .val (.int (3 : Int32)), .val (.ref b1), .val (.int d0), .val (.int d1), .val (.int d2), .val (.int d3), .val (.ref b10), .val (.long (own_val_3 d0 d1 d2 d3 r0 r1 r2 r3)), .second, .val (.long (own_tot_3 r0 r1 r2 r3)), .second, .val (.long ((own_val_3 d0 d1 d2 d3 r0 r1 r2 r3) + (1 : Int64))), .second, .val (.int (1 : Int32)), .val (.int (own_adv_3_b d0 d1 d2 d3 r0 r1 r2 r3))] [(.int d0), (.int (3 : Int32)), (.int (0 : Int32)), (.ref b1), (.ref b10)])) rfl (by rw [hml]; rfl) (argsL := [(.ref b10), (.ref b1), (.int (0 : Int32)), (.int (3 : Int32)), (.int d0)]) (rest := []) (lenOf pd_3 rfl) rfl (by show 2 * 0 + _ ≤ _; exact Nat.le_of_eq rfl) (hb hby at_207) (fun _ _ => ⟨rfl, rfl, (by decide : 2 + 0 ≤ _), (by decide : 8 + 0 ≤ _)⟩)
      dsimp only [Pt.U, Pt.locs, Pt.cells, Pt.slots] at X65 l65 y65 z65 st65 hQ65
      subst l65 y65 z65
      obtain ⟨hv65, Nq65, eq65⟩ := hQ65
      subst hv65
      replace Nf := Fr.app Nf Nq65
      refine own_go (x' := T65.setTop (mkF m 210 #[.val (.int p0), .val (.int p1), .val (.int p2), .val (.int p3), .val (.int p4), .val (.int (3 : Int32)), .val (.ref b1), .val (.int d0), .val (.int d1), .val (.int d2), .val (.int d3), .val (.ref b10), .val (.long (own_val_3 d0 d1 d2 d3 r0 r1 r2 r3)), .second, .val (.long (own_tot_3 r0 r1 r2 r3)), .second, .val (.long ((own_val_3 d0 d1 d2 d3 r0 r1 r2 r3) + (1 : Int64))), .second, .val (.int (1 : Int32)), .val (.int (own_adv_3_b d0 d1 d2 d3 r0 r1 r2 r3))] [(.int (own_dok_0_3 e0 r0 d0))])) st65 ?_
      refine own_go (x' := T65.setTop (mkF m 222 #[.val (.int p0), .val (.int p1), .val (.int p2), .val (.int p3), .val (.int p4), .val (.int (3 : Int32)), .val (.ref b1), .val (.int d0), .val (.int d1), .val (.int d2), .val (.int d3), .val (.ref b10), .val (.long (own_val_3 d0 d1 d2 d3 r0 r1 r2 r3)), .second, .val (.long (own_tot_3 r0 r1 r2 r3)), .second, .val (.long ((own_val_3 d0 d1 d2 d3 r0 r1 r2 r3) + (1 : Int64))), .second, .val (.int (1 : Int32)), .val (.int (own_adv_3_b d0 d1 d2 d3 r0 r1 r2 r3))] [(.int d1), (.int (3 : Int32)), (.int (1 : Int32)), (.ref b1), (.ref b10)])) (fun _ k => XS.ifNo X65.here hx rfl (hb hby at_210) rfl ((if0 _ _).trans (feq (show ¬ ((own_dok_0_3 e0 r0 d0) = (0 : Int32)) from by simp only [own_dok_0_3, if_neg (own_ok hx0).1, if_pos (own_ok hx0).2]; decide)).1) (XS.aload X65.here hx rfl (hb hby at_213) rfl rfl (XS.aload X65.here hx rfl (hb hby at_215) rfl rfl (XS.iconst X65.here hx rfl (hb hby at_217) (XS.iload X65.here hx rfl (hb hby at_218) rfl (XS.iload X65.here hx rfl (hb hby at_220) rfl k)))))) ?_
      obtain ⟨_, _, ⟨T66, L66, k66, n66⟩, -, X66, ⟨Lc66, hQ66, l66, y66, z66⟩, st66⟩ := Jvm.LawKit.callS X65 hx (y := (⟨"com/example/stratgen/stratgen/model/StateSpaceAdvancePinLaw", "digitOk", "([I[IIII)Z"⟩ : MethodName)) hown (mvT hZ (own_w hw 12 rfl)) (mvT hZ (own_w hw 13 rfl)) (mvT hZ (own_w hw 3 rfl)) (mvT hZ (own_w hw 14 rfl)) (by decide) (backOf (W := 0) (rm4_1_3 l Z a0 hw [] b10 b1 k10 k1 e0 e1 e2 e3 r0 r1 r2 r3 d1 T64.heap n0 Zs V_b10 V_b1) hZ (own_w hw 14 rfl) (own_w hw 3 rfl) (by decide) (by decide)) (g := (mkF m 222 #[.val (.int p0), .val (.int p1), .val (.int p2), .val (.int p3), .val (.int p4), .val (.int (3 : Int32)), .val (.ref b1), .val (.int d0), .val (.int d1), .val (.int d2), .val (.int d3), .val (.ref b10), .val (.long (own_val_3 d0 d1 d2 d3 r0 r1 r2 r3)), .second, .val (.long (own_tot_3 r0 r1 r2 r3)), .second, .val (.long ((own_val_3 d0 d1 d2 d3 r0 r1 r2 r3) + (1 : Int64))), .second, .val (.int (1 : Int32)), .val (.int (own_adv_3_b d0 d1 d2 d3 r0 r1 r2 r3))] [(.int d1), (.int (3 : Int32)), (.int (1 : Int32)), (.ref b1), (.ref b10)])) rfl (by rw [hml]; rfl) (argsL := [(.ref b10), (.ref b1), (.int (1 : Int32)), (.int (3 : Int32)), (.int d1)]) (rest := []) (lenOf pd_3 rfl) rfl (by show 2 * 0 + _ ≤ _; exact Nat.le_of_eq rfl) (hb hby at_222) (fun _ _ => ⟨rfl, eq65, (by decide : 2 + 0 ≤ _), (by decide : 8 + 0 ≤ _)⟩)
      dsimp only [Pt.U, Pt.locs, Pt.cells, Pt.slots] at X66 l66 y66 z66 st66 hQ66
      subst l66 y66 z66
      obtain ⟨hv66, Nq66, eq66⟩ := hQ66
      subst hv66
      replace Nf := Fr.app Nf Nq66
      refine own_go (x' := T66.setTop (mkF m 225 #[.val (.int p0), .val (.int p1), .val (.int p2), .val (.int p3), .val (.int p4), .val (.int (3 : Int32)), .val (.ref b1), .val (.int d0), .val (.int d1), .val (.int d2), .val (.int d3), .val (.ref b10), .val (.long (own_val_3 d0 d1 d2 d3 r0 r1 r2 r3)), .second, .val (.long (own_tot_3 r0 r1 r2 r3)), .second, .val (.long ((own_val_3 d0 d1 d2 d3 r0 r1 r2 r3) + (1 : Int64))), .second, .val (.int (1 : Int32)), .val (.int (own_adv_3_b d0 d1 d2 d3 r0 r1 r2 r3))] [(.int (own_dok_1_3 e1 r1 d1))])) st66 ?_
      refine own_go (x' := T66.setTop (mkF m 237 #[.val (.int p0), .val (.int p1), .val (.int p2), .val (.int p3), .val (.int p4), .val (.int (3 : Int32)), .val (.ref b1), .val (.int d0), .val (.int d1), .val (.int d2), .val (.int d3), .val (.ref b10), .val (.long (own_val_3 d0 d1 d2 d3 r0 r1 r2 r3)), .second, .val (.long (own_tot_3 r0 r1 r2 r3)), .second, .val (.long ((own_val_3 d0 d1 d2 d3 r0 r1 r2 r3) + (1 : Int64))), .second, .val (.int (1 : Int32)), .val (.int (own_adv_3_b d0 d1 d2 d3 r0 r1 r2 r3))] [(.int d2), (.int (3 : Int32)), (.int (2 : Int32)), (.ref b1), (.ref b10)])) (fun _ k => XS.ifNo X66.here hx rfl (hb hby at_225) rfl ((if0 _ _).trans (feq (show ¬ ((own_dok_1_3 e1 r1 d1) = (0 : Int32)) from by simp only [own_dok_1_3, if_neg (own_ok hx1).1, if_pos (own_ok hx1).2]; decide)).1) (XS.aload X66.here hx rfl (hb hby at_228) rfl rfl (XS.aload X66.here hx rfl (hb hby at_230) rfl rfl (XS.iconst X66.here hx rfl (hb hby at_232) (XS.iload X66.here hx rfl (hb hby at_233) rfl (XS.iload X66.here hx rfl (hb hby at_235) rfl k)))))) ?_
      obtain ⟨_, _, ⟨T67, L67, k67, n67⟩, -, X67, ⟨Lc67, hQ67, l67, y67, z67⟩, st67⟩ := Jvm.LawKit.callS X66 hx (y := (⟨"com/example/stratgen/stratgen/model/StateSpaceAdvancePinLaw", "digitOk", "([I[IIII)Z"⟩ : MethodName)) hown (mvT hZ (own_w hw 12 rfl)) (mvT hZ (own_w hw 13 rfl)) (mvT hZ (own_w hw 3 rfl)) (mvT hZ (own_w hw 14 rfl)) (by decide) (backOf (W := 0) (rm4_2_3 l Z a0 hw [] b10 b1 k10 k1 e0 e1 e2 e3 r0 r1 r2 r3 d2 T64.heap n0 Zs V_b10 V_b1) hZ (own_w hw 14 rfl) (own_w hw 3 rfl) (by decide) (by decide)) (g := (mkF m 237 #[.val (.int p0), .val (.int p1), .val (.int p2), .val (.int p3), .val (.int p4), .val (.int (3 : Int32)), .val (.ref b1), .val (.int d0), .val (.int d1), .val (.int d2), .val (.int d3), .val (.ref b10), .val (.long (own_val_3 d0 d1 d2 d3 r0 r1 r2 r3)), .second, .val (.long (own_tot_3 r0 r1 r2 r3)), .second, .val (.long ((own_val_3 d0 d1 d2 d3 r0 r1 r2 r3) + (1 : Int64))), .second, .val (.int (1 : Int32)), .val (.int (own_adv_3_b d0 d1 d2 d3 r0 r1 r2 r3))] [(.int d2), (.int (3 : Int32)), (.int (2 : Int32)), (.ref b1), (.ref b10)])) rfl (by rw [hml]; rfl) (argsL := [(.ref b10), (.ref b1), (.int (2 : Int32)), (.int (3 : Int32)), (.int d2)]) (rest := []) (lenOf pd_3 rfl) rfl (by show 2 * 0 + _ ≤ _; exact Nat.le_of_eq rfl) (hb hby at_237) (fun _ _ => ⟨rfl, eq66, (by decide : 2 + 0 ≤ _), (by decide : 8 + 0 ≤ _)⟩)
      dsimp only [Pt.U, Pt.locs, Pt.cells, Pt.slots] at X67 l67 y67 z67 st67 hQ67
      subst l67 y67 z67
      obtain ⟨hv67, Nq67, eq67⟩ := hQ67
      subst hv67
      replace Nf := Fr.app Nf Nq67
      refine own_go (x' := T67.setTop (mkF m 240 #[.val (.int p0), .val (.int p1), .val (.int p2), .val (.int p3), .val (.int p4), .val (.int (3 : Int32)), .val (.ref b1), .val (.int d0), .val (.int d1), .val (.int d2), .val (.int d3), .val (.ref b10), .val (.long (own_val_3 d0 d1 d2 d3 r0 r1 r2 r3)), .second, .val (.long (own_tot_3 r0 r1 r2 r3)), .second, .val (.long ((own_val_3 d0 d1 d2 d3 r0 r1 r2 r3) + (1 : Int64))), .second, .val (.int (1 : Int32)), .val (.int (own_adv_3_b d0 d1 d2 d3 r0 r1 r2 r3))] [(.int (own_dok_2_3 e2 r2 d2))])) st67 ?_
      refine own_go (x' := T67.setTop (mkF m 252 #[.val (.int p0), .val (.int p1), .val (.int p2), .val (.int p3), .val (.int p4), .val (.int (3 : Int32)), .val (.ref b1), .val (.int d0), .val (.int d1), .val (.int d2), .val (.int d3), .val (.ref b10), .val (.long (own_val_3 d0 d1 d2 d3 r0 r1 r2 r3)), .second, .val (.long (own_tot_3 r0 r1 r2 r3)), .second, .val (.long ((own_val_3 d0 d1 d2 d3 r0 r1 r2 r3) + (1 : Int64))), .second, .val (.int (1 : Int32)), .val (.int (own_adv_3_b d0 d1 d2 d3 r0 r1 r2 r3))] [(.int d3), (.int (3 : Int32)), (.int (3 : Int32)), (.ref b1), (.ref b10)])) (fun _ k => XS.ifNo X67.here hx rfl (hb hby at_240) rfl ((if0 _ _).trans (feq (show ¬ ((own_dok_2_3 e2 r2 d2) = (0 : Int32)) from by simp only [own_dok_2_3, if_neg (own_ok hx2).1, if_pos (own_ok hx2).2]; decide)).1) (XS.aload X67.here hx rfl (hb hby at_243) rfl rfl (XS.aload X67.here hx rfl (hb hby at_245) rfl rfl (XS.iconst X67.here hx rfl (hb hby at_247) (XS.iload X67.here hx rfl (hb hby at_248) rfl (XS.iload X67.here hx rfl (hb hby at_250) rfl k)))))) ?_
      obtain ⟨_, _, ⟨T68, L68, k68, n68⟩, -, X68, ⟨Lc68, hQ68, l68, y68, z68⟩, st68⟩ := Jvm.LawKit.callS X67 hx (y := (⟨"com/example/stratgen/stratgen/model/StateSpaceAdvancePinLaw", "digitOk", "([I[IIII)Z"⟩ : MethodName)) hown (mvT hZ (own_w hw 12 rfl)) (mvT hZ (own_w hw 13 rfl)) (mvT hZ (own_w hw 3 rfl)) (mvT hZ (own_w hw 14 rfl)) (by decide) (backOf (W := 0) (rm4_3_3 l Z a0 hw [] b10 b1 k10 k1 e0 e1 e2 e3 r0 r1 r2 r3 d3 T64.heap n0 Zs V_b10 V_b1) hZ (own_w hw 14 rfl) (own_w hw 3 rfl) (by decide) (by decide)) (g := (mkF m 252 #[.val (.int p0), .val (.int p1), .val (.int p2), .val (.int p3), .val (.int p4), .val (.int (3 : Int32)), .val (.ref b1), .val (.int d0), .val (.int d1), .val (.int d2), .val (.int d3), .val (.ref b10), .val (.long (own_val_3 d0 d1 d2 d3 r0 r1 r2 r3)), .second, .val (.long (own_tot_3 r0 r1 r2 r3)), .second, .val (.long ((own_val_3 d0 d1 d2 d3 r0 r1 r2 r3) + (1 : Int64))), .second, .val (.int (1 : Int32)), .val (.int (own_adv_3_b d0 d1 d2 d3 r0 r1 r2 r3))] [(.int d3), (.int (3 : Int32)), (.int (3 : Int32)), (.ref b1), (.ref b10)])) rfl (by rw [hml]; rfl) (argsL := [(.ref b10), (.ref b1), (.int (3 : Int32)), (.int (3 : Int32)), (.int d3)]) (rest := []) (lenOf pd_3 rfl) rfl (by show 2 * 0 + _ ≤ _; exact Nat.le_of_eq rfl) (hb hby at_252) (fun _ _ => ⟨rfl, eq67, (by decide : 2 + 0 ≤ _), (by decide : 8 + 0 ≤ _)⟩)
      dsimp only [Pt.U, Pt.locs, Pt.cells, Pt.slots] at X68 l68 y68 z68 st68 hQ68
      subst l68 y68 z68
      obtain ⟨hv68, Nq68, eq68⟩ := hQ68
      subst hv68
      replace Nf := Fr.app Nf Nq68
      refine own_go (x' := T68.setTop (mkF m 255 #[.val (.int p0), .val (.int p1), .val (.int p2), .val (.int p3), .val (.int p4), .val (.int (3 : Int32)), .val (.ref b1), .val (.int d0), .val (.int d1), .val (.int d2), .val (.int d3), .val (.ref b10), .val (.long (own_val_3 d0 d1 d2 d3 r0 r1 r2 r3)), .second, .val (.long (own_tot_3 r0 r1 r2 r3)), .second, .val (.long ((own_val_3 d0 d1 d2 d3 r0 r1 r2 r3) + (1 : Int64))), .second, .val (.int (1 : Int32)), .val (.int (own_adv_3_b d0 d1 d2 d3 r0 r1 r2 r3))] [(.int (own_dok_3_3 e3 r3 d3))])) st68 ?_
      refine own_go (x' := T68.setTop (mkF m 264 #[.val (.int p0), .val (.int p1), .val (.int p2), .val (.int p3), .val (.int p4), .val (.int (3 : Int32)), .val (.ref b1), .val (.int d0), .val (.int d1), .val (.int d2), .val (.int d3), .val (.ref b10), .val (.long (own_val_3 d0 d1 d2 d3 r0 r1 r2 r3)), .second, .val (.long (own_tot_3 r0 r1 r2 r3)), .second, .val (.long ((own_val_3 d0 d1 d2 d3 r0 r1 r2 r3) + (1 : Int64))), .second, .val (.int (1 : Int32)), .val (.int (own_adv_3_b d0 d1 d2 d3 r0 r1 r2 r3))] [(.int (3 : Int32)), (.ref b1), (.ref b10)])) (fun _ k => XS.ifNo X68.here hx rfl (hb hby at_255) rfl ((if0 _ _).trans (feq (show ¬ ((own_dok_3_3 e3 r3 d3) = (0 : Int32)) from by simp only [own_dok_3_3, if_pos hx3]; decide)).1) (XS.aload X68.here hx rfl (hb hby at_258) rfl rfl (XS.aload X68.here hx rfl (hb hby at_260) rfl rfl (XS.iload X68.here hx rfl (hb hby at_262) rfl k)))) ?_
      obtain ⟨_, _, ⟨T69, L69, k69, n69⟩, -, X69, ⟨Lc69, hQ69, l69, y69, z69⟩, st69⟩ := Jvm.LawKit.callS X68 hx (y := (⟨"com/example/stratgen/stratgen/model/StateSpaceAdvancePinLaw", "value", "([I[II)J"⟩ : MethodName)) hown (mvT hZ (own_w hw 1 rfl)) (mvT hZ (own_w hw 2 rfl)) (mvT hZ (own_w hw 3 rfl)) (mvT hZ (own_w hw 4 rfl)) (by decide) (backOf (W := 0) (rm1_3 l Z a0 hw [] b10 b1 k10 k1 e0 e1 e2 e3 r0 r1 r2 r3 T64.heap n0 Zs V_b10 V_b1) hZ (own_w hw 4 rfl) (own_w hw 3 rfl) (by decide) (by decide)) (g := (mkF m 264 #[.val (.int p0), .val (.int p1), .val (.int p2), .val (.int p3), .val (.int p4), .val (.int (3 : Int32)), .val (.ref b1), .val (.int d0), .val (.int d1), .val (.int d2), .val (.int d3), .val (.ref b10), .val (.long (own_val_3 d0 d1 d2 d3 r0 r1 r2 r3)), .second, .val (.long (own_tot_3 r0 r1 r2 r3)), .second, .val (.long ((own_val_3 d0 d1 d2 d3 r0 r1 r2 r3) + (1 : Int64))), .second, .val (.int (1 : Int32)), .val (.int (own_adv_3_b d0 d1 d2 d3 r0 r1 r2 r3))] [(.int (3 : Int32)), (.ref b1), (.ref b10)])) rfl (by rw [hml]; rfl) (argsL := [(.ref b10), (.ref b1), (.int (3 : Int32))]) (rest := []) (lenOf pd_0 rfl) rfl (by show 2 * 0 + _ ≤ _; exact Nat.le_of_eq rfl) (hb hby at_264) (fun _ _ => ⟨rfl, eq68, (by decide : 2 + 0 ≤ _), (by decide : 8 + 0 ≤ _)⟩)
      dsimp only [Pt.U, Pt.locs, Pt.cells, Pt.slots] at X69 l69 y69 z69 st69 hQ69
      subst l69 y69 z69
      obtain ⟨hv69, Nq69, eq69⟩ := hQ69
      subst hv69
      replace Nf := Fr.app Nf Nq69
      refine own_go (x' := T69.setTop (mkF m 267 #[.val (.int p0), .val (.int p1), .val (.int p2), .val (.int p3), .val (.int p4), .val (.int (3 : Int32)), .val (.ref b1), .val (.int d0), .val (.int d1), .val (.int d2), .val (.int d3), .val (.ref b10), .val (.long (own_val_3 d0 d1 d2 d3 r0 r1 r2 r3)), .second, .val (.long (own_tot_3 r0 r1 r2 r3)), .second, .val (.long ((own_val_3 d0 d1 d2 d3 r0 r1 r2 r3) + (1 : Int64))), .second, .val (.int (1 : Int32)), .val (.int (own_adv_3_b d0 d1 d2 d3 r0 r1 r2 r3))] [(.long (own_val_3 e0 e1 e2 e3 r0 r1 r2 r3))])) st69 ?_
      refine own_go (x' := T69.setTop (mkF m 278 #[.val (.int p0), .val (.int p1), .val (.int p2), .val (.int p3), .val (.int p4), .val (.int (3 : Int32)), .val (.ref b1), .val (.int d0), .val (.int d1), .val (.int d2), .val (.int d3), .val (.ref b10), .val (.long (own_val_3 d0 d1 d2 d3 r0 r1 r2 r3)), .second, .val (.long (own_tot_3 r0 r1 r2 r3)), .second, .val (.long ((own_val_3 d0 d1 d2 d3 r0 r1 r2 r3) + (1 : Int64))), .second, .val (.int (1 : Int32)), .val (.int (own_adv_3_b d0 d1 d2 d3 r0 r1 r2 r3))] [(.int (1 : Int32))])) (fun _ k => XS.lload X69.here hx rfl (hb hby at_267) rfl (XS.lcmp X69.here hx rfl (hb hby at_269) rfl (XS.ifNo X69.here hx rfl (hb hby at_270) rfl ((if0 _ _).trans (teq ((lw_eq (own_val_3 e0 e1 e2 e3 r0 r1 r2 r3) ((own_val_3 d0 d1 d2 d3 r0 r1 r2 r3) + (1 : Int64))).mpr hV)).2) (XS.iconst X69.here hx rfl (hb hby at_273) (XS.goto X69.here hx rfl (pc0 := 274) (pc' := 278) rfl (hb hby at_274) (by decide) (by decide) k))))) ?_
      refine own_retN X69 hx hlk (t := .boolean) hret (by simp) (hb hby at_278) (w := (1 : Int32)) rfl ?_ (by decide) (by decide)
      rw [eq69]
      exact ⟨rfl, Nf⟩
    · refine own_go (x' := T63.setTop (mkF m 178 #[.val (.int p0), .val (.int p1), .val (.int p2), .val (.int p3), .val (.int p4), .val (.int (3 : Int32)), .val (.ref b1), .val (.int d0), .val (.int d1), .val (.int d2), .val (.int d3), .val (.ref b10), .val (.long (own_val_3 d0 d1 d2 d3 r0 r1 r2 r3)), .second, .val (.long (own_tot_3 r0 r1 r2 r3)), .second, .val (.long ((own_val_3 d0 d1 d2 d3 r0 r1 r2 r3) + (1 : Int64))), .second, .val (.int (0 : Int32)), .unset] [(.long (0 : Int64))])) (fun _ k => XS.ifYes X63.here hx rfl (pc0 := 162) (pc' := 169) rfl (hb hby at_162) rfl ((if0 _ _).trans (flt (fun q_ => hc162 ((lw_lt ((own_val_3 d0 d1 d2 d3 r0 r1 r2 r3) + (1 : Int64)) (own_tot_3 r0 r1 r2 r3)).mp q_))).2.1) (by decide) (by decide) (XS.iconst X63.here hx rfl (hb hby at_169) (XS.istore X63.here hx rfl (hb hby at_170) rfl (l' := #[.val (.int p0), .val (.int p1), .val (.int p2), .val (.int p3), .val (.int p4), .val (.int (3 : Int32)), .val (.ref b1), .val (.int d0), .val (.int d1), .val (.int d2), .val (.int d3), .val (.ref b10), .val (.long (own_val_3 d0 d1 d2 d3 r0 r1 r2 r3)), .second, .val (.long (own_tot_3 r0 r1 r2 r3)), .second, .val (.long ((own_val_3 d0 d1 d2 d3 r0 r1 r2 r3) + (1 : Int64))), .second, .val (.int (0 : Int32)), .unset]) rfl (XS.iload X63.here hx rfl (hb hby at_172) rfl (XS.ifNo X63.here hx rfl (hb hby at_174) rfl ((if0 _ _).trans (teq rfl).2) (XS.lconst X63.here hx rfl (hb hby at_177) k)))))) ?_
      refine own_go (x' := T63.setTop (mkF m 186 #[.val (.int p0), .val (.int p1), .val (.int p2), .val (.int p3), .val (.int p4), .val (.int (3 : Int32)), .val (.ref b1), .val (.int d0), .val (.int d1), .val (.int d2), .val (.int d3), .val (.ref b10), .val (.long (own_val_3 d0 d1 d2 d3 r0 r1 r2 r3)), .second, .val (.long (own_tot_3 r0 r1 r2 r3)), .second, .val (.long (0 : Int64)), .second, .val (.int (0 : Int32)), .unset] [(.int (3 : Int32)), (.ref b1), (.ref b10)])) (fun _ k => XS.lstore X63.here hx rfl (hb hby at_178) rfl (l' := #[.val (.int p0), .val (.int p1), .val (.int p2), .val (.int p3), .val (.int p4), .val (.int (3 : Int32)), .val (.ref b1), .val (.int d0), .val (.int d1), .val (.int d2), .val (.int d3), .val (.ref b10), .val (.long (own_val_3 d0 d1 d2 d3 r0 r1 r2 r3)), .second, .val (.long (own_tot_3 r0 r1 r2 r3)), .second, .val (.long (0 : Int64)), .second, .val (.int (0 : Int32)), .unset]) rfl (XS.aload X63.here hx rfl (hb hby at_180) rfl rfl (XS.aload X63.here hx rfl (hb hby at_182) rfl rfl (XS.iload X63.here hx rfl (hb hby at_184) rfl k)))) ?_
      obtain ⟨_, _, ⟨T70, L70, k70, n70⟩, -, X70, ⟨Lc70, hQ70, l70, y70, z70⟩, st70⟩ := Jvm.LawKit.callS X63 hx (y := (⟨"com/example/stratgen/stratgen/model/StateSpace", "advance", "([I[II)Z"⟩ : MethodName)) hown (mvT hZ (own_w hw 8 rfl)) (mvT hZ (own_w hw 9 rfl)) (mvT hZ (own_w hw 10 rfl)) (mvT hZ (own_w hw 11 rfl)) (by decide) (backOf (W := 0) (rm3_3 l Z a0 hw [] b10 b1 k10 k1 d0 d1 d2 d3 r0 r1 r2 r3 h14 n0 Zs V_b10 V_b1 (Ne.symm ne_b1_b10) g_b10) hZ (own_w hw 11 rfl) (own_w hw 10 rfl) (by decide) (by decide)) (g := (mkF m 186 #[.val (.int p0), .val (.int p1), .val (.int p2), .val (.int p3), .val (.int p4), .val (.int (3 : Int32)), .val (.ref b1), .val (.int d0), .val (.int d1), .val (.int d2), .val (.int d3), .val (.ref b10), .val (.long (own_val_3 d0 d1 d2 d3 r0 r1 r2 r3)), .second, .val (.long (own_tot_3 r0 r1 r2 r3)), .second, .val (.long (0 : Int64)), .second, .val (.int (0 : Int32)), .unset] [(.int (3 : Int32)), (.ref b1), (.ref b10)])) rfl (by rw [hml]; rfl) (argsL := [(.ref b10), (.ref b1), (.int (3 : Int32))]) (rest := []) (lenOf pd_2 rfl) rfl (by show 2 * 0 + _ ≤ _; exact Nat.le_of_eq rfl) (hb hby at_186) (fun _ _ => ⟨rfl, eq63, (by decide : 2 + 0 ≤ _), (by decide : 8 + 0 ≤ _)⟩)
      dsimp only [Pt.U, Pt.locs, Pt.cells, Pt.slots] at X70 l70 y70 z70 st70 hQ70
      subst l70 y70 z70
      obtain ⟨hv70, Nq70, K70, Vn70⟩ := hQ70
      subst hv70
      replace Nf := Fr.app Nf Nq70
      replace V_b1 := V_b1.keep K70 (ninS ne_b1_b10 nin0)
      replace Zs := Nat.le_trans Zs K70.1
      replace V_b10 := Vn70
      obtain ⟨e0, he0⟩ : ∃ z, z = (own_adv_3_0 d0 d1 d2 d3 r0 r1 r2 r3) := ⟨_, rfl⟩
      obtain ⟨e1, he1⟩ : ∃ z, z = (own_adv_3_1 d0 d1 d2 d3 r0 r1 r2 r3) := ⟨_, rfl⟩
      obtain ⟨e2, he2⟩ : ∃ z, z = (own_adv_3_2 d0 d1 d2 d3 r0 r1 r2 r3) := ⟨_, rfl⟩
      obtain ⟨e3, he3⟩ : ∃ z, z = (own_adv_3_3 d0 d1 d2 d3 r0 r1 r2 r3) := ⟨_, rfl⟩
      rw [← he0, ← he1, ← he2, ← he3] at V_b10
      refine own_go (x' := T70.setTop (mkF m 189 #[.val (.int p0), .val (.int p1), .val (.int p2), .val (.int p3), .val (.int p4), .val (.int (3 : Int32)), .val (.ref b1), .val (.int d0), .val (.int d1), .val (.int d2), .val (.int d3), .val (.ref b10), .val (.long (own_val_3 d0 d1 d2 d3 r0 r1 r2 r3)), .second, .val (.long (own_tot_3 r0 r1 r2 r3)), .second, .val (.long (0 : Int64)), .second, .val (.int (0 : Int32)), .unset] [(.int (own_adv_3_b d0 d1 d2 d3 r0 r1 r2 r3))])) st70 ?_
      refine own_go (x' := T70.setTop (mkF m 191 #[.val (.int p0), .val (.int p1), .val (.int p2), .val (.int p3), .val (.int p4), .val (.int (3 : Int32)), .val (.ref b1), .val (.int d0), .val (.int d1), .val (.int d2), .val (.int d3), .val (.ref b10), .val (.long (own_val_3 d0 d1 d2 d3 r0 r1 r2 r3)), .second, .val (.long (own_tot_3 r0 r1 r2 r3)), .second, .val (.long (0 : Int64)), .second, .val (.int (0 : Int32)), .val (.int (own_adv_3_b d0 d1 d2 d3 r0 r1 r2 r3))] [])) (fun _ k => XS.istore X70.here hx rfl (hb hby at_189) rfl (l' := #[.val (.int p0), .val (.int p1), .val (.int p2), .val (.int p3), .val (.int p4), .val (.int (3 : Int32)), .val (.ref b1), .val (.int d0), .val (.int d1), .val (.int d2), .val (.int d3), .val (.ref b10), .val (.long (own_val_3 d0 d1 d2 d3 r0 r1 r2 r3)), .second, .val (.long (own_tot_3 r0 r1 r2 r3)), .second, .val (.long (0 : Int64)), .second, .val (.int (0 : Int32)), .val (.int (own_adv_3_b d0 d1 d2 d3 r0 r1 r2 r3))]) rfl k) ?_
      rw [← he0, ← he1, ← he2, ← he3] at hlaw
      rw [← he0] at hx0
      rw [← he1] at hx1
      rw [← he2] at hx2
      rw [← he3] at hx3
      obtain ⟨-, hB, hV⟩ := hlaw.resolve_left fun q => hc162 q.1
      refine own_go (x' := T70.setTop (mkF m 203 #[.val (.int p0), .val (.int p1), .val (.int p2), .val (.int p3), .val (.int p4), .val (.int (3 : Int32)), .val (.ref b1), .val (.int d0), .val (.int d1), .val (.int d2), .val (.int d3), .val (.ref b10), .val (.long (own_val_3 d0 d1 d2 d3 r0 r1 r2 r3)), .second, .val (.long (own_tot_3 r0 r1 r2 r3)), .second, .val (.long (0 : Int64)), .second, .val (.int (0 : Int32)), .val (.int (own_adv_3_b d0 d1 d2 d3 r0 r1 r2 r3))] [(.int (0 : Int32)), (.ref b1), (.ref b10)])) (fun _ k => XS.iload X70.here hx rfl (hb hby at_191) rfl (XS.iload X70.here hx rfl (hb hby at_193) rfl (XS.icmpNo X70.here hx rfl (hb hby at_195) rfl (teq hB).2 (XS.aload X70.here hx rfl (hb hby at_198) rfl rfl (XS.aload X70.here hx rfl (hb hby at_200) rfl rfl (XS.iconst X70.here hx rfl (hb hby at_202) k)))))) ?_
      refine own_go (x' := T70.setTop (mkF m 207 #[.val (.int p0), .val (.int p1), .val (.int p2), .val (.int p3), .val (.int p4), .val (.int (3 : Int32)), .val (.ref b1), .val (.int d0), .val (.int d1), .val (.int d2), .val (.int d3), .val (.ref b10), .val (.long (own_val_3 d0 d1 d2 d3 r0 r1 r2 r3)), .second, .val (.long (own_tot_3 r0 r1 r2 r3)), .second, .val (.long (0 : Int64)), .second, .val (.int (0 : Int32)), .val (.int (own_adv_3_b d0 d1 d2 d3 r0 r1 r2 r3))] [(.int d0), (.int (3 : Int32)), (.int (0 : Int32)), (.ref b1), (.ref b10)])) (fun _ k => XS.iload X70.here hx rfl (hb hby at_203) rfl (XS.iload X70.here hx rfl (hb hby at_205) rfl k)) ?_
      obtain ⟨_, _, ⟨T71, L71, k71, n71⟩, -, X71, ⟨Lc71, hQ71, l71, y71, z71⟩, st71⟩ := Jvm.LawKit.callS X70 hx (y := (⟨"com/example/stratgen/stratgen/model/StateSpaceAdvancePinLaw", "digitOk", "([I[IIII)Z"⟩ : MethodName)) hown (mvT hZ (own_w hw 12 rfl)) (mvT hZ (own_w hw 13 rfl)) (mvT hZ (own_w hw 3 rfl)) (mvT hZ (own_w hw 14 rfl)) (by decide) (backOf (W := 0) (rm4_0_3 l Z a0 hw [] b10 b1 k10 k1 e0 e1 e2 e3 r0 r1 r2 r3 d0 T70.heap n0 Zs V_b10 V_b1) hZ (own_w hw 14 rfl) (own_w hw 3 rfl) (by decide) (by decide)) (g := (mkF m 207 #[.val (.int p0), .val (.int p1), .val (.int p2), .val (.int p3), .val (.int p4), .val (.int (3 : Int32)), .val (.ref b1), .val (.int d0), .val (.int d1), .val (.int d2), .val (.int d3), .val (.ref b10), .val (.long (own_val_3 d0 d1 d2 d3 r0 r1 r2 r3)), .second, .val (.long (own_tot_3 r0 r1 r2 r3)), .second, .val (.long (0 : Int64)), .second, .val (.int (0 : Int32)), .val (.int (own_adv_3_b d0 d1 d2 d3 r0 r1 r2 r3))] [(.int d0), (.int (3 : Int32)), (.int (0 : Int32)), (.ref b1), (.ref b10)])) rfl (by rw [hml]; rfl) (argsL := [(.ref b10), (.ref b1), (.int (0 : Int32)), (.int (3 : Int32)), (.int d0)]) (rest := []) (lenOf pd_3 rfl) rfl (by show 2 * 0 + _ ≤ _; exact Nat.le_of_eq rfl) (hb hby at_207) (fun _ _ => ⟨rfl, rfl, (by decide : 2 + 0 ≤ _), (by decide : 8 + 0 ≤ _)⟩)
      dsimp only [Pt.U, Pt.locs, Pt.cells, Pt.slots] at X71 l71 y71 z71 st71 hQ71
      subst l71 y71 z71
      obtain ⟨hv71, Nq71, eq71⟩ := hQ71
      subst hv71
      replace Nf := Fr.app Nf Nq71
      refine own_go (x' := T71.setTop (mkF m 210 #[.val (.int p0), .val (.int p1), .val (.int p2), .val (.int p3), .val (.int p4), .val (.int (3 : Int32)), .val (.ref b1), .val (.int d0), .val (.int d1), .val (.int d2), .val (.int d3), .val (.ref b10), .val (.long (own_val_3 d0 d1 d2 d3 r0 r1 r2 r3)), .second, .val (.long (own_tot_3 r0 r1 r2 r3)), .second, .val (.long (0 : Int64)), .second, .val (.int (0 : Int32)), .val (.int (own_adv_3_b d0 d1 d2 d3 r0 r1 r2 r3))] [(.int (own_dok_0_3 e0 r0 d0))])) st71 ?_
      refine own_go (x' := T71.setTop (mkF m 222 #[.val (.int p0), .val (.int p1), .val (.int p2), .val (.int p3), .val (.int p4), .val (.int (3 : Int32)), .val (.ref b1), .val (.int d0), .val (.int d1), .val (.int d2), .val (.int d3), .val (.ref b10), .val (.long (own_val_3 d0 d1 d2 d3 r0 r1 r2 r3)), .second, .val (.long (own_tot_3 r0 r1 r2 r3)), .second, .val (.long (0 : Int64)), .second, .val (.int (0 : Int32)), .val (.int (own_adv_3_b d0 d1 d2 d3 r0 r1 r2 r3))] [(.int d1), (.int (3 : Int32)), (.int (1 : Int32)), (.ref b1), (.ref b10)])) (fun _ k => XS.ifNo X71.here hx rfl (hb hby at_210) rfl ((if0 _ _).trans (feq (show ¬ ((own_dok_0_3 e0 r0 d0) = (0 : Int32)) from by simp only [own_dok_0_3, if_neg (own_ok hx0).1, if_pos (own_ok hx0).2]; decide)).1) (XS.aload X71.here hx rfl (hb hby at_213) rfl rfl (XS.aload X71.here hx rfl (hb hby at_215) rfl rfl (XS.iconst X71.here hx rfl (hb hby at_217) (XS.iload X71.here hx rfl (hb hby at_218) rfl (XS.iload X71.here hx rfl (hb hby at_220) rfl k)))))) ?_
      obtain ⟨_, _, ⟨T72, L72, k72, n72⟩, -, X72, ⟨Lc72, hQ72, l72, y72, z72⟩, st72⟩ := Jvm.LawKit.callS X71 hx (y := (⟨"com/example/stratgen/stratgen/model/StateSpaceAdvancePinLaw", "digitOk", "([I[IIII)Z"⟩ : MethodName)) hown (mvT hZ (own_w hw 12 rfl)) (mvT hZ (own_w hw 13 rfl)) (mvT hZ (own_w hw 3 rfl)) (mvT hZ (own_w hw 14 rfl)) (by decide) (backOf (W := 0) (rm4_1_3 l Z a0 hw [] b10 b1 k10 k1 e0 e1 e2 e3 r0 r1 r2 r3 d1 T70.heap n0 Zs V_b10 V_b1) hZ (own_w hw 14 rfl) (own_w hw 3 rfl) (by decide) (by decide)) (g := (mkF m 222 #[.val (.int p0), .val (.int p1), .val (.int p2), .val (.int p3), .val (.int p4), .val (.int (3 : Int32)), .val (.ref b1), .val (.int d0), .val (.int d1), .val (.int d2), .val (.int d3), .val (.ref b10), .val (.long (own_val_3 d0 d1 d2 d3 r0 r1 r2 r3)), .second, .val (.long (own_tot_3 r0 r1 r2 r3)), .second, .val (.long (0 : Int64)), .second, .val (.int (0 : Int32)), .val (.int (own_adv_3_b d0 d1 d2 d3 r0 r1 r2 r3))] [(.int d1), (.int (3 : Int32)), (.int (1 : Int32)), (.ref b1), (.ref b10)])) rfl (by rw [hml]; rfl) (argsL := [(.ref b10), (.ref b1), (.int (1 : Int32)), (.int (3 : Int32)), (.int d1)]) (rest := []) (lenOf pd_3 rfl) rfl (by show 2 * 0 + _ ≤ _; exact Nat.le_of_eq rfl) (hb hby at_222) (fun _ _ => ⟨rfl, eq71, (by decide : 2 + 0 ≤ _), (by decide : 8 + 0 ≤ _)⟩)
      dsimp only [Pt.U, Pt.locs, Pt.cells, Pt.slots] at X72 l72 y72 z72 st72 hQ72
      subst l72 y72 z72
      obtain ⟨hv72, Nq72, eq72⟩ := hQ72
      subst hv72
      replace Nf := Fr.app Nf Nq72
      refine own_go (x' := T72.setTop (mkF m 225 #[.val (.int p0), .val (.int p1), .val (.int p2), .val (.int p3), .val (.int p4), .val (.int (3 : Int32)), .val (.ref b1), .val (.int d0), .val (.int d1), .val (.int d2), .val (.int d3), .val (.ref b10), .val (.long (own_val_3 d0 d1 d2 d3 r0 r1 r2 r3)), .second, .val (.long (own_tot_3 r0 r1 r2 r3)), .second, .val (.long (0 : Int64)), .second, .val (.int (0 : Int32)), .val (.int (own_adv_3_b d0 d1 d2 d3 r0 r1 r2 r3))] [(.int (own_dok_1_3 e1 r1 d1))])) st72 ?_
      refine own_go (x' := T72.setTop (mkF m 237 #[.val (.int p0), .val (.int p1), .val (.int p2), .val (.int p3), .val (.int p4), .val (.int (3 : Int32)), .val (.ref b1), .val (.int d0), .val (.int d1), .val (.int d2), .val (.int d3), .val (.ref b10), .val (.long (own_val_3 d0 d1 d2 d3 r0 r1 r2 r3)), .second, .val (.long (own_tot_3 r0 r1 r2 r3)), .second, .val (.long (0 : Int64)), .second, .val (.int (0 : Int32)), .val (.int (own_adv_3_b d0 d1 d2 d3 r0 r1 r2 r3))] [(.int d2), (.int (3 : Int32)), (.int (2 : Int32)), (.ref b1), (.ref b10)])) (fun _ k => XS.ifNo X72.here hx rfl (hb hby at_225) rfl ((if0 _ _).trans (feq (show ¬ ((own_dok_1_3 e1 r1 d1) = (0 : Int32)) from by simp only [own_dok_1_3, if_neg (own_ok hx1).1, if_pos (own_ok hx1).2]; decide)).1) (XS.aload X72.here hx rfl (hb hby at_228) rfl rfl (XS.aload X72.here hx rfl (hb hby at_230) rfl rfl (XS.iconst X72.here hx rfl (hb hby at_232) (XS.iload X72.here hx rfl (hb hby at_233) rfl (XS.iload X72.here hx rfl (hb hby at_235) rfl k)))))) ?_
      obtain ⟨_, _, ⟨T73, L73, k73, n73⟩, -, X73, ⟨Lc73, hQ73, l73, y73, z73⟩, st73⟩ := Jvm.LawKit.callS X72 hx (y := (⟨"com/example/stratgen/stratgen/model/StateSpaceAdvancePinLaw", "digitOk", "([I[IIII)Z"⟩ : MethodName)) hown (mvT hZ (own_w hw 12 rfl)) (mvT hZ (own_w hw 13 rfl)) (mvT hZ (own_w hw 3 rfl)) (mvT hZ (own_w hw 14 rfl)) (by decide) (backOf (W := 0) (rm4_2_3 l Z a0 hw [] b10 b1 k10 k1 e0 e1 e2 e3 r0 r1 r2 r3 d2 T70.heap n0 Zs V_b10 V_b1) hZ (own_w hw 14 rfl) (own_w hw 3 rfl) (by decide) (by decide)) (g := (mkF m 237 #[.val (.int p0), .val (.int p1), .val (.int p2), .val (.int p3), .val (.int p4), .val (.int (3 : Int32)), .val (.ref b1), .val (.int d0), .val (.int d1), .val (.int d2), .val (.int d3), .val (.ref b10), .val (.long (own_val_3 d0 d1 d2 d3 r0 r1 r2 r3)), .second, .val (.long (own_tot_3 r0 r1 r2 r3)), .second, .val (.long (0 : Int64)), .second, .val (.int (0 : Int32)), .val (.int (own_adv_3_b d0 d1 d2 d3 r0 r1 r2 r3))] [(.int d2), (.int (3 : Int32)), (.int (2 : Int32)), (.ref b1), (.ref b10)])) rfl (by rw [hml]; rfl) (argsL := [(.ref b10), (.ref b1), (.int (2 : Int32)), (.int (3 : Int32)), (.int d2)]) (rest := []) (lenOf pd_3 rfl) rfl (by show 2 * 0 + _ ≤ _; exact Nat.le_of_eq rfl) (hb hby at_237) (fun _ _ => ⟨rfl, eq72, (by decide : 2 + 0 ≤ _), (by decide : 8 + 0 ≤ _)⟩)
      dsimp only [Pt.U, Pt.locs, Pt.cells, Pt.slots] at X73 l73 y73 z73 st73 hQ73
      subst l73 y73 z73
      obtain ⟨hv73, Nq73, eq73⟩ := hQ73
      subst hv73
      replace Nf := Fr.app Nf Nq73
      refine own_go (x' := T73.setTop (mkF m 240 #[.val (.int p0), .val (.int p1), .val (.int p2), .val (.int p3), .val (.int p4), .val (.int (3 : Int32)), .val (.ref b1), .val (.int d0), .val (.int d1), .val (.int d2), .val (.int d3), .val (.ref b10), .val (.long (own_val_3 d0 d1 d2 d3 r0 r1 r2 r3)), .second, .val (.long (own_tot_3 r0 r1 r2 r3)), .second, .val (.long (0 : Int64)), .second, .val (.int (0 : Int32)), .val (.int (own_adv_3_b d0 d1 d2 d3 r0 r1 r2 r3))] [(.int (own_dok_2_3 e2 r2 d2))])) st73 ?_
      refine own_go (x' := T73.setTop (mkF m 252 #[.val (.int p0), .val (.int p1), .val (.int p2), .val (.int p3), .val (.int p4), .val (.int (3 : Int32)), .val (.ref b1), .val (.int d0), .val (.int d1), .val (.int d2), .val (.int d3), .val (.ref b10), .val (.long (own_val_3 d0 d1 d2 d3 r0 r1 r2 r3)), .second, .val (.long (own_tot_3 r0 r1 r2 r3)), .second, .val (.long (0 : Int64)), .second, .val (.int (0 : Int32)), .val (.int (own_adv_3_b d0 d1 d2 d3 r0 r1 r2 r3))] [(.int d3), (.int (3 : Int32)), (.int (3 : Int32)), (.ref b1), (.ref b10)])) (fun _ k => XS.ifNo X73.here hx rfl (hb hby at_240) rfl ((if0 _ _).trans (feq (show ¬ ((own_dok_2_3 e2 r2 d2) = (0 : Int32)) from by simp only [own_dok_2_3, if_neg (own_ok hx2).1, if_pos (own_ok hx2).2]; decide)).1) (XS.aload X73.here hx rfl (hb hby at_243) rfl rfl (XS.aload X73.here hx rfl (hb hby at_245) rfl rfl (XS.iconst X73.here hx rfl (hb hby at_247) (XS.iload X73.here hx rfl (hb hby at_248) rfl (XS.iload X73.here hx rfl (hb hby at_250) rfl k)))))) ?_
      obtain ⟨_, _, ⟨T74, L74, k74, n74⟩, -, X74, ⟨Lc74, hQ74, l74, y74, z74⟩, st74⟩ := Jvm.LawKit.callS X73 hx (y := (⟨"com/example/stratgen/stratgen/model/StateSpaceAdvancePinLaw", "digitOk", "([I[IIII)Z"⟩ : MethodName)) hown (mvT hZ (own_w hw 12 rfl)) (mvT hZ (own_w hw 13 rfl)) (mvT hZ (own_w hw 3 rfl)) (mvT hZ (own_w hw 14 rfl)) (by decide) (backOf (W := 0) (rm4_3_3 l Z a0 hw [] b10 b1 k10 k1 e0 e1 e2 e3 r0 r1 r2 r3 d3 T70.heap n0 Zs V_b10 V_b1) hZ (own_w hw 14 rfl) (own_w hw 3 rfl) (by decide) (by decide)) (g := (mkF m 252 #[.val (.int p0), .val (.int p1), .val (.int p2), .val (.int p3), .val (.int p4), .val (.int (3 : Int32)), .val (.ref b1), .val (.int d0), .val (.int d1), .val (.int d2), .val (.int d3), .val (.ref b10), .val (.long (own_val_3 d0 d1 d2 d3 r0 r1 r2 r3)), .second, .val (.long (own_tot_3 r0 r1 r2 r3)), .second, .val (.long (0 : Int64)), .second, .val (.int (0 : Int32)), .val (.int (own_adv_3_b d0 d1 d2 d3 r0 r1 r2 r3))] [(.int d3), (.int (3 : Int32)), (.int (3 : Int32)), (.ref b1), (.ref b10)])) rfl (by rw [hml]; rfl) (argsL := [(.ref b10), (.ref b1), (.int (3 : Int32)), (.int (3 : Int32)), (.int d3)]) (rest := []) (lenOf pd_3 rfl) rfl (by show 2 * 0 + _ ≤ _; exact Nat.le_of_eq rfl) (hb hby at_252) (fun _ _ => ⟨rfl, eq73, (by decide : 2 + 0 ≤ _), (by decide : 8 + 0 ≤ _)⟩)
      dsimp only [Pt.U, Pt.locs, Pt.cells, Pt.slots] at X74 l74 y74 z74 st74 hQ74
      subst l74 y74 z74
      obtain ⟨hv74, Nq74, eq74⟩ := hQ74
      subst hv74
      replace Nf := Fr.app Nf Nq74
      refine own_go (x' := T74.setTop (mkF m 255 #[.val (.int p0), .val (.int p1), .val (.int p2), .val (.int p3), .val (.int p4), .val (.int (3 : Int32)), .val (.ref b1), .val (.int d0), .val (.int d1), .val (.int d2), .val (.int d3), .val (.ref b10), .val (.long (own_val_3 d0 d1 d2 d3 r0 r1 r2 r3)), .second, .val (.long (own_tot_3 r0 r1 r2 r3)), .second, .val (.long (0 : Int64)), .second, .val (.int (0 : Int32)), .val (.int (own_adv_3_b d0 d1 d2 d3 r0 r1 r2 r3))] [(.int (own_dok_3_3 e3 r3 d3))])) st74 ?_
      refine own_go (x' := T74.setTop (mkF m 264 #[.val (.int p0), .val (.int p1), .val (.int p2), .val (.int p3), .val (.int p4), .val (.int (3 : Int32)), .val (.ref b1), .val (.int d0), .val (.int d1), .val (.int d2), .val (.int d3), .val (.ref b10), .val (.long (own_val_3 d0 d1 d2 d3 r0 r1 r2 r3)), .second, .val (.long (own_tot_3 r0 r1 r2 r3)), .second, .val (.long (0 : Int64)), .second, .val (.int (0 : Int32)), .val (.int (own_adv_3_b d0 d1 d2 d3 r0 r1 r2 r3))] [(.int (3 : Int32)), (.ref b1), (.ref b10)])) (fun _ k => XS.ifNo X74.here hx rfl (hb hby at_255) rfl ((if0 _ _).trans (feq (show ¬ ((own_dok_3_3 e3 r3 d3) = (0 : Int32)) from by simp only [own_dok_3_3, if_pos hx3]; decide)).1) (XS.aload X74.here hx rfl (hb hby at_258) rfl rfl (XS.aload X74.here hx rfl (hb hby at_260) rfl rfl (XS.iload X74.here hx rfl (hb hby at_262) rfl k)))) ?_
      obtain ⟨_, _, ⟨T75, L75, k75, n75⟩, -, X75, ⟨Lc75, hQ75, l75, y75, z75⟩, st75⟩ := Jvm.LawKit.callS X74 hx (y := (⟨"com/example/stratgen/stratgen/model/StateSpaceAdvancePinLaw", "value", "([I[II)J"⟩ : MethodName)) hown (mvT hZ (own_w hw 1 rfl)) (mvT hZ (own_w hw 2 rfl)) (mvT hZ (own_w hw 3 rfl)) (mvT hZ (own_w hw 4 rfl)) (by decide) (backOf (W := 0) (rm1_3 l Z a0 hw [] b10 b1 k10 k1 e0 e1 e2 e3 r0 r1 r2 r3 T70.heap n0 Zs V_b10 V_b1) hZ (own_w hw 4 rfl) (own_w hw 3 rfl) (by decide) (by decide)) (g := (mkF m 264 #[.val (.int p0), .val (.int p1), .val (.int p2), .val (.int p3), .val (.int p4), .val (.int (3 : Int32)), .val (.ref b1), .val (.int d0), .val (.int d1), .val (.int d2), .val (.int d3), .val (.ref b10), .val (.long (own_val_3 d0 d1 d2 d3 r0 r1 r2 r3)), .second, .val (.long (own_tot_3 r0 r1 r2 r3)), .second, .val (.long (0 : Int64)), .second, .val (.int (0 : Int32)), .val (.int (own_adv_3_b d0 d1 d2 d3 r0 r1 r2 r3))] [(.int (3 : Int32)), (.ref b1), (.ref b10)])) rfl (by rw [hml]; rfl) (argsL := [(.ref b10), (.ref b1), (.int (3 : Int32))]) (rest := []) (lenOf pd_0 rfl) rfl (by show 2 * 0 + _ ≤ _; exact Nat.le_of_eq rfl) (hb hby at_264) (fun _ _ => ⟨rfl, eq74, (by decide : 2 + 0 ≤ _), (by decide : 8 + 0 ≤ _)⟩)
      dsimp only [Pt.U, Pt.locs, Pt.cells, Pt.slots] at X75 l75 y75 z75 st75 hQ75
      subst l75 y75 z75
      obtain ⟨hv75, Nq75, eq75⟩ := hQ75
      subst hv75
      replace Nf := Fr.app Nf Nq75
      refine own_go (x' := T75.setTop (mkF m 267 #[.val (.int p0), .val (.int p1), .val (.int p2), .val (.int p3), .val (.int p4), .val (.int (3 : Int32)), .val (.ref b1), .val (.int d0), .val (.int d1), .val (.int d2), .val (.int d3), .val (.ref b10), .val (.long (own_val_3 d0 d1 d2 d3 r0 r1 r2 r3)), .second, .val (.long (own_tot_3 r0 r1 r2 r3)), .second, .val (.long (0 : Int64)), .second, .val (.int (0 : Int32)), .val (.int (own_adv_3_b d0 d1 d2 d3 r0 r1 r2 r3))] [(.long (own_val_3 e0 e1 e2 e3 r0 r1 r2 r3))])) st75 ?_
      refine own_go (x' := T75.setTop (mkF m 278 #[.val (.int p0), .val (.int p1), .val (.int p2), .val (.int p3), .val (.int p4), .val (.int (3 : Int32)), .val (.ref b1), .val (.int d0), .val (.int d1), .val (.int d2), .val (.int d3), .val (.ref b10), .val (.long (own_val_3 d0 d1 d2 d3 r0 r1 r2 r3)), .second, .val (.long (own_tot_3 r0 r1 r2 r3)), .second, .val (.long (0 : Int64)), .second, .val (.int (0 : Int32)), .val (.int (own_adv_3_b d0 d1 d2 d3 r0 r1 r2 r3))] [(.int (1 : Int32))])) (fun _ k => XS.lload X75.here hx rfl (hb hby at_267) rfl (XS.lcmp X75.here hx rfl (hb hby at_269) rfl (XS.ifNo X75.here hx rfl (hb hby at_270) rfl ((if0 _ _).trans (teq ((lw_eq (own_val_3 e0 e1 e2 e3 r0 r1 r2 r3) (0 : Int64)).mpr hV)).2) (XS.iconst X75.here hx rfl (hb hby at_273) (XS.goto X75.here hx rfl (pc0 := 274) (pc' := 278) rfl (hb hby at_274) (by decide) (by decide) k))))) ?_
      refine own_retN X75 hx hlk (t := .boolean) hret (by simp) (hb hby at_278) (w := (1 : Int32)) rfl ?_ (by decide) (by decide)
      rw [eq75]
      exact ⟨rfl, Nf⟩
  · rw [hm]
    obtain ⟨hlaw, hx0, hx1, hx2, hx3⟩ := own_law_4 d0 d1 d2 d3 r0 r1 r2 r3 gd0 gd1 gd2 gd3
    refine own_go (x' := T14.setTop (mkF m 137 #[.val (.int p0), .val (.int p1), .val (.int p2), .val (.int p3), .val (.int p4), .val (.int (4 : Int32)), .val (.ref b1), .val (.int d0), .val (.int d1), .val (.int d2), .val (.int d3), .val (.ref b10), .unset, .unset, .unset, .unset, .unset, .unset, .unset, .unset] [(.int (4 : Int32)), (.ref b1), (.ref b10)])) (fun _ k => XS.aload X15.here hx rfl (hb hby at_131) rfl rfl (XS.aload X15.here hx rfl (hb hby at_133) rfl rfl (XS.iload X15.here hx rfl (hb hby at_135) rfl k))) ?_
    obtain ⟨LL76, X76, Nf⟩ : ∃ LL : List Loc, Stand p l e room_1 s m _ below meth c T14 LL 2 8 ∧ Fr n0 LL := ⟨_, X15, Nf⟩
    obtain ⟨_, _, ⟨T77, L77, k77, n77⟩, -, X77, ⟨Lc77, hQ77, l77, y77, z77⟩, st77⟩ := Jvm.LawKit.callS X76 hx (y := (⟨"com/example/stratgen/stratgen/model/StateSpaceAdvancePinLaw", "value", "([I[II)J"⟩ : MethodName)) hown (mvT hZ (own_w hw 1 rfl)) (mvT hZ (own_w hw 2 rfl)) (mvT hZ (own_w hw 3 rfl)) (mvT hZ (own_w hw 4 rfl)) (by decide) (backOf (W := 0) (rm1_4 l Z a0 hw [] b10 b1 k10 k1 d0 d1 d2 d3 r0 r1 r2 r3 h14 n0 Zs V_b10 V_b1) hZ (own_w hw 4 rfl) (own_w hw 3 rfl) (by decide) (by decide)) (g := (mkF m 137 #[.val (.int p0), .val (.int p1), .val (.int p2), .val (.int p3), .val (.int p4), .val (.int (4 : Int32)), .val (.ref b1), .val (.int d0), .val (.int d1), .val (.int d2), .val (.int d3), .val (.ref b10), .unset, .unset, .unset, .unset, .unset, .unset, .unset, .unset] [(.int (4 : Int32)), (.ref b1), (.ref b10)])) rfl (by rw [hml]; rfl) (argsL := [(.ref b10), (.ref b1), (.int (4 : Int32))]) (rest := []) (lenOf pd_0 rfl) rfl (by show 2 * 0 + _ ≤ _; exact Nat.le_of_eq rfl) (hb hby at_137) (fun _ _ => ⟨rfl, e14, (by decide : 2 + 0 ≤ _), (by decide : 8 + 0 ≤ _)⟩)
    dsimp only [Pt.U, Pt.locs, Pt.cells, Pt.slots] at X77 l77 y77 z77 st77 hQ77
    subst l77 y77 z77
    obtain ⟨hv77, Nq77, eq77⟩ := hQ77
    subst hv77
    replace Nf := Fr.app Nf Nq77
    refine own_go (x' := T77.setTop (mkF m 140 #[.val (.int p0), .val (.int p1), .val (.int p2), .val (.int p3), .val (.int p4), .val (.int (4 : Int32)), .val (.ref b1), .val (.int d0), .val (.int d1), .val (.int d2), .val (.int d3), .val (.ref b10), .unset, .unset, .unset, .unset, .unset, .unset, .unset, .unset] [(.long (own_val_4 d0 d1 d2 d3 r0 r1 r2 r3))])) st77 ?_
    refine own_go (x' := T77.setTop (mkF m 146 #[.val (.int p0), .val (.int p1), .val (.int p2), .val (.int p3), .val (.int p4), .val (.int (4 : Int32)), .val (.ref b1), .val (.int d0), .val (.int d1), .val (.int d2), .val (.int d3), .val (.ref b10), .val (.long (own_val_4 d0 d1 d2 d3 r0 r1 r2 r3)), .second, .unset, .unset, .unset, .unset, .unset, .unset] [(.int (4 : Int32)), (.ref b1)])) (fun _ k => XS.lstore X77.here hx rfl (hb hby at_140) rfl (l' := #[.val (.int p0), .val (.int p1), .val (.int p2), .val (.int p3), .val (.int p4), .val (.int (4 : Int32)), .val (.ref b1), .val (.int d0), .val (.int d1), .val (.int d2), .val (.int d3), .val (.ref b10), .val (.long (own_val_4 d0 d1 d2 d3 r0 r1 r2 r3)), .second, .unset, .unset, .unset, .unset, .unset, .unset]) rfl (XS.aload X77.here hx rfl (hb hby at_142) rfl rfl (XS.iload X77.here hx rfl (hb hby at_144) rfl k))) ?_
    obtain ⟨_, _, ⟨T78, L78, k78, n78⟩, -, X78, ⟨Lc78, hQ78, l78, y78, z78⟩, st78⟩ := Jvm.LawKit.callS X77 hx (y := (⟨"com/example/stratgen/stratgen/model/StateSpaceAdvancePinLaw", "total", "([II)J"⟩ : MethodName)) hown (mvT hZ (own_w hw 5 rfl)) (mvT hZ (own_w hw 6 rfl)) (mvT hZ (own_w hw 3 rfl)) (mvT hZ (own_w hw 7 rfl)) (by decide) (backOf (W := 0) (rm2_4 l Z a0 hw [] b1 k1 r0 r1 r2 r3 h14 n0 Zs V_b1) hZ (own_w hw 7 rfl) (own_w hw 3 rfl) (by decide) (by decide)) (g := (mkF m 146 #[.val (.int p0), .val (.int p1), .val (.int p2), .val (.int p3), .val (.int p4), .val (.int (4 : Int32)), .val (.ref b1), .val (.int d0), .val (.int d1), .val (.int d2), .val (.int d3), .val (.ref b10), .val (.long (own_val_4 d0 d1 d2 d3 r0 r1 r2 r3)), .second, .unset, .unset, .unset, .unset, .unset, .unset] [(.int (4 : Int32)), (.ref b1)])) rfl (by rw [hml]; rfl) (argsL := [(.ref b1), (.int (4 : Int32))]) (rest := []) (lenOf pd_1 rfl) rfl (by show 2 * 0 + _ ≤ _; exact Nat.le_of_eq rfl) (hb hby at_146) (fun _ _ => ⟨rfl, eq77, (by decide : 2 + 0 ≤ _), (by decide : 8 + 0 ≤ _)⟩)
    dsimp only [Pt.U, Pt.locs, Pt.cells, Pt.slots] at X78 l78 y78 z78 st78 hQ78
    subst l78 y78 z78
    obtain ⟨hv78, Nq78, eq78⟩ := hQ78
    subst hv78
    replace Nf := Fr.app Nf Nq78
    refine own_go (x' := T78.setTop (mkF m 149 #[.val (.int p0), .val (.int p1), .val (.int p2), .val (.int p3), .val (.int p4), .val (.int (4 : Int32)), .val (.ref b1), .val (.int d0), .val (.int d1), .val (.int d2), .val (.int d3), .val (.ref b10), .val (.long (own_val_4 d0 d1 d2 d3 r0 r1 r2 r3)), .second, .unset, .unset, .unset, .unset, .unset, .unset] [(.long (own_tot_4 r0 r1 r2 r3))])) st78 ?_
    refine own_go (x' := T78.setTop (mkF m 159 #[.val (.int p0), .val (.int p1), .val (.int p2), .val (.int p3), .val (.int p4), .val (.int (4 : Int32)), .val (.ref b1), .val (.int d0), .val (.int d1), .val (.int d2), .val (.int d3), .val (.ref b10), .val (.long (own_val_4 d0 d1 d2 d3 r0 r1 r2 r3)), .second, .val (.long (own_tot_4 r0 r1 r2 r3)), .second, .val (.long ((own_val_4 d0 d1 d2 d3 r0 r1 r2 r3) + (1 : Int64))), .second, .unset, .unset] [(.long ((own_val_4 d0 d1 d2 d3 r0 r1 r2 r3) + (1 : Int64)))])) (fun _ k => XS.lstore X78.here hx rfl (hb hby at_149) rfl (l' := #[.val (.int p0), .val (.int p1), .val (.int p2), .val (.int p3), .val (.int p4), .val (.int (4 : Int32)), .val (.ref b1), .val (.int d0), .val (.int d1), .val (.int d2), .val (.int d3), .val (.ref b10), .val (.long (own_val_4 d0 d1 d2 d3 r0 r1 r2 r3)), .second, .val (.long (own_tot_4 r0 r1 r2 r3)), .second, .unset, .unset, .unset, .unset]) rfl (XS.lload X78.here hx rfl (hb hby at_151) rfl (XS.lconst X78.here hx rfl (hb hby at_153) (XS.ladd X78.here hx rfl (hb hby at_154) rfl (XS.lstore X78.here hx rfl (hb hby at_155) rfl (l' := #[.val (.int p0), .val (.int p1), .val (.int p2), .val (.int p3), .val (.int p4), .val (.int (4 : Int32)), .val (.ref b1), .val (.int d0), .val (.int d1), .val (.int d2), .val (.int d3), .val (.ref b10), .val (.long (own_val_4 d0 d1 d2 d3 r0 r1 r2 r3)), .second, .val (.long (own_tot_4 r0 r1 r2 r3)), .second, .val (.long ((own_val_4 d0 d1 d2 d3 r0 r1 r2 r3) + (1 : Int64))), .second, .unset, .unset]) rfl (XS.lload X78.here hx rfl (hb hby at_157) rfl k)))))) ?_
    refine own_go (x' := T78.setTop (mkF m 162 #[.val (.int p0), .val (.int p1), .val (.int p2), .val (.int p3), .val (.int p4), .val (.int (4 : Int32)), .val (.ref b1), .val (.int d0), .val (.int d1), .val (.int d2), .val (.int d3), .val (.ref b10), .val (.long (own_val_4 d0 d1 d2 d3 r0 r1 r2 r3)), .second, .val (.long (own_tot_4 r0 r1 r2 r3)), .second, .val (.long ((own_val_4 d0 d1 d2 d3 r0 r1 r2 r3) + (1 : Int64))), .second, .unset, .unset] [(.int (lcmpW ((own_val_4 d0 d1 d2 d3 r0 r1 r2 r3) + (1 : Int64)) (own_tot_4 r0 r1 r2 r3)))])) (fun _ k => XS.lload X78.here hx rfl (hb hby at_159) rfl (XS.lcmp X78.here hx rfl (hb hby at_161) rfl k)) ?_
    by_cases hc162 : ((own_val_4 d0 d1 d2 d3 r0 r1 r2 r3) + (1 : Int64)) < (own_tot_4 r0 r1 r2 r3)
    · refine own_go (x' := T78.setTop (mkF m 180 #[.val (.int p0), .val (.int p1), .val (.int p2), .val (.int p3), .val (.int p4), .val (.int (4 : Int32)), .val (.ref b1), .val (.int d0), .val (.int d1), .val (.int d2), .val (.int d3), .val (.ref b10), .val (.long (own_val_4 d0 d1 d2 d3 r0 r1 r2 r3)), .second, .val (.long (own_tot_4 r0 r1 r2 r3)), .second, .val (.long ((own_val_4 d0 d1 d2 d3 r0 r1 r2 r3) + (1 : Int64))), .second, .val (.int (1 : Int32)), .unset] [])) (fun _ k => XS.ifNo X78.here hx rfl (hb hby at_162) rfl ((if0 _ _).trans (tlt ((lw_lt ((own_val_4 d0 d1 d2 d3 r0 r1 r2 r3) + (1 : Int64)) (own_tot_4 r0 r1 r2 r3)).mpr hc162)).2.1) (XS.iconst X78.here hx rfl (hb hby at_165) (XS.goto X78.here hx rfl (pc0 := 166) (pc' := 170) rfl (hb hby at_166) (by decide) (by decide) (XS.istore X78.here hx rfl (hb hby at_170) rfl (l' := #[.val (.int p0), .val (.int p1), .val (.int p2), .val (.int p3), .val (.int p4), .val (.int (4 : Int32)), .val (.ref b1), .val (.int d0), .val (.int d1), .val (.int d2), .val (.int d3), .val (.ref b10), .val (.long (own_val_4 d0 d1 d2 d3 r0 r1 r2 r3)), .second, .val (.long (own_tot_4 r0 r1 r2 r3)), .second, .val (.long ((own_val_4 d0 d1 d2 d3 r0 r1 r2 r3) + (1 : Int64))), .second, .val (.int (1 : Int32)), .unset]) rfl (XS.iload X78.here hx rfl (hb hby at_172) rfl (XS.ifYes X78.here hx rfl (pc0 := 174) (pc' := 180) rfl (hb hby at_174) rfl ((if0 _ _).trans (feq (by decide +kernel : ¬ ((1 : Int32) = (0 : Int32)))).2) (by decide) (by decide) k)))))) ?_
      refine own_go (x' := T78.setTop (mkF m 186 #[.val (.int p0), .val (.int p1), .val (.int p2), .val (.int p3), .val (.int p4), .val (.int (4 : Int32)), .val (.ref b1), .val (.int d0), .val (.int d1), .val (.int d2), .val (.int d3), .val (.ref b10), .val (.long (own_val_4 d0 d1 d2 d3 r0 r1 r2 r3)), .second, .val (.long (own_tot_4 r0 r1 r2 r3)), .second, .val (.long ((own_val_4 d0 d1 d2 d3 r0 r1 r2 r3) + (1 : Int64))), .second, .val (.int (1 : Int32)), .unset] [(.int (4 : Int32)), (.ref b1), (.ref b10)])) (fun _ k => XS.aload X78.here hx rfl (hb hby at_180) rfl rfl (XS.aload X78.here hx rfl (hb hby at_182) rfl rfl (XS.iload X78.here hx rfl (hb hby at_184) rfl k))) ?_
      obtain ⟨_, _, ⟨T79, L79, k79, n79⟩, -, X79, ⟨Lc79, hQ79, l79, y79, z79⟩, st79⟩ := Jvm.LawKit.callS X78 hx (y := (⟨"com/example/stratgen/stratgen/model/StateSpace", "advance", "([I[II)Z"⟩ : MethodName)) hown (mvT hZ (own_w hw 8 rfl)) (mvT hZ (own_w hw 9 rfl)) (mvT hZ (own_w hw 10 rfl)) (mvT hZ (own_w hw 11 rfl)) (by decide) (backOf (W := 0) (rm3_4 l Z a0 hw [] b10 b1 k10 k1 d0 d1 d2 d3 r0 r1 r2 r3 h14 n0 Zs V_b10 V_b1 (Ne.symm ne_b1_b10) g_b10) hZ (own_w hw 11 rfl) (own_w hw 10 rfl) (by decide) (by decide)) (g := (mkF m 186 #[.val (.int p0), .val (.int p1), .val (.int p2), .val (.int p3), .val (.int p4), .val (.int (4 : Int32)), .val (.ref b1), .val (.int d0), .val (.int d1), .val (.int d2), .val (.int d3), .val (.ref b10), .val (.long (own_val_4 d0 d1 d2 d3 r0 r1 r2 r3)), .second, .val (.long (own_tot_4 r0 r1 r2 r3)), .second, .val (.long ((own_val_4 d0 d1 d2 d3 r0 r1 r2 r3) + (1 : Int64))), .second, .val (.int (1 : Int32)), .unset] [(.int (4 : Int32)), (.ref b1), (.ref b10)])) rfl (by rw [hml]; rfl) (argsL := [(.ref b10), (.ref b1), (.int (4 : Int32))]) (rest := []) (lenOf pd_2 rfl) rfl (by show 2 * 0 + _ ≤ _; exact Nat.le_of_eq rfl) (hb hby at_186) (fun _ _ => ⟨rfl, eq78, (by decide : 2 + 0 ≤ _), (by decide : 8 + 0 ≤ _)⟩)
      dsimp only [Pt.U, Pt.locs, Pt.cells, Pt.slots] at X79 l79 y79 z79 st79 hQ79
      subst l79 y79 z79
      obtain ⟨hv79, Nq79, K79, Vn79⟩ := hQ79
      subst hv79
      replace Nf := Fr.app Nf Nq79
      replace V_b1 := V_b1.keep K79 (ninS ne_b1_b10 nin0)
      replace Zs := Nat.le_trans Zs K79.1
      replace V_b10 := Vn79
      obtain ⟨e0, he0⟩ : ∃ z, z = (own_adv_4_0 d0 d1 d2 d3 r0 r1 r2 r3) := ⟨_, rfl⟩
      obtain ⟨e1, he1⟩ : ∃ z, z = (own_adv_4_1 d0 d1 d2 d3 r0 r1 r2 r3) := ⟨_, rfl⟩
      obtain ⟨e2, he2⟩ : ∃ z, z = (own_adv_4_2 d0 d1 d2 d3 r0 r1 r2 r3) := ⟨_, rfl⟩
      obtain ⟨e3, he3⟩ : ∃ z, z = (own_adv_4_3 d0 d1 d2 d3 r0 r1 r2 r3) := ⟨_, rfl⟩
      rw [← he0, ← he1, ← he2, ← he3] at V_b10
      refine own_go (x' := T79.setTop (mkF m 189 #[.val (.int p0), .val (.int p1), .val (.int p2), .val (.int p3), .val (.int p4), .val (.int (4 : Int32)), .val (.ref b1), .val (.int d0), .val (.int d1), .val (.int d2), .val (.int d3), .val (.ref b10), .val (.long (own_val_4 d0 d1 d2 d3 r0 r1 r2 r3)), .second, .val (.long (own_tot_4 r0 r1 r2 r3)), .second, .val (.long ((own_val_4 d0 d1 d2 d3 r0 r1 r2 r3) + (1 : Int64))), .second, .val (.int (1 : Int32)), .unset] [(.int (own_adv_4_b d0 d1 d2 d3 r0 r1 r2 r3))])) st79 ?_
      refine own_go (x' := T79.setTop (mkF m 191 #[.val (.int p0), .val (.int p1), .val (.int p2), .val (.int p3), .val (.int p4), .val (.int (4 : Int32)), .val (.ref b1), .val (.int d0), .val (.int d1), .val (.int d2), .val (.int d3), .val (.ref b10), .val (.long (own_val_4 d0 d1 d2 d3 r0 r1 r2 r3)), .second, .val (.long (own_tot_4 r0 r1 r2 r3)), .second, .val (.long ((own_val_4 d0 d1 d2 d3 r0 r1 r2 r3) + (1 : Int64))), .second, .val (.int (1 : Int32)), .val (.int (own_adv_4_b d0 d1 d2 d3 r0 r1 r2 r3))] [])) (fun _ k => XS.istore X79.here hx rfl (hb hby at_189) rfl (l' := #[.val (.int p0), .val (.int p1), .val (.int p2), .val (.int p3), .val (.int p4), .val (.int (4 : Int32)), .val (.ref b1), .val (.int d0), .val (.int d1), .val (.int d2), .val (.int d3), .val (.ref b10), .val (.long (own_val_4 d0 d1 d2 d3 r0 r1 r2 r3)), .second, .val (.long (own_tot_4 r0 r1 r2 r3)), .second, .val (.long ((own_val_4 d0 d1 d2 d3 r0 r1 r2 r3) + (1 : Int64))), .second, .val (.int (1 : Int32)), .val (.int (own_adv_4_b d0 d1 d2 d3 r0 r1 r2 r3))]) rfl k) ?_
      rw [← he0, ← he1, ← he2, ← he3] at hlaw
      rw [← he0] at hx0
      rw [← he1] at hx1
      rw [← he2] at hx2
      rw [← he3] at hx3
      obtain ⟨-, hB, hV⟩ := hlaw.resolve_right fun q => q.1 hc162
      refine own_go (x' := T79.setTop (mkF m 203 #[.val (.int p0), .val (.int p1), .val (.int p2), .val (.int p3), .val (.int p4), .val (.int (4 : Int32)), .val (.ref b1), .val (.int d0), .val (.int d1), .val (.int d2), .val (.int d3), .val (.ref b10), .val (.long (own_val_4 d0 d1 d2 d3 r0 r1 r2 r3)), .second, .val (.long (own_tot_4 r0 r1 r2 r3)), .second, .val (.long ((own_val_4 d0 d1 d2 d3 r0 r1 r2 r3) + (1 : Int64))), .second, .val (.int (1 : Int32)), .val (.int (own_adv_4_b d0 d1 d2 d3 r0 r1 r2 r3))] [(.int (0 : Int32)), (.ref b1), (.ref b10)])) (fun _ k => XS.iload X79.here hx rfl (hb hby at_191) rfl (XS.iload X79.here hx rfl (hb hby at_193) rfl (XS.icmpNo X79.here hx rfl (hb hby at_195) rfl (teq hB).2 (XS.aload X79.here hx rfl (hb hby at_198) rfl rfl (XS.aload X79.here hx rfl (hb hby at_200) rfl rfl (XS.iconst X79.here hx rfl (hb hby at_202) k)))))) ?_
      refine own_go (x' := T79.setTop (mkF m 207 #[.val (.int p0), .val (.int p1), .val (.int p2), .val (.int p3), .val (.int p4), .val (.int (4 : Int32)), .val (.ref b1), .val (.int d0), .val (.int d1), .val (.int d2), .val (.int d3), .val (.ref b10), .val (.long (own_val_4 d0 d1 d2 d3 r0 r1 r2 r3)), .second, .val (.long (own_tot_4 r0 r1 r2 r3)), .second, .val (.long ((own_val_4 d0 d1 d2 d3 r0 r1 r2 r3) + (1 : Int64))), .second, .val (.int (1 : Int32)), .val (.int (own_adv_4_b d0 d1 d2 d3 r0 r1 r2 r3))] [(.int d0), (.int (4 : Int32)), (.int (0 : Int32)), (.ref b1), (.ref b10)])) (fun _ k => XS.iload X79.here hx rfl (hb hby at_203) rfl (XS.iload X79.here hx rfl (hb hby at_205) rfl k)) ?_
      obtain ⟨_, _, ⟨T80, L80, k80, n80⟩, -, X80, ⟨Lc80, hQ80, l80, y80, z80⟩, st80⟩ := Jvm.LawKit.callS X79 hx (y := (⟨"com/example/stratgen/stratgen/model/StateSpaceAdvancePinLaw", "digitOk", "([I[IIII)Z"⟩ : MethodName)) hown (mvT hZ (own_w hw 12 rfl)) (mvT hZ (own_w hw 13 rfl)) (mvT hZ (own_w hw 3 rfl)) (mvT hZ (own_w hw 14 rfl)) (by decide) (backOf (W := 0) (rm4_0_4 l Z a0 hw [] b10 b1 k10 k1 e0 e1 e2 e3 r0 r1 r2 r3 d0 T79.heap n0 Zs V_b10 V_b1) hZ (own_w hw 14 rfl) (own_w hw 3 rfl) (by decide) (by decide)) (g := (mkF m 207 #[.val (.int p0), .val (.int p1), .val (.int p2), .val (.int p3), .val (.int p4), .val (.int (4 : Int32)), .val (.ref b1), .val (.int d0), .val (.int d1), .val (.int d2), .val (.int d3), .val (.ref b10), .val (.long (own_val_4 d0 d1 d2 d3 r0 r1 r2 r3)), .second, .val (.long (own_tot_4 r0 r1 r2 r3)), .second, .val (.long ((own_val_4 d0 d1 d2 d3 r0 r1 r2 r3) + (1 : Int64))), .second, .val (.int (1 : Int32)), .val (.int (own_adv_4_b d0 d1 d2 d3 r0 r1 r2 r3))] [(.int d0), (.int (4 : Int32)), (.int (0 : Int32)), (.ref b1), (.ref b10)])) rfl (by rw [hml]; rfl) (argsL := [(.ref b10), (.ref b1), (.int (0 : Int32)), (.int (4 : Int32)), (.int d0)]) (rest := []) (lenOf pd_3 rfl) rfl (by show 2 * 0 + _ ≤ _; exact Nat.le_of_eq rfl) (hb hby at_207) (fun _ _ => ⟨rfl, rfl, (by decide : 2 + 0 ≤ _), (by decide : 8 + 0 ≤ _)⟩)
      dsimp only [Pt.U, Pt.locs, Pt.cells, Pt.slots] at X80 l80 y80 z80 st80 hQ80
      subst l80 y80 z80
      obtain ⟨hv80, Nq80, eq80⟩ := hQ80
      subst hv80
      replace Nf := Fr.app Nf Nq80
      refine own_go (x' := T80.setTop (mkF m 210 #[.val (.int p0), .val (.int p1), .val (.int p2), .val (.int p3), .val (.int p4), .val (.int (4 : Int32)), .val (.ref b1), .val (.int d0), .val (.int d1), .val (.int d2), .val (.int d3), .val (.ref b10), .val (.long (own_val_4 d0 d1 d2 d3 r0 r1 r2 r3)), .second, .val (.long (own_tot_4 r0 r1 r2 r3)), .second, .val (.long ((own_val_4 d0 d1 d2 d3 r0 r1 r2 r3) + (1 : Int64))), .second, .val (.int (1 : Int32)), .val (.int (own_adv_4_b d0 d1 d2 d3 r0 r1 r2 r3))] [(.int (own_dok_0_4 e0 r0 d0))])) st80 ?_
      refine own_go (x' := T80.setTop (mkF m 222 #[.val (.int p0), .val (.int p1), .val (.int p2), .val (.int p3), .val (.int p4), .val (.int (4 : Int32)), .val (.ref b1), .val (.int d0), .val (.int d1), .val (.int d2), .val (.int d3), .val (.ref b10), .val (.long (own_val_4 d0 d1 d2 d3 r0 r1 r2 r3)), .second, .val (.long (own_tot_4 r0 r1 r2 r3)), .second, .val (.long ((own_val_4 d0 d1 d2 d3 r0 r1 r2 r3) + (1 : Int64))), .second, .val (.int (1 : Int32)), .val (.int (own_adv_4_b d0 d1 d2 d3 r0 r1 r2 r3))] [(.int d1), (.int (4 : Int32)), (.int (1 : Int32)), (.ref b1), (.ref b10)])) (fun _ k => XS.ifNo X80.here hx rfl (hb hby at_210) rfl ((if0 _ _).trans (feq (show ¬ ((own_dok_0_4 e0 r0 d0) = (0 : Int32)) from by simp only [own_dok_0_4, if_neg (own_ok hx0).1, if_pos (own_ok hx0).2]; decide)).1) (XS.aload X80.here hx rfl (hb hby at_213) rfl rfl (XS.aload X80.here hx rfl (hb hby at_215) rfl rfl (XS.iconst X80.here hx rfl (hb hby at_217) (XS.iload X80.here hx rfl (hb hby at_218) rfl (XS.iload X80.here hx rfl (hb hby at_220) rfl k)))))) ?_
      obtain ⟨_, _, ⟨T81, L81, k81, n81⟩, -, X81, ⟨Lc81, hQ81, l81, y81, z81⟩, st81⟩ := Jvm.LawKit.callS X80 hx (y := (⟨"com/example/stratgen/stratgen/model/StateSpaceAdvancePinLaw", "digitOk", "([I[IIII)Z"⟩ : MethodName)) hown (mvT hZ (own_w hw 12 rfl)) (mvT hZ (own_w hw 13 rfl)) (mvT hZ (own_w hw 3 rfl)) (mvT hZ (own_w hw 14 rfl)) (by decide) (backOf (W := 0) (rm4_1_4 l Z a0 hw [] b10 b1 k10 k1 e0 e1 e2 e3 r0 r1 r2 r3 d1 T79.heap n0 Zs V_b10 V_b1) hZ (own_w hw 14 rfl) (own_w hw 3 rfl) (by decide) (by decide)) (g := (mkF m 222 #[.val (.int p0), .val (.int p1), .val (.int p2), .val (.int p3), .val (.int p4), .val (.int (4 : Int32)), .val (.ref b1), .val (.int d0), .val (.int d1), .val (.int d2), .val (.int d3), .val (.ref b10), .val (.long (own_val_4 d0 d1 d2 d3 r0 r1 r2 r3)), .second, .val (.long (own_tot_4 r0 r1 r2 r3)), .second, .val (.long ((own_val_4 d0 d1 d2 d3 r0 r1 r2 r3) + (1 : Int64))), .second, .val (.int (1 : Int32)), .val (.int (own_adv_4_b d0 d1 d2 d3 r0 r1 r2 r3))] [(.int d1), (.int (4 : Int32)), (.int (1 : Int32)), (.ref b1), (.ref b10)])) rfl (by rw [hml]; rfl) (argsL := [(.ref b10), (.ref b1), (.int (1 : Int32)), (.int (4 : Int32)), (.int d1)]) (rest := []) (lenOf pd_3 rfl) rfl (by show 2 * 0 + _ ≤ _; exact Nat.le_of_eq rfl) (hb hby at_222) (fun _ _ => ⟨rfl, eq80, (by decide : 2 + 0 ≤ _), (by decide : 8 + 0 ≤ _)⟩)
      dsimp only [Pt.U, Pt.locs, Pt.cells, Pt.slots] at X81 l81 y81 z81 st81 hQ81
      subst l81 y81 z81
      obtain ⟨hv81, Nq81, eq81⟩ := hQ81
      subst hv81
      replace Nf := Fr.app Nf Nq81
      refine own_go (x' := T81.setTop (mkF m 225 #[.val (.int p0), .val (.int p1), .val (.int p2), .val (.int p3), .val (.int p4), .val (.int (4 : Int32)), .val (.ref b1), .val (.int d0), .val (.int d1), .val (.int d2), .val (.int d3), .val (.ref b10), .val (.long (own_val_4 d0 d1 d2 d3 r0 r1 r2 r3)), .second, .val (.long (own_tot_4 r0 r1 r2 r3)), .second, .val (.long ((own_val_4 d0 d1 d2 d3 r0 r1 r2 r3) + (1 : Int64))), .second, .val (.int (1 : Int32)), .val (.int (own_adv_4_b d0 d1 d2 d3 r0 r1 r2 r3))] [(.int (own_dok_1_4 e1 r1 d1))])) st81 ?_
      refine own_go (x' := T81.setTop (mkF m 237 #[.val (.int p0), .val (.int p1), .val (.int p2), .val (.int p3), .val (.int p4), .val (.int (4 : Int32)), .val (.ref b1), .val (.int d0), .val (.int d1), .val (.int d2), .val (.int d3), .val (.ref b10), .val (.long (own_val_4 d0 d1 d2 d3 r0 r1 r2 r3)), .second, .val (.long (own_tot_4 r0 r1 r2 r3)), .second, .val (.long ((own_val_4 d0 d1 d2 d3 r0 r1 r2 r3) + (1 : Int64))), .second, .val (.int (1 : Int32)), .val (.int (own_adv_4_b d0 d1 d2 d3 r0 r1 r2 r3))] [(.int d2), (.int (4 : Int32)), (.int (2 : Int32)), (.ref b1), (.ref b10)])) (fun _ k => XS.ifNo X81.here hx rfl (hb hby at_225) rfl ((if0 _ _).trans (feq (show ¬ ((own_dok_1_4 e1 r1 d1) = (0 : Int32)) from by simp only [own_dok_1_4, if_neg (own_ok hx1).1, if_pos (own_ok hx1).2]; decide)).1) (XS.aload X81.here hx rfl (hb hby at_228) rfl rfl (XS.aload X81.here hx rfl (hb hby at_230) rfl rfl (XS.iconst X81.here hx rfl (hb hby at_232) (XS.iload X81.here hx rfl (hb hby at_233) rfl (XS.iload X81.here hx rfl (hb hby at_235) rfl k)))))) ?_
      obtain ⟨_, _, ⟨T82, L82, k82, n82⟩, -, X82, ⟨Lc82, hQ82, l82, y82, z82⟩, st82⟩ := Jvm.LawKit.callS X81 hx (y := (⟨"com/example/stratgen/stratgen/model/StateSpaceAdvancePinLaw", "digitOk", "([I[IIII)Z"⟩ : MethodName)) hown (mvT hZ (own_w hw 12 rfl)) (mvT hZ (own_w hw 13 rfl)) (mvT hZ (own_w hw 3 rfl)) (mvT hZ (own_w hw 14 rfl)) (by decide) (backOf (W := 0) (rm4_2_4 l Z a0 hw [] b10 b1 k10 k1 e0 e1 e2 e3 r0 r1 r2 r3 d2 T79.heap n0 Zs V_b10 V_b1) hZ (own_w hw 14 rfl) (own_w hw 3 rfl) (by decide) (by decide)) (g := (mkF m 237 #[.val (.int p0), .val (.int p1), .val (.int p2), .val (.int p3), .val (.int p4), .val (.int (4 : Int32)), .val (.ref b1), .val (.int d0), .val (.int d1), .val (.int d2), .val (.int d3), .val (.ref b10), .val (.long (own_val_4 d0 d1 d2 d3 r0 r1 r2 r3)), .second, .val (.long (own_tot_4 r0 r1 r2 r3)), .second, .val (.long ((own_val_4 d0 d1 d2 d3 r0 r1 r2 r3) + (1 : Int64))), .second, .val (.int (1 : Int32)), .val (.int (own_adv_4_b d0 d1 d2 d3 r0 r1 r2 r3))] [(.int d2), (.int (4 : Int32)), (.int (2 : Int32)), (.ref b1), (.ref b10)])) rfl (by rw [hml]; rfl) (argsL := [(.ref b10), (.ref b1), (.int (2 : Int32)), (.int (4 : Int32)), (.int d2)]) (rest := []) (lenOf pd_3 rfl) rfl (by show 2 * 0 + _ ≤ _; exact Nat.le_of_eq rfl) (hb hby at_237) (fun _ _ => ⟨rfl, eq81, (by decide : 2 + 0 ≤ _), (by decide : 8 + 0 ≤ _)⟩)
      dsimp only [Pt.U, Pt.locs, Pt.cells, Pt.slots] at X82 l82 y82 z82 st82 hQ82
      subst l82 y82 z82
      obtain ⟨hv82, Nq82, eq82⟩ := hQ82
      subst hv82
      replace Nf := Fr.app Nf Nq82
      refine own_go (x' := T82.setTop (mkF m 240 #[.val (.int p0), .val (.int p1), .val (.int p2), .val (.int p3), .val (.int p4), .val (.int (4 : Int32)), .val (.ref b1), .val (.int d0), .val (.int d1), .val (.int d2), .val (.int d3), .val (.ref b10), .val (.long (own_val_4 d0 d1 d2 d3 r0 r1 r2 r3)), .second, .val (.long (own_tot_4 r0 r1 r2 r3)), .second, .val (.long ((own_val_4 d0 d1 d2 d3 r0 r1 r2 r3) + (1 : Int64))), .second, .val (.int (1 : Int32)), .val (.int (own_adv_4_b d0 d1 d2 d3 r0 r1 r2 r3))] [(.int (own_dok_2_4 e2 r2 d2))])) st82 ?_
      refine own_go (x' := T82.setTop (mkF m 252 #[.val (.int p0), .val (.int p1), .val (.int p2), .val (.int p3), .val (.int p4), .val (.int (4 : Int32)), .val (.ref b1), .val (.int d0), .val (.int d1), .val (.int d2), .val (.int d3), .val (.ref b10), .val (.long (own_val_4 d0 d1 d2 d3 r0 r1 r2 r3)), .second, .val (.long (own_tot_4 r0 r1 r2 r3)), .second, .val (.long ((own_val_4 d0 d1 d2 d3 r0 r1 r2 r3) + (1 : Int64))), .second, .val (.int (1 : Int32)), .val (.int (own_adv_4_b d0 d1 d2 d3 r0 r1 r2 r3))] [(.int d3), (.int (4 : Int32)), (.int (3 : Int32)), (.ref b1), (.ref b10)])) (fun _ k => XS.ifNo X82.here hx rfl (hb hby at_240) rfl ((if0 _ _).trans (feq (show ¬ ((own_dok_2_4 e2 r2 d2) = (0 : Int32)) from by simp only [own_dok_2_4, if_neg (own_ok hx2).1, if_pos (own_ok hx2).2]; decide)).1) (XS.aload X82.here hx rfl (hb hby at_243) rfl rfl (XS.aload X82.here hx rfl (hb hby at_245) rfl rfl (XS.iconst X82.here hx rfl (hb hby at_247) (XS.iload X82.here hx rfl (hb hby at_248) rfl (XS.iload X82.here hx rfl (hb hby at_250) rfl k)))))) ?_
      obtain ⟨_, _, ⟨T83, L83, k83, n83⟩, -, X83, ⟨Lc83, hQ83, l83, y83, z83⟩, st83⟩ := Jvm.LawKit.callS X82 hx (y := (⟨"com/example/stratgen/stratgen/model/StateSpaceAdvancePinLaw", "digitOk", "([I[IIII)Z"⟩ : MethodName)) hown (mvT hZ (own_w hw 12 rfl)) (mvT hZ (own_w hw 13 rfl)) (mvT hZ (own_w hw 3 rfl)) (mvT hZ (own_w hw 14 rfl)) (by decide) (backOf (W := 0) (rm4_3_4 l Z a0 hw [] b10 b1 k10 k1 e0 e1 e2 e3 r0 r1 r2 r3 d3 T79.heap n0 Zs V_b10 V_b1) hZ (own_w hw 14 rfl) (own_w hw 3 rfl) (by decide) (by decide)) (g := (mkF m 252 #[.val (.int p0), .val (.int p1), .val (.int p2), .val (.int p3), .val (.int p4), .val (.int (4 : Int32)), .val (.ref b1), .val (.int d0), .val (.int d1), .val (.int d2), .val (.int d3), .val (.ref b10), .val (.long (own_val_4 d0 d1 d2 d3 r0 r1 r2 r3)), .second, .val (.long (own_tot_4 r0 r1 r2 r3)), .second, .val (.long ((own_val_4 d0 d1 d2 d3 r0 r1 r2 r3) + (1 : Int64))), .second, .val (.int (1 : Int32)), .val (.int (own_adv_4_b d0 d1 d2 d3 r0 r1 r2 r3))] [(.int d3), (.int (4 : Int32)), (.int (3 : Int32)), (.ref b1), (.ref b10)])) rfl (by rw [hml]; rfl) (argsL := [(.ref b10), (.ref b1), (.int (3 : Int32)), (.int (4 : Int32)), (.int d3)]) (rest := []) (lenOf pd_3 rfl) rfl (by show 2 * 0 + _ ≤ _; exact Nat.le_of_eq rfl) (hb hby at_252) (fun _ _ => ⟨rfl, eq82, (by decide : 2 + 0 ≤ _), (by decide : 8 + 0 ≤ _)⟩)
      dsimp only [Pt.U, Pt.locs, Pt.cells, Pt.slots] at X83 l83 y83 z83 st83 hQ83
      subst l83 y83 z83
      obtain ⟨hv83, Nq83, eq83⟩ := hQ83
      subst hv83
      replace Nf := Fr.app Nf Nq83
      refine own_go (x' := T83.setTop (mkF m 255 #[.val (.int p0), .val (.int p1), .val (.int p2), .val (.int p3), .val (.int p4), .val (.int (4 : Int32)), .val (.ref b1), .val (.int d0), .val (.int d1), .val (.int d2), .val (.int d3), .val (.ref b10), .val (.long (own_val_4 d0 d1 d2 d3 r0 r1 r2 r3)), .second, .val (.long (own_tot_4 r0 r1 r2 r3)), .second, .val (.long ((own_val_4 d0 d1 d2 d3 r0 r1 r2 r3) + (1 : Int64))), .second, .val (.int (1 : Int32)), .val (.int (own_adv_4_b d0 d1 d2 d3 r0 r1 r2 r3))] [(.int (own_dok_3_4 e3 r3 d3))])) st83 ?_
      refine own_go (x' := T83.setTop (mkF m 264 #[.val (.int p0), .val (.int p1), .val (.int p2), .val (.int p3), .val (.int p4), .val (.int (4 : Int32)), .val (.ref b1), .val (.int d0), .val (.int d1), .val (.int d2), .val (.int d3), .val (.ref b10), .val (.long (own_val_4 d0 d1 d2 d3 r0 r1 r2 r3)), .second, .val (.long (own_tot_4 r0 r1 r2 r3)), .second, .val (.long ((own_val_4 d0 d1 d2 d3 r0 r1 r2 r3) + (1 : Int64))), .second, .val (.int (1 : Int32)), .val (.int (own_adv_4_b d0 d1 d2 d3 r0 r1 r2 r3))] [(.int (4 : Int32)), (.ref b1), (.ref b10)])) (fun _ k => XS.ifNo X83.here hx rfl (hb hby at_255) rfl ((if0 _ _).trans (feq (show ¬ ((own_dok_3_4 e3 r3 d3) = (0 : Int32)) from by simp only [own_dok_3_4, if_neg (own_ok hx3).1, if_pos (own_ok hx3).2]; decide)).1) (XS.aload X83.here hx rfl (hb hby at_258) rfl rfl (XS.aload X83.here hx rfl (hb hby at_260) rfl rfl (XS.iload X83.here hx rfl (hb hby at_262) rfl k)))) ?_
      obtain ⟨_, _, ⟨T84, L84, k84, n84⟩, -, X84, ⟨Lc84, hQ84, l84, y84, z84⟩, st84⟩ := Jvm.LawKit.callS X83 hx (y := (⟨"com/example/stratgen/stratgen/model/StateSpaceAdvancePinLaw", "value", "([I[II)J"⟩ : MethodName)) hown (mvT hZ (own_w hw 1 rfl)) (mvT hZ (own_w hw 2 rfl)) (mvT hZ (own_w hw 3 rfl)) (mvT hZ (own_w hw 4 rfl)) (by decide) (backOf (W := 0) (rm1_4 l Z a0 hw [] b10 b1 k10 k1 e0 e1 e2 e3 r0 r1 r2 r3 T79.heap n0 Zs V_b10 V_b1) hZ (own_w hw 4 rfl) (own_w hw 3 rfl) (by decide) (by decide)) (g := (mkF m 264 #[.val (.int p0), .val (.int p1), .val (.int p2), .val (.int p3), .val (.int p4), .val (.int (4 : Int32)), .val (.ref b1), .val (.int d0), .val (.int d1), .val (.int d2), .val (.int d3), .val (.ref b10), .val (.long (own_val_4 d0 d1 d2 d3 r0 r1 r2 r3)), .second, .val (.long (own_tot_4 r0 r1 r2 r3)), .second, .val (.long ((own_val_4 d0 d1 d2 d3 r0 r1 r2 r3) + (1 : Int64))), .second, .val (.int (1 : Int32)), .val (.int (own_adv_4_b d0 d1 d2 d3 r0 r1 r2 r3))] [(.int (4 : Int32)), (.ref b1), (.ref b10)])) rfl (by rw [hml]; rfl) (argsL := [(.ref b10), (.ref b1), (.int (4 : Int32))]) (rest := []) (lenOf pd_0 rfl) rfl (by show 2 * 0 + _ ≤ _; exact Nat.le_of_eq rfl) (hb hby at_264) (fun _ _ => ⟨rfl, eq83, (by decide : 2 + 0 ≤ _), (by decide : 8 + 0 ≤ _)⟩)
      dsimp only [Pt.U, Pt.locs, Pt.cells, Pt.slots] at X84 l84 y84 z84 st84 hQ84
      subst l84 y84 z84
      obtain ⟨hv84, Nq84, eq84⟩ := hQ84
      subst hv84
      replace Nf := Fr.app Nf Nq84
      refine own_go (x' := T84.setTop (mkF m 267 #[.val (.int p0), .val (.int p1), .val (.int p2), .val (.int p3), .val (.int p4), .val (.int (4 : Int32)), .val (.ref b1), .val (.int d0), .val (.int d1), .val (.int d2), .val (.int d3), .val (.ref b10), .val (.long (own_val_4 d0 d1 d2 d3 r0 r1 r2 r3)), .second, .val (.long (own_tot_4 r0 r1 r2 r3)), .second, .val (.long ((own_val_4 d0 d1 d2 d3 r0 r1 r2 r3) + (1 : Int64))), .second, .val (.int (1 : Int32)), .val (.int (own_adv_4_b d0 d1 d2 d3 r0 r1 r2 r3))] [(.long (own_val_4 e0 e1 e2 e3 r0 r1 r2 r3))])) st84 ?_
      refine own_go (x' := T84.setTop (mkF m 278 #[.val (.int p0), .val (.int p1), .val (.int p2), .val (.int p3), .val (.int p4), .val (.int (4 : Int32)), .val (.ref b1), .val (.int d0), .val (.int d1), .val (.int d2), .val (.int d3), .val (.ref b10), .val (.long (own_val_4 d0 d1 d2 d3 r0 r1 r2 r3)), .second, .val (.long (own_tot_4 r0 r1 r2 r3)), .second, .val (.long ((own_val_4 d0 d1 d2 d3 r0 r1 r2 r3) + (1 : Int64))), .second, .val (.int (1 : Int32)), .val (.int (own_adv_4_b d0 d1 d2 d3 r0 r1 r2 r3))] [(.int (1 : Int32))])) (fun _ k => XS.lload X84.here hx rfl (hb hby at_267) rfl (XS.lcmp X84.here hx rfl (hb hby at_269) rfl (XS.ifNo X84.here hx rfl (hb hby at_270) rfl ((if0 _ _).trans (teq ((lw_eq (own_val_4 e0 e1 e2 e3 r0 r1 r2 r3) ((own_val_4 d0 d1 d2 d3 r0 r1 r2 r3) + (1 : Int64))).mpr hV)).2) (XS.iconst X84.here hx rfl (hb hby at_273) (XS.goto X84.here hx rfl (pc0 := 274) (pc' := 278) rfl (hb hby at_274) (by decide) (by decide) k))))) ?_
      refine own_retN X84 hx hlk (t := .boolean) hret (by simp) (hb hby at_278) (w := (1 : Int32)) rfl ?_ (by decide) (by decide)
      rw [eq84]
      exact ⟨rfl, Nf⟩
    · refine own_go (x' := T78.setTop (mkF m 178 #[.val (.int p0), .val (.int p1), .val (.int p2), .val (.int p3), .val (.int p4), .val (.int (4 : Int32)), .val (.ref b1), .val (.int d0), .val (.int d1), .val (.int d2), .val (.int d3), .val (.ref b10), .val (.long (own_val_4 d0 d1 d2 d3 r0 r1 r2 r3)), .second, .val (.long (own_tot_4 r0 r1 r2 r3)), .second, .val (.long ((own_val_4 d0 d1 d2 d3 r0 r1 r2 r3) + (1 : Int64))), .second, .val (.int (0 : Int32)), .unset] [(.long (0 : Int64))])) (fun _ k => XS.ifYes X78.here hx rfl (pc0 := 162) (pc' := 169) rfl (hb hby at_162) rfl ((if0 _ _).trans (flt (fun q_ => hc162 ((lw_lt ((own_val_4 d0 d1 d2 d3 r0 r1 r2 r3) + (1 : Int64)) (own_tot_4 r0 r1 r2 r3)).mp q_))).2.1) (by decide) (by decide) (XS.iconst X78.here hx rfl (hb hby at_169) (XS.istore X78.here hx rfl (hb hby at_170) rfl (l' := #[.val (.int p0), .val (.int p1), .val (.int p2), .val (.int p3), .val (.int p4), .val (.int (4 : Int32)), .val (.ref b1), .val (.int d0), .val (.int d1), .val (.int d2), .val (.int d3), .val (.ref b10), .val (.long (own_val_4 d0 d1 d2 d3 r0 r1 r2 r3)), .second, .val (.long (own_tot_4 r0 r1 r2 r3)), .second, .val (.long ((own_val_4 d0 d1 d2 d3 r0 r1 r2 r3) + (1 : Int64))), .second, .val (.int (0 : Int32)), .unset]) rfl (XS.iload X78.here hx rfl (hb hby at_172) rfl (XS.ifNo X78.here hx rfl (hb hby at_174) rfl ((if0 _ _).trans (teq rfl).2) (XS.lconst X78.here hx rfl (hb hby at_177) k)))))) ?_
      refine own_go (x' := T78.setTop (mkF m 186 #[.val (.int p0), .val (.int p1), .val (.int p2), .val (.int p3), .val (.int p4), .val (.int (4 : Int32)), .val (.ref b1), .val (.int d0), .val (.int d1), .val (.int d2), .val (.int d3), .val (.ref b10), .val (.long (own_val_4 d0 d1 d2 d3 r0 r1 r2 r3)), .second, .val (.long (own_tot_4 r0 r1 r2 r3)), .second, .val (.long (0 : Int64)), .second, .val (.int (0 : Int32)), .unset] [(.int (4 : Int32)), (.ref b1), (.ref b10)])) (fun _ k => XS.lstore X78.here hx rfl (hb hby at_178) rfl (l' := #[.val (.int p0), .val (.int p1), .val (.int p2), .val (.int p3), .val (.int p4), .val (.int (4 : Int32)), .val (.ref b1), .val (.int d0), .val (.int d1), .val (.int d2), .val (.int d3), .val (.ref b10), .val (.long (own_val_4 d0 d1 d2 d3 r0 r1 r2 r3)), .second, .val (.long (own_tot_4 r0 r1 r2 r3)), .second, .val (.long (0 : Int64)), .second, .val (.int (0 : Int32)), .unset]) rfl (XS.aload X78.here hx rfl (hb hby at_180) rfl rfl (XS.aload X78.here hx rfl (hb hby at_182) rfl rfl (XS.iload X78.here hx rfl (hb hby at_184) rfl k)))) ?_
      obtain ⟨_, _, ⟨T85, L85, k85, n85⟩, -, X85, ⟨Lc85, hQ85, l85, y85, z85⟩, st85⟩ := Jvm.LawKit.callS X78 hx (y := (⟨"com/example/stratgen/stratgen/model/StateSpace", "advance", "([I[II)Z"⟩ : MethodName)) hown (mvT hZ (own_w hw 8 rfl)) (mvT hZ (own_w hw 9 rfl)) (mvT hZ (own_w hw 10 rfl)) (mvT hZ (own_w hw 11 rfl)) (by decide) (backOf (W := 0) (rm3_4 l Z a0 hw [] b10 b1 k10 k1 d0 d1 d2 d3 r0 r1 r2 r3 h14 n0 Zs V_b10 V_b1 (Ne.symm ne_b1_b10) g_b10) hZ (own_w hw 11 rfl) (own_w hw 10 rfl) (by decide) (by decide)) (g := (mkF m 186 #[.val (.int p0), .val (.int p1), .val (.int p2), .val (.int p3), .val (.int p4), .val (.int (4 : Int32)), .val (.ref b1), .val (.int d0), .val (.int d1), .val (.int d2), .val (.int d3), .val (.ref b10), .val (.long (own_val_4 d0 d1 d2 d3 r0 r1 r2 r3)), .second, .val (.long (own_tot_4 r0 r1 r2 r3)), .second, .val (.long (0 : Int64)), .second, .val (.int (0 : Int32)), .unset] [(.int (4 : Int32)), (.ref b1), (.ref b10)])) rfl (by rw [hml]; rfl) (argsL := [(.ref b10), (.ref b1), (.int (4 : Int32))]) (rest := []) (lenOf pd_2 rfl) rfl (by show 2 * 0 + _ ≤ _; exact Nat.le_of_eq rfl) (hb hby at_186) (fun _ _ => ⟨rfl, eq78, (by decide : 2 + 0 ≤ _), (by decide : 8 + 0 ≤ _)⟩)
      dsimp only [Pt.U, Pt.locs, Pt.cells, Pt.slots] at X85 l85 y85 z85 st85 hQ85
      subst l85 y85 z85
      obtain ⟨hv85, Nq85, K85, Vn85⟩ := hQ85
      subst hv85
      replace Nf := Fr.app Nf Nq85
      replace V_b1 := V_b1.keep K85 (ninS ne_b1_b10 nin0)
      replace Zs := Nat.le_trans Zs K85.1
      replace V_b10 := Vn85
      obtain ⟨e0, he0⟩ : ∃ z, z = (own_adv_4_0 d0 d1 d2 d3 r0 r1 r2 r3) := ⟨_, rfl⟩
      obtain ⟨e1, he1⟩ : ∃ z, z = (own_adv_4_1 d0 d1 d2 d3 r0 r1 r2 r3) := ⟨_, rfl⟩
      obtain ⟨e2, he2⟩ : ∃ z, z = (own_adv_4_2 d0 d1 d2 d3 r0 r1 r2 r3) := ⟨_, rfl⟩
      obtain ⟨e3, he3⟩ : ∃ z, z = (own_adv_4_3 d0 d1 d2 d3 r0 r1 r2 r3) := ⟨_, rfl⟩
      rw [← he0, ← he1, ← he2, ← he3] at V_b10
      refine own_go (x' := T85.setTop (mkF m 189 #[.val (.int p0), .val (.int p1), .val (.int p2), .val (.int p3), .val (.int p4), .val (.int (4 : Int32)), .val (.ref b1), .val (.int d0), .val (.int d1), .val (.int d2), .val (.int d3), .val (.ref b10), .val (.long (own_val_4 d0 d1 d2 d3 r0 r1 r2 r3)), .second, .val (.long (own_tot_4 r0 r1 r2 r3)), .second, .val (.long (0 : Int64)), .second, .val (.int (0 : Int32)), .unset] [(.int (own_adv_4_b d0 d1 d2 d3 r0 r1 r2 r3))])) st85 ?_
      refine own_go (x' := T85.setTop (mkF m 191 #[.val (.int p0), .val (.int p1), .val (.int p2), .val (.int p3), .val (.int p4), .val (.int (4 : Int32)), .val (.ref b1), .val (.int d0), .val (.int d1), .val (.int d2), .val (.int d3), .val (.ref b10), .val (.long (own_val_4 d0 d1 d2 d3 r0 r1 r2 r3)), .second, .val (.long (own_tot_4 r0 r1 r2 r3)), .second, .val (.long (0 : Int64)), .second, .val (.int (0 : Int32)), .val (.int (own_adv_4_b d0 d1 d2 d3 r0 r1 r2 r3))] [])) (fun _ k => XS.istore X85.here hx rfl (hb hby at_189) rfl (l' := #[.val (.int p0), .val (.int p1), .val (.int p2), .val (.int p3), .val (.int p4), .val (.int (4 : Int32)), .val (.ref b1), .val (.int d0), .val (.int d1), .val (.int d2), .val (.int d3), .val (.ref b10), .val (.long (own_val_4 d0 d1 d2 d3 r0 r1 r2 r3)), .second, .val (.long (own_tot_4 r0 r1 r2 r3)), .second, .val (.long (0 : Int64)), .second, .val (.int (0 : Int32)), .val (.int (own_adv_4_b d0 d1 d2 d3 r0 r1 r2 r3))]) rfl k) ?_
      rw [← he0, ← he1, ← he2, ← he3] at hlaw
      rw [← he0] at hx0
      rw [← he1] at hx1
      rw [← he2] at hx2
      rw [← he3] at hx3
      obtain ⟨-, hB, hV⟩ := hlaw.resolve_left fun q => hc162 q.1
      refine own_go (x' := T85.setTop (mkF m 203 #[.val (.int p0), .val (.int p1), .val (.int p2), .val (.int p3), .val (.int p4), .val (.int (4 : Int32)), .val (.ref b1), .val (.int d0), .val (.int d1), .val (.int d2), .val (.int d3), .val (.ref b10), .val (.long (own_val_4 d0 d1 d2 d3 r0 r1 r2 r3)), .second, .val (.long (own_tot_4 r0 r1 r2 r3)), .second, .val (.long (0 : Int64)), .second, .val (.int (0 : Int32)), .val (.int (own_adv_4_b d0 d1 d2 d3 r0 r1 r2 r3))] [(.int (0 : Int32)), (.ref b1), (.ref b10)])) (fun _ k => XS.iload X85.here hx rfl (hb hby at_191) rfl (XS.iload X85.here hx rfl (hb hby at_193) rfl (XS.icmpNo X85.here hx rfl (hb hby at_195) rfl (teq hB).2 (XS.aload X85.here hx rfl (hb hby at_198) rfl rfl (XS.aload X85.here hx rfl (hb hby at_200) rfl rfl (XS.iconst X85.here hx rfl (hb hby at_202) k)))))) ?_
      refine own_go (x' := T85.setTop (mkF m 207 #[.val (.int p0), .val (.int p1), .val (.int p2), .val (.int p3), .val (.int p4), .val (.int (4 : Int32)), .val (.ref b1), .val (.int d0), .val (.int d1), .val (.int d2), .val (.int d3), .val (.ref b10), .val (.long (own_val_4 d0 d1 d2 d3 r0 r1 r2 r3)), .second, .val (.long (own_tot_4 r0 r1 r2 r3)), .second, .val (.long (0 : Int64)), .second, .val (.int (0 : Int32)), .val (.int (own_adv_4_b d0 d1 d2 d3 r0 r1 r2 r3))] [(.int d0), (.int (4 : Int32)), (.int (0 : Int32)), (.ref b1), (.ref b10)])) (fun _ k => XS.iload X85.here hx rfl (hb hby at_203) rfl (XS.iload X85.here hx rfl (hb hby at_205) rfl k)) ?_
      obtain ⟨_, _, ⟨T86, L86, k86, n86⟩, -, X86, ⟨Lc86, hQ86, l86, y86, z86⟩, st86⟩ := Jvm.LawKit.callS X85 hx (y := (⟨"com/example/stratgen/stratgen/model/StateSpaceAdvancePinLaw", "digitOk", "([I[IIII)Z"⟩ : MethodName)) hown (mvT hZ (own_w hw 12 rfl)) (mvT hZ (own_w hw 13 rfl)) (mvT hZ (own_w hw 3 rfl)) (mvT hZ (own_w hw 14 rfl)) (by decide) (backOf (W := 0) (rm4_0_4 l Z a0 hw [] b10 b1 k10 k1 e0 e1 e2 e3 r0 r1 r2 r3 d0 T85.heap n0 Zs V_b10 V_b1) hZ (own_w hw 14 rfl) (own_w hw 3 rfl) (by decide) (by decide)) (g := (mkF m 207 #[.val (.int p0), .val (.int p1), .val (.int p2), .val (.int p3), .val (.int p4), .val (.int (4 : Int32)), .val (.ref b1), .val (.int d0), .val (.int d1), .val (.int d2), .val (.int d3), .val (.ref b10), .val (.long (own_val_4 d0 d1 d2 d3 r0 r1 r2 r3)), .second, .val (.long (own_tot_4 r0 r1 r2 r3)), .second, .val (.long (0 : Int64)), .second, .val (.int (0 : Int32)), .val (.int (own_adv_4_b d0 d1 d2 d3 r0 r1 r2 r3))] [(.int d0), (.int (4 : Int32)), (.int (0 : Int32)), (.ref b1), (.ref b10)])) rfl (by rw [hml]; rfl) (argsL := [(.ref b10), (.ref b1), (.int (0 : Int32)), (.int (4 : Int32)), (.int d0)]) (rest := []) (lenOf pd_3 rfl) rfl (by show 2 * 0 + _ ≤ _; exact Nat.le_of_eq rfl) (hb hby at_207) (fun _ _ => ⟨rfl, rfl, (by decide : 2 + 0 ≤ _), (by decide : 8 + 0 ≤ _)⟩)
      dsimp only [Pt.U, Pt.locs, Pt.cells, Pt.slots] at X86 l86 y86 z86 st86 hQ86
      subst l86 y86 z86
      obtain ⟨hv86, Nq86, eq86⟩ := hQ86
      subst hv86
      replace Nf := Fr.app Nf Nq86
      refine own_go (x' := T86.setTop (mkF m 210 #[.val (.int p0), .val (.int p1), .val (.int p2), .val (.int p3), .val (.int p4), .val (.int (4 : Int32)), .val (.ref b1), .val (.int d0), .val (.int d1), .val (.int d2), .val (.int d3), .val (.ref b10), .val (.long (own_val_4 d0 d1 d2 d3 r0 r1 r2 r3)), .second, .val (.long (own_tot_4 r0 r1 r2 r3)), .second, .val (.long (0 : Int64)), .second, .val (.int (0 : Int32)), .val (.int (own_adv_4_b d0 d1 d2 d3 r0 r1 r2 r3))] [(.int (own_dok_0_4 e0 r0 d0))])) st86 ?_
      refine own_go (x' := T86.setTop (mkF m 222 #[.val (.int p0), .val (.int p1), .val (.int p2), .val (.int p3), .val (.int p4), .val (.int (4 : Int32)), .val (.ref b1), .val (.int d0), .val (.int d1), .val (.int d2), .val (.int d3), .val (.ref b10), .val (.long (own_val_4 d0 d1 d2 d3 r0 r1 r2 r3)), .second, .val (.long (own_tot_4 r0 r1 r2 r3)), .second, .val (.long (0 : Int64)), .second, .val (.int (0 : Int32)), .val (.int (own_adv_4_b d0 d1 d2 d3 r0 r1 r2 r3))] [(.int d1), (.int (4 : Int32)), (.int (1 : Int32)), (.ref b1), (.ref b10)])) (fun _ k => XS.ifNo X86.here hx rfl (hb hby at_210) rfl ((if0 _ _).trans (feq (show ¬ ((own_dok_0_4 e0 r0 d0) = (0 : Int32)) from by simp only [own_dok_0_4, if_neg (own_ok hx0).1, if_pos (own_ok hx0).2]; decide)).1) (XS.aload X86.here hx rfl (hb hby at_213) rfl rfl (XS.aload X86.here hx rfl (hb hby at_215) rfl rfl (XS.iconst X86.here hx rfl (hb hby at_217) (XS.iload X86.here hx rfl (hb hby at_218) rfl (XS.iload X86.here hx rfl (hb hby at_220) rfl k)))))) ?_
      obtain ⟨_, _, ⟨T87, L87, k87, n87⟩, -, X87, ⟨Lc87, hQ87, l87, y87, z87⟩, st87⟩ := Jvm.LawKit.callS X86 hx (y := (⟨"com/example/stratgen/stratgen/model/StateSpaceAdvancePinLaw", "digitOk", "([I[IIII)Z"⟩ : MethodName)) hown (mvT hZ (own_w hw 12 rfl)) (mvT hZ (own_w hw 13 rfl)) (mvT hZ (own_w hw 3 rfl)) (mvT hZ (own_w hw 14 rfl)) (by decide) (backOf (W := 0) (rm4_1_4 l Z a0 hw [] b10 b1 k10 k1 e0 e1 e2 e3 r0 r1 r2 r3 d1 T85.heap n0 Zs V_b10 V_b1) hZ (own_w hw 14 rfl) (own_w hw 3 rfl) (by decide) (by decide)) (g := (mkF m 222 #[.val (.int p0), .val (.int p1), .val (.int p2), .val (.int p3), .val (.int p4), .val (.int (4 : Int32)), .val (.ref b1), .val (.int d0), .val (.int d1), .val (.int d2), .val (.int d3), .val (.ref b10), .val (.long (own_val_4 d0 d1 d2 d3 r0 r1 r2 r3)), .second, .val (.long (own_tot_4 r0 r1 r2 r3)), .second, .val (.long (0 : Int64)), .second, .val (.int (0 : Int32)), .val (.int (own_adv_4_b d0 d1 d2 d3 r0 r1 r2 r3))] [(.int d1), (.int (4 : Int32)), (.int (1 : Int32)), (.ref b1), (.ref b10)])) rfl (by rw [hml]; rfl) (argsL := [(.ref b10), (.ref b1), (.int (1 : Int32)), (.int (4 : Int32)), (.int d1)]) (rest := []) (lenOf pd_3 rfl) rfl (by show 2 * 0 + _ ≤ _; exact Nat.le_of_eq rfl) (hb hby at_222) (fun _ _ => ⟨rfl, eq86, (by decide : 2 + 0 ≤ _), (by decide : 8 + 0 ≤ _)⟩)
      dsimp only [Pt.U, Pt.locs, Pt.cells, Pt.slots] at X87 l87 y87 z87 st87 hQ87
      subst l87 y87 z87
      obtain ⟨hv87, Nq87, eq87⟩ := hQ87
      subst hv87
      replace Nf := Fr.app Nf Nq87
      refine own_go (x' := T87.setTop (mkF m 225 #[.val (.int p0), .val (.int p1), .val (.int p2), .val (.int p3), .val (.int p4), .val (.int (4 : Int32)), .val (.ref b1), .val (.int d0), .val (.int d1), .val (.int d2), .val (.int d3), .val (.ref b10), .val (.long (own_val_4 d0 d1 d2 d3 r0 r1 r2 r3)), .second, .val (.long (own_tot_4 r0 r1 r2 r3)), .second, .val (.long (0 : Int64)), .second, .val (.int (0 : Int32)), .val (.int (own_adv_4_b d0 d1 d2 d3 r0 r1 r2 r3))] [(.int (own_dok_1_4 e1 r1 d1))])) st87 ?_
      refine own_go (x' := T87.setTop (mkF m 237 #[.val (.int p0), .val (.int p1), .val (.int p2), .val (.int p3), .val (.int p4), .val (.int (4 : Int32)), .val (.ref b1), .val (.int d0), .val (.int d1), .val (.int d2), .val (.int d3), .val (.ref b10), .val (.long (own_val_4 d0 d1 d2 d3 r0 r1 r2 r3)), .second, .val (.long (own_tot_4 r0 r1 r2 r3)), .second, .val (.long (0 : Int64)), .second, .val (.int (0 : Int32)), .val (.int (own_adv_4_b d0 d1 d2 d3 r0 r1 r2 r3))] [(.int d2), (.int (4 : Int32)), (.int (2 : Int32)), (.ref b1), (.ref b10)])) (fun _ k => XS.ifNo X87.here hx rfl (hb hby at_225) rfl ((if0 _ _).trans (feq (show ¬ ((own_dok_1_4 e1 r1 d1) = (0 : Int32)) from by simp only [own_dok_1_4, if_neg (own_ok hx1).1, if_pos (own_ok hx1).2]; decide)).1) (XS.aload X87.here hx rfl (hb hby at_228) rfl rfl (XS.aload X87.here hx rfl (hb hby at_230) rfl rfl (XS.iconst X87.here hx rfl (hb hby at_232) (XS.iload X87.here hx rfl (hb hby at_233) rfl (XS.iload X87.here hx rfl (hb hby at_235) rfl k)))))) ?_
      obtain ⟨_, _, ⟨T88, L88, k88, n88⟩, -, X88, ⟨Lc88, hQ88, l88, y88, z88⟩, st88⟩ := Jvm.LawKit.callS X87 hx (y := (⟨"com/example/stratgen/stratgen/model/StateSpaceAdvancePinLaw", "digitOk", "([I[IIII)Z"⟩ : MethodName)) hown (mvT hZ (own_w hw 12 rfl)) (mvT hZ (own_w hw 13 rfl)) (mvT hZ (own_w hw 3 rfl)) (mvT hZ (own_w hw 14 rfl)) (by decide) (backOf (W := 0) (rm4_2_4 l Z a0 hw [] b10 b1 k10 k1 e0 e1 e2 e3 r0 r1 r2 r3 d2 T85.heap n0 Zs V_b10 V_b1) hZ (own_w hw 14 rfl) (own_w hw 3 rfl) (by decide) (by decide)) (g := (mkF m 237 #[.val (.int p0), .val (.int p1), .val (.int p2), .val (.int p3), .val (.int p4), .val (.int (4 : Int32)), .val (.ref b1), .val (.int d0), .val (.int d1), .val (.int d2), .val (.int d3), .val (.ref b10), .val (.long (own_val_4 d0 d1 d2 d3 r0 r1 r2 r3)), .second, .val (.long (own_tot_4 r0 r1 r2 r3)), .second, .val (.long (0 : Int64)), .second, .val (.int (0 : Int32)), .val (.int (own_adv_4_b d0 d1 d2 d3 r0 r1 r2 r3))] [(.int d2), (.int (4 : Int32)), (.int (2 : Int32)), (.ref b1), (.ref b10)])) rfl (by rw [hml]; rfl) (argsL := [(.ref b10), (.ref b1), (.int (2 : Int32)), (.int (4 : Int32)), (.int d2)]) (rest := []) (lenOf pd_3 rfl) rfl (by show 2 * 0 + _ ≤ _; exact Nat.le_of_eq rfl) (hb hby at_237) (fun _ _ => ⟨rfl, eq87, (by decide : 2 + 0 ≤ _), (by decide : 8 + 0 ≤ _)⟩)
      dsimp only [Pt.U, Pt.locs, Pt.cells, Pt.slots] at X88 l88 y88 z88 st88 hQ88
      subst l88 y88 z88
      obtain ⟨hv88, Nq88, eq88⟩ := hQ88
      subst hv88
      replace Nf := Fr.app Nf Nq88
      refine own_go (x' := T88.setTop (mkF m 240 #[.val (.int p0), .val (.int p1), .val (.int p2), .val (.int p3), .val (.int p4), .val (.int (4 : Int32)), .val (.ref b1), .val (.int d0), .val (.int d1), .val (.int d2), .val (.int d3), .val (.ref b10), .val (.long (own_val_4 d0 d1 d2 d3 r0 r1 r2 r3)), .second, .val (.long (own_tot_4 r0 r1 r2 r3)), .second, .val (.long (0 : Int64)), .second, .val (.int (0 : Int32)), .val (.int (own_adv_4_b d0 d1 d2 d3 r0 r1 r2 r3))] [(.int (own_dok_2_4 e2 r2 d2))])) st88 ?_
      refine own_go (x' := T88.setTop (mkF m 252 #[.val (.int p0), .val (.int p1), .val (.int p2), .val (.int p3), .val (.int p4), .val (.int (4 : Int32)), .val (.ref b1), .val (.int d0), .val (.int d1), .val (.int d2), .val (.int d3), .val (.ref b10), .val (.long (own_val_4 d0 d1 d2 d3 r0 r1 r2 r3)), .second, .val (.long (own_tot_4 r0 r1 r2 r3)), .second, .val (.long (0 : Int64)), .second, .val (.int (0 : Int32)), .val (.int (own_adv_4_b d0 d1 d2 d3 r0 r1 r2 r3))] [(.int d3), (.int (4 : Int32)), (.int (3 : Int32)), (.ref b1), (.ref b10)])) (fun _ k => XS.ifNo X88.here hx rfl (hb hby at_240) rfl ((if0 _ _).trans (feq (show ¬ ((own_dok_2_4 e2 r2 d2) = (0 : Int32)) from by simp only [own_dok_2_4, if_neg (own_ok hx2).1, if_pos (own_ok hx2).2]; decide)).1) (XS.aload X88.here hx rfl (hb hby at_243) rfl rfl (XS.aload X88.here hx rfl (hb hby at_245) rfl rfl (XS.iconst X88.here hx rfl (hb hby at_247) (XS.iload X88.here hx rfl (hb hby at_248) rfl (XS.iload X88.here hx rfl (hb hby at_250) rfl k)))))) ?_
      obtain ⟨_, _, ⟨T89, L89, k89, n89⟩, -, X89, ⟨Lc89, hQ89, l89, y89, z89⟩, st89⟩ := Jvm.LawKit.callS X88 hx (y := (⟨"com/example/stratgen/stratgen/model/StateSpaceAdvancePinLaw", "digitOk", "([I[IIII)Z"⟩ : MethodName)) hown (mvT hZ (own_w hw 12 rfl)) (mvT hZ (own_w hw 13 rfl)) (mvT hZ (own_w hw 3 rfl)) (mvT hZ (own_w hw 14 rfl)) (by decide) (backOf (W := 0) (rm4_3_4 l Z a0 hw [] b10 b1 k10 k1 e0 e1 e2 e3 r0 r1 r2 r3 d3 T85.heap n0 Zs V_b10 V_b1) hZ (own_w hw 14 rfl) (own_w hw 3 rfl) (by decide) (by decide)) (g := (mkF m 252 #[.val (.int p0), .val (.int p1), .val (.int p2), .val (.int p3), .val (.int p4), .val (.int (4 : Int32)), .val (.ref b1), .val (.int d0), .val (.int d1), .val (.int d2), .val (.int d3), .val (.ref b10), .val (.long (own_val_4 d0 d1 d2 d3 r0 r1 r2 r3)), .second, .val (.long (own_tot_4 r0 r1 r2 r3)), .second, .val (.long (0 : Int64)), .second, .val (.int (0 : Int32)), .val (.int (own_adv_4_b d0 d1 d2 d3 r0 r1 r2 r3))] [(.int d3), (.int (4 : Int32)), (.int (3 : Int32)), (.ref b1), (.ref b10)])) rfl (by rw [hml]; rfl) (argsL := [(.ref b10), (.ref b1), (.int (3 : Int32)), (.int (4 : Int32)), (.int d3)]) (rest := []) (lenOf pd_3 rfl) rfl (by show 2 * 0 + _ ≤ _; exact Nat.le_of_eq rfl) (hb hby at_252) (fun _ _ => ⟨rfl, eq88, (by decide : 2 + 0 ≤ _), (by decide : 8 + 0 ≤ _)⟩)
      dsimp only [Pt.U, Pt.locs, Pt.cells, Pt.slots] at X89 l89 y89 z89 st89 hQ89
      subst l89 y89 z89
      obtain ⟨hv89, Nq89, eq89⟩ := hQ89
      subst hv89
      replace Nf := Fr.app Nf Nq89
      refine own_go (x' := T89.setTop (mkF m 255 #[.val (.int p0), .val (.int p1), .val (.int p2), .val (.int p3), .val (.int p4), .val (.int (4 : Int32)), .val (.ref b1), .val (.int d0), .val (.int d1), .val (.int d2), .val (.int d3), .val (.ref b10), .val (.long (own_val_4 d0 d1 d2 d3 r0 r1 r2 r3)), .second, .val (.long (own_tot_4 r0 r1 r2 r3)), .second, .val (.long (0 : Int64)), .second, .val (.int (0 : Int32)), .val (.int (own_adv_4_b d0 d1 d2 d3 r0 r1 r2 r3))] [(.int (own_dok_3_4 e3 r3 d3))])) st89 ?_
      refine own_go (x' := T89.setTop (mkF m 264 #[.val (.int p0), .val (.int p1), .val (.int p2), .val (.int p3), .val (.int p4), .val (.int (4 : Int32)), .val (.ref b1), .val (.int d0), .val (.int d1), .val (.int d2), .val (.int d3), .val (.ref b10), .val (.long (own_val_4 d0 d1 d2 d3 r0 r1 r2 r3)), .second, .val (.long (own_tot_4 r0 r1 r2 r3)), .second, .val (.long (0 : Int64)), .second, .val (.int (0 : Int32)), .val (.int (own_adv_4_b d0 d1 d2 d3 r0 r1 r2 r3))] [(.int (4 : Int32)), (.ref b1), (.ref b10)])) (fun _ k => XS.ifNo X89.here hx rfl (hb hby at_255) rfl ((if0 _ _).trans (feq (show ¬ ((own_dok_3_4 e3 r3 d3) = (0 : Int32)) from by simp only [own_dok_3_4, if_neg (own_ok hx3).1, if_pos (own_ok hx3).2]; decide)).1) (XS.aload X89.here hx rfl (hb hby at_258) rfl rfl (XS.aload X89.here hx rfl (hb hby at_260) rfl rfl (XS.iload X89.here hx rfl (hb hby at_262) rfl k)))) ?_
      obtain ⟨_, _, ⟨T90, L90, k90, n90⟩, -, X90, ⟨Lc90, hQ90, l90, y90, z90⟩, st90⟩ := Jvm.LawKit.callS X89 hx (y := (⟨"com/example/stratgen/stratgen/model/StateSpaceAdvancePinLaw", "value", "([I[II)J"⟩ : MethodName)) hown (mvT hZ (own_w hw 1 rfl)) (mvT hZ (own_w hw 2 rfl)) (mvT hZ (own_w hw 3 rfl)) (mvT hZ (own_w hw 4 rfl)) (by decide) (backOf (W := 0) (rm1_4 l Z a0 hw [] b10 b1 k10 k1 e0 e1 e2 e3 r0 r1 r2 r3 T85.heap n0 Zs V_b10 V_b1) hZ (own_w hw 4 rfl) (own_w hw 3 rfl) (by decide) (by decide)) (g := (mkF m 264 #[.val (.int p0), .val (.int p1), .val (.int p2), .val (.int p3), .val (.int p4), .val (.int (4 : Int32)), .val (.ref b1), .val (.int d0), .val (.int d1), .val (.int d2), .val (.int d3), .val (.ref b10), .val (.long (own_val_4 d0 d1 d2 d3 r0 r1 r2 r3)), .second, .val (.long (own_tot_4 r0 r1 r2 r3)), .second, .val (.long (0 : Int64)), .second, .val (.int (0 : Int32)), .val (.int (own_adv_4_b d0 d1 d2 d3 r0 r1 r2 r3))] [(.int (4 : Int32)), (.ref b1), (.ref b10)])) rfl (by rw [hml]; rfl) (argsL := [(.ref b10), (.ref b1), (.int (4 : Int32))]) (rest := []) (lenOf pd_0 rfl) rfl (by show 2 * 0 + _ ≤ _; exact Nat.le_of_eq rfl) (hb hby at_264) (fun _ _ => ⟨rfl, eq89, (by decide : 2 + 0 ≤ _), (by decide : 8 + 0 ≤ _)⟩)
      dsimp only [Pt.U, Pt.locs, Pt.cells, Pt.slots] at X90 l90 y90 z90 st90 hQ90
      subst l90 y90 z90
      obtain ⟨hv90, Nq90, eq90⟩ := hQ90
      subst hv90
      replace Nf := Fr.app Nf Nq90
      refine own_go (x' := T90.setTop (mkF m 267 #[.val (.int p0), .val (.int p1), .val (.int p2), .val (.int p3), .val (.int p4), .val (.int (4 : Int32)), .val (.ref b1), .val (.int d0), .val (.int d1), .val (.int d2), .val (.int d3), .val (.ref b10), .val (.long (own_val_4 d0 d1 d2 d3 r0 r1 r2 r3)), .second, .val (.long (own_tot_4 r0 r1 r2 r3)), .second, .val (.long (0 : Int64)), .second, .val (.int (0 : Int32)), .val (.int (own_adv_4_b d0 d1 d2 d3 r0 r1 r2 r3))] [(.long (own_val_4 e0 e1 e2 e3 r0 r1 r2 r3))])) st90 ?_
      refine own_go (x' := T90.setTop (mkF m 278 #[.val (.int p0), .val (.int p1), .val (.int p2), .val (.int p3), .val (.int p4), .val (.int (4 : Int32)), .val (.ref b1), .val (.int d0), .val (.int d1), .val (.int d2), .val (.int d3), .val (.ref b10), .val (.long (own_val_4 d0 d1 d2 d3 r0 r1 r2 r3)), .second, .val (.long (own_tot_4 r0 r1 r2 r3)), .second, .val (.long (0 : Int64)), .second, .val (.int (0 : Int32)), .val (.int (own_adv_4_b d0 d1 d2 d3 r0 r1 r2 r3))] [(.int (1 : Int32))])) (fun _ k => XS.lload X90.here hx rfl (hb hby at_267) rfl (XS.lcmp X90.here hx rfl (hb hby at_269) rfl (XS.ifNo X90.here hx rfl (hb hby at_270) rfl ((if0 _ _).trans (teq ((lw_eq (own_val_4 e0 e1 e2 e3 r0 r1 r2 r3) (0 : Int64)).mpr hV)).2) (XS.iconst X90.here hx rfl (hb hby at_273) (XS.goto X90.here hx rfl (pc0 := 274) (pc' := 278) rfl (hb hby at_274) (by decide) (by decide) k))))) ?_
      refine own_retN X90 hx hlk (t := .boolean) hret (by simp) (hb hby at_278) (w := (1 : Int32)) rfl ?_ (by decide) (by decide)
      rw [eq90]
      exact ⟨rfl, Nf⟩
set_option maxRecDepth 65536 in
set_option maxHeartbeats 40000000 in
theorem comes_1 {Post : Tables → Env → Array Value → State → Outcome → State → Prop} (hpost : ∀ tb e args s v u, (limb_1_1.after args s (.returned v) u = true ∧ limb_1_2.after args s (.returned v) u = true ∧ True) → FrameEnd s (.returned v) u (Jvm.fieldLocs frame_1_writes args s ++ Jvm.arrayLocs frame_1_arrays args s ++ Jvm.staticLocs frame_1_statics s) 16 128 → Post tb e args s (.returned v) u) :
    ArmFor flags0 classFile x code maxLocals ret World_1 tables_1 room_1 Calls_1 rest_1 Pre_1 Post := by
  intro l hfl _ _ p e ha hc hk s m args below hf hA hF happ hP
  obtain ⟨hcalls, hrest, hpre⟩ := hP
  obtain ⟨-, -, -, hnamed, -, -, -, hat⟩ := (Spec.applies_iff hf).mp happ
  obtain ⟨hg, hn⟩ := and_e (Cond.before_iff.mp (show (Jvm.Cond.and given_1 narrow_1).before args s = true from hpre))
  obtain ⟨gg1, gg2⟩ := and_e hg
  obtain ⟨gg3, gg4⟩ := and_e gg2
  obtain ⟨gg5, gg6⟩ := and_e gg4
  obtain ⟨gg7, gg8⟩ := and_e gg6
  obtain ⟨gg9, gg10⟩ := and_e gg8
  obtain ⟨w0, w1, w2, w3, w4, rfl⟩ : ∃ w0 w1 w2 w3 w4 : Value, args = #[w0, w1, w2, w3, w4] := by
    have hs : args.size = 5 := by simpa [Cond.value, given_1] using gg1
    obtain ⟨L⟩ := args
    match L, hs with
    | [w0, w1, w2, w3, w4], _ => exact ⟨w0, w1, w2, w3, w4, rfl⟩
  have hw := fun d (hd : d ∈ tables_1) => atoms_spec (ws := Jvm.Cond.code x code maxLocals ret :: tables_1) hat d (List.mem_cons_of_mem _ hd)
  have hfit : Fit s := fun {y c} hc i hi => by
    obtain ⟨ha, rfl⟩ := Array.getElem?_eq_some_iff.mp hc
    have q := List.all_eq_true.mp ((Array.all_eq_true_iff_forall_mem.mp hF) _ (Array.getElem_mem ha)) i (List.mem_range.mpr hi)
    simpa [Array.getElem?_eq_getElem hi] using q
  obtain ⟨i0, ei0⟩ := is_v gg3
  obtain rfl : w0 = (.int i0) := Option.some.inj ei0
  obtain ⟨i1, ei1⟩ := is_v gg5
  obtain rfl : w1 = (.int i1) := Option.some.inj ei1
  obtain ⟨i2, ei2⟩ := is_v gg7
  obtain rfl : w2 = (.int i2) := Option.some.inj ei2
  obtain ⟨i3, ei3⟩ := is_v gg9
  obtain rfl : w3 = (.int i3) := Option.some.inj ei3
  obtain ⟨i4, ei4⟩ := is_v gg10
  obtain rfl : w4 = (.int i4) := Option.some.inj ei4
  obtain ⟨n, o, h1, h2, h3, _, L, rfl, ⟨rfl, N⟩, hq⟩ := rm0 l s _ hw tables_1 i0 i1 i2 i3 i4  s.heap s.heap.size (Nat.le_refl _)  p e ha hc hk s m _ below hf ((Spec.applies_iff_loose hf).mp happ).1 ⟨rfl, State.Warmed39.refl s, rfl⟩ trivial
  refine ⟨n, _, h1, h2, h3, hpost _ _ _ _ _ _ ⟨Cond.after_iff.mpr rfl, Cond.after_iff.mpr (eq_i res_at (Term.int_eval (1)) rfl), trivial⟩ ⟨hq.1, hq.2.1, (hq.2.2.sift fun y hy => Or.inr (N y hy)).mono (by decide) (by decide)⟩⟩
theorem main_1_1 : Claimed_1_1 := comes_1 fun _ _ _ _ _ _ h hF => ⟨h.1, hF⟩
theorem main_1_2 : Claimed_1_2 := comes_1 fun _ _ _ _ _ _ h hF => ⟨h.2.1, hF⟩
end Jvm.Pilot.@@N@@
namespace Jvm.Pilot.@@N@@
open Jvm Jvm.ClassFile Sem Op Lib Jvm.Free Jvm.Stand Jvm.Pilot.@@N@@.Jvm.D
/-! MADE BY PROGRAM (witnessworld.py) out of the Statement's table words and the real class files: 10 classes; the members and pool entries that the words name. The judged class is class 1, her method 4. -/
namespace start1
open Jvm.ClassFile
def u (s : String) : CpInfo := .utf8 (stringToUtf16 s)
/-- a pool by its gaps: so many unusable entries, then the entry; so many at the end -/
def gap : Nat → List CpInfo → List CpInfo
  | 0, r => r
  | n + 1, r => .unusable :: gap n r
def poolList (es : List (Nat × CpInfo)) (last : Nat) : List CpInfo := es.foldr (fun e r => gap e.1 (e.2 :: r)) (gap last [])
def pool (es : List (Nat × CpInfo)) (last : Nat) : Array CpInfo := ⟨poolList es last⟩
def fileOf (pool : Array CpInfo) (this : Nat) (attrs : Array Attribute := #[]) (ms : Array MethodInfo := #[]) (fl : Nat := 33) (sup : Nat := 0) (ifs : Array Nat := #[]) (fds : Array FieldInfo := #[]) : ClassFile where
  minorVersion := 0
  majorVersion := 65
  constantPool := pool
  accessFlags := fl
  thisClass := this
  superClass := sup
  interfaces := ifs
  fields := fds
  methods := ms
  attributes := attrs
def plain (name : String) (sup : Option ClassId) : Class where
  name := name
  kind := .ordinary
  loader := none
  accessFlags := 33
  super := sup
  interfaces := #[]
  cf := none
  fields := #[]
  methods := #[]
  instanceTypes := #[]
  staticTypes := #[]
  resolved := #[]
  callSites := []
  init := .initialized
  statics := none
  mirror := none

def pool0 : Array CpInfo := pool [(5, u "<init>"), (0, u "()V"), (1, .class_ 10), (1, u "java/lang/Object")] 113

def k0m0 : Method := { name := "<init>", desc := "()V", sig := { parameters := [], returnType := none }, accessFlags := 1, code := none }
/-- java/lang/Object -/
def k0 : Class := { plain "java/lang/Object" none with
  accessFlags := 33
  interfaces := #[]
  cf := some (fileOf pool0 8 #[] #[{ accessFlags := 1, nameIndex := 5, descriptorIndex := 6, attributes := #[] }] 33 0 #[] #[])
  fields := #[]
  methods := #[k0m0]
  instanceTypes := #[]
  staticTypes := #[]
  resolved := Array.replicate 124 none
  statics := none }

def pool1 : Array CpInfo := pool [(2, .class_ 4), (1, u "java/lang/Object"), (0, u "<init>"), (0, u "()V"), (0, .methodref 8 9), (0, .class_ 10), (0, .nameAndType 11 12), (0, u "com/example/stratgen/stratgen/model/StateSpaceAdvancePinLaw"), (0, u "value"), (0, u "([I[II)J"), (0, .methodref 8 14), (0, .nameAndType 15 16), (0, u "total"), (0, u "([II)J"), (0, .methodref 18 19), (0, .class_ 20), (0, .nameAndType 21 22), (0, u "com/example/stratgen/stratgen/model/StateSpace"), (0, u "advance"), (0, u "([I[II)Z"), (0, .methodref 8 24), (0, .nameAndType 25 26), (0, u "digitOk"), (0, u "([I[IIII)Z"), (3, u "law"), (0, u "(IIIII)Z")] 4

def k1m0 : Method := { name := "<init>", desc := "()V", sig := { parameters := [], returnType := none }, accessFlags := 1, code := none }
def k1c1 : Code := { maxStack := 4, maxLocals := 5, code := method_2_code, exceptionTable := #[], attributes := #[] }
def k1m1 : Method := { name := "value", desc := "([I[II)J", sig := { parameters := [(.array .int), (.array .int), .int], returnType := some .long }, accessFlags := 10, code := some k1c1 }
def k1c2 : Code := { maxStack := 4, maxLocals := 4, code := method_3_code, exceptionTable := #[], attributes := #[] }
def k1m2 : Method := { name := "total", desc := "([II)J", sig := { parameters := [(.array .int), .int], returnType := some .long }, accessFlags := 10, code := some k1c2 }
def k1c3 : Code := { maxStack := 3, maxLocals := 5, code := method_4_code, exceptionTable := #[], attributes := #[] }
def k1m3 : Method := { name := "digitOk", desc := "([I[IIII)Z", sig := { parameters := [(.array .int), (.array .int), .int, .int, .int], returnType := some .boolean }, accessFlags := 10, code := some k1c3 }
def k1c4 : Code := { maxStack := 5, maxLocals := 20, code := code, exceptionTable := #[], attributes := #[] }
def k1m4 : Method := { name := "law", desc := "(IIIII)Z", sig := { parameters := [.int, .int, .int, .int, .int], returnType := some .boolean }, accessFlags := 9, code := some k1c4 }
/-- com/example/stratgen/stratgen/model/StateSpaceAdvancePinLaw -/
def k1 : Class := { plain "com/example/stratgen/stratgen/model/StateSpaceAdvancePinLaw" (some 0) with
  accessFlags := 49
  interfaces := #[]
  cf := some (fileOf pool1 8 #[] #[{ accessFlags := 1, nameIndex := 5, descriptorIndex := 6, attributes := #[] }, { accessFlags := 10, nameIndex := 11, descriptorIndex := 12, attributes := #[] }, { accessFlags := 10, nameIndex := 15, descriptorIndex := 16, attributes := #[] }, { accessFlags := 10, nameIndex := 25, descriptorIndex := 26, attributes := #[] }, { accessFlags := 9, nameIndex := 30, descriptorIndex := 31, attributes := #[] }] 49 2 #[] #[])
  fields := #[]
  methods := #[k1m0, k1m1, k1m2, k1m3, k1m4]
  instanceTypes := #[]
  staticTypes := #[]
  resolved := Array.replicate 36 none
  statics := none }

def pool2 : Array CpInfo := pool [(2, .class_ 4), (1, u "java/lang/Object"), (0, u "<init>"), (0, u "()V"), (4, .class_ 13), (1, u "com/example/stratgen/stratgen/model/Mdp"), (0, u "expanded"), (0, u "Ljava/util/BitSet;"), (2, u "firstChoice"), (0, u "[I"), (2, u "endChoice"), (2, u "firstTransition"), (2, u "successors"), (2, u "probabilities"), (0, u "[D"), (2, u "stateCount"), (0, u "I"), (2, u "choiceCount"), (31, u "transitionCount")] 50

def k2m0 : Method := { name := "<init>", desc := "()V", sig := { parameters := [], returnType := none }, accessFlags := 1, code := none }
/-- com/example/stratgen/stratgen/model/Mdp -/
def k2 : Class := { plain "com/example/stratgen/stratgen/model/Mdp" (some 0) with
  accessFlags := 1057
  interfaces := #[]
  cf := some (fileOf pool2 11 #[] #[{ accessFlags := 1, nameIndex := 5, descriptorIndex := 6, attributes := #[] }] 1057 2 #[] #[{ accessFlags := 18, nameIndex := 14, descriptorIndex := 15, attributes := #[] }, { accessFlags := 2, nameIndex := 35, descriptorIndex := 36, attributes := #[] }, { accessFlags := 2, nameIndex := 39, descriptorIndex := 36, attributes := #[] }, { accessFlags := 2, nameIndex := 71, descriptorIndex := 36, attributes := #[] }, { accessFlags := 2, nameIndex := 18, descriptorIndex := 19, attributes := #[] }, { accessFlags := 2, nameIndex := 22, descriptorIndex := 19, attributes := #[] }, { accessFlags := 2, nameIndex := 25, descriptorIndex := 19, attributes := #[] }, { accessFlags := 2, nameIndex := 28, descriptorIndex := 19, attributes := #[] }, { accessFlags := 2, nameIndex := 31, descriptorIndex := 32, attributes := #[] }])
  fields := #[{ name := "expanded", type := (.object "java/util/BitSet"), accessFlags := 18, slot := 0, constantValue := 0 }, { name := "stateCount", type := .int, accessFlags := 2, slot := 1, constantValue := 0 }, { name := "choiceCount", type := .int, accessFlags := 2, slot := 2, constantValue := 0 }, { name := "transitionCount", type := .int, accessFlags := 2, slot := 3, constantValue := 0 }, { name := "firstChoice", type := (.array .int), accessFlags := 2, slot := 4, constantValue := 0 }, { name := "endChoice", type := (.array .int), accessFlags := 2, slot := 5, constantValue := 0 }, { name := "firstTransition", type := (.array .int), accessFlags := 2, slot := 6, constantValue := 0 }, { name := "successors", type := (.array .int), accessFlags := 2, slot := 7, constantValue := 0 }, { name := "probabilities", type := (.array .double), accessFlags := 2, slot := 8, constantValue := 0 }]
  methods := #[k2m0]
  instanceTypes := #[(.object "java/util/BitSet"), .int, .int, .int, (.array .int), (.array .int), (.array .int), (.array .int), (.array .double)]
  staticTypes := #[]
  resolved := Array.replicate 122 none
  statics := none }

def pool3 : Array CpInfo := pool [(2, .class_ 4), (1, u "com/example/stratgen/stratgen/model/Mdp"), (6, .class_ 13), (1, u "com/example/stratgen/stratgen/model/StateSpace"), (0, u "states"), (0, u "Lcom/example/stratgen/stratgen/model/StateIndex;"), (5, u "byCommand"), (0, u "Ljava/util/List;"), (2, u "firstParticipant"), (0, u "[I"), (2, u "participants"), (2, u "model"), (0, u "Lcom/example/stratgen/stratgen/model/Model;"), (7, u "commands"), (0, u "Lcom/example/stratgen/stratgen/model/CommandTable;"), (0, .class_ 44), (0, u "com/example/stratgen/stratgen/model/StateSpace$Explorer"), (5, u "explorer"), (0, u "Lcom/example/stratgen/stratgen/model/StateSpace$Explorer;"), (4, .class_ 57), (0, u "com/example/stratgen/stratgen/model/StateSpace$Participant"), (63, u "participantCount"), (0, u "I"), (176, u "PROBABILITY_TOLERANCE"), (0, u "D"), (29, u "advance"), (0, u "([I[II)Z")] 38

def k3c0 : Code := { maxStack := 4, maxLocals := 4, code := prog_90_method_21_code, exceptionTable := #[], attributes := #[] }
def k3m0 : Method := { name := "advance", desc := "([I[II)Z", sig := { parameters := [(.array .int), (.array .int), .int], returnType := some .boolean }, accessFlags := 8, code := some k3c0 }
/-- com/example/stratgen/stratgen/model/StateSpace -/
def k3 : Class := { plain "com/example/stratgen/stratgen/model/StateSpace" (some 2) with
  accessFlags := 33
  interfaces := #[]
  cf := some (fileOf pool3 11 #[.nestMembers #[56, 43]] #[{ accessFlags := 8, nameIndex := 330, descriptorIndex := 331, attributes := #[] }] 33 2 #[] #[{ accessFlags := 26, nameIndex := 299, descriptorIndex := 300, attributes := #[] }, { accessFlags := 18, nameIndex := 32, descriptorIndex := 33, attributes := #[] }, { accessFlags := 18, nameIndex := 41, descriptorIndex := 42, attributes := #[] }, { accessFlags := 18, nameIndex := 14, descriptorIndex := 15, attributes := #[] }, { accessFlags := 18, nameIndex := 50, descriptorIndex := 51, attributes := #[] }, { accessFlags := 18, nameIndex := 21, descriptorIndex := 22, attributes := #[] }, { accessFlags := 2, nameIndex := 25, descriptorIndex := 26, attributes := #[] }, { accessFlags := 2, nameIndex := 29, descriptorIndex := 26, attributes := #[] }, { accessFlags := 2, nameIndex := 121, descriptorIndex := 122, attributes := #[] }])
  fields := #[{ name := "PROBABILITY_TOLERANCE", type := .double, accessFlags := 26, slot := 0, constantValue := 0 }, { name := "model", type := (.object "com/example/stratgen/stratgen/model/Model"), accessFlags := 18, slot := 9, constantValue := 0 }, { name := "commands", type := (.object "com/example/stratgen/stratgen/model/CommandTable"), accessFlags := 18, slot := 10, constantValue := 0 }, { name := "states", type := (.object "com/example/stratgen/stratgen/model/StateIndex"), accessFlags := 18, slot := 11, constantValue := 0 }, { name := "explorer", type := (.object "com/example/stratgen/stratgen/model/StateSpace$Explorer"), accessFlags := 18, slot := 12, constantValue := 0 }, { name := "byCommand", type := (.object "java/util/List"), accessFlags := 18, slot := 13, constantValue := 0 }, { name := "firstParticipant", type := (.array .int), accessFlags := 2, slot := 14, constantValue := 0 }, { name := "participants", type := (.array .int), accessFlags := 2, slot := 15, constantValue := 0 }, { name := "participantCount", type := .int, accessFlags := 2, slot := 16, constantValue := 0 }]
  methods := #[k3m0]
  instanceTypes := #[(.object "java/util/BitSet"), .int, .int, .int, (.array .int), (.array .int), (.array .int), (.array .int), (.array .double), (.object "com/example/stratgen/stratgen/model/Model"), (.object "com/example/stratgen/stratgen/model/CommandTable"), (.object "com/example/stratgen/stratgen/model/StateIndex"), (.object "com/example/stratgen/stratgen/model/StateSpace$Explorer"), (.object "java/util/List"), (.array .int), (.array .int), .int]
  staticTypes := #[.double]
  resolved := Array.replicate 370 none
  statics := none }

def pool4 : Array CpInfo := pool [(1, u "java/lang/Cloneable"), (0, .class_ 1), (0, u "java/lang/Object"), (0, .class_ 3)] 3

/-- java/lang/Cloneable -/
def k4 : Class := { plain "java/lang/Cloneable" (some 0) with
  accessFlags := 1537
  interfaces := #[]
  cf := some (fileOf pool4 2 #[] #[] 1537 4 #[] #[])
  fields := #[]
  methods := #[]
  instanceTypes := #[]
  staticTypes := #[]
  resolved := Array.replicate 8 none
  statics := none }

def pool5 : Array CpInfo := pool [(1, u "java/io/Serializable"), (0, .class_ 1), (0, u "java/lang/Object"), (0, .class_ 3)] 3

/-- java/io/Serializable -/
def k5 : Class := { plain "java/io/Serializable" (some 0) with
  accessFlags := 1537
  interfaces := #[]
  cf := some (fileOf pool5 2 #[] #[] 1537 4 #[] #[])
  fields := #[]
  methods := #[]
  instanceTypes := #[]
  staticTypes := #[]
  resolved := Array.replicate 8 none
  statics := none }

/-- the primitive byte -/
def k6 : Class := { plain "byte" none with kind := .primitive 'B', accessFlags := 0x411 }
/-- [B -/
def k7 : Class := { plain "[B" (some 0) with kind := .array 6 .byte, interfaces := #[4, 5], accessFlags := 1041 }

/-- the primitive int -/
def k8 : Class := { plain "int" none with kind := .primitive 'I', accessFlags := 0x411 }
/-- [I -/
def k9 : Class := { plain "[I" (some 0) with kind := .array 8 .int, interfaces := #[4, 5], accessFlags := 1041 }

def heap : Heap := #[]
def classes : Array Class := #[k0, k1, k2, k3, k4, k5, k6, k7, k8, k9]
def interned : List (Array UInt16 × Addr) := []
def slotsUsed : Nat := 0
def theMethod : MethodId := ⟨1, 4⟩
def args0 : Array Value := #[.int 3, .int 4, .int 5, .int 6, .int 7]
def aboutOver (below : List Frame) : State where
  vm := { classes := classes, interned := interned.toArray }
  heap := heap
  slotsUsed := slotsUsed
  threads := #[{ frames := .invoking theMethod args0 :: below }]
def below0 : List Frame := [.native { method := ⟨0, 0⟩, args := #[] }]
def about1 : State := aboutOver below0
def p0 : Program := .bare "" "" ""
def e0 : Env := launch0.env 0 0 0
theorem w_frames : about1.frames = Frame.invoking theMethod args0 :: below0 := rfl
set_option maxRecDepth 65536 in
theorem w_args : argsFit about1.vm theMethod args0 = true := by decide +kernel
set_option maxRecDepth 65536 in
theorem w_heap : heapFits about1 = true := by decide +kernel
set_option maxRecDepth 65536 in
theorem w_runnable : about1.curStatus? = some .runnable := by decide +kernel
set_option maxRecDepth 65536 in
theorem w_alone : about1.alone = true := by decide +kernel
set_option maxRecDepth 65536 in
theorem w_named : about1.methodNamed? x = some theMethod := by decide +kernel
set_option maxRecDepth 65536 in
theorem w_hears : about1.hears theMethod below0 = true := by decide +kernel
set_option maxRecDepth 65536 in
theorem w_ripe : about1.ripe theMethod args0 below0 = true := by decide +kernel
theorem w_running : about1.status = .running := rfl
set_option maxRecDepth 65536 in
theorem w_room : about1.hasRoom e0.platform room_1 = true :=
  launch0.hasRoom_least _ room_1 (by decide +kernel) (by decide +kernel) (by decide +kernel) (by decide +kernel) (by decide +kernel) (by decide +kernel)
theorem allAtoms_all (ts : List Jvm.Cond) (a : Array Jvm.Value) (st : Jvm.State) : (allAtoms ts).before a st = ts.all (fun c => c.before a st) := by
  induction ts with
  | nil => rfl
  | cons c t ih =>
    show (Jvm.Cond.and c (allAtoms t)).before a st = _
    rw [Jvm.Cond.before_and, ih, List.all_cons]
def words1 : List Jvm.Cond := Jvm.Cond.code x code maxLocals ret :: tables_1
/-- a 'code' word, met by the world's own term for the bytes: nothing is compared byte by byte -/
theorem code_word {y : MethodName} {bytes : ByteArray} {mx : Nat} {rt : Option FieldType} {a : Array Value} {s : State} {m : MethodId} {meth : Method} {c : Code} (h1 : s.methodNamed? y = some m) (h2 : s.vm.method? m = some meth) (h3 : meth.code = some c) (h4 : c.code = bytes)
    (h5 : (c.maxLocals == mx && c.exceptionTable.isEmpty && decide (c.maxStack ≤ mostOperands) && decide (meth.sig.returnType = rt) && !meth.locks && decide (parseMethodDescriptor y.desc = some meth.sig)) = true) : (Jvm.Cond.code y bytes mx rt).before a s = true := by
  simp only [Bool.and_eq_true, beq_iff_eq, Bool.not_eq_true', decide_eq_true_eq] at h5
  obtain ⟨⟨⟨⟨⟨g1, g2⟩, g3⟩, g4⟩, g5⟩, g6⟩ := h5
  simp [Cond.before, Cond.holds, Cond.value, h1, h2, h3, h4, g1, g2, g3, g4, g5, g6]
def isCode : Jvm.Cond → Bool
  | .code _ _ _ _ => true
  | _ => false
theorem all_split {L : List Jvm.Cond} {P : Jvm.Cond → Bool} (h1 : L.all (fun c => isCode c || P c) = true) (h2 : ∀ c ∈ L.filter isCode, P c = true) : L.all P = true := by
  refine List.all_eq_true.mpr fun c hc => ?_
  have h := List.all_eq_true.mp h1 c hc
  rcases Bool.eq_false_or_eq_true (isCode c) with hi | hi
  · exact h2 c (List.mem_filter.mpr ⟨hc, hi⟩)
  · simpa [hi] using h
set_option maxRecDepth 65536 in
theorem w_c0 : (Jvm.Cond.code x code maxLocals ret).before args0 about1 = true := code_word (m := ⟨1, 4⟩) (meth := k1m4) (c := k1c4) (by decide +kernel) rfl rfl rfl (by decide +kernel)
set_option maxRecDepth 65536 in
theorem w_c1 : (Jvm.Cond.code ({ cls := "com/example/stratgen/stratgen/model/StateSpaceAdvancePinLaw", name := "value", desc := "([I[II)J" } : Jvm.MethodName) method_2_code (5 : Nat) (Option.some Jvm.ClassFile.FieldType.long)).before args0 about1 = true := code_word (m := ⟨1, 1⟩) (meth := k1m1) (c := k1c1) (by decide +kernel) rfl rfl rfl (by decide +kernel)
set_option maxRecDepth 65536 in
theorem w_c2 : (Jvm.Cond.code ({ cls := "com/example/stratgen/stratgen/model/StateSpaceAdvancePinLaw", name := "total", desc := "([II)J" } : Jvm.MethodName) method_3_code (4 : Nat) (Option.some Jvm.ClassFile.FieldType.long)).before args0 about1 = true := code_word (m := ⟨1, 2⟩) (meth := k1m2) (c := k1c2) (by decide +kernel) rfl rfl rfl (by decide +kernel)
set_option maxRecDepth 65536 in
theorem w_c3 : (Jvm.Cond.code ({ cls := "com/example/stratgen/stratgen/model/StateSpace", name := "advance", desc := "([I[II)Z" } : Jvm.MethodName) prog_90_method_21_code (4 : Nat) (Option.some Jvm.ClassFile.FieldType.boolean)).before args0 about1 = true := code_word (m := ⟨3, 0⟩) (meth := k3m0) (c := k3c0) (by decide +kernel) rfl rfl rfl (by decide +kernel)
set_option maxRecDepth 65536 in
theorem w_c4 : (Jvm.Cond.code ({ cls := "com/example/stratgen/stratgen/model/StateSpaceAdvancePinLaw", name := "digitOk", desc := "([I[IIII)Z" } : Jvm.MethodName) method_4_code (5 : Nat) (Option.some Jvm.ClassFile.FieldType.boolean)).before args0 about1 = true := code_word (m := ⟨1, 3⟩) (meth := k1m3) (c := k1c3) (by decide +kernel) rfl rfl rfl (by decide +kernel)
def codes1 : List Jvm.Cond := [Jvm.Cond.code x code maxLocals ret, Jvm.Cond.code ({ cls := "com/example/stratgen/stratgen/model/StateSpaceAdvancePinLaw", name := "value", desc := "([I[II)J" } : Jvm.MethodName) method_2_code (5 : Nat) (Option.some Jvm.ClassFile.FieldType.long), Jvm.Cond.code ({ cls := "com/example/stratgen/stratgen/model/StateSpaceAdvancePinLaw", name := "total", desc := "([II)J" } : Jvm.MethodName) method_3_code (4 : Nat) (Option.some Jvm.ClassFile.FieldType.long), Jvm.Cond.code ({ cls := "com/example/stratgen/stratgen/model/StateSpace", name := "advance", desc := "([I[II)Z" } : Jvm.MethodName) prog_90_method_21_code (4 : Nat) (Option.some Jvm.ClassFile.FieldType.boolean), Jvm.Cond.code ({ cls := "com/example/stratgen/stratgen/model/StateSpaceAdvancePinLaw", name := "digitOk", desc := "([I[IIII)Z" } : Jvm.MethodName) method_4_code (5 : Nat) (Option.some Jvm.ClassFile.FieldType.boolean)]
set_option maxRecDepth 65536 in
theorem codes_eq : words1.filter isCode = codes1 := rfl
theorem w_codes : ∀ c ∈ words1.filter isCode, c.before args0 about1 = true := by
  rw [codes_eq]
  intro c hc
  simp only [codes1, List.mem_cons, List.not_mem_nil, or_false] at hc
  rcases hc with rfl | rfl | rfl | rfl | rfl
  · exact w_c0
  · exact w_c1
  · exact w_c2
  · exact w_c3
  · exact w_c4
set_option maxRecDepth 65536 in
theorem w_t1 : words1.all (fun c => isCode c || c.before args0 about1) = true := by decide +kernel
theorem w_tables : (allAtoms (Jvm.Cond.code x code maxLocals ret :: tables_1)).before args0 about1 = true := by
  rw [allAtoms_all]
  show words1.all (fun c => c.before args0 about1) = true
  refine all_split ?_ w_codes
  rw [w_t1]
set_option maxRecDepth 65536 in
theorem w_case : (Jvm.Cond.and given_1 narrow_1).before args0 about1 = true := by decide +kernel
theorem w_applies : (headSpec (Jvm.Cond.code x code maxLocals ret :: tables_1) room_1).applies x e0.platform about1 = true :=
  (Spec.applies_iff w_frames).mpr ⟨w_running, w_runnable, w_alone, w_named, w_hears, w_ripe, w_room, w_tables⟩
theorem atStart : AtStart classFile x code maxLocals ret World_1 tables_1 room_1 Calls_1 rest_1 Pre_1 launch0 p0 e0 about1 theMethod args0 below0 :=
  ⟨lists_1, trivial, launch0.admits_env _ _ _, launch0.least_env, fairChoices_fair.cas, fairChoices_fair.clock, w_frames, w_args, w_heap, w_applies, trivial, trivial, w_case⟩
end start1
theorem witness_1 : WitnessClaimed_1 := ⟨start1.p0, start1.e0, start1.about1, start1.theMethod, start1.args0, start1.below0, start1.atStart⟩
end Jvm.Pilot.@@N@@
