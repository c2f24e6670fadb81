import JvmDerived
import JvmDerived.Pilot.@@N@@Statement
import JvmDerived.Pilot.@@N@@Code
set_option linter.unusedVariables false
set_option linter.unusedSimpArgs false
namespace Jvm.Pilot.@@N@@
open Jvm Jvm.ClassFile Sem Op Lib Jvm.Free Jvm.Stand Jvm.LawKit Jvm.RoadKit Bundle Jvm.Pilot.@@N@@.Jvm.D
section OwnKit
variable {p : Program} {l : Launch} {e : Env} {R : Room} {s : State} {m : MethodId} {args : Array Value} {below : List Frame} {meth : Method} {c : Code} {T : State} {locs : List Loc} {cells slots : Nat} {Q : Option Value → Heap → List Loc → Prop} {C S : Nat}
/-- from x the run ends, returning, with what Q says -/
def own_End (p : Program) (e : Env) (below : List Frame) (s : State) (Q : Option Value → Heap → List Loc → Prop) (C S : Nat) (x : State) : Prop :=
  ∃ t o, Steps p.tables e below x t ∧ t.status = .running ∧ Ended t below o ∧ ∃ v L, o = .returned v ∧ Q v t.heap L ∧ FrameEnd s o t L C S
theorem own_go {x x' : State} (h : ∀ t, Steps p.tables e below x' t → Steps p.tables e below x t) (k : own_End p e below s Q C S x') : own_End p e below s Q C S x := by
  obtain ⟨t, o, h1, h2⟩ := k
  exact ⟨t, o, h t h1, h2⟩
theorem own_mono {Q' : Option Value → Heap → List Loc → Prop} {x : State} (h : ∀ v h L, Q v h L → Q' v h L) (k : own_End p e below s Q C S x) : own_End p e below s Q' C S x := by
  obtain ⟨t, o, h1, h2, h3, v, L, h4, h5, h6⟩ := k
  exact ⟨t, o, h1, h2, h3, v, L, h4, h _ _ _ h5, h6⟩
theorem own_out (X : Stand p l e R s m args below meth c T locs cells slots) (hlk : meth.locks = false) {v : Option Value} (hv : meth.sig.returnType = none → v = none) {x : State}
    (h : ∀ fs, (∀ (f : JFrame) (acts : List Action), f.method = m → f.locked = none → f.entered = [] → (doReturn e (T.setTop f) acts v).1 = T.setFrames fs) → Steps p.tables e below x (T.setFrames fs))
    (hq : Q v T.heap locs) (hc : cells ≤ C) (hs : slots ≤ S) : own_End p e below s Q C S x := by
  obtain ⟨fs, hr, hrun, hended, hW, hsame⟩ := X.leave hv hlk
  exact ⟨_, _, h fs hr, hrun, hended, _, _, rfl, hq, ⟨_, rfl⟩, hW, hsame.mono hc hs⟩
theorem own_retV (X : Stand p l e R s m args below meth c T locs cells slots) (hx : p.tables.exec = Jvm.exec) (hlk : meth.locks = false) {pc : Nat} {Ls : Array Slot} (hret : meth.sig.returnType = none) (hd : decode c.code pc = .ok (.return_, 1))
    (hq : Q none T.heap locs) (hc : cells ≤ C) (hs : slots ≤ S) : own_End p e below s Q C S (T.setTop (mkF m pc Ls [])) :=
  own_out X hlk (fun _ => rfl) (fun fs hr => X.returnOut hx hret hd hr) hq hc hs
theorem own_retN (X : Stand p l e R s m args below meth c T locs cells slots) (hx : p.tables.exec = Jvm.exec) (hlk : meth.locks = false) {pc : Nat} {Ls : Array Slot} {z w : Int32} {t : FieldType} {rest : List Value} (hret : meth.sig.returnType = some t) (ht : t = .boolean ∨ t = .byte ∨ t = .char ∨ t = .short) (hd : decode c.code pc = .ok (.ireturn, 1))
    (hz : nar t z = w) (hq : Q (some (.int w)) T.heap locs) (hc : cells ≤ C) (hs : slots ≤ S) : own_End p e below s Q C S (T.setTop (mkF m pc Ls (.int z :: rest))) := by
  subst hz
  exact own_out X hlk (fun h => by rw [hret] at h; cases h) (fun fs hr => retN X hx hret ht hd hr) hq hc hs
theorem own_retI (X : Stand p l e R s m args below meth c T locs cells slots) (hx : p.tables.exec = Jvm.exec) (hlk : meth.locks = false) {pc : Nat} {Ls : Array Slot} {z : Int32} {rest : List Value} (hret : meth.sig.returnType = some .int) (hd : decode c.code pc = .ok (.ireturn, 1))
    (hq : Q (some (.int z)) T.heap locs) (hc : cells ≤ C) (hs : slots ≤ S) : own_End p e below s Q C S (T.setTop (mkF m pc Ls (.int z :: rest))) :=
  own_out X hlk (fun h => by rw [hret] at h; cases h) (fun fs hr => retOut X hx hret rfl (Or.inl ⟨rfl, Or.inl rfl, _, rfl⟩) hd hr) hq hc hs
theorem own_retJ (X : Stand p l e R s m args below meth c T locs cells slots) (hx : p.tables.exec = Jvm.exec) (hlk : meth.locks = false) {pc : Nat} {Ls : Array Slot} {z : Int64} {rest : List Value} (hret : meth.sig.returnType = some .long) (hd : decode c.code pc = .ok (.lreturn, 1))
    (hq : Q (some (.long z)) T.heap locs) (hc : cells ≤ C) (hs : slots ≤ S) : own_End p e below s Q C S (T.setTop (mkF m pc Ls (.long z :: rest))) :=
  own_out X hlk (fun h => by rw [hret] at h; cases h) (fun fs hr => retOut X hx hret rfl (Or.inr (Or.inl ⟨rfl, rfl, _, rfl⟩)) hd hr) hq hc hs
theorem own_retR (X : Stand p l e R s m args below meth c T locs cells slots) (hx : p.tables.exec = Jvm.exec) (hlk : meth.locks = false) {pc : Nat} {Ls : Array Slot} {z : Value} {t : FieldType} {rest : List Value} (hret : meth.sig.returnType = some t) (ht : t.isReference = true) (hv : z.isRef = true) (hd : decode c.code pc = .ok (.areturn, 1))
    (hq : Q (some z) T.heap locs) (hc : cells ≤ C) (hs : slots ≤ S) : own_End p e below s Q C S (T.setTop (mkF m pc Ls (z :: rest))) :=
  own_out X hlk (fun h => by rw [hret] at h; cases h) (fun fs hr => retOut X hx hret (by cases t <;> first | rfl | cases ht) (Or.inr (Or.inr (Or.inr (Or.inr ⟨rfl, ht, hv⟩)))) hd hr) hq hc hs
theorem own_w {a0 : Array Value} {Z : State} (hw : ∀ d ∈ tables_1, d.before a0 Z = true) (i : Nat) {d : Jvm.Cond} (h : tables_1[i]? = some d) : d.before a0 Z = true := hw _ (List.mem_of_getElem? h)
theorem own_self {a0 : Array Value} {Z : State} {y : MethodName} {n : Nat} (wi : (Jvm.Cond.instantiable y.cls n).before a0 Z = true) (wm : (Jvm.Cond.instanceMethod y).before a0 Z = true) (wp : (Jvm.Cond.privateMethod y).before a0 Z = true) (hy : y.cls ≠ "java/lang/invoke/MethodHandle" ∧ y.cls ≠ "java/lang/invoke/VarHandle") : (Jvm.Cond.selects y.cls y y).before a0 Z = true := by
  obtain ⟨c, k, h1, h2, -, h4, -⟩ := Cond.instantiable_spec wi
  have h5 : k.isInterface = false := by
    cases hq : k.isInterface
    · rfl
    · rw [hq] at h4; cases h4
  exact selects_self_of_private h1 h2 h5 (Cond.privateMethod_at wp) wm hy
end OwnKit
section OwnWide
variable {p : Program} {l : Launch} {e : Env} {R : Room} {s : State} {vm0 : Vm} {k0 : Nat} {m : MethodId} {args : Array Value} {below : List Frame} {meth : Method} {c : Code} {T : State} {locs : List Loc} {cells slots : Nat} {Q : Option Value → Heap → List Loc → Prop} {C S : Nat}
/-- as own_End, in the wide frame (String constants may have been loaded) -/
def own_EndW (p : Program) (e : Env) (below : List Frame) (s : State) (Q : Option Value → Heap → List Loc → Prop) (C S : Nat) (x : State) : Prop :=
  ∃ t o, Steps p.tables e below x t ∧ t.status = .running ∧ Ended t below o ∧ ∃ v L, o = .returned v ∧ Q v t.heap L ∧ ReturnedEndW s o t L C S
theorem own_goW {x x' : State} (h : ∀ t, Steps p.tables e below x' t → Steps p.tables e below x t) (k : own_EndW p e below s Q C S x') : own_EndW p e below s Q C S x := by
  obtain ⟨t, o, h1, h2⟩ := k
  exact ⟨t, o, h t h1, h2⟩
theorem own_hk {h : Heap} {k : Nat} (eT : T.heap = h) (hk : k ≤ h.size) : k ≤ T.heap.size := eT ▸ hk
theorem own_outW (X : Stand p l e R (s.setVm vm0) m args below meth c T locs cells slots) (hS : s.Since vm0 k0) (hk : k0 ≤ T.heap.size) (hlk : meth.locks = false) {v : Option Value} (hv : meth.sig.returnType = none → v = none) {x : State}
    (h : ∀ fs, (∀ (f : JFrame) (acts : List Action), f.method = m → f.locked = none → f.entered = [] → (doReturn e (T.setTop f) acts v).1 = T.setFrames fs) → Steps p.tables e below x (T.setFrames fs))
    (hq : Q v T.heap locs) (hc : cells ≤ C) (hs : slots ≤ S) : own_EndW p e below s Q C S x := by
  obtain ⟨fs, hr, hrun, hended, hE⟩ := X.leaveW hS hk hv hlk
  exact ⟨_, _, h fs hr, hrun, hended, _, _, rfl, hq, hE.1, hE.2.1, hE.2.2.1, hE.2.2.2.mono hc hs⟩
theorem own_retVW (X : Stand p l e R (s.setVm vm0) m args below meth c T locs cells slots) (hS : s.Since vm0 k0) (hk : k0 ≤ T.heap.size) (hx : p.tables.exec = Jvm.exec) (hlk : meth.locks = false) {pc : Nat} {Ls : Array Slot} (hret : meth.sig.returnType = none) (hd : decode c.code pc = .ok (.return_, 1))
    (hq : Q none T.heap locs) (hc : cells ≤ C) (hs : slots ≤ S) : own_EndW p e below s Q C S (T.setTop (mkF m pc Ls [])) :=
  own_outW X hS hk hlk (fun _ => rfl) (fun fs hr => X.returnOut hx hret hd hr) hq hc hs
theorem own_retNW (X : Stand p l e R (s.setVm vm0) m args below meth c T locs cells slots) (hS : s.Since vm0 k0) (hk : k0 ≤ T.heap.size) (hx : p.tables.exec = Jvm.exec) (hlk : meth.locks = false) {pc : Nat} {Ls : Array Slot} {z w : Int32} {t : FieldType} {rest : List Value} (hret : meth.sig.returnType = some t) (ht : t = .boolean ∨ t = .byte ∨ t = .char ∨ t = .short) (hd : decode c.code pc = .ok (.ireturn, 1))
    (hz : nar t z = w) (hq : Q (some (.int w)) T.heap locs) (hc : cells ≤ C) (hs : slots ≤ S) : own_EndW p e below s Q C S (T.setTop (mkF m pc Ls (.int z :: rest))) := by
  subst hz
  exact own_outW X hS hk hlk (fun h => by rw [hret] at h; cases h) (fun fs hr => retN X hx hret ht hd hr) hq hc hs
theorem own_retIW (X : Stand p l e R (s.setVm vm0) m args below meth c T locs cells slots) (hS : s.Since vm0 k0) (hk : k0 ≤ T.heap.size) (hx : p.tables.exec = Jvm.exec) (hlk : meth.locks = false) {pc : Nat} {Ls : Array Slot} {z : Int32} {rest : List Value} (hret : meth.sig.returnType = some .int) (hd : decode c.code pc = .ok (.ireturn, 1))
    (hq : Q (some (.int z)) T.heap locs) (hc : cells ≤ C) (hs : slots ≤ S) : own_EndW p e below s Q C S (T.setTop (mkF m pc Ls (.int z :: rest))) :=
  own_outW X hS hk hlk (fun h => by rw [hret] at h; cases h) (fun fs hr => retOut X hx hret rfl (Or.inl ⟨rfl, Or.inl rfl, _, rfl⟩) hd hr) hq hc hs
theorem own_retRW (X : Stand p l e R (s.setVm vm0) m args below meth c T locs cells slots) (hS : s.Since vm0 k0) (hk : k0 ≤ T.heap.size) (hx : p.tables.exec = Jvm.exec) (hlk : meth.locks = false) {pc : Nat} {Ls : Array Slot} {z : Value} {t : FieldType} {rest : List Value} (hret : meth.sig.returnType = some t) (ht : t.isReference = true) (hv : z.isRef = true) (hd : decode c.code pc = .ok (.areturn, 1))
    (hq : Q (some z) T.heap locs) (hc : cells ≤ C) (hs : slots ≤ S) : own_EndW p e below s Q C S (T.setTop (mkF m pc Ls (z :: rest))) :=
  own_outW X hS hk hlk (fun h => by rw [hret] at h; cases h) (fun fs hr => retOut X hx hret (by cases t <;> first | rfl | cases ht) (Or.inr (Or.inr (Or.inr (Or.inr ⟨rfl, ht, hv⟩)))) hd hr) hq hc hs
theorem own_wS {a0 : Array Value} {Z : State} (hw : ∀ d ∈ tables_1, d.before a0 Z = true) : ∀ a ∈ Bundle.stringAtoms, a.before a0 Z = true := fun d hd => by
  simp only [Bundle.stringAtoms, List.mem_cons, List.not_mem_nil, or_false] at hd
  rcases hd with rfl | rfl | rfl | rfl | rfl | rfl | rfl
  · exact (own_w hw 8 rfl)
  · exact (own_w hw 7 rfl)
  · exact (own_w hw 24 rfl)
  · exact (own_w hw 34 rfl)
  · exact (own_w hw 32 rfl)
  · exact (own_w hw 65 rfl)
  · exact (own_w hw 66 rfl)
end OwnWide
theorem own_c8 (y : Int32) : ¬ (255 : Int32) < nar .char ((y &&& (255 : Int32)).toUInt32.toUInt16.toUInt32.toInt32) := by
  show ¬ (255 : Int32) < ((y &&& (255 : Int32)).toUInt32.toUInt16.toUInt32.toInt32).toUInt32.toUInt16.toUInt32.toInt32
  rw [i2c_mask, i2c_mask]
  have h := c_and y 255 (by decide)
  have e : (255 : Int32).toInt = 255 := by decide
  exact mt Int32.lt_iff_toInt_lt.mp (by omega)
theorem d7_0 : decode jdk_52_method_15_code 0 = .ok (.iload_n 1, 1) := by decide +kernel
theorem d7_1 : decode jdk_52_method_15_code 1 = .ok (.aload_n 0, 1) := by decide +kernel
theorem d7_2 : decode jdk_52_method_15_code 2 = .ok (.arraylength, 1) := by decide +kernel
theorem d7_3 : decode jdk_52_method_15_code 3 = .ok (.isub, 1) := by decide +kernel
theorem d7_4 : decode jdk_52_method_15_code 4 = .ok (.bipush 31, 2) := by decide +kernel
theorem d7_6 : decode jdk_52_method_15_code 6 = .ok (.iushr, 1) := by decide +kernel
theorem d7_7 : decode jdk_52_method_15_code 7 = .ok (.i2b, 1) := by decide +kernel
theorem d7_8 : decode jdk_52_method_15_code 8 = .ok (.ireturn, 1) := by decide +kernel
def Q_rm_cod_2 (Z : State) (ao0 : Addr) (ky : ClassId) (ys : List Value) (h0 : Heap) (n0 : Nat) (v : Option Value) (h : Heap) (L : List Loc) : Prop := v = some (.int (0 : Int32)) ∧ Fr n0 L ∧ h = h0
theorem pn_rm_cod_2 : plainName "java/lang/StringUTF16" = true := by first | (simp [plainName, overriddenIn]; done) | decide +kernel
theorem ef_rm_cod_2 (m : MethodId) (x0 : Addr) (x1 : Int32) : entryFrame m #[(.ref x0), (.int x1)] 2 = mkF m 0 #[.val (.ref x0), .val (.int x1)] [] := by first | (simp [entryFrame, mkF, argsToLocals, Value.category]; done) | rfl
set_option maxRecDepth 65536 in
set_option maxHeartbeats 40000000 in
theorem rm_cod_2 (l : Launch) (Z : State) (a0 : Array Value) (hw : ∀ d ∈ tables_1, d.before a0 Z = true) (ws : List Jvm.Cond) (ao0 : Addr) (ky : ClassId) (ys : List Value) (h0 : Heap) (n0 : Nat) (Z0 : n0 ≤ h0.size) (V_ao0 : Arv Z h0 ao0 ky .byte (2 : Int32) ys (.int (0 : Int32))) :
    MetFree l (⟨"java/lang/StringUTF16", "coderFromArrayLen", "([BI)B"⟩ : MethodName) (head1 (Jvm.Cond.code (⟨"java/lang/StringUTF16", "coderFromArrayLen", "([BI)B"⟩ : MethodName) jdk_52_method_15_code 2 (some .byte) :: ws) ({ frames := 0, cells := 0, slots := 0, locals := 0 } : Room)) (fun a U => a = #[(.ref ao0), (.int 2)] ∧ Z.Warmed39 U.vm ∧ U.heap = h0) (fun _ _ _ _ _ => True) (fun _ U o U' => ∃ v L, o = .returned v ∧ (Q_rm_cod_2 Z ao0 ky ys h0 n0) v U'.heap L ∧ FrameEnd U o U' L ({ frames := 0, cells := 0, slots := 0, locals := 0 } : Room).cells ({ frames := 0, cells := 0, slots := 0, locals := 0 } : Room).slots) := by
  refine MetFree.of_bodySF (plainFor_of_name pn_rm_cod_2) hisR ?_
  intro p e s m args below meth c s₁ Bd hml0 hP hK
  obtain ⟨rfl, hZ, hh⟩ := hP
  have hx := Bd.exec
  have hby := Bd.bytes
  have hlk := BodyLoose.notSynchronized Bd
  have hret := Bd.returns
  have hml : c.maxLocals = 2 := hml0
  have hown : s.vm.findClass "java/lang/StringUTF16" = some m.cls := findClass_of_methodNamed Bd.named
  have hnm := (name_of_methodNamed Bd.named Bd.method).1
  have X0 : Stand p l e ({ frames := 0, cells := 0, slots := 0, locals := 0 } : Room) s m #[(.ref ao0), (.int 2)] below meth c s₁ [] 0 0 := Stand.of_body Bd
  have e0 : s₁.heap = h0 := by rw [← hh, Bd.state]; rfl
  have Nf := Fr.nil n0
  have Zs := Z0
  have Kp : Keep h0 h0 [] := Keep.refl _ _
  show own_End p e below s (Q_rm_cod_2 Z ao0 ky ys h0 n0) ({ frames := 0, cells := 0, slots := 0, locals := 0 } : Room).cells ({ frames := 0, cells := 0, slots := 0, locals := 0 } : Room).slots (s₁.setTop (entryFrame m #[(.ref ao0), (.int 2)] 2))
  refine own_go (x' := s₁.setTop (mkF m 0 #[.val (.ref ao0), .val (.int 2)] [])) (fun t k => castTop (ef_rm_cod_2 m ao0 (2 : Int32)) k) ?_
  refine own_go (x' := s₁.setTop (mkF m 2 #[.val (.ref ao0), .val (.int 2)] [(.ref ao0), (.int 2)])) (fun _ k => XS.iloadN X0.here hx rfl (hb hby d7_0) rfl (XS.aloadN X0.here hx rfl (hb hby d7_1) rfl rfl k)) ?_
  obtain ⟨cl1, Ar1, -, Sz1, Nn1, -, -⟩ := id V_ao0
  refine own_go (x' := s₁.setTop (mkF m 3 #[.val (.ref ao0), .val (.int 2)] [(.int 2), (.int 2)])) (fun t k => X0.arraylength hx (Eq.trans (congrArg (fun h_ => h_[_]?) e0) Ar1.1) (State.isArrayOf_alike hZ.alike Ar1.2.1) (g := (mkF m 2 #[.val (.ref ao0), .val (.int 2)] [(.ref ao0), (.int 2)])) rfl rfl (hb hby d7_2) t (by rw [len_of Sz1 Nn1]; exact k)) ?_
  refine own_go (x' := s₁.setTop (mkF m 8 #[.val (.ref ao0), .val (.int 2)] [(.int (((((2 : Int32) - (2 : Int32)).toUInt32 >>> ((31 : Int32) &&& 31).toUInt32).toInt32).toInt8.toInt32))])) (fun _ k => XS.isub X0.here hx rfl (hb hby d7_3) rfl (XS.bipush X0.here hx rfl (hb hby d7_4) (XS.iushr X0.here hx rfl (hb hby d7_6) rfl (XS.i2b X0.here hx rfl (hb hby d7_7) rfl k)))) ?_
  rw [show (((((2 : Int32) - (2 : Int32)).toUInt32 >>> ((31 : Int32) &&& 31).toUInt32).toInt32).toInt8.toInt32) = (0 : Int32) from by decide +kernel]
  refine own_retN X0 hx hlk (t := .byte) hret (by simp) (hb hby d7_8) (w := (0 : Int32)) rfl ?_ (by decide) (by decide)
  rw [e0]
  exact ⟨rfl, Nf, rfl⟩
theorem d6_0 : decode jdk_52_method_21_code 0 = .ok (.iconst 0, 1) := by decide +kernel
theorem d6_1 : decode jdk_52_method_21_code 1 = .ok (.istore 5, 2) := by decide +kernel
theorem d6_3 : decode jdk_52_method_21_code 3 = .ok (.iload 5, 2) := by decide +kernel
theorem d6_5 : decode jdk_52_method_21_code 5 = .ok (.iload 4, 2) := by decide +kernel
theorem d6_7 : decode jdk_52_method_21_code 7 = .ok (.if_icmp .ge 37, 3) := by decide +kernel
theorem d6_10 : decode jdk_52_method_21_code 10 = .ok (.aload_n 0, 1) := by decide +kernel
theorem d6_11 : decode jdk_52_method_21_code 11 = .ok (.iload_n 1, 1) := by decide +kernel
theorem d6_12 : decode jdk_52_method_21_code 12 = .ok (.caload, 1) := by decide +kernel
theorem d6_13 : decode jdk_52_method_21_code 13 = .ok (.istore 6, 2) := by decide +kernel
theorem d6_15 : decode jdk_52_method_21_code 15 = .ok (.iload 6, 2) := by decide +kernel
theorem d6_17 : decode jdk_52_method_21_code 17 = .ok (.sipush 255, 3) := by decide +kernel
theorem d6_20 : decode jdk_52_method_21_code 20 = .ok (.if_icmp .le 6, 3) := by decide +kernel
theorem d6_26 : decode jdk_52_method_21_code 26 = .ok (.aload_n 2, 1) := by decide +kernel
theorem d6_27 : decode jdk_52_method_21_code 27 = .ok (.iload_n 3, 1) := by decide +kernel
theorem d6_28 : decode jdk_52_method_21_code 28 = .ok (.iload 6, 2) := by decide +kernel
theorem d6_30 : decode jdk_52_method_21_code 30 = .ok (.i2b, 1) := by decide +kernel
theorem d6_31 : decode jdk_52_method_21_code 31 = .ok (.bastore, 1) := by decide +kernel
theorem d6_32 : decode jdk_52_method_21_code 32 = .ok (.iinc 1 1, 3) := by decide +kernel
theorem d6_35 : decode jdk_52_method_21_code 35 = .ok (.iinc 3 1, 3) := by decide +kernel
theorem d6_38 : decode jdk_52_method_21_code 38 = .ok (.iinc 5 1, 3) := by decide +kernel
theorem d6_41 : decode jdk_52_method_21_code 41 = .ok (.goto (-38), 3) := by decide +kernel
theorem d6_44 : decode jdk_52_method_21_code 44 = .ok (.iload 4, 2) := by decide +kernel
theorem d6_46 : decode jdk_52_method_21_code 46 = .ok (.ireturn, 1) := by decide +kernel
def Q_rm_cmp_2 (Z : State) (ao0 ao2 : Addr) (kx ky : ClassId) (x0 x1 : Int32) (h0 : Heap) (n0 : Nat) (v : Option Value) (h : Heap) (L : List Loc) : Prop := v = some (.int (2 : Int32)) ∧ Fr n0 L ∧ Keep h0 h [ao2] ∧ Arv Z h ao2 ky .byte (2 : Int32) [(.int (nar .byte (x0.toInt8.toInt32))), (.int (nar .byte (x1.toInt8.toInt32)))] (.int (0 : Int32))
theorem pn_rm_cmp_2 : plainName "java/lang/StringUTF16" = true := by first | (simp [plainName, overriddenIn]; done) | decide +kernel
theorem ef_rm_cmp_2 (m : MethodId) (x0 : Addr) (x1 : Int32) (x2 : Addr) (x3 : Int32) (x4 : Int32) : entryFrame m #[(.ref x0), (.int x1), (.ref x2), (.int x3), (.int x4)] 7 = mkF m 0 #[.val (.ref x0), .val (.int x1), .val (.ref x2), .val (.int x3), .val (.int x4), .unset, .unset] [] := by first | (simp [entryFrame, mkF, argsToLocals, Value.category]; done) | rfl
set_option maxRecDepth 65536 in
set_option maxHeartbeats 40000000 in
theorem rm_cmp_2 (l : Launch) (Z : State) (a0 : Array Value) (hw : ∀ d ∈ tables_1, d.before a0 Z = true) (ws : List Jvm.Cond) (ao0 ao2 : Addr) (kx ky : ClassId) (x0 x1 : Int32) (h0 : Heap) (n0 : Nat) (Z0 : n0 ≤ h0.size) (V_ao0 : Arv Z h0 ao0 kx .char (2 : Int32) [.int x0, .int x1] (.int (0 : Int32))) (V_ao2 : Arv Z h0 ao2 ky .byte (2 : Int32) [(.int (0 : Int32)), (.int (0 : Int32))] (.int (0 : Int32))) (hx0 : ¬ (255 : Int32) < x0) (hx1 : ¬ (255 : Int32) < x1) (ne_ao0_ao2 : ao0 ≠ ao2) (g_ao2 : n0 ≤ ao2) :
    MetFree l (⟨"java/lang/StringUTF16", "compress", "([CI[BII)I"⟩ : MethodName) (head1 (Jvm.Cond.code (⟨"java/lang/StringUTF16", "compress", "([CI[BII)I"⟩ : MethodName) jdk_52_method_21_code 7 (some .int) :: ws) ({ frames := 0, cells := 0, slots := 0, locals := 0 } : Room)) (fun a U => a = #[(.ref ao0), (.int 0), (.ref ao2), (.int 0), (.int 2)] ∧ Z.Warmed39 U.vm ∧ U.heap = h0) (fun _ _ _ _ _ => True) (fun _ U o U' => ∃ v L, o = .returned v ∧ (Q_rm_cmp_2 Z ao0 ao2 kx ky x0 x1 h0 n0) v U'.heap L ∧ FrameEnd U o U' L ({ frames := 0, cells := 0, slots := 0, locals := 0 } : Room).cells ({ frames := 0, cells := 0, slots := 0, locals := 0 } : Room).slots) := by
  refine MetFree.of_bodySF (plainFor_of_name pn_rm_cmp_2) hisR ?_
  intro p e s m args below meth c s₁ Bd hml0 hP hK
  obtain ⟨rfl, hZ, hh⟩ := hP
  have hx := Bd.exec
  have hby := Bd.bytes
  have hlk := BodyLoose.notSynchronized Bd
  have hret := Bd.returns
  have hml : c.maxLocals = 7 := hml0
  have hown : s.vm.findClass "java/lang/StringUTF16" = some m.cls := findClass_of_methodNamed Bd.named
  have hnm := (name_of_methodNamed Bd.named Bd.method).1
  have X0 : Stand p l e ({ frames := 0, cells := 0, slots := 0, locals := 0 } : Room) s m #[(.ref ao0), (.int 0), (.ref ao2), (.int 0), (.int 2)] below meth c s₁ [] 0 0 := Stand.of_body Bd
  have e0 : s₁.heap = h0 := by rw [← hh, Bd.state]; rfl
  have Nf := Fr.nil n0
  have Zs := Z0
  have Kp : Keep h0 h0 [ao2] := Keep.refl _ _
  show own_End p e below s (Q_rm_cmp_2 Z ao0 ao2 kx ky x0 x1 h0 n0) ({ frames := 0, cells := 0, slots := 0, locals := 0 } : Room).cells ({ frames := 0, cells := 0, slots := 0, locals := 0 } : Room).slots (s₁.setTop (entryFrame m #[(.ref ao0), (.int 0), (.ref ao2), (.int 0), (.int 2)] 7))
  refine own_go (x' := s₁.setTop (mkF m 0 #[.val (.ref ao0), .val (.int 0), .val (.ref ao2), .val (.int 0), .val (.int 2), .unset, .unset] [])) (fun t k => castTop (ef_rm_cmp_2 m ao0 (0 : Int32) ao2 (0 : Int32) (2 : Int32)) k) ?_
  refine own_go (x' := s₁.setTop (mkF m 11 #[.val (.ref ao0), .val (.int 0), .val (.ref ao2), .val (.int 0), .val (.int 2), .val (.int 0), .unset] [(.ref ao0)])) (fun _ k => XS.iconst X0.here hx rfl (hb hby d6_0) (XS.istore X0.here hx rfl (hb hby d6_1) rfl (l' := #[.val (.ref ao0), .val (.int 0), .val (.ref ao2), .val (.int 0), .val (.int 2), .val (.int 0), .unset]) rfl (XS.iload X0.here hx rfl (hb hby d6_3) rfl (XS.iload X0.here hx rfl (hb hby d6_5) rfl (XS.icmpNo X0.here hx rfl (hb hby d6_7) rfl (tlt (by decide +kernel : ((0 : Int32) < (2 : Int32)))).2.1 (XS.aloadN X0.here hx rfl (hb hby d6_10) rfl rfl k)))))) ?_
  refine own_go (x' := s₁.setTop (mkF m 12 #[.val (.ref ao0), .val (.int 0), .val (.ref ao2), .val (.int 0), .val (.int 2), .val (.int 0), .unset] [(.int 0), (.ref ao0)])) (fun _ k => XS.iloadN X0.here hx rfl (hb hby d6_11) rfl k) ?_
  obtain ⟨cl1, Ar1, q1, Sz1, Nn1, Hh1, Gg1⟩ := id V_ao0
  have hin1 : ¬ ((0 : Int32) < 0 ∨ cl1.slots.size ≤ ((0 : Int32)).toNatClampNeg) := inb_of Sz1 ⟨by decide, by decide⟩
  refine own_go (x' := s₁.setTop (mkF m 13 #[.val (.ref ao0), .val (.int 0), .val (.ref ao2), .val (.int 0), .val (.int 2), .val (.int 0), .unset] [(.int x0)])) (X0.caload hx (j := (0 : Int32)) (v := (.int x0)) (Eq.trans (congrArg (fun h_ => h_[_]?) e0) Ar1.1) (State.isArrayOf_alike hZ.alike Ar1.2.1) Ar1.2.2 hin1 (Hh1.at hin1 rfl) (g := (mkF m 12 #[.val (.ref ao0), .val (.int 0), .val (.ref ao2), .val (.int 0), .val (.int 2), .val (.int 0), .unset] [(.int 0), (.ref ao0)])) rfl rfl (hb hby d6_12)) ?_
  refine own_go (x' := s₁.setTop (mkF m 28 #[.val (.ref ao0), .val (.int 0), .val (.ref ao2), .val (.int 0), .val (.int 2), .val (.int 0), .val (.int x0)] [(.int 0), (.ref ao2)])) (fun _ k => XS.istore X0.here hx rfl (hb hby d6_13) rfl (l' := #[.val (.ref ao0), .val (.int 0), .val (.ref ao2), .val (.int 0), .val (.int 2), .val (.int 0), .val (.int x0)]) rfl (XS.iload X0.here hx rfl (hb hby d6_15) rfl (XS.sipush X0.here hx rfl (hb hby d6_17) (XS.icmpYes X0.here hx rfl (pc0 := 20) (pc' := 26) rfl (hb hby d6_20) rfl (flt hx0).2.2.2 (by decide) (by decide) (XS.aloadN X0.here hx rfl (hb hby d6_26) rfl rfl (XS.iloadN X0.here hx rfl (hb hby d6_27) rfl k)))))) ?_
  refine own_go (x' := s₁.setTop (mkF m 31 #[.val (.ref ao0), .val (.int 0), .val (.ref ao2), .val (.int 0), .val (.int 2), .val (.int 0), .val (.int x0)] [(.int (x0.toInt8.toInt32)), (.int 0), (.ref ao2)])) (fun _ k => XS.iload X0.here hx rfl (hb hby d6_28) rfl (XS.i2b X0.here hx rfl (hb hby d6_30) rfl k)) ?_
  obtain ⟨cl2, Ar2, q2, Sz2, Nn2, Hh2, Gg2⟩ := V_ao2
  have hin2 : ¬ ((0 : Int32) < 0 ∨ cl2.slots.size ≤ ((0 : Int32)).toNatClampNeg) := inb_of Sz2 ⟨by decide, by decide⟩
  obtain ⟨T2, h2, X2, e2, W2, st2⟩ := stB X0 hx hZ e0 Ar2 (j := (0 : Int32)) hin2 (g := (mkF m 31 #[.val (.ref ao0), .val (.int 0), .val (.ref ao2), .val (.int 0), .val (.int 2), .val (.int 0), .val (.int x0)] [(.int (x0.toInt8.toInt32)), (.int 0), (.ref ao2)])) rfl rfl (hb hby d6_31)
  refine own_go (x' := T2.setTop (mkF m 32 #[.val (.ref ao0), .val (.int 0), .val (.ref ao2), .val (.int 0), .val (.int 2), .val (.int 0), .val (.int x0)] [])) st2 ?_
  replace V_ao0 := V_ao0.other W2 ne_ao0_ao2
  replace Zs := Nat.le_trans Zs (Keep.of_wr W2).1
  replace Nf := Fr.snoc X2 Nf g_ao2
  replace Kp := Kp.wr W2 (Or.inl (by simp))
  have V_ao2 : Arv Z h2 ao2 ky .byte (2 : Int32) [(.int (nar .byte (x0.toInt8.toInt32))), (.int 0)] (.int 0) := Arv.set Ar2 q2 Sz2 Nn2 Hh2 Gg2 (fits_nar_byte _) W2 0 rfl (Nat.le_of_ble_eq_true rfl)
  refine own_go (x' := T2.setTop (mkF m 3 #[.val (.ref ao0), .val (.int ((0 : Int32) + (1 : Int32))), .val (.ref ao2), .val (.int ((0 : Int32) + (1 : Int32))), .val (.int 2), .val (.int ((0 : Int32) + (1 : Int32))), .val (.int x0)] [])) (fun _ k => XS.iinc X2.here hx rfl (hb hby d6_32) rfl (l' := #[.val (.ref ao0), .val (.int ((0 : Int32) + (1 : Int32))), .val (.ref ao2), .val (.int 0), .val (.int 2), .val (.int 0), .val (.int x0)]) rfl (XS.iinc X2.here hx rfl (hb hby d6_35) rfl (l' := #[.val (.ref ao0), .val (.int ((0 : Int32) + (1 : Int32))), .val (.ref ao2), .val (.int ((0 : Int32) + (1 : Int32))), .val (.int 2), .val (.int 0), .val (.int x0)]) rfl (XS.iinc X2.here hx rfl (hb hby d6_38) rfl (l' := #[.val (.ref ao0), .val (.int ((0 : Int32) + (1 : Int32))), .val (.ref ao2), .val (.int ((0 : Int32) + (1 : Int32))), .val (.int 2), .val (.int ((0 : Int32) + (1 : Int32))), .val (.int x0)]) rfl (XS.goto X2.here hx rfl (pc0 := 41) (pc' := 3) rfl (hb hby d6_41) (by decide) (by decide) k)))) ?_
  rw [show ((0 : Int32) + (1 : Int32)) = (1 : Int32) from by decide +kernel]
  refine own_go (x' := T2.setTop (mkF m 12 #[.val (.ref ao0), .val (.int 1), .val (.ref ao2), .val (.int 1), .val (.int 2), .val (.int 1), .val (.int x0)] [(.int 1), (.ref ao0)])) (fun _ k => XS.iload X2.here hx rfl (hb hby d6_3) rfl (XS.iload X2.here hx rfl (hb hby d6_5) rfl (XS.icmpNo X2.here hx rfl (hb hby d6_7) rfl (tlt (by decide +kernel : ((1 : Int32) < (2 : Int32)))).2.1 (XS.aloadN X2.here hx rfl (hb hby d6_10) rfl rfl (XS.iloadN X2.here hx rfl (hb hby d6_11) rfl k))))) ?_
  obtain ⟨cl3, Ar3, q3, Sz3, Nn3, Hh3, Gg3⟩ := id V_ao0
  have hin3 : ¬ ((1 : Int32) < 0 ∨ cl3.slots.size ≤ ((1 : Int32)).toNatClampNeg) := inb_of Sz3 ⟨by decide, by decide⟩
  refine own_go (x' := T2.setTop (mkF m 13 #[.val (.ref ao0), .val (.int 1), .val (.ref ao2), .val (.int 1), .val (.int 2), .val (.int 1), .val (.int x0)] [(.int x1)])) (X2.caload hx (j := (1 : Int32)) (v := (.int x1)) (Eq.trans (congrArg (fun h_ => h_[_]?) e2) Ar3.1) (State.isArrayOf_alike hZ.alike Ar3.2.1) Ar3.2.2 hin3 (Hh3.at hin3 rfl) (g := (mkF m 12 #[.val (.ref ao0), .val (.int 1), .val (.ref ao2), .val (.int 1), .val (.int 2), .val (.int 1), .val (.int x0)] [(.int 1), (.ref ao0)])) rfl rfl (hb hby d6_12)) ?_
  refine own_go (x' := T2.setTop (mkF m 28 #[.val (.ref ao0), .val (.int 1), .val (.ref ao2), .val (.int 1), .val (.int 2), .val (.int 1), .val (.int x1)] [(.int 1), (.ref ao2)])) (fun _ k => XS.istore X2.here hx rfl (hb hby d6_13) rfl (l' := #[.val (.ref ao0), .val (.int 1), .val (.ref ao2), .val (.int 1), .val (.int 2), .val (.int 1), .val (.int x1)]) rfl (XS.iload X2.here hx rfl (hb hby d6_15) rfl (XS.sipush X2.here hx rfl (hb hby d6_17) (XS.icmpYes X2.here hx rfl (pc0 := 20) (pc' := 26) rfl (hb hby d6_20) rfl (flt hx1).2.2.2 (by decide) (by decide) (XS.aloadN X2.here hx rfl (hb hby d6_26) rfl rfl (XS.iloadN X2.here hx rfl (hb hby d6_27) rfl k)))))) ?_
  refine own_go (x' := T2.setTop (mkF m 31 #[.val (.ref ao0), .val (.int 1), .val (.ref ao2), .val (.int 1), .val (.int 2), .val (.int 1), .val (.int x1)] [(.int (x1.toInt8.toInt32)), (.int 1), (.ref ao2)])) (fun _ k => XS.iload X2.here hx rfl (hb hby d6_28) rfl (XS.i2b X2.here hx rfl (hb hby d6_30) rfl k)) ?_
  obtain ⟨cl4, Ar4, q4, Sz4, Nn4, Hh4, Gg4⟩ := V_ao2
  have hin4 : ¬ ((1 : Int32) < 0 ∨ cl4.slots.size ≤ ((1 : Int32)).toNatClampNeg) := inb_of Sz4 ⟨by decide, by decide⟩
  obtain ⟨T4, h4, X4, e4, W4, st4⟩ := stB X2 hx hZ e2 Ar4 (j := (1 : Int32)) hin4 (g := (mkF m 31 #[.val (.ref ao0), .val (.int 1), .val (.ref ao2), .val (.int 1), .val (.int 2), .val (.int 1), .val (.int x1)] [(.int (x1.toInt8.toInt32)), (.int 1), (.ref ao2)])) rfl rfl (hb hby d6_31)
  refine own_go (x' := T4.setTop (mkF m 32 #[.val (.ref ao0), .val (.int 1), .val (.ref ao2), .val (.int 1), .val (.int 2), .val (.int 1), .val (.int x1)] [])) st4 ?_
  replace V_ao0 := V_ao0.other W4 ne_ao0_ao2
  replace Zs := Nat.le_trans Zs (Keep.of_wr W4).1
  replace Nf := Fr.snoc X4 Nf g_ao2
  replace Kp := Kp.wr W4 (Or.inl (by simp))
  have V_ao2 : Arv Z h4 ao2 ky .byte (2 : Int32) [(.int (nar .byte (x0.toInt8.toInt32))), (.int (nar .byte (x1.toInt8.toInt32)))] (.int 0) := Arv.set Ar4 q4 Sz4 Nn4 Hh4 Gg4 (fits_nar_byte _) W4 1 rfl (Nat.le_of_ble_eq_true rfl)
  refine own_go (x' := T4.setTop (mkF m 3 #[.val (.ref ao0), .val (.int ((1 : Int32) + (1 : Int32))), .val (.ref ao2), .val (.int ((1 : Int32) + (1 : Int32))), .val (.int 2), .val (.int ((1 : Int32) + (1 : Int32))), .val (.int x1)] [])) (fun _ k => XS.iinc X4.here hx rfl (hb hby d6_32) rfl (l' := #[.val (.ref ao0), .val (.int ((1 : Int32) + (1 : Int32))), .val (.ref ao2), .val (.int 1), .val (.int 2), .val (.int 1), .val (.int x1)]) rfl (XS.iinc X4.here hx rfl (hb hby d6_35) rfl (l' := #[.val (.ref ao0), .val (.int ((1 : Int32) + (1 : Int32))), .val (.ref ao2), .val (.int ((1 : Int32) + (1 : Int32))), .val (.int 2), .val (.int 1), .val (.int x1)]) rfl (XS.iinc X4.here hx rfl (hb hby d6_38) rfl (l' := #[.val (.ref ao0), .val (.int ((1 : Int32) + (1 : Int32))), .val (.ref ao2), .val (.int ((1 : Int32) + (1 : Int32))), .val (.int 2), .val (.int ((1 : Int32) + (1 : Int32))), .val (.int x1)]) rfl (XS.goto X4.here hx rfl (pc0 := 41) (pc' := 3) rfl (hb hby d6_41) (by decide) (by decide) k)))) ?_
  rw [show ((1 : Int32) + (1 : Int32)) = (2 : Int32) from by decide +kernel]
  refine own_go (x' := T4.setTop (mkF m 46 #[.val (.ref ao0), .val (.int 2), .val (.ref ao2), .val (.int 2), .val (.int 2), .val (.int 2), .val (.int x1)] [(.int 2)])) (fun _ k => XS.iload X4.here hx rfl (hb hby d6_3) rfl (XS.iload X4.here hx rfl (hb hby d6_5) rfl (XS.icmpYes X4.here hx rfl (pc0 := 7) (pc' := 44) rfl (hb hby d6_7) rfl (flt (Int32.lt_irrefl)).2.1 (by decide) (by decide) (XS.iload X4.here hx rfl (hb hby d6_44) rfl k)))) ?_
  refine own_retI X4 hx hlk hret (hb hby d6_46) ?_ (by decide) (by decide)
  rw [e4]
  exact ⟨rfl, Nf, Kp, V_ao2⟩
theorem pd_0 : parseMethodDescriptor "([CI[BII)I" = some ⟨[(.array .char), .int, (.array .byte), .int, .int], some .int⟩ := by decide +kernel
theorem d5_0 : decode jdk_52_method_16_code 0 = .ok (.iload_n 2, 1) := by decide +kernel
theorem d5_1 : decode jdk_52_method_16_code 1 = .ok (.newarray .byte, 2) := by decide +kernel
theorem d5_3 : decode jdk_52_method_16_code 3 = .ok (.astore_n 3, 1) := by decide +kernel
theorem d5_4 : decode jdk_52_method_16_code 4 = .ok (.aload_n 0, 1) := by decide +kernel
theorem d5_5 : decode jdk_52_method_16_code 5 = .ok (.iload_n 1, 1) := by decide +kernel
theorem d5_6 : decode jdk_52_method_16_code 6 = .ok (.aload_n 3, 1) := by decide +kernel
theorem d5_7 : decode jdk_52_method_16_code 7 = .ok (.iconst 0, 1) := by decide +kernel
theorem d5_8 : decode jdk_52_method_16_code 8 = .ok (.iload_n 2, 1) := by decide +kernel
theorem d5_9 : decode jdk_52_method_16_code 9 = .ok (.invokestatic 115, 3) := by decide +kernel
theorem d5_12 : decode jdk_52_method_16_code 12 = .ok (.istore 4, 2) := by decide +kernel
theorem d5_14 : decode jdk_52_method_16_code 14 = .ok (.iload 4, 2) := by decide +kernel
theorem d5_16 : decode jdk_52_method_16_code 16 = .ok (.iload_n 2, 1) := by decide +kernel
theorem d5_17 : decode jdk_52_method_16_code 17 = .ok (.if_icmp .eq 40, 3) := by decide +kernel
theorem d5_57 : decode jdk_52_method_16_code 57 = .ok (.aload_n 3, 1) := by decide +kernel
theorem d5_58 : decode jdk_52_method_16_code 58 = .ok (.areturn, 1) := by decide +kernel
def Q_rm_cmpb_2 (Z : State) (ao0 : Addr) (kx : ClassId) (x0 x1 : Int32) (h0 : Heap) (n0 : Nat) (v : Option Value) (h : Heap) (L : List Loc) : Prop := ∃ (b : Addr) (kb : ClassId), v = some (.ref b) ∧ Fr n0 L ∧ Keep h0 h [] ∧ h0.size ≤ b ∧ n0 ≤ b ∧ Arv Z h b kb .byte (2 : Int32) [(.int (nar .byte (x0.toInt8.toInt32))), (.int (nar .byte (x1.toInt8.toInt32)))] (.int (0 : Int32))
theorem pn_rm_cmpb_2 : plainName "java/lang/StringUTF16" = true := by first | (simp [plainName, overriddenIn]; done) | decide +kernel
theorem ef_rm_cmpb_2 (m : MethodId) (x0 : Addr) (x1 : Int32) (x2 : Int32) : entryFrame m #[(.ref x0), (.int x1), (.int x2)] 6 = mkF m 0 #[.val (.ref x0), .val (.int x1), .val (.int x2), .unset, .unset, .unset] [] := by first | (simp [entryFrame, mkF, argsToLocals, Value.category]; done) | rfl
set_option maxRecDepth 65536 in
set_option maxHeartbeats 40000000 in
theorem rm_cmpb_2 (l : Launch) (Z : State) (a0 : Array Value) (hw : ∀ d ∈ tables_1, d.before a0 Z = true) (ws : List Jvm.Cond) (ao0 : Addr) (kx : ClassId) (x0 x1 : Int32) (h0 : Heap) (n0 : Nat) (Z0 : n0 ≤ h0.size) (V_ao0 : Arv Z h0 ao0 kx .char (2 : Int32) [.int x0, .int x1] (.int (0 : Int32))) (hx0 : ¬ (255 : Int32) < x0) (hx1 : ¬ (255 : Int32) < x1) :
    MetFree l (⟨"java/lang/StringUTF16", "compress", "([CII)[B"⟩ : MethodName) (head1 (Jvm.Cond.code (⟨"java/lang/StringUTF16", "compress", "([CII)[B"⟩ : MethodName) jdk_52_method_16_code 6 (some (.array .byte)) :: ws) ({ frames := 1, cells := 1, slots := 2, locals := 18 } : Room)) (fun a U => a = #[(.ref ao0), (.int 0), (.int 2)] ∧ Z.Warmed39 U.vm ∧ U.heap = h0) (fun _ _ _ _ _ => True) (fun _ U o U' => ∃ v L, o = .returned v ∧ (Q_rm_cmpb_2 Z ao0 kx x0 x1 h0 n0) v U'.heap L ∧ FrameEnd U o U' L ({ frames := 1, cells := 1, slots := 2, locals := 18 } : Room).cells ({ frames := 1, cells := 1, slots := 2, locals := 18 } : Room).slots) := by
  refine MetFree.of_bodySF (plainFor_of_name pn_rm_cmpb_2) hisR ?_
  intro p e s m args below meth c s₁ Bd hml0 hP hK
  obtain ⟨rfl, hZ, hh⟩ := hP
  have hx := Bd.exec
  have hby := Bd.bytes
  have hlk := BodyLoose.notSynchronized Bd
  have hret := Bd.returns
  have hml : c.maxLocals = 6 := hml0
  have hown : s.vm.findClass "java/lang/StringUTF16" = some m.cls := findClass_of_methodNamed Bd.named
  have hnm := (name_of_methodNamed Bd.named Bd.method).1
  have X0 : Stand p l e ({ frames := 1, cells := 1, slots := 2, locals := 18 } : Room) s m #[(.ref ao0), (.int 0), (.int 2)] below meth c s₁ [] 0 0 := Stand.of_body Bd
  have e0 : s₁.heap = h0 := by rw [← hh, Bd.state]; rfl
  have Nf := Fr.nil n0
  have Zs := Z0
  have Kp : Keep h0 h0 [] := Keep.refl _ _
  show own_End p e below s (Q_rm_cmpb_2 Z ao0 kx x0 x1 h0 n0) ({ frames := 1, cells := 1, slots := 2, locals := 18 } : Room).cells ({ frames := 1, cells := 1, slots := 2, locals := 18 } : Room).slots (s₁.setTop (entryFrame m #[(.ref ao0), (.int 0), (.int 2)] 6))
  refine own_go (x' := s₁.setTop (mkF m 0 #[.val (.ref ao0), .val (.int 0), .val (.int 2), .unset, .unset, .unset] [])) (fun t k => castTop (ef_rm_cmpb_2 m ao0 (0 : Int32) (2 : Int32)) k) ?_
  refine own_go (x' := s₁.setTop (mkF m 1 #[.val (.ref ao0), .val (.int 0), .val (.int 2), .unset, .unset, .unset] [(.int 2)])) (fun _ k => XS.iloadN X0.here hx rfl (hb hby d5_0) rfl k) ?_
  obtain ⟨T1, h1, k1, X1, e1, E1, A1, st1⟩ := newP X0 hx hZ (own_w hw 24 rfl) e0 (g := (mkF m 1 #[.val (.ref ao0), .val (.int 0), .val (.int 2), .unset, .unset, .unset] [(.int 2)])) rfl (hb hby d5_1) rfl (by decide) (cap := 2) (by decide) (by decide) (by decide) (by decide)
  obtain ⟨b1, g1⟩ : ∃ z, z = h0.size := ⟨_, rfl⟩
  rw [← g1] at A1 st1
  have ne_ao0_b1 : ao0 ≠ b1 := Nat.ne_of_lt (Nat.lt_of_lt_of_le V_ao0.lt (Nat.le_of_eq g1.symm))
  have g_b1 : n0 ≤ b1 := Nat.le_trans Zs (Nat.le_of_eq g1.symm)
  have sz_b1 : h0.size ≤ b1 := Nat.le_trans Kp.1 (Nat.le_of_eq g1.symm)
  replace V_ao0 := V_ao0.ext E1
  replace Zs := Nat.le_trans Zs E1.1
  replace Kp := Kp.ext E1
  have V_b1 : Arv Z h1 b1 k1 .byte (2 : Int32) [(.int 0), (.int 0)] (.int 0) := (Arv.new A1 (by decide)).pad (pad_rep [] (.int 0) 2)
  refine own_go (x' := T1.setTop (mkF m 3 #[.val (.ref ao0), .val (.int 0), .val (.int 2), .unset, .unset, .unset] [(.ref b1)])) st1 ?_
  refine own_go (x' := T1.setTop (mkF m 9 #[.val (.ref ao0), .val (.int 0), .val (.int 2), .val (.ref b1), .unset, .unset] [(.int 2), (.int 0), (.ref b1), (.int 0), (.ref ao0)])) (fun _ k => XS.astoreN X1.here hx rfl (hb hby d5_3) rfl rfl (l' := #[.val (.ref ao0), .val (.int 0), .val (.int 2), .val (.ref b1), .unset, .unset]) rfl (XS.aloadN X1.here hx rfl (hb hby d5_4) rfl rfl (XS.iloadN X1.here hx rfl (hb hby d5_5) rfl (XS.aloadN X1.here hx rfl (hb hby d5_6) rfl rfl (XS.iconst X1.here hx rfl (hb hby d5_7) (XS.iloadN X1.here hx rfl (hb hby d5_8) rfl k)))))) ?_
  obtain ⟨_, _, ⟨T2, L2, k2, n2⟩, -, X2, ⟨Lc2, hQ2, l2, y2, z2⟩, st2⟩ := Jvm.LawKit.callS X1 hx (y := (⟨"java/lang/StringUTF16", "compress", "([CI[BII)I"⟩ : MethodName)) hown (mvT hZ (own_w hw 25 rfl)) (mvT hZ (own_w hw 26 rfl)) (mvT hZ (own_w hw 22 rfl)) (mvT hZ (own_w hw 27 rfl)) (by decide) (backOf (W := 0) (rm_cmp_2 l Z a0 hw [] ao0 b1 kx k1 x0 x1 h1 n0 Zs V_ao0 V_b1 hx0 hx1 ne_ao0_b1 g_b1) hZ (own_w hw 27 rfl) (own_w hw 22 rfl) (by decide) (by decide)) (g := (mkF m 9 #[.val (.ref ao0), .val (.int 0), .val (.int 2), .val (.ref b1), .unset, .unset] [(.int 2), (.int 0), (.ref b1), (.int 0), (.ref ao0)])) rfl (by rw [hml]; rfl) (argsL := [(.ref ao0), (.int 0), (.ref b1), (.int 0), (.int 2)]) (rest := []) (lenOf pd_0 rfl) rfl (by show 2 * 0 + _ ≤ _; exact Nat.le_of_eq rfl) (hb hby d5_9) (fun _ _ => ⟨rfl, e1, (by decide : 1 + 0 ≤ _), (by decide : 2 + 0 ≤ _)⟩)
  dsimp only [Pt.U, Pt.locs, Pt.cells, Pt.slots] at X2 l2 y2 z2 st2 hQ2
  subst l2 y2 z2
  obtain ⟨hv2, Nq2, K2, Vb2⟩ := hQ2
  subst hv2
  replace Nf := Fr.app Nf Nq2
  replace V_ao0 := V_ao0.keep K2 (ninS ne_ao0_b1 nin0)
  replace Zs := Nat.le_trans Zs K2.1
  replace Kp := Kp.trans K2 (allS (Or.inr sz_b1) all0)
  replace V_b1 := Vb2
  refine own_go (x' := T2.setTop (mkF m 12 #[.val (.ref ao0), .val (.int 0), .val (.int 2), .val (.ref b1), .unset, .unset] [(.int 2)])) st2 ?_
  refine own_go (x' := T2.setTop (mkF m 58 #[.val (.ref ao0), .val (.int 0), .val (.int 2), .val (.ref b1), .val (.int 2), .unset] [(.ref b1)])) (fun _ k => XS.istore X2.here hx rfl (hb hby d5_12) rfl (l' := #[.val (.ref ao0), .val (.int 0), .val (.int 2), .val (.ref b1), .val (.int 2), .unset]) rfl (XS.iload X2.here hx rfl (hb hby d5_14) rfl (XS.iloadN X2.here hx rfl (hb hby d5_16) rfl (XS.icmpYes X2.here hx rfl (pc0 := 17) (pc' := 57) rfl (hb hby d5_17) rfl (teq rfl).1 (by decide) (by decide) (XS.aloadN X2.here hx rfl (hb hby d5_57) rfl rfl k))))) ?_
  refine own_retR X2 hx hlk hret rfl rfl (hb hby d5_58) ?_ (by decide) (by decide)
  exact ⟨b1, k1, rfl, Nf, Kp, sz_b1, g_b1, V_b1⟩
theorem pd_1 : parseMethodDescriptor "([CII)[B" = some ⟨[(.array .char), .int, .int], some (.array .byte)⟩ := by decide +kernel
theorem pd_2 : parseMethodDescriptor "([BI)B" = some ⟨[(.array .byte), .int], some .byte⟩ := by decide +kernel
theorem d3_0 : decode jdk_42_method_149_code 0 = .ok (.aload_n 0, 1) := by decide +kernel
theorem d3_1 : decode jdk_42_method_149_code 1 = .ok (.invokespecial 1, 3) := by decide +kernel
theorem d3_4 : decode jdk_42_method_149_code 4 = .ok (.iload_n 3, 1) := by decide +kernel
theorem d3_5 : decode jdk_42_method_149_code 5 = .ok (.ifCond .ne 22, 3) := by decide +kernel
theorem d3_27 : decode jdk_42_method_149_code 27 = .ok (.getstatic 38, 3) := by decide +kernel
theorem d3_30 : decode jdk_42_method_149_code 30 = .ok (.ifCond .eq 28, 3) := by decide +kernel
theorem d3_33 : decode jdk_42_method_149_code 33 = .ok (.aload_n 1, 1) := by decide +kernel
theorem d3_34 : decode jdk_42_method_149_code 34 = .ok (.iload_n 2, 1) := by decide +kernel
theorem d3_35 : decode jdk_42_method_149_code 35 = .ok (.iload_n 3, 1) := by decide +kernel
theorem d3_36 : decode jdk_42_method_149_code 36 = .ok (.invokestatic 177, 3) := by decide +kernel
theorem d3_39 : decode jdk_42_method_149_code 39 = .ok (.astore 5, 2) := by decide +kernel
theorem d3_41 : decode jdk_42_method_149_code 41 = .ok (.aload_n 0, 1) := by decide +kernel
theorem d3_42 : decode jdk_42_method_149_code 42 = .ok (.aload 5, 2) := by decide +kernel
theorem d3_44 : decode jdk_42_method_149_code 44 = .ok (.iload_n 3, 1) := by decide +kernel
theorem d3_45 : decode jdk_42_method_149_code 45 = .ok (.invokestatic 47, 3) := by decide +kernel
theorem d3_48 : decode jdk_42_method_149_code 48 = .ok (.putfield 15, 3) := by decide +kernel
theorem d3_51 : decode jdk_42_method_149_code 51 = .ok (.aload_n 0, 1) := by decide +kernel
theorem d3_52 : decode jdk_42_method_149_code 52 = .ok (.aload 5, 2) := by decide +kernel
theorem d3_54 : decode jdk_42_method_149_code 54 = .ok (.putfield 9, 3) := by decide +kernel
theorem d3_57 : decode jdk_42_method_149_code 57 = .ok (.return_, 1) := by decide +kernel
def Q_rm_new4_2 (Z : State) (ao0 ao1 : Addr) (kx : ClassId) (x0 x1 : Int32) (G1 : Int32) (h0 : Heap) (n0 : Nat) (v : Option Value) (h : Heap) (L : List Loc) : Prop := ∃ (b : Addr) (kb : ClassId), v = none ∧ Fr n0 L ∧ Keep h0 h [ao0] ∧ h0.size ≤ b ∧ n0 ≤ b ∧ Exa Z h ao0 "java/lang/String" ∧ Fld Z h ao0 "java/lang/String" "value" "[B" (.ref b) ∧ Fld Z h ao0 "java/lang/String" "coder" "B" (.int (nar .byte (0 : Int32))) ∧ Arv Z h b kb .byte (2 : Int32) [(.int (nar .byte (x0.toInt8.toInt32))), (.int (nar .byte (x1.toInt8.toInt32)))] (.int (0 : Int32))
theorem pn_rm_new4_2 : plainName "java/lang/String" = true := by first | (simp [plainName, overriddenIn]; done) | decide +kernel
theorem ef_rm_new4_2 (m : MethodId) (x0 : Addr) (x1 : Addr) (x2 : Int32) (x3 : Int32) : entryFrame m #[(.ref x0), (.ref x1), (.int x2), (.int x3), .null] 6 = mkF m 0 #[.val (.ref x0), .val (.ref x1), .val (.int x2), .val (.int x3), .val .null, .unset] [] := by first | (simp [entryFrame, mkF, argsToLocals, Value.category]; done) | rfl
set_option maxRecDepth 65536 in
set_option maxHeartbeats 40000000 in
theorem rm_new4_2 (l : Launch) (Z : State) (a0 : Array Value) (hw : ∀ d ∈ tables_1, d.before a0 Z = true) (ws : List Jvm.Cond) (ao0 ao1 : Addr) (kx : ClassId) (x0 x1 : Int32) (G1 : Int32) (h0 : Heap) (n0 : Nat) (Z0 : n0 ≤ h0.size) (E_ao0 : Exa Z h0 ao0 "java/lang/String") (F_ao0_value : Fld Z h0 ao0 "java/lang/String" "value" "[B" .null) (F_ao0_coder : Fld Z h0 ao0 "java/lang/String" "coder" "B" (.int 0)) (V_ao1 : Arv Z h0 ao1 kx .char (2 : Int32) [.int x0, .int x1] (.int (0 : Int32))) (hx0 : ¬ (255 : Int32) < x0) (hx1 : ¬ (255 : Int32) < x1) (Od : Old Z n0 h0) (S_COMPACT_STRINGS : Sta Z Z.heap "java/lang/String" "COMPACT_STRINGS" "Z" (.int G1)) (hG : ¬ G1 = (0 : Int32)) (ne_ao0_ao1 : ao0 ≠ ao1) (g_ao0 : n0 ≤ ao0) :
    MetFree l (⟨"java/lang/String", "<init>", "([CIILjava/lang/Void;)V"⟩ : MethodName) (head1 (Jvm.Cond.code (⟨"java/lang/String", "<init>", "([CIILjava/lang/Void;)V"⟩ : MethodName) jdk_42_method_149_code 6 none :: ws) ({ frames := 2, cells := 1, slots := 2, locals := 35 } : Room)) (fun a U => a = #[(.ref ao0), (.ref ao1), (.int 0), (.int 2), .null] ∧ Z.Warmed39 U.vm ∧ U.heap = h0) (fun _ _ _ _ _ => True) (fun _ U o U' => ∃ v L, o = .returned v ∧ (Q_rm_new4_2 Z ao0 ao1 kx x0 x1 G1 h0 n0) v U'.heap L ∧ FrameEnd U o U' L ({ frames := 2, cells := 1, slots := 2, locals := 35 } : Room).cells ({ frames := 2, cells := 1, slots := 2, locals := 35 } : Room).slots) := by
  refine MetFree.of_bodySF (plainFor_of_name pn_rm_new4_2) hisR ?_
  intro p e s m args below meth c s₁ Bd hml0 hP hK
  obtain ⟨rfl, hZ, hh⟩ := hP
  have hx := Bd.exec
  have hby := Bd.bytes
  have hlk := BodyLoose.notSynchronized Bd
  have hret := Bd.returns
  have hml : c.maxLocals = 6 := hml0
  have hown : s.vm.findClass "java/lang/String" = some m.cls := findClass_of_methodNamed Bd.named
  have hnm := (name_of_methodNamed Bd.named Bd.method).1
  have X0 : Stand p l e ({ frames := 2, cells := 1, slots := 2, locals := 35 } : Room) s m #[(.ref ao0), (.ref ao1), (.int 0), (.int 2), .null] below meth c s₁ [] 0 0 := Stand.of_body Bd
  have e0 : s₁.heap = h0 := by rw [← hh, Bd.state]; rfl
  have Nf := Fr.nil n0
  have Zs := Z0
  have Kp : Keep h0 h0 [ao0] := Keep.refl _ _
  show own_End p e below s (Q_rm_new4_2 Z ao0 ao1 kx x0 x1 G1 h0 n0) ({ frames := 2, cells := 1, slots := 2, locals := 35 } : Room).cells ({ frames := 2, cells := 1, slots := 2, locals := 35 } : Room).slots (s₁.setTop (entryFrame m #[(.ref ao0), (.ref ao1), (.int 0), (.int 2), .null] 6))
  refine own_go (x' := s₁.setTop (mkF m 0 #[.val (.ref ao0), .val (.ref ao1), .val (.int 0), .val (.int 2), .val .null, .unset] [])) (fun t k => castTop (ef_rm_new4_2 m ao0 ao1 (0 : Int32) (2 : Int32)) k) ?_
  refine own_go (x' := s₁.setTop (mkF m 1 #[.val (.ref ao0), .val (.ref ao1), .val (.int 0), .val (.int 2), .val .null, .unset] [(.ref ao0)])) (fun _ k => XS.aloadN X0.here hx rfl (hb hby d3_0) rfl rfl k) ?_
  obtain ⟨T1, X1, e1, st1⟩ := initO X0 hx hZ hown (own_w hw 16 rfl) (own_w hw 17 rfl) (own_w hw 18 rfl) e0 (g := (mkF m 1 #[.val (.ref ao0), .val (.ref ao1), .val (.int 0), .val (.int 2), .val .null, .unset] [(.ref ao0)])) rfl (by rw [hml]; rfl) rfl (hb hby d3_1) (by decide) (W := 0) (by show 2 * 0 + _ ≤ _; exact Nat.le_of_eq rfl) (by decide)
  refine own_go (x' := T1.setTop (mkF m 4 #[.val (.ref ao0), .val (.ref ao1), .val (.int 0), .val (.int 2), .val .null, .unset] [])) st1 ?_
  refine own_go (x' := T1.setTop (mkF m 27 #[.val (.ref ao0), .val (.ref ao1), .val (.int 0), .val (.int 2), .val .null, .unset] [])) (fun _ k => XS.iloadN X1.here hx rfl (hb hby d3_4) rfl (XS.ifYes X1.here hx rfl (pc0 := 5) (pc' := 27) rfl (hb hby d3_5) rfl ((if0 _ _).trans (feq (by decide +kernel : ¬ ((2 : Int32) = (0 : Int32)))).2) (by decide) (by decide) k)) ?_
  obtain ⟨T2, X2, e2, st2⟩ := getS2 X1 hx hZ hown (host := "") (Or.inl (own_w hw 19 rfl)) Via.refl e1 (Sta.ext Od.2 S_COMPACT_STRINGS) (g := (mkF m 27 #[.val (.ref ao0), .val (.ref ao1), .val (.int 0), .val (.int 2), .val .null, .unset] [])) rfl (hb hby d3_27)
  refine own_go (x' := T2.setTop (mkF m 30 #[.val (.ref ao0), .val (.ref ao1), .val (.int 0), .val (.int 2), .val .null, .unset] [(.int G1)])) st2 ?_
  refine own_go (x' := T2.setTop (mkF m 36 #[.val (.ref ao0), .val (.ref ao1), .val (.int 0), .val (.int 2), .val .null, .unset] [(.int 2), (.int 0), (.ref ao1)])) (fun _ k => XS.ifNo X2.here hx rfl (hb hby d3_30) rfl ((if0 _ _).trans (feq hG).1) (XS.aloadN X2.here hx rfl (hb hby d3_33) rfl rfl (XS.iloadN X2.here hx rfl (hb hby d3_34) rfl (XS.iloadN X2.here hx rfl (hb hby d3_35) rfl k)))) ?_
  obtain ⟨_, _, ⟨T3, L3, k3, n3⟩, -, X3, ⟨Lc3, hQ3, l3, y3, z3⟩, st3⟩ := Jvm.LawKit.callS X2 hx (y := (⟨"java/lang/StringUTF16", "compress", "([CII)[B"⟩ : MethodName)) hown (mvT hZ (own_w hw 20 rfl)) (mvT hZ (own_w hw 21 rfl)) (mvT hZ (own_w hw 22 rfl)) (mvT hZ (own_w hw 23 rfl)) (by decide) (backOf (W := 0) (rm_cmpb_2 l Z a0 hw [] ao1 kx x0 x1 h0 n0 Zs V_ao1 hx0 hx1) hZ (own_w hw 23 rfl) (own_w hw 22 rfl) (by decide) (by decide)) (g := (mkF m 36 #[.val (.ref ao0), .val (.ref ao1), .val (.int 0), .val (.int 2), .val .null, .unset] [(.int 2), (.int 0), (.ref ao1)])) rfl (by rw [hml]; rfl) (argsL := [(.ref ao1), (.int 0), (.int 2)]) (rest := []) (lenOf pd_1 rfl) rfl (by show 2 * 0 + _ ≤ _; exact Nat.le_of_eq rfl) (hb hby d3_36) (fun _ _ => ⟨rfl, e2, (by decide : 0 + 1 ≤ _), (by decide : 0 + 2 ≤ _)⟩)
  dsimp only [Pt.U, Pt.locs, Pt.cells, Pt.slots] at X3 l3 y3 z3 st3 hQ3
  subst l3 y3 z3
  obtain ⟨b3, kb3, hv3, Nq3, K3, sq3, g_b3, V_b3⟩ := hQ3
  subst hv3
  replace Nf := Fr.app Nf Nq3
  have ne_ao0_b3 : ao0 ≠ b3 := Nat.ne_of_lt (Nat.lt_of_lt_of_le E_ao0.lt sq3)
  have ne_ao1_b3 : ao1 ≠ b3 := Nat.ne_of_lt (Nat.lt_of_lt_of_le V_ao1.lt sq3)
  have sz_b3 : h0.size ≤ b3 := Nat.le_trans Kp.1 sq3
  replace E_ao0 := E_ao0.keep K3
  replace F_ao0_value := F_ao0_value.keep K3 nin0
  replace F_ao0_coder := F_ao0_coder.keep K3 nin0
  replace V_ao1 := V_ao1.keep K3 nin0
  replace Od := Od.keep K3 all0
  replace Zs := Nat.le_trans Zs K3.1
  replace Kp := Kp.trans K3 all0
  refine own_go (x' := T3.setTop (mkF m 39 #[.val (.ref ao0), .val (.ref ao1), .val (.int 0), .val (.int 2), .val .null, .unset] [(.ref b3)])) st3 ?_
  refine own_go (x' := T3.setTop (mkF m 45 #[.val (.ref ao0), .val (.ref ao1), .val (.int 0), .val (.int 2), .val .null, .val (.ref b3)] [(.int 2), (.ref b3), (.ref ao0)])) (fun _ k => XS.astore X3.here hx rfl (hb hby d3_39) rfl rfl (l' := #[.val (.ref ao0), .val (.ref ao1), .val (.int 0), .val (.int 2), .val .null, .val (.ref b3)]) rfl (XS.aloadN X3.here hx rfl (hb hby d3_41) rfl rfl (XS.aload X3.here hx rfl (hb hby d3_42) rfl rfl (XS.iloadN X3.here hx rfl (hb hby d3_44) rfl k)))) ?_
  obtain ⟨_, _, ⟨T4, L4, k4, n4⟩, -, X4, ⟨Lc4, hQ4, l4, y4, z4⟩, st4⟩ := Jvm.LawKit.callS X3 hx (y := (⟨"java/lang/StringUTF16", "coderFromArrayLen", "([BI)B"⟩ : MethodName)) hown (mvT hZ (own_w hw 28 rfl)) (mvT hZ (own_w hw 29 rfl)) (mvT hZ (own_w hw 22 rfl)) (mvT hZ (own_w hw 30 rfl)) (by decide) (backOf (W := 1) (rm_cod_2 l Z a0 hw [] b3 kb3 _ T3.heap n0 Zs V_b3) hZ (own_w hw 30 rfl) (own_w hw 22 rfl) (by decide) (by decide)) (g := (mkF m 45 #[.val (.ref ao0), .val (.ref ao1), .val (.int 0), .val (.int 2), .val .null, .val (.ref b3)] [(.int 2), (.ref b3), (.ref ao0)])) rfl (by rw [hml]; rfl) (argsL := [(.ref b3), (.int 2)]) (rest := [(.ref ao0)]) (lenOf pd_2 rfl) rfl (by show 2 * 0 + _ ≤ _; exact Nat.le_of_eq rfl) (hb hby d3_45) (fun _ _ => ⟨rfl, rfl, (by decide : 1 + 0 ≤ _), (by decide : 2 + 0 ≤ _)⟩)
  dsimp only [Pt.U, Pt.locs, Pt.cells, Pt.slots] at X4 l4 y4 z4 st4 hQ4
  subst l4 y4 z4
  obtain ⟨hv4, Nq4, eq4⟩ := hQ4
  subst hv4
  replace Nf := Fr.app Nf Nq4
  refine own_go (x' := T4.setTop (mkF m 48 #[.val (.ref ao0), .val (.ref ao1), .val (.int 0), .val (.int 2), .val .null, .val (.ref b3)] [(.int 0), (.ref ao0)])) st4 ?_
  obtain ⟨T5, h5, X5, e5, W5, st5⟩ := putFN X4 hx hZ hown (own_w hw 31 rfl) Via.refl eq4 F_ao0_coder E_ao0 (Or.inr ⟨(own_w hw 32 rfl), rfl, hnm⟩) (own_w hw 7 rfl) (ty := .byte) (v' := (.int (nar .byte (0 : Int32)))) (by decide) rfl (fits_nar_byte _) (g := (mkF m 48 #[.val (.ref ao0), .val (.ref ao1), .val (.int 0), .val (.int 2), .val .null, .val (.ref b3)] [(.int 0), (.ref ao0)])) rfl rfl (hb hby d3_48)
  refine own_go (x' := T5.setTop (mkF m 51 #[.val (.ref ao0), .val (.ref ao1), .val (.int 0), .val (.int 2), .val .null, .val (.ref b3)] [])) st5 ?_
  replace E_ao0 := Exa.wr W5 E_ao0
  replace F_ao0_value := Fld.other W5 F_ao0_value (Or.inr (slot_ne (Or.inr (own_w hw 34 rfl)) (Or.inr (own_w hw 32 rfl)) (by decide) (t := (.array .byte)) (t' := .byte) (by decide) (by decide)))
  replace F_ao0_coder := Fld.same W5 F_ao0_coder
  replace V_ao1 := V_ao1.other W5 (Ne.symm ne_ao0_ao1)
  replace Od := Od.wr W5 g_ao0
  replace V_b3 := V_b3.other W5 (Ne.symm ne_ao0_b3)
  replace Zs := Nat.le_trans Zs (Keep.of_wr W5).1
  replace Nf := Fr.snoc X5 Nf g_ao0
  replace Kp := Kp.wr W5 (Or.inl (by simp))
  refine own_go (x' := T5.setTop (mkF m 54 #[.val (.ref ao0), .val (.ref ao1), .val (.int 0), .val (.int 2), .val .null, .val (.ref b3)] [(.ref b3), (.ref ao0)])) (fun _ k => XS.aloadN X5.here hx rfl (hb hby d3_51) rfl rfl (XS.aload X5.here hx rfl (hb hby d3_52) rfl rfl k)) ?_
  obtain ⟨T6, h6, X6, e6, W6, st6⟩ := putF X5 hx hZ hown (host := "") (Or.inl (own_w hw 33 rfl)) Via.refl e5 F_ao0_value E_ao0 (Or.inr ⟨(own_w hw 34 rfl), rfl, hnm⟩) (own_w hw 7 rfl) (ty := (.array .byte)) (by decide) rfl rfl (g := (mkF m 54 #[.val (.ref ao0), .val (.ref ao1), .val (.int 0), .val (.int 2), .val .null, .val (.ref b3)] [(.ref b3), (.ref ao0)])) rfl rfl (hb hby d3_54)
  refine own_go (x' := T6.setTop (mkF m 57 #[.val (.ref ao0), .val (.ref ao1), .val (.int 0), .val (.int 2), .val .null, .val (.ref b3)] [])) st6 ?_
  replace E_ao0 := Exa.wr W6 E_ao0
  replace F_ao0_value := Fld.same W6 F_ao0_value
  replace F_ao0_coder := Fld.other W6 F_ao0_coder (Or.inr (slot_ne (Or.inr (own_w hw 32 rfl)) (Or.inr (own_w hw 34 rfl)) (by decide) (t := .byte) (t' := (.array .byte)) (by decide) (by decide)))
  replace V_ao1 := V_ao1.other W6 (Ne.symm ne_ao0_ao1)
  replace Od := Od.wr W6 g_ao0
  replace V_b3 := V_b3.other W6 (Ne.symm ne_ao0_b3)
  replace Zs := Nat.le_trans Zs (Keep.of_wr W6).1
  replace Nf := Fr.snoc X6 Nf g_ao0
  replace Kp := Kp.wr W6 (Or.inl (by simp))
  refine own_retV X6 hx hlk hret (hb hby d3_57) ?_ (by decide) (by decide)
  rw [e6]
  exact ⟨b3, kb3, rfl, Nf, Kp, sz_b3, g_b3, E_ao0, F_ao0_value, F_ao0_coder, V_b3⟩
theorem pd_3 : parseMethodDescriptor "([CIILjava/lang/Void;)V" = some ⟨[(.array .char), .int, .int, (.object "java/lang/Void")], none⟩ := by decide +kernel
theorem d2_0 : decode jdk_42_method_3_code 0 = .ok (.aload_n 0, 1) := by decide +kernel
theorem d2_1 : decode jdk_42_method_3_code 1 = .ok (.aload_n 1, 1) := by decide +kernel
theorem d2_2 : decode jdk_42_method_3_code 2 = .ok (.iconst 0, 1) := by decide +kernel
theorem d2_3 : decode jdk_42_method_3_code 3 = .ok (.aload_n 1, 1) := by decide +kernel
theorem d2_4 : decode jdk_42_method_3_code 4 = .ok (.arraylength, 1) := by decide +kernel
theorem d2_5 : decode jdk_42_method_3_code 5 = .ok (.aconst_null, 1) := by decide +kernel
theorem d2_6 : decode jdk_42_method_3_code 6 = .ok (.invokespecial 27, 3) := by decide +kernel
theorem d2_9 : decode jdk_42_method_3_code 9 = .ok (.return_, 1) := by decide +kernel
def Q_rm_new_2 (Z : State) (ao0 ao1 : Addr) (kx : ClassId) (x0 x1 : Int32) (G1 : Int32) (h0 : Heap) (n0 : Nat) (v : Option Value) (h : Heap) (L : List Loc) : Prop := ∃ (b : Addr) (kb : ClassId), v = none ∧ Fr n0 L ∧ Keep h0 h [ao0] ∧ h0.size ≤ b ∧ n0 ≤ b ∧ Exa Z h ao0 "java/lang/String" ∧ Fld Z h ao0 "java/lang/String" "value" "[B" (.ref b) ∧ Fld Z h ao0 "java/lang/String" "coder" "B" (.int (nar .byte (0 : Int32))) ∧ Arv Z h b kb .byte (2 : Int32) [(.int (nar .byte (x0.toInt8.toInt32))), (.int (nar .byte (x1.toInt8.toInt32)))] (.int (0 : Int32))
theorem pn_rm_new_2 : plainName "java/lang/String" = true := by first | (simp [plainName, overriddenIn]; done) | decide +kernel
theorem ef_rm_new_2 (m : MethodId) (x0 : Addr) (x1 : Addr) : entryFrame m #[(.ref x0), (.ref x1)] 2 = mkF m 0 #[.val (.ref x0), .val (.ref x1)] [] := by first | (simp [entryFrame, mkF, argsToLocals, Value.category]; done) | rfl
set_option maxRecDepth 65536 in
set_option maxHeartbeats 40000000 in
theorem rm_new_2 (l : Launch) (Z : State) (a0 : Array Value) (hw : ∀ d ∈ tables_1, d.before a0 Z = true) (ws : List Jvm.Cond) (ao0 ao1 : Addr) (kx : ClassId) (x0 x1 : Int32) (G1 : Int32) (h0 : Heap) (n0 : Nat) (Z0 : n0 ≤ h0.size) (E_ao0 : Exa Z h0 ao0 "java/lang/String") (F_ao0_value : Fld Z h0 ao0 "java/lang/String" "value" "[B" .null) (F_ao0_coder : Fld Z h0 ao0 "java/lang/String" "coder" "B" (.int 0)) (V_ao1 : Arv Z h0 ao1 kx .char (2 : Int32) [.int x0, .int x1] (.int (0 : Int32))) (hx0 : ¬ (255 : Int32) < x0) (hx1 : ¬ (255 : Int32) < x1) (Od : Old Z n0 h0) (S_COMPACT_STRINGS : Sta Z Z.heap "java/lang/String" "COMPACT_STRINGS" "Z" (.int G1)) (hG : ¬ G1 = (0 : Int32)) (ne_ao0_ao1 : ao0 ≠ ao1) (g_ao0 : n0 ≤ ao0) :
    MetFree l (⟨"java/lang/String", "<init>", "([C)V"⟩ : MethodName) (head1 (Jvm.Cond.code (⟨"java/lang/String", "<init>", "([C)V"⟩ : MethodName) jdk_42_method_3_code 2 none :: ws) ({ frames := 3, cells := 1, slots := 2, locals := 52 } : Room)) (fun a U => a = #[(.ref ao0), (.ref ao1)] ∧ Z.Warmed39 U.vm ∧ U.heap = h0) (fun _ _ _ _ _ => True) (fun _ U o U' => ∃ v L, o = .returned v ∧ (Q_rm_new_2 Z ao0 ao1 kx x0 x1 G1 h0 n0) v U'.heap L ∧ FrameEnd U o U' L ({ frames := 3, cells := 1, slots := 2, locals := 52 } : Room).cells ({ frames := 3, cells := 1, slots := 2, locals := 52 } : Room).slots) := by
  refine MetFree.of_bodySF (plainFor_of_name pn_rm_new_2) hisR ?_
  intro p e s m args below meth c s₁ Bd hml0 hP hK
  obtain ⟨rfl, hZ, hh⟩ := hP
  have hx := Bd.exec
  have hby := Bd.bytes
  have hlk := BodyLoose.notSynchronized Bd
  have hret := Bd.returns
  have hml : c.maxLocals = 2 := hml0
  have hown : s.vm.findClass "java/lang/String" = some m.cls := findClass_of_methodNamed Bd.named
  have hnm := (name_of_methodNamed Bd.named Bd.method).1
  have X0 : Stand p l e ({ frames := 3, cells := 1, slots := 2, locals := 52 } : Room) s m #[(.ref ao0), (.ref ao1)] below meth c s₁ [] 0 0 := Stand.of_body Bd
  have e0 : s₁.heap = h0 := by rw [← hh, Bd.state]; rfl
  have Nf := Fr.nil n0
  have Zs := Z0
  have Kp : Keep h0 h0 [ao0] := Keep.refl _ _
  show own_End p e below s (Q_rm_new_2 Z ao0 ao1 kx x0 x1 G1 h0 n0) ({ frames := 3, cells := 1, slots := 2, locals := 52 } : Room).cells ({ frames := 3, cells := 1, slots := 2, locals := 52 } : Room).slots (s₁.setTop (entryFrame m #[(.ref ao0), (.ref ao1)] 2))
  refine own_go (x' := s₁.setTop (mkF m 0 #[.val (.ref ao0), .val (.ref ao1)] [])) (fun t k => castTop (ef_rm_new_2 m ao0 ao1) k) ?_
  refine own_go (x' := s₁.setTop (mkF m 4 #[.val (.ref ao0), .val (.ref ao1)] [(.ref ao1), (.int 0), (.ref ao1), (.ref ao0)])) (fun _ k => XS.aloadN X0.here hx rfl (hb hby d2_0) rfl rfl (XS.aloadN X0.here hx rfl (hb hby d2_1) rfl rfl (XS.iconst X0.here hx rfl (hb hby d2_2) (XS.aloadN X0.here hx rfl (hb hby d2_3) rfl rfl k)))) ?_
  obtain ⟨cl1, Ar1, -, Sz1, Nn1, -, -⟩ := id V_ao1
  refine own_go (x' := s₁.setTop (mkF m 5 #[.val (.ref ao0), .val (.ref ao1)] [(.int 2), (.int 0), (.ref ao1), (.ref ao0)])) (fun t k => X0.arraylength hx (Eq.trans (congrArg (fun h_ => h_[_]?) e0) Ar1.1) (State.isArrayOf_alike hZ.alike Ar1.2.1) (g := (mkF m 4 #[.val (.ref ao0), .val (.ref ao1)] [(.ref ao1), (.int 0), (.ref ao1), (.ref ao0)])) rfl rfl (hb hby d2_4) t (by rw [len_of Sz1 Nn1]; exact k)) ?_
  refine own_go (x' := s₁.setTop (mkF m 6 #[.val (.ref ao0), .val (.ref ao1)] [.null, (.int 2), (.int 0), (.ref ao1), (.ref ao0)])) (fun _ k => XS.aconstNull X0.here hx rfl (hb hby d2_5) k) ?_
  obtain ⟨_, _, ⟨T2, L2, k2, n2⟩, -, X2, ⟨Lc2, hQ2, l2, y2, z2⟩, st2⟩ := X0.specialBack hx (y := (⟨"java/lang/String", "<init>", "([CIILjava/lang/Void;)V"⟩ : MethodName)) rfl hown (mvT hZ (own_w hw 12 rfl)) (mvT hZ (own_w hw 13 rfl)) (mvT hZ (own_w hw 15 rfl)) (by decide) (backOf (W := 0) (rm_new4_2 l Z a0 hw [] ao0 ao1 kx x0 x1 G1 h0 n0 Zs E_ao0 F_ao0_value F_ao0_coder V_ao1 hx0 hx1 Od S_COMPACT_STRINGS hG ne_ao0_ao1 g_ao0) hZ (own_w hw 15 rfl) (own_w hw 8 rfl) (by decide) (by decide)) (g := (mkF m 6 #[.val (.ref ao0), .val (.ref ao1)] [.null, (.int 2), (.int 0), (.ref ao1), (.ref ao0)])) rfl (by rw [hml]; rfl) (Steps.refl _) (a := ao0) (argsL := [(.ref ao1), (.int 0), (.int 2), .null]) (rest := []) (lenOf pd_3 rfl) rfl (by show 2 * 0 + _ ≤ _; exact Nat.le_of_eq rfl) (hb hby d2_6) (fun _ _ => ⟨rfl, e0, (by decide : 0 + 1 ≤ _), (by decide : 0 + 2 ≤ _)⟩)
  dsimp only [Pt.U, Pt.locs, Pt.cells, Pt.slots] at X2 l2 y2 z2 st2 hQ2
  subst l2 y2 z2
  obtain ⟨b2, kb2, hv2, Nq2, K2, sq2, g_b2, Eo2, Fv2, Fc2, V_b2⟩ := hQ2
  subst hv2
  replace Nf := Fr.app Nf Nq2
  have ne_ao0_b2 : ao0 ≠ b2 := Nat.ne_of_lt (Nat.lt_of_lt_of_le E_ao0.lt sq2)
  have ne_ao1_b2 : ao1 ≠ b2 := Nat.ne_of_lt (Nat.lt_of_lt_of_le V_ao1.lt sq2)
  have sz_b2 : h0.size ≤ b2 := Nat.le_trans Kp.1 sq2
  replace V_ao1 := V_ao1.keep K2 (ninS (Ne.symm ne_ao0_ao1) nin0)
  replace Od := Od.keep K2 (allS g_ao0 all0)
  replace Zs := Nat.le_trans Zs K2.1
  replace Kp := Kp.trans K2 (allS (Or.inl (by simp)) all0)
  replace E_ao0 := Eo2
  replace F_ao0_value := Fv2
  replace F_ao0_coder := Fc2
  refine own_go (x' := T2.setTop (mkF m 9 #[.val (.ref ao0), .val (.ref ao1)] [])) (fun _ k => st2.trans k) ?_
  refine own_retV X2 hx hlk hret (hb hby d2_9) ?_ (by decide) (by decide)
  exact ⟨b2, kb2, rfl, Nf, Kp, sz_b2, g_b2, E_ao0, F_ao0_value, F_ao0_coder, V_b2⟩
theorem pd_4 : parseMethodDescriptor "([C)V" = some ⟨[(.array .char)], none⟩ := by decide +kernel
theorem d1_0 : decode method_3_code 0 = .ok (.iload_n 0, 1) := by decide +kernel
theorem d1_1 : decode method_3_code 1 = .ok (.ldc 30, 2) := by decide +kernel
theorem d1_3 : decode method_3_code 3 = .ok (.iand, 1) := by decide +kernel
theorem d1_4 : decode method_3_code 4 = .ok (.ifCond .eq 6, 3) := by decide +kernel
theorem d1_7 : decode method_3_code 7 = .ok (.ldc 31, 2) := by decide +kernel
theorem d1_9 : decode method_3_code 9 = .ok (.areturn, 1) := by decide +kernel
theorem d1_10 : decode method_3_code 10 = .ok (.iconst 2, 1) := by decide +kernel
theorem d1_11 : decode method_3_code 11 = .ok (.newarray .char, 2) := by decide +kernel
theorem d1_13 : decode method_3_code 13 = .ok (.astore_n 1, 1) := by decide +kernel
theorem d1_14 : decode method_3_code 14 = .ok (.aload_n 1, 1) := by decide +kernel
theorem d1_15 : decode method_3_code 15 = .ok (.iconst 0, 1) := by decide +kernel
theorem d1_16 : decode method_3_code 16 = .ok (.iload_n 0, 1) := by decide +kernel
theorem d1_17 : decode method_3_code 17 = .ok (.sipush 255, 3) := by decide +kernel
theorem d1_20 : decode method_3_code 20 = .ok (.iand, 1) := by decide +kernel
theorem d1_21 : decode method_3_code 21 = .ok (.i2c, 1) := by decide +kernel
theorem d1_22 : decode method_3_code 22 = .ok (.castore, 1) := by decide +kernel
theorem d1_23 : decode method_3_code 23 = .ok (.aload_n 1, 1) := by decide +kernel
theorem d1_24 : decode method_3_code 24 = .ok (.iconst 1, 1) := by decide +kernel
theorem d1_25 : decode method_3_code 25 = .ok (.iload_n 0, 1) := by decide +kernel
theorem d1_26 : decode method_3_code 26 = .ok (.bipush 8, 2) := by decide +kernel
theorem d1_28 : decode method_3_code 28 = .ok (.iushr, 1) := by decide +kernel
theorem d1_29 : decode method_3_code 29 = .ok (.sipush 255, 3) := by decide +kernel
theorem d1_32 : decode method_3_code 32 = .ok (.iand, 1) := by decide +kernel
theorem d1_33 : decode method_3_code 33 = .ok (.i2c, 1) := by decide +kernel
theorem d1_34 : decode method_3_code 34 = .ok (.castore, 1) := by decide +kernel
theorem d1_35 : decode method_3_code 35 = .ok (.new 33, 3) := by decide +kernel
theorem d1_38 : decode method_3_code 38 = .ok (.dup, 1) := by decide +kernel
theorem d1_39 : decode method_3_code 39 = .ok (.aload_n 1, 1) := by decide +kernel
theorem d1_40 : decode method_3_code 40 = .ok (.invokespecial 35, 3) := by decide +kernel
theorem d1_43 : decode method_3_code 43 = .ok (.areturn, 1) := by decide +kernel
def Q_rm1 (Z : State) (p0 : Int32) (G1 : Int32) (h0 : Heap) (n0 : Nat) (v : Option Value) (h : Heap) (L : List Loc) : Prop := ∃ b : Addr, v = some (.ref b) ∧ Fr n0 L ∧ Keep h0 h []
theorem pn_rm1 : plainName "com/example/lean_bus/leanbus/api/CallerIsUncheckedPinLaw" = true := by first | (simp [plainName, overriddenIn]; done) | decide +kernel
theorem ef_rm1 (m : MethodId) (x0 : Int32) : entryFrame m #[(.int x0)] 2 = mkF m 0 #[.val (.int x0), .unset] [] := by first | (simp [entryFrame, mkF, argsToLocals, Value.category]; done) | rfl
set_option maxRecDepth 65536 in
set_option maxHeartbeats 40000000 in
theorem rm1 (l : Launch) (Z : State) (a0 : Array Value) (hw : ∀ d ∈ tables_1, d.before a0 Z = true) (ws : List Jvm.Cond) (p0 : Int32) (G1 : Int32) (h0 : Heap) (n0 : Nat) (Z0 : n0 ≤ h0.size) (Od : Old Z n0 h0) (S_COMPACT_STRINGS : Sta Z Z.heap "java/lang/String" "COMPACT_STRINGS" "Z" (.int G1)) (hG : ¬ G1 = (0 : Int32)) :
    MetFree l (⟨"com/example/lean_bus/leanbus/api/CallerIsUncheckedPinLaw", "str", "(I)Ljava/lang/String;"⟩ : MethodName) (head1 (Jvm.Cond.code (⟨"com/example/lean_bus/leanbus/api/CallerIsUncheckedPinLaw", "str", "(I)Ljava/lang/String;"⟩ : MethodName) method_3_code 2 (some (.object "java/lang/String")) :: ws) ({ frames := 4, cells := 3, slots := 8, locals := 66 } : Room)) (fun a U => a = #[(.int p0)] ∧ Z.Warmed39 U.vm ∧ U.heap = h0) (fun _ _ _ _ _ => True) (fun _ U o U' => ∃ v L, o = .returned v ∧ (Q_rm1 Z p0 G1 h0 n0) v U'.heap L ∧ ReturnedEndW U o U' L ({ frames := 4, cells := 3, slots := 8, locals := 66 } : Room).cells ({ frames := 4, cells := 3, slots := 8, locals := 66 } : Room).slots) := by
  refine MetFree.of_bodySF (plainFor_of_name pn_rm1) hisR ?_
  intro p e s m args below meth c s₁ Bd hml0 hP hK
  obtain ⟨rfl, hZ, hh⟩ := hP
  have hx := Bd.exec
  have hby := Bd.bytes
  have hlk := BodyLoose.notSynchronized Bd
  have hret := Bd.returns
  have hml : c.maxLocals = 2 := hml0
  have hown : s.vm.findClass "com/example/lean_bus/leanbus/api/CallerIsUncheckedPinLaw" = some m.cls := findClass_of_methodNamed Bd.named
  have hnm := (name_of_methodNamed Bd.named Bd.method).1
  have X0 : Stand p l e ({ frames := 4, cells := 3, slots := 8, locals := 66 } : Room) s m #[(.int p0)] below meth c s₁ [] 0 0 := Stand.of_body Bd
  have e0 : s₁.heap = h0 := by rw [← hh, Bd.state]; rfl
  have Nf := Fr.nil n0
  have Zs := Z0
  have Kp : Keep h0 h0 [] := Keep.refl _ _
  obtain ⟨vm0, k0, X0, hS, hk, hZ, hown⟩ : ∃ (vm0 : Vm) (k0 : Nat), Stand p l e ({ frames := 4, cells := 3, slots := 8, locals := 66 } : Room) (s.setVm vm0) m #[(.int p0)] below meth c s₁ [] 0 0 ∧ s.Since vm0 k0 ∧ k0 ≤ h0.size ∧ Z.Warmed39 (s.setVm vm0).vm ∧ (s.setVm vm0).vm.findClass "com/example/lean_bus/leanbus/api/CallerIsUncheckedPinLaw" = some m.cls := ⟨s.vm, s.heap.size, X0, (State.WarmedH.refl s).since _, Nat.le_of_eq (congrArg Array.size hh), hZ, hown⟩
  show own_EndW p e below s (Q_rm1 Z p0 G1 h0 n0) ({ frames := 4, cells := 3, slots := 8, locals := 66 } : Room).cells ({ frames := 4, cells := 3, slots := 8, locals := 66 } : Room).slots (s₁.setTop (entryFrame m #[(.int p0)] 2))
  refine own_goW (x' := s₁.setTop (mkF m 0 #[.val (.int p0), .unset] [])) (fun t k => castTop (ef_rm1 m p0) k) ?_
  refine own_goW (x' := s₁.setTop (mkF m 1 #[.val (.int p0), .unset] [(.int p0)])) (fun _ k => XS.iloadN X0.here hx rfl (hb hby d1_0) rfl k) ?_
  refine own_goW (x' := s₁.setTop (mkF m 3 #[.val (.int p0), .unset] [(.int 65536), (.int p0)])) (fun t k => X0.ldcInt hx hown (mvT hZ (own_w hw 4 rfl)) (g := (mkF m 1 #[.val (.int p0), .unset] [(.int p0)])) rfl (hb hby d1_1) t k) ?_
  refine own_goW (x' := s₁.setTop (mkF m 4 #[.val (.int p0), .unset] [(.int (p0 &&& (65536 : Int32)))])) (fun _ k => XS.iand X0.here hx rfl (hb hby d1_3) rfl k) ?_
  by_cases hc4 : (p0 &&& (65536 : Int32)) = (0 : Int32)
  · refine own_goW (x' := s₁.setTop (mkF m 11 #[.val (.int p0), .unset] [(.int 2)])) (fun _ k => XS.ifYes X0.here hx rfl (pc0 := 4) (pc' := 10) rfl (hb hby d1_4) rfl ((if0 _ _).trans (teq hc4).1) (by decide) (by decide) (XS.iconst X0.here hx rfl (hb hby d1_10) k)) ?_
    obtain ⟨T1, h1, k1, X1, e1, E1, A1, st1⟩ := newP X0 hx hZ (own_w hw 5 rfl) e0 (g := (mkF m 11 #[.val (.int p0), .unset] [(.int 2)])) rfl (hb hby d1_11) rfl (by decide) (cap := 2) (by decide) (by decide) (by decide) (by decide)
    obtain ⟨b1, g1⟩ : ∃ z, z = h0.size := ⟨_, rfl⟩
    rw [← g1] at A1 st1
    have g_b1 : n0 ≤ b1 := Nat.le_trans Zs (Nat.le_of_eq g1.symm)
    have sz_b1 : h0.size ≤ b1 := Nat.le_trans Kp.1 (Nat.le_of_eq g1.symm)
    replace Od := Od.ext E1
    replace Zs := Nat.le_trans Zs E1.1
    replace hk := Nat.le_trans hk E1.1
    replace Kp := Kp.ext E1
    have V_b1 : Arv Z h1 b1 k1 .char (2 : Int32) [(.int 0), (.int 0)] (.int 0) := (Arv.new A1 (by decide)).pad (pad_rep [] (.int 0) 2)
    refine own_goW (x' := T1.setTop (mkF m 13 #[.val (.int p0), .unset] [(.ref b1)])) st1 ?_
    refine own_goW (x' := T1.setTop (mkF m 21 #[.val (.int p0), .val (.ref b1)] [(.int (p0 &&& (255 : Int32))), (.int 0), (.ref b1)])) (fun _ k => XS.astoreN X1.here hx rfl (hb hby d1_13) rfl rfl (l' := #[.val (.int p0), .val (.ref b1)]) rfl (XS.aloadN X1.here hx rfl (hb hby d1_14) rfl rfl (XS.iconst X1.here hx rfl (hb hby d1_15) (XS.iloadN X1.here hx rfl (hb hby d1_16) rfl (XS.sipush X1.here hx rfl (hb hby d1_17) (XS.iand X1.here hx rfl (hb hby d1_20) rfl k)))))) ?_
    refine own_goW (x' := T1.setTop (mkF m 22 #[.val (.int p0), .val (.ref b1)] [(.int ((p0 &&& (255 : Int32)).toUInt32.toUInt16.toUInt32.toInt32)), (.int 0), (.ref b1)])) (fun _ k => XS.i2c X1.here hx rfl (hb hby d1_21) rfl k) ?_
    obtain ⟨cl2, Ar2, q2, Sz2, Nn2, Hh2, Gg2⟩ := V_b1
    have hin2 : ¬ ((0 : Int32) < 0 ∨ cl2.slots.size ≤ ((0 : Int32)).toNatClampNeg) := inb_of Sz2 ⟨by decide, by decide⟩
    obtain ⟨T2, h2, X2, e2, W2, st2⟩ := stC X1 hx hZ e1 Ar2 (j := (0 : Int32)) hin2 (g := (mkF m 22 #[.val (.int p0), .val (.ref b1)] [(.int ((p0 &&& (255 : Int32)).toUInt32.toUInt16.toUInt32.toInt32)), (.int 0), (.ref b1)])) rfl rfl (hb hby d1_22)
    refine own_goW (x' := T2.setTop (mkF m 23 #[.val (.int p0), .val (.ref b1)] [])) st2 ?_
    replace Od := Od.wr W2 g_b1
    replace Zs := Nat.le_trans Zs (Keep.of_wr W2).1
    replace hk := Nat.le_trans hk (Keep.of_wr W2).1
    replace Nf := Fr.snoc X2 Nf g_b1
    replace Kp := Kp.wr W2 (Or.inr sz_b1)
    have V_b1 : Arv Z h2 b1 k1 .char (2 : Int32) [(.int (nar .char ((p0 &&& (255 : Int32)).toUInt32.toUInt16.toUInt32.toInt32))), (.int 0)] (.int 0) := Arv.set Ar2 q2 Sz2 Nn2 Hh2 Gg2 (fits_nar_char _) W2 0 rfl (Nat.le_of_ble_eq_true rfl)
    refine own_goW (x' := T2.setTop (mkF m 32 #[.val (.int p0), .val (.ref b1)] [(.int 255), (.int ((p0.toUInt32 >>> ((8 : Int32) &&& 31).toUInt32).toInt32)), (.int 1), (.ref b1)])) (fun _ k => XS.aloadN X2.here hx rfl (hb hby d1_23) rfl rfl (XS.iconst X2.here hx rfl (hb hby d1_24) (XS.iloadN X2.here hx rfl (hb hby d1_25) rfl (XS.bipush X2.here hx rfl (hb hby d1_26) (XS.iushr X2.here hx rfl (hb hby d1_28) rfl (XS.sipush X2.here hx rfl (hb hby d1_29) k)))))) ?_
    refine own_goW (x' := T2.setTop (mkF m 34 #[.val (.int p0), .val (.ref b1)] [(.int ((((p0.toUInt32 >>> ((8 : Int32) &&& 31).toUInt32).toInt32) &&& (255 : Int32)).toUInt32.toUInt16.toUInt32.toInt32)), (.int 1), (.ref b1)])) (fun _ k => XS.iand X2.here hx rfl (hb hby d1_32) rfl (XS.i2c X2.here hx rfl (hb hby d1_33) rfl k)) ?_
    obtain ⟨cl3, Ar3, q3, Sz3, Nn3, Hh3, Gg3⟩ := V_b1
    have hin3 : ¬ ((1 : Int32) < 0 ∨ cl3.slots.size ≤ ((1 : Int32)).toNatClampNeg) := inb_of Sz3 ⟨by decide, by decide⟩
    obtain ⟨T3, h3, X3, e3, W3, st3⟩ := stC X2 hx hZ e2 Ar3 (j := (1 : Int32)) hin3 (g := (mkF m 34 #[.val (.int p0), .val (.ref b1)] [(.int ((((p0.toUInt32 >>> ((8 : Int32) &&& 31).toUInt32).toInt32) &&& (255 : Int32)).toUInt32.toUInt16.toUInt32.toInt32)), (.int 1), (.ref b1)])) rfl rfl (hb hby d1_34)
    refine own_goW (x' := T3.setTop (mkF m 35 #[.val (.int p0), .val (.ref b1)] [])) st3 ?_
    replace Od := Od.wr W3 g_b1
    replace Zs := Nat.le_trans Zs (Keep.of_wr W3).1
    replace hk := Nat.le_trans hk (Keep.of_wr W3).1
    replace Nf := Fr.snoc X3 Nf g_b1
    replace Kp := Kp.wr W3 (Or.inr sz_b1)
    have V_b1 : Arv Z h3 b1 k1 .char (2 : Int32) [(.int (nar .char ((p0 &&& (255 : Int32)).toUInt32.toUInt16.toUInt32.toInt32))), (.int (nar .char ((((p0.toUInt32 >>> ((8 : Int32) &&& 31).toUInt32).toInt32) &&& (255 : Int32)).toUInt32.toUInt16.toUInt32.toInt32)))] (.int 0) := Arv.set Ar3 q3 Sz3 Nn3 Hh3 Gg3 (fits_nar_char _) W3 1 rfl (Nat.le_of_ble_eq_true rfl)
    obtain ⟨T4, h4, X4, e4, E4, A4, D4, -, st4⟩ := newO X3 hx hZ hown (own_w hw 6 rfl) (own_w hw 7 rfl) (own_w hw 8 rfl) e3 (g := (mkF m 35 #[.val (.int p0), .val (.ref b1)] [])) rfl (hb hby d1_35) (by decide) (by decide)
    obtain ⟨b4, g4⟩ : ∃ z, z = h3.size := ⟨_, rfl⟩
    rw [← g4] at A4 D4 st4
    have ne_b1_b4 : b1 ≠ b4 := Nat.ne_of_lt (Nat.lt_of_lt_of_le V_b1.lt (Nat.le_of_eq g4.symm))
    have g_b4 : n0 ≤ b4 := Nat.le_trans Zs (Nat.le_of_eq g4.symm)
    have sz_b4 : h0.size ≤ b4 := Nat.le_trans Kp.1 (Nat.le_of_eq g4.symm)
    replace Od := Od.ext E4
    replace V_b1 := V_b1.ext E4
    replace Zs := Nat.le_trans Zs E4.1
    replace hk := Nat.le_trans hk E4.1
    replace Kp := Kp.ext E4
    have E_b4 := A4
    have F_b4_coder : Fld Z h4 b4 "java/lang/String" "coder" "B" (.int 0) := D4 (Or.inr (own_w hw 32 rfl)) (ty := .byte) (by decide)
    have F_b4_value : Fld Z h4 b4 "java/lang/String" "value" "[B" .null := D4 (Or.inr (own_w hw 34 rfl)) (ty := (.array .byte)) (by decide)
    refine own_goW (x' := T4.setTop (mkF m 38 #[.val (.int p0), .val (.ref b1)] [(.ref b4)])) st4 ?_
    refine own_goW (x' := T4.setTop (mkF m 40 #[.val (.int p0), .val (.ref b1)] [(.ref b1), (.ref b4), (.ref b4)])) (fun _ k => XS.dup X4.here hx rfl (hb hby d1_38) rfl rfl (XS.aloadN X4.here hx rfl (hb hby d1_39) rfl rfl k)) ?_
    obtain ⟨_, _, ⟨T5, L5, k5, n5⟩, -, X5, ⟨Lc5, hQ5, l5, y5, z5⟩, st5⟩ := X4.specialBack hx (y := (⟨"java/lang/String", "<init>", "([C)V"⟩ : MethodName)) rfl hown (mvT hZ (own_w hw 9 rfl)) (mvT hZ (own_w hw 10 rfl)) (mvT hZ (own_w hw 11 rfl)) (by decide) (backOf (W := 1) (rm_new_2 l Z a0 hw [] b4 b1 k1 (nar .char ((p0 &&& (255 : Int32)).toUInt32.toUInt16.toUInt32.toInt32)) (nar .char ((((p0.toUInt32 >>> ((8 : Int32) &&& 31).toUInt32).toInt32) &&& (255 : Int32)).toUInt32.toUInt16.toUInt32.toInt32)) G1 h4 n0 Zs E_b4 F_b4_value F_b4_coder V_b1 (own_c8 _) (own_c8 _) Od S_COMPACT_STRINGS hG (Ne.symm ne_b1_b4) g_b4) hZ (own_w hw 11 rfl) (own_w hw 8 rfl) (by decide) (by decide)) (g := (mkF m 40 #[.val (.int p0), .val (.ref b1)] [(.ref b1), (.ref b4), (.ref b4)])) rfl (by rw [hml]; rfl) (Steps.refl _) (a := b4) (argsL := [(.ref b1)]) (rest := [(.ref b4)]) (lenOf pd_4 rfl) rfl (by show 2 * 0 + _ ≤ _; exact Nat.le_of_eq rfl) (hb hby d1_40) (fun _ _ => ⟨rfl, e4, (by decide : 2 + 1 ≤ _), (by decide : 6 + 2 ≤ _)⟩)
    dsimp only [Pt.U, Pt.locs, Pt.cells, Pt.slots] at X5 l5 y5 z5 st5 hQ5
    subst l5 y5 z5
    obtain ⟨b5, kb5, hv5, Nq5, K5, sq5, g_b5, Eo5, Fv5, Fc5, V_b5⟩ := hQ5
    subst hv5
    replace Nf := Fr.app Nf Nq5
    have ne_b1_b5 : b1 ≠ b5 := Nat.ne_of_lt (Nat.lt_of_lt_of_le V_b1.lt sq5)
    have ne_b4_b5 : b4 ≠ b5 := Nat.ne_of_lt (Nat.lt_of_lt_of_le E_b4.lt sq5)
    have sz_b5 : h0.size ≤ b5 := Nat.le_trans Kp.1 sq5
    replace Od := Od.keep K5 (allS g_b4 all0)
    replace V_b1 := V_b1.keep K5 (ninS ne_b1_b4 nin0)
    replace Zs := Nat.le_trans Zs K5.1
    replace hk := Nat.le_trans hk K5.1
    replace Kp := Kp.trans K5 (allS (Or.inr sz_b4) all0)
    replace E_b4 := Eo5
    replace F_b4_value := Fv5
    replace F_b4_coder := Fc5
    refine own_goW (x' := T5.setTop (mkF m 43 #[.val (.int p0), .val (.ref b1)] [(.ref b4)])) (fun _ k => st5.trans k) ?_
    refine own_retRW X5 hS (own_hk rfl hk) hx hlk hret rfl rfl (hb hby d1_43) ?_ (by decide) (by decide)
    exact ⟨_, rfl, Nf, Kp⟩
  · refine own_goW (x' := s₁.setTop (mkF m 7 #[.val (.int p0), .unset] [])) (fun _ k => XS.ifNo X0.here hx rfl (hb hby d1_4) rfl ((if0 _ _).trans (feq hc4).1) k) ?_
    obtain ⟨c6, T6, h6, kk6, X6, e6, E6, hS, hk', hZ, hown, st6⟩ := ldcS X0 hx hZ hown (own_w hw 64 rfl) (own_wS hw) e0 hS hk (g := (mkF m 7 #[.val (.int p0), .unset] [])) rfl (hb hby d1_7) (n := 0) (by decide) (by decide) (by decide) (by decide)
    replace Od := Od.ext E6
    replace Zs := Nat.le_trans Zs E6.1
    replace hk := Nat.le_trans hk E6.1
    replace Kp := Kp.ext E6
    replace hk := hk'
    refine own_goW (x' := T6.setTop (mkF m 9 #[.val (.int p0), .unset] [(.ref c6)])) st6 ?_
    refine own_retRW X6 hS (own_hk e6 hk) hx hlk hret rfl rfl (hb hby d1_9) ?_ (by decide) (by decide)
    rw [e6]
    exact ⟨_, rfl, Nf, Kp⟩
theorem d9_0 : decode jdk_30_method_1_code 0 = .ok (.aload_n 0, 1) := by decide +kernel
theorem d9_1 : decode jdk_30_method_1_code 1 = .ok (.invokespecial 1, 3) := by decide +kernel
theorem d9_4 : decode jdk_30_method_1_code 4 = .ok (.return_, 1) := by decide +kernel
def Q_rm9 (Z : State) (ao0 : Addr) (h0 : Heap) (n0 : Nat) (v : Option Value) (h : Heap) (L : List Loc) : Prop := v = none ∧ Fr n0 L ∧ h = h0
theorem pn_rm9 : plainName "java/lang/Record" = true := by first | (simp [plainName, overriddenIn]; done) | decide +kernel
theorem ef_rm9 (m : MethodId) (x0 : Addr) : entryFrame m #[(.ref x0)] 1 = mkF m 0 #[.val (.ref x0)] [] := by first | (simp [entryFrame, mkF, argsToLocals, Value.category]; done) | rfl
set_option maxRecDepth 65536 in
set_option maxHeartbeats 40000000 in
theorem rm9 (l : Launch) (Z : State) (a0 : Array Value) (hw : ∀ d ∈ tables_1, d.before a0 Z = true) (ws : List Jvm.Cond) (ao0 : Addr) (h0 : Heap) (n0 : Nat) (Z0 : n0 ≤ h0.size) :
    MetFree l (⟨"java/lang/Record", "<init>", "()V"⟩ : MethodName) (head1 (Jvm.Cond.code (⟨"java/lang/Record", "<init>", "()V"⟩ : MethodName) jdk_30_method_1_code 1 none :: ws) ({ frames := 1, cells := 0, slots := 0, locals := 12 } : Room)) (fun a U => a = #[(.ref ao0)] ∧ Z.Warmed39 U.vm ∧ U.heap = h0) (fun _ _ _ _ _ => True) (fun _ U o U' => ∃ v L, o = .returned v ∧ (Q_rm9 Z ao0 h0 n0) v U'.heap L ∧ FrameEnd U o U' L ({ frames := 1, cells := 0, slots := 0, locals := 12 } : Room).cells ({ frames := 1, cells := 0, slots := 0, locals := 12 } : Room).slots) := by
  refine MetFree.of_bodySF (plainFor_of_name pn_rm9) hisR ?_
  intro p e s m args below meth c s₁ Bd hml0 hP hK
  obtain ⟨rfl, hZ, hh⟩ := hP
  have hx := Bd.exec
  have hby := Bd.bytes
  have hlk := BodyLoose.notSynchronized Bd
  have hret := Bd.returns
  have hml : c.maxLocals = 1 := hml0
  have hown : s.vm.findClass "java/lang/Record" = some m.cls := findClass_of_methodNamed Bd.named
  have hnm := (name_of_methodNamed Bd.named Bd.method).1
  have X0 : Stand p l e ({ frames := 1, cells := 0, slots := 0, locals := 12 } : Room) s m #[(.ref ao0)] below meth c s₁ [] 0 0 := Stand.of_body Bd
  have e0 : s₁.heap = h0 := by rw [← hh, Bd.state]; rfl
  have Nf := Fr.nil n0
  have Zs := Z0
  have Kp : Keep h0 h0 [] := Keep.refl _ _
  show own_End p e below s (Q_rm9 Z ao0 h0 n0) ({ frames := 1, cells := 0, slots := 0, locals := 12 } : Room).cells ({ frames := 1, cells := 0, slots := 0, locals := 12 } : Room).slots (s₁.setTop (entryFrame m #[(.ref ao0)] 1))
  refine own_go (x' := s₁.setTop (mkF m 0 #[.val (.ref ao0)] [])) (fun t k => castTop (ef_rm9 m ao0) k) ?_
  refine own_go (x' := s₁.setTop (mkF m 1 #[.val (.ref ao0)] [(.ref ao0)])) (fun _ k => XS.aloadN X0.here hx rfl (hb hby d9_0) rfl rfl k) ?_
  obtain ⟨T1, X1, e1, st1⟩ := initO X0 hx hZ hown (own_w hw 46 rfl) (own_w hw 17 rfl) (own_w hw 18 rfl) e0 (g := (mkF m 1 #[.val (.ref ao0)] [(.ref ao0)])) rfl (by rw [hml]; rfl) rfl (hb hby d9_1) (by decide) (W := 0) (by show 2 * 0 + _ ≤ _; exact Nat.le_of_eq rfl) (by decide)
  refine own_go (x' := T1.setTop (mkF m 4 #[.val (.ref ao0)] [])) st1 ?_
  refine own_retV X1 hx hlk hret (hb hby d9_4) ?_ (by decide) (by decide)
  rw [e1]
  exact ⟨rfl, Nf, rfl⟩
theorem pd_5 : parseMethodDescriptor "()V" = some ⟨[], none⟩ := by decide +kernel
theorem d8_0 : decode prog_2_method_1_code 0 = .ok (.aload_n 0, 1) := by decide +kernel
theorem d8_1 : decode prog_2_method_1_code 1 = .ok (.invokespecial 1, 3) := by decide +kernel
theorem d8_4 : decode prog_2_method_1_code 4 = .ok (.aload_n 0, 1) := by decide +kernel
theorem d8_5 : decode prog_2_method_1_code 5 = .ok (.aload_n 1, 1) := by decide +kernel
theorem d8_6 : decode prog_2_method_1_code 6 = .ok (.putfield 7, 3) := by decide +kernel
theorem d8_9 : decode prog_2_method_1_code 9 = .ok (.aload_n 0, 1) := by decide +kernel
theorem d8_10 : decode prog_2_method_1_code 10 = .ok (.aload_n 2, 1) := by decide +kernel
theorem d8_11 : decode prog_2_method_1_code 11 = .ok (.putfield 13, 3) := by decide +kernel
theorem d8_14 : decode prog_2_method_1_code 14 = .ok (.return_, 1) := by decide +kernel
def Q_rm8RR (Z : State) (ao0 ao1 ao2 : Addr) (h0 : Heap) (n0 : Nat) (v : Option Value) (h : Heap) (L : List Loc) : Prop := v = none ∧ Fr n0 L ∧ Keep h0 h [ao0] ∧ Exa Z h ao0 "com/example/lean_bus/leanbus/api/Caller" ∧ Fld Z h ao0 "com/example/lean_bus/leanbus/api/Caller" "token" "Ljava/lang/String;" (.ref ao1) ∧ Fld Z h ao0 "com/example/lean_bus/leanbus/api/Caller" "name" "Ljava/lang/String;" (.ref ao2)
theorem pn_rm8RR : plainName "com/example/lean_bus/leanbus/api/Caller" = true := by first | (simp [plainName, overriddenIn]; done) | decide +kernel
theorem ef_rm8RR (m : MethodId) (x0 : Addr) (x1 : Addr) (x2 : Addr) : entryFrame m #[(.ref x0), (.ref x1), (.ref x2)] 3 = mkF m 0 #[.val (.ref x0), .val (.ref x1), .val (.ref x2)] [] := by first | (simp [entryFrame, mkF, argsToLocals, Value.category]; done) | rfl
set_option maxRecDepth 65536 in
set_option maxHeartbeats 40000000 in
theorem rm8RR (l : Launch) (Z : State) (a0 : Array Value) (hw : ∀ d ∈ tables_1, d.before a0 Z = true) (ws : List Jvm.Cond) (ao0 ao1 ao2 : Addr) (h0 : Heap) (n0 : Nat) (Z0 : n0 ≤ h0.size) (E_ao0 : Exa Z h0 ao0 "com/example/lean_bus/leanbus/api/Caller") (F_ao0_token : Fld Z h0 ao0 "com/example/lean_bus/leanbus/api/Caller" "token" "Ljava/lang/String;" .null) (F_ao0_name : Fld Z h0 ao0 "com/example/lean_bus/leanbus/api/Caller" "name" "Ljava/lang/String;" .null) (g_ao0 : n0 ≤ ao0) :
    MetFree l (⟨"com/example/lean_bus/leanbus/api/Caller", "<init>", "(Ljava/lang/String;Ljava/lang/String;)V"⟩ : MethodName) (head1 (Jvm.Cond.code (⟨"com/example/lean_bus/leanbus/api/Caller", "<init>", "(Ljava/lang/String;Ljava/lang/String;)V"⟩ : MethodName) prog_2_method_1_code 3 none :: ws) ({ frames := 2, cells := 0, slots := 0, locals := 24 } : Room)) (fun a U => a = #[(.ref ao0), (.ref ao1), (.ref ao2)] ∧ Z.Warmed39 U.vm ∧ U.heap = h0) (fun _ _ _ _ _ => True) (fun _ U o U' => ∃ v L, o = .returned v ∧ (Q_rm8RR Z ao0 ao1 ao2 h0 n0) v U'.heap L ∧ FrameEnd U o U' L ({ frames := 2, cells := 0, slots := 0, locals := 24 } : Room).cells ({ frames := 2, cells := 0, slots := 0, locals := 24 } : Room).slots) := by
  refine MetFree.of_bodySF (plainFor_of_name pn_rm8RR) hisR ?_
  intro p e s m args below meth c s₁ Bd hml0 hP hK
  obtain ⟨rfl, hZ, hh⟩ := hP
  have hx := Bd.exec
  have hby := Bd.bytes
  have hlk := BodyLoose.notSynchronized Bd
  have hret := Bd.returns
  have hml : c.maxLocals = 3 := hml0
  have hown : s.vm.findClass "com/example/lean_bus/leanbus/api/Caller" = some m.cls := findClass_of_methodNamed Bd.named
  have hnm := (name_of_methodNamed Bd.named Bd.method).1
  have X0 : Stand p l e ({ frames := 2, cells := 0, slots := 0, locals := 24 } : Room) s m #[(.ref ao0), (.ref ao1), (.ref ao2)] below meth c s₁ [] 0 0 := Stand.of_body Bd
  have e0 : s₁.heap = h0 := by rw [← hh, Bd.state]; rfl
  have Nf := Fr.nil n0
  have Zs := Z0
  have Kp : Keep h0 h0 [ao0] := Keep.refl _ _
  show own_End p e below s (Q_rm8RR Z ao0 ao1 ao2 h0 n0) ({ frames := 2, cells := 0, slots := 0, locals := 24 } : Room).cells ({ frames := 2, cells := 0, slots := 0, locals := 24 } : Room).slots (s₁.setTop (entryFrame m #[(.ref ao0), (.ref ao1), (.ref ao2)] 3))
  refine own_go (x' := s₁.setTop (mkF m 0 #[.val (.ref ao0), .val (.ref ao1), .val (.ref ao2)] [])) (fun t k => castTop (ef_rm8RR m ao0 ao1 ao2) k) ?_
  refine own_go (x' := s₁.setTop (mkF m 1 #[.val (.ref ao0), .val (.ref ao1), .val (.ref ao2)] [(.ref ao0)])) (fun _ k => XS.aloadN X0.here hx rfl (hb hby d8_0) rfl rfl k) ?_
  obtain ⟨_, _, ⟨T1, L1, k1, n1⟩, -, X1, ⟨Lc1, hQ1, l1, y1, z1⟩, st1⟩ := X0.specialBack hx (y := (⟨"java/lang/Record", "<init>", "()V"⟩ : MethodName)) rfl hown (mvT hZ (own_w hw 41 rfl)) (mvT hZ (own_w hw 42 rfl)) (mvT hZ (own_w hw 45 rfl)) (by decide) (backOf (W := 0) (rm9 l Z a0 hw [] ao0 h0 n0 Zs ) hZ (own_w hw 45 rfl) (own_w hw 44 rfl) (by decide) (by decide)) (g := (mkF m 1 #[.val (.ref ao0), .val (.ref ao1), .val (.ref ao2)] [(.ref ao0)])) rfl (by rw [hml]; rfl) (Steps.refl _) (a := ao0) (argsL := []) (rest := []) (lenOf pd_5 rfl) rfl (by show 2 * 0 + _ ≤ _; exact Nat.le_of_eq rfl) (hb hby d8_1) (fun _ _ => ⟨rfl, e0, (by decide : 0 + 0 ≤ _), (by decide : 0 + 0 ≤ _)⟩)
  dsimp only [Pt.U, Pt.locs, Pt.cells, Pt.slots] at X1 l1 y1 z1 st1 hQ1
  subst l1 y1 z1
  obtain ⟨hv1, Nq1, eq1⟩ := hQ1
  subst hv1
  replace Nf := Fr.app Nf Nq1
  refine own_go (x' := T1.setTop (mkF m 4 #[.val (.ref ao0), .val (.ref ao1), .val (.ref ao2)] [])) (fun _ k => st1.trans k) ?_
  refine own_go (x' := T1.setTop (mkF m 6 #[.val (.ref ao0), .val (.ref ao1), .val (.ref ao2)] [(.ref ao1), (.ref ao0)])) (fun _ k => XS.aloadN X1.here hx rfl (hb hby d8_4) rfl rfl (XS.aloadN X1.here hx rfl (hb hby d8_5) rfl rfl k)) ?_
  obtain ⟨T2, h2, X2, e2, W2, st2⟩ := putF X1 hx hZ hown (host := "") (Or.inl (own_w hw 47 rfl)) Via.refl eq1 F_ao0_token E_ao0 (Or.inr ⟨(own_w hw 48 rfl), rfl, hnm⟩) (own_w hw 36 rfl) (ty := (.object "java/lang/String")) (by decide) rfl rfl (g := (mkF m 6 #[.val (.ref ao0), .val (.ref ao1), .val (.ref ao2)] [(.ref ao1), (.ref ao0)])) rfl rfl (hb hby d8_6)
  refine own_go (x' := T2.setTop (mkF m 9 #[.val (.ref ao0), .val (.ref ao1), .val (.ref ao2)] [])) st2 ?_
  replace E_ao0 := Exa.wr W2 E_ao0
  replace F_ao0_token := Fld.same W2 F_ao0_token
  replace F_ao0_name := Fld.other W2 F_ao0_name (Or.inr (slot_ne (Or.inr (own_w hw 50 rfl)) (Or.inr (own_w hw 48 rfl)) (by decide) (t := (.object "java/lang/String")) (t' := (.object "java/lang/String")) (by decide) (by decide)))
  replace Zs := Nat.le_trans Zs (Keep.of_wr W2).1
  replace Nf := Fr.snoc X2 Nf g_ao0
  replace Kp := Kp.wr W2 (Or.inl (by simp))
  refine own_go (x' := T2.setTop (mkF m 11 #[.val (.ref ao0), .val (.ref ao1), .val (.ref ao2)] [(.ref ao2), (.ref ao0)])) (fun _ k => XS.aloadN X2.here hx rfl (hb hby d8_9) rfl rfl (XS.aloadN X2.here hx rfl (hb hby d8_10) rfl rfl k)) ?_
  obtain ⟨T3, h3, X3, e3, W3, st3⟩ := putF X2 hx hZ hown (host := "") (Or.inl (own_w hw 49 rfl)) Via.refl e2 F_ao0_name E_ao0 (Or.inr ⟨(own_w hw 50 rfl), rfl, hnm⟩) (own_w hw 36 rfl) (ty := (.object "java/lang/String")) (by decide) rfl rfl (g := (mkF m 11 #[.val (.ref ao0), .val (.ref ao1), .val (.ref ao2)] [(.ref ao2), (.ref ao0)])) rfl rfl (hb hby d8_11)
  refine own_go (x' := T3.setTop (mkF m 14 #[.val (.ref ao0), .val (.ref ao1), .val (.ref ao2)] [])) st3 ?_
  replace E_ao0 := Exa.wr W3 E_ao0
  replace F_ao0_token := Fld.other W3 F_ao0_token (Or.inr (slot_ne (Or.inr (own_w hw 48 rfl)) (Or.inr (own_w hw 50 rfl)) (by decide) (t := (.object "java/lang/String")) (t' := (.object "java/lang/String")) (by decide) (by decide)))
  replace F_ao0_name := Fld.same W3 F_ao0_name
  replace Zs := Nat.le_trans Zs (Keep.of_wr W3).1
  replace Nf := Fr.snoc X3 Nf g_ao0
  replace Kp := Kp.wr W3 (Or.inl (by simp))
  refine own_retV X3 hx hlk hret (hb hby d8_14) ?_ (by decide) (by decide)
  rw [e3]
  exact ⟨rfl, Nf, Kp, E_ao0, F_ao0_token, F_ao0_name⟩
theorem d10_0 : decode prog_2_method_5_code 0 = .ok (.aload_n 0, 1) := by decide +kernel
theorem d10_1 : decode prog_2_method_5_code 1 = .ok (.getfield 7, 3) := by decide +kernel
theorem d10_4 : decode prog_2_method_5_code 4 = .ok (.ifnull 14, 3) := by decide +kernel
theorem d10_7 : decode prog_2_method_5_code 7 = .ok (.aload_n 0, 1) := by decide +kernel
theorem d10_8 : decode prog_2_method_5_code 8 = .ok (.getfield 13, 3) := by decide +kernel
theorem d10_11 : decode prog_2_method_5_code 11 = .ok (.ifnonnull 7, 3) := by decide +kernel
theorem d10_18 : decode prog_2_method_5_code 18 = .ok (.iconst 0, 1) := by decide +kernel
theorem d10_19 : decode prog_2_method_5_code 19 = .ok (.ireturn, 1) := by decide +kernel
def Q_rm10RR (Z : State) (ao0 t0 t1 : Addr) (h0 : Heap) (n0 : Nat) (v : Option Value) (h : Heap) (L : List Loc) : Prop := v = some (.int (0 : Int32)) ∧ Fr n0 L ∧ h = h0
theorem pn_rm10RR : plainName "com/example/lean_bus/leanbus/api/Caller" = true := by first | (simp [plainName, overriddenIn]; done) | decide +kernel
theorem ef_rm10RR (m : MethodId) (x0 : Addr) : entryFrame m #[(.ref x0)] 1 = mkF m 0 #[.val (.ref x0)] [] := by first | (simp [entryFrame, mkF, argsToLocals, Value.category]; done) | rfl
set_option maxRecDepth 65536 in
set_option maxHeartbeats 40000000 in
theorem rm10RR (l : Launch) (Z : State) (a0 : Array Value) (hw : ∀ d ∈ tables_1, d.before a0 Z = true) (ws : List Jvm.Cond) (ao0 t0 t1 : Addr) (h0 : Heap) (n0 : Nat) (Z0 : n0 ≤ h0.size) (F_ao0_token : Fld Z h0 ao0 "com/example/lean_bus/leanbus/api/Caller" "token" "Ljava/lang/String;" (.ref t0)) (F_ao0_name : Fld Z h0 ao0 "com/example/lean_bus/leanbus/api/Caller" "name" "Ljava/lang/String;" (.ref t1)) :
    MetFree l (⟨"com/example/lean_bus/leanbus/api/Caller", "isUnchecked", "()Z"⟩ : MethodName) (head1 (Jvm.Cond.code (⟨"com/example/lean_bus/leanbus/api/Caller", "isUnchecked", "()Z"⟩ : MethodName) prog_2_method_5_code 1 (some .boolean) :: ws) ({ frames := 0, cells := 0, slots := 0, locals := 0 } : Room)) (fun a U => a = #[(.ref ao0)] ∧ Z.Warmed39 U.vm ∧ U.heap = h0) (fun _ _ _ _ _ => True) (fun _ U o U' => ∃ v L, o = .returned v ∧ (Q_rm10RR Z ao0 t0 t1 h0 n0) v U'.heap L ∧ FrameEnd U o U' L ({ frames := 0, cells := 0, slots := 0, locals := 0 } : Room).cells ({ frames := 0, cells := 0, slots := 0, locals := 0 } : Room).slots) := by
  refine MetFree.of_bodySF (plainFor_of_name pn_rm10RR) hisR ?_
  intro p e s m args below meth c s₁ Bd hml0 hP hK
  obtain ⟨rfl, hZ, hh⟩ := hP
  have hx := Bd.exec
  have hby := Bd.bytes
  have hlk := BodyLoose.notSynchronized Bd
  have hret := Bd.returns
  have hml : c.maxLocals = 1 := hml0
  have hown : s.vm.findClass "com/example/lean_bus/leanbus/api/Caller" = some m.cls := findClass_of_methodNamed Bd.named
  have hnm := (name_of_methodNamed Bd.named Bd.method).1
  have X0 : Stand p l e ({ frames := 0, cells := 0, slots := 0, locals := 0 } : Room) s m #[(.ref ao0)] below meth c s₁ [] 0 0 := Stand.of_body Bd
  have e0 : s₁.heap = h0 := by rw [← hh, Bd.state]; rfl
  have Nf := Fr.nil n0
  have Zs := Z0
  have Kp : Keep h0 h0 [] := Keep.refl _ _
  show own_End p e below s (Q_rm10RR Z ao0 t0 t1 h0 n0) ({ frames := 0, cells := 0, slots := 0, locals := 0 } : Room).cells ({ frames := 0, cells := 0, slots := 0, locals := 0 } : Room).slots (s₁.setTop (entryFrame m #[(.ref ao0)] 1))
  refine own_go (x' := s₁.setTop (mkF m 0 #[.val (.ref ao0)] [])) (fun t k => castTop (ef_rm10RR m ao0) k) ?_
  refine own_go (x' := s₁.setTop (mkF m 1 #[.val (.ref ao0)] [(.ref ao0)])) (fun _ k => XS.aloadN X0.here hx rfl (hb hby d10_0) rfl rfl k) ?_
  obtain ⟨T1, X1, e1, st1⟩ := getF X0 hx hZ hown (host := "") (Or.inl (own_w hw 47 rfl)) Via.refl e0 F_ao0_token (g := (mkF m 1 #[.val (.ref ao0)] [(.ref ao0)])) rfl rfl (hb hby d10_1)
  refine own_go (x' := T1.setTop (mkF m 4 #[.val (.ref ao0)] [(.ref t0)])) st1 ?_
  refine own_go (x' := T1.setTop (mkF m 8 #[.val (.ref ao0)] [(.ref ao0)])) (fun _ k => XS.ifnullNo X1.here hx rfl (hb hby d10_4) rfl (XS.aloadN X1.here hx rfl (hb hby d10_7) rfl rfl k)) ?_
  obtain ⟨T2, X2, e2, st2⟩ := getF X1 hx hZ hown (host := "") (Or.inl (own_w hw 49 rfl)) Via.refl e1 F_ao0_name (g := (mkF m 8 #[.val (.ref ao0)] [(.ref ao0)])) rfl rfl (hb hby d10_8)
  refine own_go (x' := T2.setTop (mkF m 11 #[.val (.ref ao0)] [(.ref t1)])) st2 ?_
  refine own_go (x' := T2.setTop (mkF m 19 #[.val (.ref ao0)] [(.int 0)])) (fun _ k => XS.ifnonnullYes X2.here hx rfl (pc0 := 11) (pc' := 18) rfl (hb hby d10_11) rfl (by decide) (by decide) (XS.iconst X2.here hx rfl (hb hby d10_18) k)) ?_
  refine own_retN X2 hx hlk (t := .boolean) hret (by simp) (hb hby d10_19) (w := (0 : Int32)) rfl ?_ (by decide) (by decide)
  rw [e2]
  exact ⟨rfl, Nf, rfl⟩
def Q_rm8RN (Z : State) (ao0 ao1 : Addr) (h0 : Heap) (n0 : Nat) (v : Option Value) (h : Heap) (L : List Loc) : Prop := v = none ∧ Fr n0 L ∧ Keep h0 h [ao0] ∧ Exa Z h ao0 "com/example/lean_bus/leanbus/api/Caller" ∧ Fld Z h ao0 "com/example/lean_bus/leanbus/api/Caller" "token" "Ljava/lang/String;" (.ref ao1) ∧ Fld Z h ao0 "com/example/lean_bus/leanbus/api/Caller" "name" "Ljava/lang/String;" .null
theorem pn_rm8RN : plainName "com/example/lean_bus/leanbus/api/Caller" = true := by first | (simp [plainName, overriddenIn]; done) | decide +kernel
theorem ef_rm8RN (m : MethodId) (x0 : Addr) (x1 : Addr) : entryFrame m #[(.ref x0), (.ref x1), .null] 3 = mkF m 0 #[.val (.ref x0), .val (.ref x1), .val .null] [] := by first | (simp [entryFrame, mkF, argsToLocals, Value.category]; done) | rfl
set_option maxRecDepth 65536 in
set_option maxHeartbeats 40000000 in
theorem rm8RN (l : Launch) (Z : State) (a0 : Array Value) (hw : ∀ d ∈ tables_1, d.before a0 Z = true) (ws : List Jvm.Cond) (ao0 ao1 : Addr) (h0 : Heap) (n0 : Nat) (Z0 : n0 ≤ h0.size) (E_ao0 : Exa Z h0 ao0 "com/example/lean_bus/leanbus/api/Caller") (F_ao0_token : Fld Z h0 ao0 "com/example/lean_bus/leanbus/api/Caller" "token" "Ljava/lang/String;" .null) (F_ao0_name : Fld Z h0 ao0 "com/example/lean_bus/leanbus/api/Caller" "name" "Ljava/lang/String;" .null) (g_ao0 : n0 ≤ ao0) :
    MetFree l (⟨"com/example/lean_bus/leanbus/api/Caller", "<init>", "(Ljava/lang/String;Ljava/lang/String;)V"⟩ : MethodName) (head1 (Jvm.Cond.code (⟨"com/example/lean_bus/leanbus/api/Caller", "<init>", "(Ljava/lang/String;Ljava/lang/String;)V"⟩ : MethodName) prog_2_method_1_code 3 none :: ws) ({ frames := 2, cells := 0, slots := 0, locals := 24 } : Room)) (fun a U => a = #[(.ref ao0), (.ref ao1), .null] ∧ Z.Warmed39 U.vm ∧ U.heap = h0) (fun _ _ _ _ _ => True) (fun _ U o U' => ∃ v L, o = .returned v ∧ (Q_rm8RN Z ao0 ao1 h0 n0) v U'.heap L ∧ FrameEnd U o U' L ({ frames := 2, cells := 0, slots := 0, locals := 24 } : Room).cells ({ frames := 2, cells := 0, slots := 0, locals := 24 } : Room).slots) := by
  refine MetFree.of_bodySF (plainFor_of_name pn_rm8RN) hisR ?_
  intro p e s m args below meth c s₁ Bd hml0 hP hK
  obtain ⟨rfl, hZ, hh⟩ := hP
  have hx := Bd.exec
  have hby := Bd.bytes
  have hlk := BodyLoose.notSynchronized Bd
  have hret := Bd.returns
  have hml : c.maxLocals = 3 := hml0
  have hown : s.vm.findClass "com/example/lean_bus/leanbus/api/Caller" = some m.cls := findClass_of_methodNamed Bd.named
  have hnm := (name_of_methodNamed Bd.named Bd.method).1
  have X0 : Stand p l e ({ frames := 2, cells := 0, slots := 0, locals := 24 } : Room) s m #[(.ref ao0), (.ref ao1), .null] below meth c s₁ [] 0 0 := Stand.of_body Bd
  have e0 : s₁.heap = h0 := by rw [← hh, Bd.state]; rfl
  have Nf := Fr.nil n0
  have Zs := Z0
  have Kp : Keep h0 h0 [ao0] := Keep.refl _ _
  show own_End p e below s (Q_rm8RN Z ao0 ao1 h0 n0) ({ frames := 2, cells := 0, slots := 0, locals := 24 } : Room).cells ({ frames := 2, cells := 0, slots := 0, locals := 24 } : Room).slots (s₁.setTop (entryFrame m #[(.ref ao0), (.ref ao1), .null] 3))
  refine own_go (x' := s₁.setTop (mkF m 0 #[.val (.ref ao0), .val (.ref ao1), .val .null] [])) (fun t k => castTop (ef_rm8RN m ao0 ao1) k) ?_
  refine own_go (x' := s₁.setTop (mkF m 1 #[.val (.ref ao0), .val (.ref ao1), .val .null] [(.ref ao0)])) (fun _ k => XS.aloadN X0.here hx rfl (hb hby d8_0) rfl rfl k) ?_
  obtain ⟨_, _, ⟨T1, L1, k1, n1⟩, -, X1, ⟨Lc1, hQ1, l1, y1, z1⟩, st1⟩ := X0.specialBack hx (y := (⟨"java/lang/Record", "<init>", "()V"⟩ : MethodName)) rfl hown (mvT hZ (own_w hw 41 rfl)) (mvT hZ (own_w hw 42 rfl)) (mvT hZ (own_w hw 45 rfl)) (by decide) (backOf (W := 0) (rm9 l Z a0 hw [] ao0 h0 n0 Zs ) hZ (own_w hw 45 rfl) (own_w hw 44 rfl) (by decide) (by decide)) (g := (mkF m 1 #[.val (.ref ao0), .val (.ref ao1), .val .null] [(.ref ao0)])) rfl (by rw [hml]; rfl) (Steps.refl _) (a := ao0) (argsL := []) (rest := []) (lenOf pd_5 rfl) rfl (by show 2 * 0 + _ ≤ _; exact Nat.le_of_eq rfl) (hb hby d8_1) (fun _ _ => ⟨rfl, e0, (by decide : 0 + 0 ≤ _), (by decide : 0 + 0 ≤ _)⟩)
  dsimp only [Pt.U, Pt.locs, Pt.cells, Pt.slots] at X1 l1 y1 z1 st1 hQ1
  subst l1 y1 z1
  obtain ⟨hv1, Nq1, eq1⟩ := hQ1
  subst hv1
  replace Nf := Fr.app Nf Nq1
  refine own_go (x' := T1.setTop (mkF m 4 #[.val (.ref ao0), .val (.ref ao1), .val .null] [])) (fun _ k => st1.trans k) ?_
  refine own_go (x' := T1.setTop (mkF m 6 #[.val (.ref ao0), .val (.ref ao1), .val .null] [(.ref ao1), (.ref ao0)])) (fun _ k => XS.aloadN X1.here hx rfl (hb hby d8_4) rfl rfl (XS.aloadN X1.here hx rfl (hb hby d8_5) rfl rfl k)) ?_
  obtain ⟨T2, h2, X2, e2, W2, st2⟩ := putF X1 hx hZ hown (host := "") (Or.inl (own_w hw 47 rfl)) Via.refl eq1 F_ao0_token E_ao0 (Or.inr ⟨(own_w hw 48 rfl), rfl, hnm⟩) (own_w hw 36 rfl) (ty := (.object "java/lang/String")) (by decide) rfl rfl (g := (mkF m 6 #[.val (.ref ao0), .val (.ref ao1), .val .null] [(.ref ao1), (.ref ao0)])) rfl rfl (hb hby d8_6)
  refine own_go (x' := T2.setTop (mkF m 9 #[.val (.ref ao0), .val (.ref ao1), .val .null] [])) st2 ?_
  replace E_ao0 := Exa.wr W2 E_ao0
  replace F_ao0_token := Fld.same W2 F_ao0_token
  replace F_ao0_name := Fld.other W2 F_ao0_name (Or.inr (slot_ne (Or.inr (own_w hw 50 rfl)) (Or.inr (own_w hw 48 rfl)) (by decide) (t := (.object "java/lang/String")) (t' := (.object "java/lang/String")) (by decide) (by decide)))
  replace Zs := Nat.le_trans Zs (Keep.of_wr W2).1
  replace Nf := Fr.snoc X2 Nf g_ao0
  replace Kp := Kp.wr W2 (Or.inl (by simp))
  refine own_go (x' := T2.setTop (mkF m 11 #[.val (.ref ao0), .val (.ref ao1), .val .null] [.null, (.ref ao0)])) (fun _ k => XS.aloadN X2.here hx rfl (hb hby d8_9) rfl rfl (XS.aloadN X2.here hx rfl (hb hby d8_10) rfl rfl k)) ?_
  obtain ⟨T3, h3, X3, e3, W3, st3⟩ := putF X2 hx hZ hown (host := "") (Or.inl (own_w hw 49 rfl)) Via.refl e2 F_ao0_name E_ao0 (Or.inr ⟨(own_w hw 50 rfl), rfl, hnm⟩) (own_w hw 36 rfl) (ty := (.object "java/lang/String")) (by decide) rfl rfl (g := (mkF m 11 #[.val (.ref ao0), .val (.ref ao1), .val .null] [.null, (.ref ao0)])) rfl rfl (hb hby d8_11)
  refine own_go (x' := T3.setTop (mkF m 14 #[.val (.ref ao0), .val (.ref ao1), .val .null] [])) st3 ?_
  replace E_ao0 := Exa.wr W3 E_ao0
  replace F_ao0_token := Fld.other W3 F_ao0_token (Or.inr (slot_ne (Or.inr (own_w hw 48 rfl)) (Or.inr (own_w hw 50 rfl)) (by decide) (t := (.object "java/lang/String")) (t' := (.object "java/lang/String")) (by decide) (by decide)))
  replace F_ao0_name := Fld.same W3 F_ao0_name
  replace Zs := Nat.le_trans Zs (Keep.of_wr W3).1
  replace Nf := Fr.snoc X3 Nf g_ao0
  replace Kp := Kp.wr W3 (Or.inl (by simp))
  refine own_retV X3 hx hlk hret (hb hby d8_14) ?_ (by decide) (by decide)
  rw [e3]
  exact ⟨rfl, Nf, Kp, E_ao0, F_ao0_token, F_ao0_name⟩
theorem d10_14 : decode prog_2_method_5_code 14 = .ok (.iconst 1, 1) := by decide +kernel
theorem d10_15 : decode prog_2_method_5_code 15 = .ok (.goto 4, 3) := by decide +kernel
def Q_rm10RN (Z : State) (ao0 t0 : Addr) (h0 : Heap) (n0 : Nat) (v : Option Value) (h : Heap) (L : List Loc) : Prop := v = some (.int (1 : Int32)) ∧ Fr n0 L ∧ h = h0
theorem pn_rm10RN : plainName "com/example/lean_bus/leanbus/api/Caller" = true := by first | (simp [plainName, overriddenIn]; done) | decide +kernel
theorem ef_rm10RN (m : MethodId) (x0 : Addr) : entryFrame m #[(.ref x0)] 1 = mkF m 0 #[.val (.ref x0)] [] := by first | (simp [entryFrame, mkF, argsToLocals, Value.category]; done) | rfl
set_option maxRecDepth 65536 in
set_option maxHeartbeats 40000000 in
theorem rm10RN (l : Launch) (Z : State) (a0 : Array Value) (hw : ∀ d ∈ tables_1, d.before a0 Z = true) (ws : List Jvm.Cond) (ao0 t0 : Addr) (h0 : Heap) (n0 : Nat) (Z0 : n0 ≤ h0.size) (F_ao0_token : Fld Z h0 ao0 "com/example/lean_bus/leanbus/api/Caller" "token" "Ljava/lang/String;" (.ref t0)) (F_ao0_name : Fld Z h0 ao0 "com/example/lean_bus/leanbus/api/Caller" "name" "Ljava/lang/String;" .null) :
    MetFree l (⟨"com/example/lean_bus/leanbus/api/Caller", "isUnchecked", "()Z"⟩ : MethodName) (head1 (Jvm.Cond.code (⟨"com/example/lean_bus/leanbus/api/Caller", "isUnchecked", "()Z"⟩ : MethodName) prog_2_method_5_code 1 (some .boolean) :: ws) ({ frames := 0, cells := 0, slots := 0, locals := 0 } : Room)) (fun a U => a = #[(.ref ao0)] ∧ Z.Warmed39 U.vm ∧ U.heap = h0) (fun _ _ _ _ _ => True) (fun _ U o U' => ∃ v L, o = .returned v ∧ (Q_rm10RN Z ao0 t0 h0 n0) v U'.heap L ∧ FrameEnd U o U' L ({ frames := 0, cells := 0, slots := 0, locals := 0 } : Room).cells ({ frames := 0, cells := 0, slots := 0, locals := 0 } : Room).slots) := by
  refine MetFree.of_bodySF (plainFor_of_name pn_rm10RN) hisR ?_
  intro p e s m args below meth c s₁ Bd hml0 hP hK
  obtain ⟨rfl, hZ, hh⟩ := hP
  have hx := Bd.exec
  have hby := Bd.bytes
  have hlk := BodyLoose.notSynchronized Bd
  have hret := Bd.returns
  have hml : c.maxLocals = 1 := hml0
  have hown : s.vm.findClass "com/example/lean_bus/leanbus/api/Caller" = some m.cls := findClass_of_methodNamed Bd.named
  have hnm := (name_of_methodNamed Bd.named Bd.method).1
  have X0 : Stand p l e ({ frames := 0, cells := 0, slots := 0, locals := 0 } : Room) s m #[(.ref ao0)] below meth c s₁ [] 0 0 := Stand.of_body Bd
  have e0 : s₁.heap = h0 := by rw [← hh, Bd.state]; rfl
  have Nf := Fr.nil n0
  have Zs := Z0
  have Kp : Keep h0 h0 [] := Keep.refl _ _
  show own_End p e below s (Q_rm10RN Z ao0 t0 h0 n0) ({ frames := 0, cells := 0, slots := 0, locals := 0 } : Room).cells ({ frames := 0, cells := 0, slots := 0, locals := 0 } : Room).slots (s₁.setTop (entryFrame m #[(.ref ao0)] 1))
  refine own_go (x' := s₁.setTop (mkF m 0 #[.val (.ref ao0)] [])) (fun t k => castTop (ef_rm10RN m ao0) k) ?_
  refine own_go (x' := s₁.setTop (mkF m 1 #[.val (.ref ao0)] [(.ref ao0)])) (fun _ k => XS.aloadN X0.here hx rfl (hb hby d10_0) rfl rfl k) ?_
  obtain ⟨T1, X1, e1, st1⟩ := getF X0 hx hZ hown (host := "") (Or.inl (own_w hw 47 rfl)) Via.refl e0 F_ao0_token (g := (mkF m 1 #[.val (.ref ao0)] [(.ref ao0)])) rfl rfl (hb hby d10_1)
  refine own_go (x' := T1.setTop (mkF m 4 #[.val (.ref ao0)] [(.ref t0)])) st1 ?_
  refine own_go (x' := T1.setTop (mkF m 8 #[.val (.ref ao0)] [(.ref ao0)])) (fun _ k => XS.ifnullNo X1.here hx rfl (hb hby d10_4) rfl (XS.aloadN X1.here hx rfl (hb hby d10_7) rfl rfl k)) ?_
  obtain ⟨T2, X2, e2, st2⟩ := getF X1 hx hZ hown (host := "") (Or.inl (own_w hw 49 rfl)) Via.refl e1 F_ao0_name (g := (mkF m 8 #[.val (.ref ao0)] [(.ref ao0)])) rfl rfl (hb hby d10_8)
  refine own_go (x' := T2.setTop (mkF m 11 #[.val (.ref ao0)] [.null])) st2 ?_
  refine own_go (x' := T2.setTop (mkF m 19 #[.val (.ref ao0)] [(.int 1)])) (fun _ k => XS.ifnonnullNo X2.here hx rfl (hb hby d10_11) rfl (XS.iconst X2.here hx rfl (hb hby d10_14) (XS.goto X2.here hx rfl (pc0 := 15) (pc' := 19) rfl (hb hby d10_15) (by decide) (by decide) k))) ?_
  refine own_retN X2 hx hlk (t := .boolean) hret (by simp) (hb hby d10_19) (w := (1 : Int32)) rfl ?_ (by decide) (by decide)
  rw [e2]
  exact ⟨rfl, Nf, rfl⟩
def Q_rm8NR (Z : State) (ao0 ao2 : Addr) (h0 : Heap) (n0 : Nat) (v : Option Value) (h : Heap) (L : List Loc) : Prop := v = none ∧ Fr n0 L ∧ Keep h0 h [ao0] ∧ Exa Z h ao0 "com/example/lean_bus/leanbus/api/Caller" ∧ Fld Z h ao0 "com/example/lean_bus/leanbus/api/Caller" "token" "Ljava/lang/String;" .null ∧ Fld Z h ao0 "com/example/lean_bus/leanbus/api/Caller" "name" "Ljava/lang/String;" (.ref ao2)
theorem pn_rm8NR : plainName "com/example/lean_bus/leanbus/api/Caller" = true := by first | (simp [plainName, overriddenIn]; done) | decide +kernel
theorem ef_rm8NR (m : MethodId) (x0 : Addr) (x2 : Addr) : entryFrame m #[(.ref x0), .null, (.ref x2)] 3 = mkF m 0 #[.val (.ref x0), .val .null, .val (.ref x2)] [] := by first | (simp [entryFrame, mkF, argsToLocals, Value.category]; done) | rfl
set_option maxRecDepth 65536 in
set_option maxHeartbeats 40000000 in
theorem rm8NR (l : Launch) (Z : State) (a0 : Array Value) (hw : ∀ d ∈ tables_1, d.before a0 Z = true) (ws : List Jvm.Cond) (ao0 ao2 : Addr) (h0 : Heap) (n0 : Nat) (Z0 : n0 ≤ h0.size) (E_ao0 : Exa Z h0 ao0 "com/example/lean_bus/leanbus/api/Caller") (F_ao0_token : Fld Z h0 ao0 "com/example/lean_bus/leanbus/api/Caller" "token" "Ljava/lang/String;" .null) (F_ao0_name : Fld Z h0 ao0 "com/example/lean_bus/leanbus/api/Caller" "name" "Ljava/lang/String;" .null) (g_ao0 : n0 ≤ ao0) :
    MetFree l (⟨"com/example/lean_bus/leanbus/api/Caller", "<init>", "(Ljava/lang/String;Ljava/lang/String;)V"⟩ : MethodName) (head1 (Jvm.Cond.code (⟨"com/example/lean_bus/leanbus/api/Caller", "<init>", "(Ljava/lang/String;Ljava/lang/String;)V"⟩ : MethodName) prog_2_method_1_code 3 none :: ws) ({ frames := 2, cells := 0, slots := 0, locals := 24 } : Room)) (fun a U => a = #[(.ref ao0), .null, (.ref ao2)] ∧ Z.Warmed39 U.vm ∧ U.heap = h0) (fun _ _ _ _ _ => True) (fun _ U o U' => ∃ v L, o = .returned v ∧ (Q_rm8NR Z ao0 ao2 h0 n0) v U'.heap L ∧ FrameEnd U o U' L ({ frames := 2, cells := 0, slots := 0, locals := 24 } : Room).cells ({ frames := 2, cells := 0, slots := 0, locals := 24 } : Room).slots) := by
  refine MetFree.of_bodySF (plainFor_of_name pn_rm8NR) hisR ?_
  intro p e s m args below meth c s₁ Bd hml0 hP hK
  obtain ⟨rfl, hZ, hh⟩ := hP
  have hx := Bd.exec
  have hby := Bd.bytes
  have hlk := BodyLoose.notSynchronized Bd
  have hret := Bd.returns
  have hml : c.maxLocals = 3 := hml0
  have hown : s.vm.findClass "com/example/lean_bus/leanbus/api/Caller" = some m.cls := findClass_of_methodNamed Bd.named
  have hnm := (name_of_methodNamed Bd.named Bd.method).1
  have X0 : Stand p l e ({ frames := 2, cells := 0, slots := 0, locals := 24 } : Room) s m #[(.ref ao0), .null, (.ref ao2)] below meth c s₁ [] 0 0 := Stand.of_body Bd
  have e0 : s₁.heap = h0 := by rw [← hh, Bd.state]; rfl
  have Nf := Fr.nil n0
  have Zs := Z0
  have Kp : Keep h0 h0 [ao0] := Keep.refl _ _
  show own_End p e below s (Q_rm8NR Z ao0 ao2 h0 n0) ({ frames := 2, cells := 0, slots := 0, locals := 24 } : Room).cells ({ frames := 2, cells := 0, slots := 0, locals := 24 } : Room).slots (s₁.setTop (entryFrame m #[(.ref ao0), .null, (.ref ao2)] 3))
  refine own_go (x' := s₁.setTop (mkF m 0 #[.val (.ref ao0), .val .null, .val (.ref ao2)] [])) (fun t k => castTop (ef_rm8NR m ao0 ao2) k) ?_
  refine own_go (x' := s₁.setTop (mkF m 1 #[.val (.ref ao0), .val .null, .val (.ref ao2)] [(.ref ao0)])) (fun _ k => XS.aloadN X0.here hx rfl (hb hby d8_0) rfl rfl k) ?_
  obtain ⟨_, _, ⟨T1, L1, k1, n1⟩, -, X1, ⟨Lc1, hQ1, l1, y1, z1⟩, st1⟩ := X0.specialBack hx (y := (⟨"java/lang/Record", "<init>", "()V"⟩ : MethodName)) rfl hown (mvT hZ (own_w hw 41 rfl)) (mvT hZ (own_w hw 42 rfl)) (mvT hZ (own_w hw 45 rfl)) (by decide) (backOf (W := 0) (rm9 l Z a0 hw [] ao0 h0 n0 Zs ) hZ (own_w hw 45 rfl) (own_w hw 44 rfl) (by decide) (by decide)) (g := (mkF m 1 #[.val (.ref ao0), .val .null, .val (.ref ao2)] [(.ref ao0)])) rfl (by rw [hml]; rfl) (Steps.refl _) (a := ao0) (argsL := []) (rest := []) (lenOf pd_5 rfl) rfl (by show 2 * 0 + _ ≤ _; exact Nat.le_of_eq rfl) (hb hby d8_1) (fun _ _ => ⟨rfl, e0, (by decide : 0 + 0 ≤ _), (by decide : 0 + 0 ≤ _)⟩)
  dsimp only [Pt.U, Pt.locs, Pt.cells, Pt.slots] at X1 l1 y1 z1 st1 hQ1
  subst l1 y1 z1
  obtain ⟨hv1, Nq1, eq1⟩ := hQ1
  subst hv1
  replace Nf := Fr.app Nf Nq1
  refine own_go (x' := T1.setTop (mkF m 4 #[.val (.ref ao0), .val .null, .val (.ref ao2)] [])) (fun _ k => st1.trans k) ?_
  refine own_go (x' := T1.setTop (mkF m 6 #[.val (.ref ao0), .val .null, .val (.ref ao2)] [.null, (.ref ao0)])) (fun _ k => XS.aloadN X1.here hx rfl (hb hby d8_4) rfl rfl (XS.aloadN X1.here hx rfl (hb hby d8_5) rfl rfl k)) ?_
  obtain ⟨T2, h2, X2, e2, W2, st2⟩ := putF X1 hx hZ hown (host := "") (Or.inl (own_w hw 47 rfl)) Via.refl eq1 F_ao0_token E_ao0 (Or.inr ⟨(own_w hw 48 rfl), rfl, hnm⟩) (own_w hw 36 rfl) (ty := (.object "java/lang/String")) (by decide) rfl rfl (g := (mkF m 6 #[.val (.ref ao0), .val .null, .val (.ref ao2)] [.null, (.ref ao0)])) rfl rfl (hb hby d8_6)
  refine own_go (x' := T2.setTop (mkF m 9 #[.val (.ref ao0), .val .null, .val (.ref ao2)] [])) st2 ?_
  replace E_ao0 := Exa.wr W2 E_ao0
  replace F_ao0_token := Fld.same W2 F_ao0_token
  replace F_ao0_name := Fld.other W2 F_ao0_name (Or.inr (slot_ne (Or.inr (own_w hw 50 rfl)) (Or.inr (own_w hw 48 rfl)) (by decide) (t := (.object "java/lang/String")) (t' := (.object "java/lang/String")) (by decide) (by decide)))
  replace Zs := Nat.le_trans Zs (Keep.of_wr W2).1
  replace Nf := Fr.snoc X2 Nf g_ao0
  replace Kp := Kp.wr W2 (Or.inl (by simp))
  refine own_go (x' := T2.setTop (mkF m 11 #[.val (.ref ao0), .val .null, .val (.ref ao2)] [(.ref ao2), (.ref ao0)])) (fun _ k => XS.aloadN X2.here hx rfl (hb hby d8_9) rfl rfl (XS.aloadN X2.here hx rfl (hb hby d8_10) rfl rfl k)) ?_
  obtain ⟨T3, h3, X3, e3, W3, st3⟩ := putF X2 hx hZ hown (host := "") (Or.inl (own_w hw 49 rfl)) Via.refl e2 F_ao0_name E_ao0 (Or.inr ⟨(own_w hw 50 rfl), rfl, hnm⟩) (own_w hw 36 rfl) (ty := (.object "java/lang/String")) (by decide) rfl rfl (g := (mkF m 11 #[.val (.ref ao0), .val .null, .val (.ref ao2)] [(.ref ao2), (.ref ao0)])) rfl rfl (hb hby d8_11)
  refine own_go (x' := T3.setTop (mkF m 14 #[.val (.ref ao0), .val .null, .val (.ref ao2)] [])) st3 ?_
  replace E_ao0 := Exa.wr W3 E_ao0
  replace F_ao0_token := Fld.other W3 F_ao0_token (Or.inr (slot_ne (Or.inr (own_w hw 48 rfl)) (Or.inr (own_w hw 50 rfl)) (by decide) (t := (.object "java/lang/String")) (t' := (.object "java/lang/String")) (by decide) (by decide)))
  replace F_ao0_name := Fld.same W3 F_ao0_name
  replace Zs := Nat.le_trans Zs (Keep.of_wr W3).1
  replace Nf := Fr.snoc X3 Nf g_ao0
  replace Kp := Kp.wr W3 (Or.inl (by simp))
  refine own_retV X3 hx hlk hret (hb hby d8_14) ?_ (by decide) (by decide)
  rw [e3]
  exact ⟨rfl, Nf, Kp, E_ao0, F_ao0_token, F_ao0_name⟩
def Q_rm10NR (Z : State) (ao0 t1 : Addr) (h0 : Heap) (n0 : Nat) (v : Option Value) (h : Heap) (L : List Loc) : Prop := v = some (.int (0 : Int32)) ∧ Fr n0 L ∧ h = h0
theorem pn_rm10NR : plainName "com/example/lean_bus/leanbus/api/Caller" = true := by first | (simp [plainName, overriddenIn]; done) | decide +kernel
theorem ef_rm10NR (m : MethodId) (x0 : Addr) : entryFrame m #[(.ref x0)] 1 = mkF m 0 #[.val (.ref x0)] [] := by first | (simp [entryFrame, mkF, argsToLocals, Value.category]; done) | rfl
set_option maxRecDepth 65536 in
set_option maxHeartbeats 40000000 in
theorem rm10NR (l : Launch) (Z : State) (a0 : Array Value) (hw : ∀ d ∈ tables_1, d.before a0 Z = true) (ws : List Jvm.Cond) (ao0 t1 : Addr) (h0 : Heap) (n0 : Nat) (Z0 : n0 ≤ h0.size) (F_ao0_token : Fld Z h0 ao0 "com/example/lean_bus/leanbus/api/Caller" "token" "Ljava/lang/String;" .null) (F_ao0_name : Fld Z h0 ao0 "com/example/lean_bus/leanbus/api/Caller" "name" "Ljava/lang/String;" (.ref t1)) :
    MetFree l (⟨"com/example/lean_bus/leanbus/api/Caller", "isUnchecked", "()Z"⟩ : MethodName) (head1 (Jvm.Cond.code (⟨"com/example/lean_bus/leanbus/api/Caller", "isUnchecked", "()Z"⟩ : MethodName) prog_2_method_5_code 1 (some .boolean) :: ws) ({ frames := 0, cells := 0, slots := 0, locals := 0 } : Room)) (fun a U => a = #[(.ref ao0)] ∧ Z.Warmed39 U.vm ∧ U.heap = h0) (fun _ _ _ _ _ => True) (fun _ U o U' => ∃ v L, o = .returned v ∧ (Q_rm10NR Z ao0 t1 h0 n0) v U'.heap L ∧ FrameEnd U o U' L ({ frames := 0, cells := 0, slots := 0, locals := 0 } : Room).cells ({ frames := 0, cells := 0, slots := 0, locals := 0 } : Room).slots) := by
  refine MetFree.of_bodySF (plainFor_of_name pn_rm10NR) hisR ?_
  intro p e s m args below meth c s₁ Bd hml0 hP hK
  obtain ⟨rfl, hZ, hh⟩ := hP
  have hx := Bd.exec
  have hby := Bd.bytes
  have hlk := BodyLoose.notSynchronized Bd
  have hret := Bd.returns
  have hml : c.maxLocals = 1 := hml0
  have hown : s.vm.findClass "com/example/lean_bus/leanbus/api/Caller" = some m.cls := findClass_of_methodNamed Bd.named
  have hnm := (name_of_methodNamed Bd.named Bd.method).1
  have X0 : Stand p l e ({ frames := 0, cells := 0, slots := 0, locals := 0 } : Room) s m #[(.ref ao0)] below meth c s₁ [] 0 0 := Stand.of_body Bd
  have e0 : s₁.heap = h0 := by rw [← hh, Bd.state]; rfl
  have Nf := Fr.nil n0
  have Zs := Z0
  have Kp : Keep h0 h0 [] := Keep.refl _ _
  show own_End p e below s (Q_rm10NR Z ao0 t1 h0 n0) ({ frames := 0, cells := 0, slots := 0, locals := 0 } : Room).cells ({ frames := 0, cells := 0, slots := 0, locals := 0 } : Room).slots (s₁.setTop (entryFrame m #[(.ref ao0)] 1))
  refine own_go (x' := s₁.setTop (mkF m 0 #[.val (.ref ao0)] [])) (fun t k => castTop (ef_rm10NR m ao0) k) ?_
  refine own_go (x' := s₁.setTop (mkF m 1 #[.val (.ref ao0)] [(.ref ao0)])) (fun _ k => XS.aloadN X0.here hx rfl (hb hby d10_0) rfl rfl k) ?_
  obtain ⟨T1, X1, e1, st1⟩ := getF X0 hx hZ hown (host := "") (Or.inl (own_w hw 47 rfl)) Via.refl e0 F_ao0_token (g := (mkF m 1 #[.val (.ref ao0)] [(.ref ao0)])) rfl rfl (hb hby d10_1)
  refine own_go (x' := T1.setTop (mkF m 4 #[.val (.ref ao0)] [.null])) st1 ?_
  refine own_go (x' := T1.setTop (mkF m 19 #[.val (.ref ao0)] [(.int 0)])) (fun _ k => XS.ifnullYes X1.here hx rfl (pc0 := 4) (pc' := 18) rfl (hb hby d10_4) rfl (by decide) (by decide) (XS.iconst X1.here hx rfl (hb hby d10_18) k)) ?_
  refine own_retN X1 hx hlk (t := .boolean) hret (by simp) (hb hby d10_19) (w := (0 : Int32)) rfl ?_ (by decide) (by decide)
  rw [e1]
  exact ⟨rfl, Nf, rfl⟩
def Q_rm8NN (Z : State) (ao0 : Addr) (h0 : Heap) (n0 : Nat) (v : Option Value) (h : Heap) (L : List Loc) : Prop := v = none ∧ Fr n0 L ∧ Keep h0 h [ao0] ∧ Exa Z h ao0 "com/example/lean_bus/leanbus/api/Caller" ∧ Fld Z h ao0 "com/example/lean_bus/leanbus/api/Caller" "token" "Ljava/lang/String;" .null ∧ Fld Z h ao0 "com/example/lean_bus/leanbus/api/Caller" "name" "Ljava/lang/String;" .null
theorem pn_rm8NN : plainName "com/example/lean_bus/leanbus/api/Caller" = true := by first | (simp [plainName, overriddenIn]; done) | decide +kernel
theorem ef_rm8NN (m : MethodId) (x0 : Addr) : entryFrame m #[(.ref x0), .null, .null] 3 = mkF m 0 #[.val (.ref x0), .val .null, .val .null] [] := by first | (simp [entryFrame, mkF, argsToLocals, Value.category]; done) | rfl
set_option maxRecDepth 65536 in
set_option maxHeartbeats 40000000 in
theorem rm8NN (l : Launch) (Z : State) (a0 : Array Value) (hw : ∀ d ∈ tables_1, d.before a0 Z = true) (ws : List Jvm.Cond) (ao0 : Addr) (h0 : Heap) (n0 : Nat) (Z0 : n0 ≤ h0.size) (E_ao0 : Exa Z h0 ao0 "com/example/lean_bus/leanbus/api/Caller") (F_ao0_token : Fld Z h0 ao0 "com/example/lean_bus/leanbus/api/Caller" "token" "Ljava/lang/String;" .null) (F_ao0_name : Fld Z h0 ao0 "com/example/lean_bus/leanbus/api/Caller" "name" "Ljava/lang/String;" .null) (g_ao0 : n0 ≤ ao0) :
    MetFree l (⟨"com/example/lean_bus/leanbus/api/Caller", "<init>", "(Ljava/lang/String;Ljava/lang/String;)V"⟩ : MethodName) (head1 (Jvm.Cond.code (⟨"com/example/lean_bus/leanbus/api/Caller", "<init>", "(Ljava/lang/String;Ljava/lang/String;)V"⟩ : MethodName) prog_2_method_1_code 3 none :: ws) ({ frames := 2, cells := 0, slots := 0, locals := 24 } : Room)) (fun a U => a = #[(.ref ao0), .null, .null] ∧ Z.Warmed39 U.vm ∧ U.heap = h0) (fun _ _ _ _ _ => True) (fun _ U o U' => ∃ v L, o = .returned v ∧ (Q_rm8NN Z ao0 h0 n0) v U'.heap L ∧ FrameEnd U o U' L ({ frames := 2, cells := 0, slots := 0, locals := 24 } : Room).cells ({ frames := 2, cells := 0, slots := 0, locals := 24 } : Room).slots) := by
  refine MetFree.of_bodySF (plainFor_of_name pn_rm8NN) hisR ?_
  intro p e s m args below meth c s₁ Bd hml0 hP hK
  obtain ⟨rfl, hZ, hh⟩ := hP
  have hx := Bd.exec
  have hby := Bd.bytes
  have hlk := BodyLoose.notSynchronized Bd
  have hret := Bd.returns
  have hml : c.maxLocals = 3 := hml0
  have hown : s.vm.findClass "com/example/lean_bus/leanbus/api/Caller" = some m.cls := findClass_of_methodNamed Bd.named
  have hnm := (name_of_methodNamed Bd.named Bd.method).1
  have X0 : Stand p l e ({ frames := 2, cells := 0, slots := 0, locals := 24 } : Room) s m #[(.ref ao0), .null, .null] below meth c s₁ [] 0 0 := Stand.of_body Bd
  have e0 : s₁.heap = h0 := by rw [← hh, Bd.state]; rfl
  have Nf := Fr.nil n0
  have Zs := Z0
  have Kp : Keep h0 h0 [ao0] := Keep.refl _ _
  show own_End p e below s (Q_rm8NN Z ao0 h0 n0) ({ frames := 2, cells := 0, slots := 0, locals := 24 } : Room).cells ({ frames := 2, cells := 0, slots := 0, locals := 24 } : Room).slots (s₁.setTop (entryFrame m #[(.ref ao0), .null, .null] 3))
  refine own_go (x' := s₁.setTop (mkF m 0 #[.val (.ref ao0), .val .null, .val .null] [])) (fun t k => castTop (ef_rm8NN m ao0) k) ?_
  refine own_go (x' := s₁.setTop (mkF m 1 #[.val (.ref ao0), .val .null, .val .null] [(.ref ao0)])) (fun _ k => XS.aloadN X0.here hx rfl (hb hby d8_0) rfl rfl k) ?_
  obtain ⟨_, _, ⟨T1, L1, k1, n1⟩, -, X1, ⟨Lc1, hQ1, l1, y1, z1⟩, st1⟩ := X0.specialBack hx (y := (⟨"java/lang/Record", "<init>", "()V"⟩ : MethodName)) rfl hown (mvT hZ (own_w hw 41 rfl)) (mvT hZ (own_w hw 42 rfl)) (mvT hZ (own_w hw 45 rfl)) (by decide) (backOf (W := 0) (rm9 l Z a0 hw [] ao0 h0 n0 Zs ) hZ (own_w hw 45 rfl) (own_w hw 44 rfl) (by decide) (by decide)) (g := (mkF m 1 #[.val (.ref ao0), .val .null, .val .null] [(.ref ao0)])) rfl (by rw [hml]; rfl) (Steps.refl _) (a := ao0) (argsL := []) (rest := []) (lenOf pd_5 rfl) rfl (by show 2 * 0 + _ ≤ _; exact Nat.le_of_eq rfl) (hb hby d8_1) (fun _ _ => ⟨rfl, e0, (by decide : 0 + 0 ≤ _), (by decide : 0 + 0 ≤ _)⟩)
  dsimp only [Pt.U, Pt.locs, Pt.cells, Pt.slots] at X1 l1 y1 z1 st1 hQ1
  subst l1 y1 z1
  obtain ⟨hv1, Nq1, eq1⟩ := hQ1
  subst hv1
  replace Nf := Fr.app Nf Nq1
  refine own_go (x' := T1.setTop (mkF m 4 #[.val (.ref ao0), .val .null, .val .null] [])) (fun _ k => st1.trans k) ?_
  refine own_go (x' := T1.setTop (mkF m 6 #[.val (.ref ao0), .val .null, .val .null] [.null, (.ref ao0)])) (fun _ k => XS.aloadN X1.here hx rfl (hb hby d8_4) rfl rfl (XS.aloadN X1.here hx rfl (hb hby d8_5) rfl rfl k)) ?_
  obtain ⟨T2, h2, X2, e2, W2, st2⟩ := putF X1 hx hZ hown (host := "") (Or.inl (own_w hw 47 rfl)) Via.refl eq1 F_ao0_token E_ao0 (Or.inr ⟨(own_w hw 48 rfl), rfl, hnm⟩) (own_w hw 36 rfl) (ty := (.object "java/lang/String")) (by decide) rfl rfl (g := (mkF m 6 #[.val (.ref ao0), .val .null, .val .null] [.null, (.ref ao0)])) rfl rfl (hb hby d8_6)
  refine own_go (x' := T2.setTop (mkF m 9 #[.val (.ref ao0), .val .null, .val .null] [])) st2 ?_
  replace E_ao0 := Exa.wr W2 E_ao0
  replace F_ao0_token := Fld.same W2 F_ao0_token
  replace F_ao0_name := Fld.other W2 F_ao0_name (Or.inr (slot_ne (Or.inr (own_w hw 50 rfl)) (Or.inr (own_w hw 48 rfl)) (by decide) (t := (.object "java/lang/String")) (t' := (.object "java/lang/String")) (by decide) (by decide)))
  replace Zs := Nat.le_trans Zs (Keep.of_wr W2).1
  replace Nf := Fr.snoc X2 Nf g_ao0
  replace Kp := Kp.wr W2 (Or.inl (by simp))
  refine own_go (x' := T2.setTop (mkF m 11 #[.val (.ref ao0), .val .null, .val .null] [.null, (.ref ao0)])) (fun _ k => XS.aloadN X2.here hx rfl (hb hby d8_9) rfl rfl (XS.aloadN X2.here hx rfl (hb hby d8_10) rfl rfl k)) ?_
  obtain ⟨T3, h3, X3, e3, W3, st3⟩ := putF X2 hx hZ hown (host := "") (Or.inl (own_w hw 49 rfl)) Via.refl e2 F_ao0_name E_ao0 (Or.inr ⟨(own_w hw 50 rfl), rfl, hnm⟩) (own_w hw 36 rfl) (ty := (.object "java/lang/String")) (by decide) rfl rfl (g := (mkF m 11 #[.val (.ref ao0), .val .null, .val .null] [.null, (.ref ao0)])) rfl rfl (hb hby d8_11)
  refine own_go (x' := T3.setTop (mkF m 14 #[.val (.ref ao0), .val .null, .val .null] [])) st3 ?_
  replace E_ao0 := Exa.wr W3 E_ao0
  replace F_ao0_token := Fld.other W3 F_ao0_token (Or.inr (slot_ne (Or.inr (own_w hw 48 rfl)) (Or.inr (own_w hw 50 rfl)) (by decide) (t := (.object "java/lang/String")) (t' := (.object "java/lang/String")) (by decide) (by decide)))
  replace F_ao0_name := Fld.same W3 F_ao0_name
  replace Zs := Nat.le_trans Zs (Keep.of_wr W3).1
  replace Nf := Fr.snoc X3 Nf g_ao0
  replace Kp := Kp.wr W3 (Or.inl (by simp))
  refine own_retV X3 hx hlk hret (hb hby d8_14) ?_ (by decide) (by decide)
  rw [e3]
  exact ⟨rfl, Nf, Kp, E_ao0, F_ao0_token, F_ao0_name⟩
def Q_rm10NN (Z : State) (ao0 : Addr) (h0 : Heap) (n0 : Nat) (v : Option Value) (h : Heap) (L : List Loc) : Prop := v = some (.int (0 : Int32)) ∧ Fr n0 L ∧ h = h0
theorem pn_rm10NN : plainName "com/example/lean_bus/leanbus/api/Caller" = true := by first | (simp [plainName, overriddenIn]; done) | decide +kernel
theorem ef_rm10NN (m : MethodId) (x0 : Addr) : entryFrame m #[(.ref x0)] 1 = mkF m 0 #[.val (.ref x0)] [] := by first | (simp [entryFrame, mkF, argsToLocals, Value.category]; done) | rfl
set_option maxRecDepth 65536 in
set_option maxHeartbeats 40000000 in
theorem rm10NN (l : Launch) (Z : State) (a0 : Array Value) (hw : ∀ d ∈ tables_1, d.before a0 Z = true) (ws : List Jvm.Cond) (ao0 : Addr) (h0 : Heap) (n0 : Nat) (Z0 : n0 ≤ h0.size) (F_ao0_token : Fld Z h0 ao0 "com/example/lean_bus/leanbus/api/Caller" "token" "Ljava/lang/String;" .null) (F_ao0_name : Fld Z h0 ao0 "com/example/lean_bus/leanbus/api/Caller" "name" "Ljava/lang/String;" .null) :
    MetFree l (⟨"com/example/lean_bus/leanbus/api/Caller", "isUnchecked", "()Z"⟩ : MethodName) (head1 (Jvm.Cond.code (⟨"com/example/lean_bus/leanbus/api/Caller", "isUnchecked", "()Z"⟩ : MethodName) prog_2_method_5_code 1 (some .boolean) :: ws) ({ frames := 0, cells := 0, slots := 0, locals := 0 } : Room)) (fun a U => a = #[(.ref ao0)] ∧ Z.Warmed39 U.vm ∧ U.heap = h0) (fun _ _ _ _ _ => True) (fun _ U o U' => ∃ v L, o = .returned v ∧ (Q_rm10NN Z ao0 h0 n0) v U'.heap L ∧ FrameEnd U o U' L ({ frames := 0, cells := 0, slots := 0, locals := 0 } : Room).cells ({ frames := 0, cells := 0, slots := 0, locals := 0 } : Room).slots) := by
  refine MetFree.of_bodySF (plainFor_of_name pn_rm10NN) hisR ?_
  intro p e s m args below meth c s₁ Bd hml0 hP hK
  obtain ⟨rfl, hZ, hh⟩ := hP
  have hx := Bd.exec
  have hby := Bd.bytes
  have hlk := BodyLoose.notSynchronized Bd
  have hret := Bd.returns
  have hml : c.maxLocals = 1 := hml0
  have hown : s.vm.findClass "com/example/lean_bus/leanbus/api/Caller" = some m.cls := findClass_of_methodNamed Bd.named
  have hnm := (name_of_methodNamed Bd.named Bd.method).1
  have X0 : Stand p l e ({ frames := 0, cells := 0, slots := 0, locals := 0 } : Room) s m #[(.ref ao0)] below meth c s₁ [] 0 0 := Stand.of_body Bd
  have e0 : s₁.heap = h0 := by rw [← hh, Bd.state]; rfl
  have Nf := Fr.nil n0
  have Zs := Z0
  have Kp : Keep h0 h0 [] := Keep.refl _ _
  show own_End p e below s (Q_rm10NN Z ao0 h0 n0) ({ frames := 0, cells := 0, slots := 0, locals := 0 } : Room).cells ({ frames := 0, cells := 0, slots := 0, locals := 0 } : Room).slots (s₁.setTop (entryFrame m #[(.ref ao0)] 1))
  refine own_go (x' := s₁.setTop (mkF m 0 #[.val (.ref ao0)] [])) (fun t k => castTop (ef_rm10NN m ao0) k) ?_
  refine own_go (x' := s₁.setTop (mkF m 1 #[.val (.ref ao0)] [(.ref ao0)])) (fun _ k => XS.aloadN X0.here hx rfl (hb hby d10_0) rfl rfl k) ?_
  obtain ⟨T1, X1, e1, st1⟩ := getF X0 hx hZ hown (host := "") (Or.inl (own_w hw 47 rfl)) Via.refl e0 F_ao0_token (g := (mkF m 1 #[.val (.ref ao0)] [(.ref ao0)])) rfl rfl (hb hby d10_1)
  refine own_go (x' := T1.setTop (mkF m 4 #[.val (.ref ao0)] [.null])) st1 ?_
  refine own_go (x' := T1.setTop (mkF m 19 #[.val (.ref ao0)] [(.int 0)])) (fun _ k => XS.ifnullYes X1.here hx rfl (pc0 := 4) (pc' := 18) rfl (hb hby d10_4) rfl (by decide) (by decide) (XS.iconst X1.here hx rfl (hb hby d10_18) k)) ?_
  refine own_retN X1 hx hlk (t := .boolean) hret (by simp) (hb hby d10_19) (w := (0 : Int32)) rfl ?_ (by decide) (by decide)
  rw [e1]
  exact ⟨rfl, Nf, rfl⟩
theorem pd_6 : parseMethodDescriptor "(Ljava/lang/String;Ljava/lang/String;)V" = some ⟨[(.object "java/lang/String"), (.object "java/lang/String")], none⟩ := by decide +kernel
theorem d11_0 : decode prog_2_method_3_code 0 = .ok (.new 8, 3) := by decide +kernel
theorem d11_3 : decode prog_2_method_3_code 3 = .ok (.dup, 1) := by decide +kernel
theorem d11_4 : decode prog_2_method_3_code 4 = .ok (.aload_n 0, 1) := by decide +kernel
theorem d11_5 : decode prog_2_method_3_code 5 = .ok (.aconst_null, 1) := by decide +kernel
theorem d11_6 : decode prog_2_method_3_code 6 = .ok (.invokespecial 16, 3) := by decide +kernel
theorem d11_9 : decode prog_2_method_3_code 9 = .ok (.areturn, 1) := by decide +kernel
def Q_rm11 (Z : State) (ao0 : Addr) (h0 : Heap) (n0 : Nat) (v : Option Value) (h : Heap) (L : List Loc) : Prop := ∃ b : Addr, v = some (.ref b) ∧ Fr n0 L ∧ Keep h0 h [] ∧ h0.size ≤ b ∧ n0 ≤ b ∧ Exa Z h b "com/example/lean_bus/leanbus/api/Caller" ∧ Fld Z h b "com/example/lean_bus/leanbus/api/Caller" "token" "Ljava/lang/String;" (.ref ao0) ∧ Fld Z h b "com/example/lean_bus/leanbus/api/Caller" "name" "Ljava/lang/String;" .null
theorem pn_rm11 : plainName "com/example/lean_bus/leanbus/api/Caller" = true := by first | (simp [plainName, overriddenIn]; done) | decide +kernel
theorem ef_rm11 (m : MethodId) (x0 : Addr) : entryFrame m #[(.ref x0)] 1 = mkF m 0 #[.val (.ref x0)] [] := by first | (simp [entryFrame, mkF, argsToLocals, Value.category]; done) | rfl
set_option maxRecDepth 65536 in
set_option maxHeartbeats 40000000 in
theorem rm11 (l : Launch) (Z : State) (a0 : Array Value) (hw : ∀ d ∈ tables_1, d.before a0 Z = true) (ws : List Jvm.Cond) (ao0 : Addr) (h0 : Heap) (n0 : Nat) (Z0 : n0 ≤ h0.size) :
    MetFree l (⟨"com/example/lean_bus/leanbus/api/Caller", "unchecked", "(Ljava/lang/String;)Lcom/example/lean_bus/leanbus/api/Caller;"⟩ : MethodName) (head1 (Jvm.Cond.code (⟨"com/example/lean_bus/leanbus/api/Caller", "unchecked", "(Ljava/lang/String;)Lcom/example/lean_bus/leanbus/api/Caller;"⟩ : MethodName) prog_2_method_3_code 1 (some (.object "com/example/lean_bus/leanbus/api/Caller")) :: ws) ({ frames := 3, cells := 1, slots := 2, locals := 39 } : Room)) (fun a U => a = #[(.ref ao0)] ∧ Z.Warmed39 U.vm ∧ U.heap = h0) (fun _ _ _ _ _ => True) (fun _ U o U' => ∃ v L, o = .returned v ∧ (Q_rm11 Z ao0 h0 n0) v U'.heap L ∧ FrameEnd U o U' L ({ frames := 3, cells := 1, slots := 2, locals := 39 } : Room).cells ({ frames := 3, cells := 1, slots := 2, locals := 39 } : Room).slots) := by
  refine MetFree.of_bodySF (plainFor_of_name pn_rm11) hisR ?_
  intro p e s m args below meth c s₁ Bd hml0 hP hK
  obtain ⟨rfl, hZ, hh⟩ := hP
  have hx := Bd.exec
  have hby := Bd.bytes
  have hlk := BodyLoose.notSynchronized Bd
  have hret := Bd.returns
  have hml : c.maxLocals = 1 := hml0
  have hown : s.vm.findClass "com/example/lean_bus/leanbus/api/Caller" = some m.cls := findClass_of_methodNamed Bd.named
  have hnm := (name_of_methodNamed Bd.named Bd.method).1
  have X0 : Stand p l e ({ frames := 3, cells := 1, slots := 2, locals := 39 } : Room) s m #[(.ref ao0)] below meth c s₁ [] 0 0 := Stand.of_body Bd
  have e0 : s₁.heap = h0 := by rw [← hh, Bd.state]; rfl
  have Nf := Fr.nil n0
  have Zs := Z0
  have Kp : Keep h0 h0 [] := Keep.refl _ _
  show own_End p e below s (Q_rm11 Z ao0 h0 n0) ({ frames := 3, cells := 1, slots := 2, locals := 39 } : Room).cells ({ frames := 3, cells := 1, slots := 2, locals := 39 } : Room).slots (s₁.setTop (entryFrame m #[(.ref ao0)] 1))
  refine own_go (x' := s₁.setTop (mkF m 0 #[.val (.ref ao0)] [])) (fun t k => castTop (ef_rm11 m ao0) k) ?_
  obtain ⟨T1, h1, X1, e1, E1, A1, D1, -, st1⟩ := newO X0 hx hZ hown (own_w hw 59 rfl) (own_w hw 36 rfl) (own_w hw 37 rfl) e0 (g := (mkF m 0 #[.val (.ref ao0)] [])) rfl (hb hby d11_0) (by decide) (by decide)
  obtain ⟨b1, g1⟩ : ∃ z, z = h0.size := ⟨_, rfl⟩
  rw [← g1] at A1 D1 st1
  have g_b1 : n0 ≤ b1 := Nat.le_trans Zs (Nat.le_of_eq g1.symm)
  have sz_b1 : h0.size ≤ b1 := Nat.le_trans Kp.1 (Nat.le_of_eq g1.symm)
  replace Zs := Nat.le_trans Zs E1.1
  replace Kp := Kp.ext E1
  have E_b1 := A1
  have F_b1_token : Fld Z h1 b1 "com/example/lean_bus/leanbus/api/Caller" "token" "Ljava/lang/String;" .null := D1 (Or.inr (own_w hw 48 rfl)) (ty := (.object "java/lang/String")) (by decide)
  have F_b1_name : Fld Z h1 b1 "com/example/lean_bus/leanbus/api/Caller" "name" "Ljava/lang/String;" .null := D1 (Or.inr (own_w hw 50 rfl)) (ty := (.object "java/lang/String")) (by decide)
  refine own_go (x' := T1.setTop (mkF m 3 #[.val (.ref ao0)] [(.ref b1)])) st1 ?_
  refine own_go (x' := T1.setTop (mkF m 6 #[.val (.ref ao0)] [.null, (.ref ao0), (.ref b1), (.ref b1)])) (fun _ k => XS.dup X1.here hx rfl (hb hby d11_3) rfl rfl (XS.aloadN X1.here hx rfl (hb hby d11_4) rfl rfl (XS.aconstNull X1.here hx rfl (hb hby d11_5) k))) ?_
  obtain ⟨_, _, ⟨T2, L2, k2, n2⟩, -, X2, ⟨Lc2, hQ2, l2, y2, z2⟩, st2⟩ := X1.specialBack hx (y := (⟨"com/example/lean_bus/leanbus/api/Caller", "<init>", "(Ljava/lang/String;Ljava/lang/String;)V"⟩ : MethodName)) rfl hown (mvT hZ (own_w hw 60 rfl)) (mvT hZ (own_w hw 39 rfl)) (mvT hZ (own_w hw 40 rfl)) (by decide) (backOf (W := 1) (rm8RN l Z a0 hw [] b1 ao0 h1 n0 Zs E_b1 F_b1_token F_b1_name g_b1) hZ (own_w hw 40 rfl) (own_w hw 37 rfl) (by decide) (by decide)) (g := (mkF m 6 #[.val (.ref ao0)] [.null, (.ref ao0), (.ref b1), (.ref b1)])) rfl (by rw [hml]; rfl) (Steps.refl _) (a := b1) (argsL := [(.ref ao0), .null]) (rest := [(.ref b1)]) (lenOf pd_6 rfl) rfl (by show 2 * 0 + _ ≤ _; exact Nat.le_of_eq rfl) (hb hby d11_6) (fun _ _ => ⟨rfl, e1, (by decide : 1 + 0 ≤ _), (by decide : 2 + 0 ≤ _)⟩)
  dsimp only [Pt.U, Pt.locs, Pt.cells, Pt.slots] at X2 l2 y2 z2 st2 hQ2
  subst l2 y2 z2
  obtain ⟨hv2, Nq2, K2, Eo2, Fo2_0, Fo2_1⟩ := hQ2
  subst hv2
  replace Nf := Fr.app Nf Nq2
  replace Zs := Nat.le_trans Zs K2.1
  replace Kp := Kp.trans K2 (allS (Or.inr sz_b1) all0)
  replace E_b1 := Eo2
  replace F_b1_token := Fo2_0
  replace F_b1_name := Fo2_1
  refine own_go (x' := T2.setTop (mkF m 9 #[.val (.ref ao0)] [(.ref b1)])) (fun _ k => st2.trans k) ?_
  refine own_retR X2 hx hlk hret rfl rfl (hb hby d11_9) ?_ (by decide) (by decide)
  exact ⟨b1, rfl, Nf, Kp, sz_b1, g_b1, E_b1, F_b1_token, F_b1_name⟩
theorem d12_0 : decode prog_2_method_2_code 0 = .ok (.new 8, 3) := by decide +kernel
theorem d12_3 : decode prog_2_method_2_code 3 = .ok (.dup, 1) := by decide +kernel
theorem d12_4 : decode prog_2_method_2_code 4 = .ok (.aconst_null, 1) := by decide +kernel
theorem d12_5 : decode prog_2_method_2_code 5 = .ok (.aconst_null, 1) := by decide +kernel
theorem d12_6 : decode prog_2_method_2_code 6 = .ok (.invokespecial 16, 3) := by decide +kernel
theorem d12_9 : decode prog_2_method_2_code 9 = .ok (.areturn, 1) := by decide +kernel
def Q_rm12 (Z : State)  (h0 : Heap) (n0 : Nat) (v : Option Value) (h : Heap) (L : List Loc) : Prop := ∃ b : Addr, v = some (.ref b) ∧ Fr n0 L ∧ Keep h0 h [] ∧ h0.size ≤ b ∧ n0 ≤ b ∧ Exa Z h b "com/example/lean_bus/leanbus/api/Caller" ∧ Fld Z h b "com/example/lean_bus/leanbus/api/Caller" "token" "Ljava/lang/String;" .null ∧ Fld Z h b "com/example/lean_bus/leanbus/api/Caller" "name" "Ljava/lang/String;" .null
theorem pn_rm12 : plainName "com/example/lean_bus/leanbus/api/Caller" = true := by first | (simp [plainName, overriddenIn]; done) | decide +kernel
theorem ef_rm12 (m : MethodId)  : entryFrame m #[] 0 = mkF m 0 #[] [] := by first | (simp [entryFrame, mkF, argsToLocals, Value.category]; done) | rfl
set_option maxRecDepth 65536 in
set_option maxHeartbeats 40000000 in
theorem rm12 (l : Launch) (Z : State) (a0 : Array Value) (hw : ∀ d ∈ tables_1, d.before a0 Z = true) (ws : List Jvm.Cond)  (h0 : Heap) (n0 : Nat) (Z0 : n0 ≤ h0.size) :
    MetFree l (⟨"com/example/lean_bus/leanbus/api/Caller", "root", "()Lcom/example/lean_bus/leanbus/api/Caller;"⟩ : MethodName) (head1 (Jvm.Cond.code (⟨"com/example/lean_bus/leanbus/api/Caller", "root", "()Lcom/example/lean_bus/leanbus/api/Caller;"⟩ : MethodName) prog_2_method_2_code 0 (some (.object "com/example/lean_bus/leanbus/api/Caller")) :: ws) ({ frames := 3, cells := 1, slots := 2, locals := 39 } : Room)) (fun a U => a = #[] ∧ Z.Warmed39 U.vm ∧ U.heap = h0) (fun _ _ _ _ _ => True) (fun _ U o U' => ∃ v L, o = .returned v ∧ (Q_rm12 Z  h0 n0) v U'.heap L ∧ FrameEnd U o U' L ({ frames := 3, cells := 1, slots := 2, locals := 39 } : Room).cells ({ frames := 3, cells := 1, slots := 2, locals := 39 } : Room).slots) := by
  refine MetFree.of_bodySF (plainFor_of_name pn_rm12) hisR ?_
  intro p e s m args below meth c s₁ Bd hml0 hP hK
  obtain ⟨rfl, hZ, hh⟩ := hP
  have hx := Bd.exec
  have hby := Bd.bytes
  have hlk := BodyLoose.notSynchronized Bd
  have hret := Bd.returns
  have hml : c.maxLocals = 0 := hml0
  have hown : s.vm.findClass "com/example/lean_bus/leanbus/api/Caller" = some m.cls := findClass_of_methodNamed Bd.named
  have hnm := (name_of_methodNamed Bd.named Bd.method).1
  have X0 : Stand p l e ({ frames := 3, cells := 1, slots := 2, locals := 39 } : Room) s m #[] below meth c s₁ [] 0 0 := Stand.of_body Bd
  have e0 : s₁.heap = h0 := by rw [← hh, Bd.state]; rfl
  have Nf := Fr.nil n0
  have Zs := Z0
  have Kp : Keep h0 h0 [] := Keep.refl _ _
  show own_End p e below s (Q_rm12 Z  h0 n0) ({ frames := 3, cells := 1, slots := 2, locals := 39 } : Room).cells ({ frames := 3, cells := 1, slots := 2, locals := 39 } : Room).slots (s₁.setTop (entryFrame m #[] 0))
  refine own_go (x' := s₁.setTop (mkF m 0 #[] [])) (fun t k => castTop (ef_rm12 m ) k) ?_
  obtain ⟨T1, h1, X1, e1, E1, A1, D1, -, st1⟩ := newO X0 hx hZ hown (own_w hw 59 rfl) (own_w hw 36 rfl) (own_w hw 37 rfl) e0 (g := (mkF m 0 #[] [])) rfl (hb hby d12_0) (by decide) (by decide)
  obtain ⟨b1, g1⟩ : ∃ z, z = h0.size := ⟨_, rfl⟩
  rw [← g1] at A1 D1 st1
  have g_b1 : n0 ≤ b1 := Nat.le_trans Zs (Nat.le_of_eq g1.symm)
  have sz_b1 : h0.size ≤ b1 := Nat.le_trans Kp.1 (Nat.le_of_eq g1.symm)
  replace Zs := Nat.le_trans Zs E1.1
  replace Kp := Kp.ext E1
  have E_b1 := A1
  have F_b1_token : Fld Z h1 b1 "com/example/lean_bus/leanbus/api/Caller" "token" "Ljava/lang/String;" .null := D1 (Or.inr (own_w hw 48 rfl)) (ty := (.object "java/lang/String")) (by decide)
  have F_b1_name : Fld Z h1 b1 "com/example/lean_bus/leanbus/api/Caller" "name" "Ljava/lang/String;" .null := D1 (Or.inr (own_w hw 50 rfl)) (ty := (.object "java/lang/String")) (by decide)
  refine own_go (x' := T1.setTop (mkF m 3 #[] [(.ref b1)])) st1 ?_
  refine own_go (x' := T1.setTop (mkF m 6 #[] [.null, .null, (.ref b1), (.ref b1)])) (fun _ k => XS.dup X1.here hx rfl (hb hby d12_3) rfl rfl (XS.aconstNull X1.here hx rfl (hb hby d12_4) (XS.aconstNull X1.here hx rfl (hb hby d12_5) k))) ?_
  obtain ⟨_, _, ⟨T2, L2, k2, n2⟩, -, X2, ⟨Lc2, hQ2, l2, y2, z2⟩, st2⟩ := X1.specialBack hx (y := (⟨"com/example/lean_bus/leanbus/api/Caller", "<init>", "(Ljava/lang/String;Ljava/lang/String;)V"⟩ : MethodName)) rfl hown (mvT hZ (own_w hw 60 rfl)) (mvT hZ (own_w hw 39 rfl)) (mvT hZ (own_w hw 40 rfl)) (by decide) (backOf (W := 1) (rm8NN l Z a0 hw [] b1 h1 n0 Zs E_b1 F_b1_token F_b1_name g_b1) hZ (own_w hw 40 rfl) (own_w hw 37 rfl) (by decide) (by decide)) (g := (mkF m 6 #[] [.null, .null, (.ref b1), (.ref b1)])) rfl (by rw [hml]; rfl) (Steps.refl _) (a := b1) (argsL := [.null, .null]) (rest := [(.ref b1)]) (lenOf pd_6 rfl) rfl (by show 2 * 0 + _ ≤ _; exact Nat.le_of_eq rfl) (hb hby d12_6) (fun _ _ => ⟨rfl, e1, (by decide : 1 + 0 ≤ _), (by decide : 2 + 0 ≤ _)⟩)
  dsimp only [Pt.U, Pt.locs, Pt.cells, Pt.slots] at X2 l2 y2 z2 st2 hQ2
  subst l2 y2 z2
  obtain ⟨hv2, Nq2, K2, Eo2, Fo2_0, Fo2_1⟩ := hQ2
  subst hv2
  replace Nf := Fr.app Nf Nq2
  replace Zs := Nat.le_trans Zs K2.1
  replace Kp := Kp.trans K2 (allS (Or.inr sz_b1) all0)
  replace E_b1 := Eo2
  replace F_b1_token := Fo2_0
  replace F_b1_name := Fo2_1
  refine own_go (x' := T2.setTop (mkF m 9 #[] [(.ref b1)])) (fun _ k => st2.trans k) ?_
  refine own_retR X2 hx hlk hret rfl rfl (hb hby d12_9) ?_ (by decide) (by decide)
  exact ⟨b1, rfl, Nf, Kp, sz_b1, g_b1, E_b1, F_b1_token, F_b1_name⟩
theorem own_q4 (z : Int32) : (z &&& (3 : Int32)) = 0 ∨ (z &&& (3 : Int32)) = 1 ∨ (z &&& (3 : Int32)) = 2 ∨ (z &&& (3 : Int32)) = 3 := by
  have h := c_mask z 3 2 (by decide) (by decide)
  obtain ⟨u, hu⟩ : ∃ u, u = z &&& (3 : Int32) := ⟨_, rfl⟩
  rw [← hu] at h ⊢
  have c : u.toInt = 0 ∨ u.toInt = 1 ∨ u.toInt = 2 ∨ u.toInt = 3 := by omega
  rcases c with c | c | c | c
  · exact Or.inl (Int32.toInt_inj.mp c)
  · exact Or.inr (Or.inl (Int32.toInt_inj.mp c))
  · exact Or.inr (Or.inr (Or.inl (Int32.toInt_inj.mp c)))
  · exact Or.inr (Or.inr (Or.inr (Int32.toInt_inj.mp c)))
theorem pd_7 : parseMethodDescriptor "(I)Ljava/lang/String;" = some ⟨[.int], some (.object "java/lang/String")⟩ := by decide +kernel
theorem pd_8 : parseMethodDescriptor "()Z" = some ⟨[], some .boolean⟩ := by decide +kernel
theorem pd_9 : parseMethodDescriptor "(Ljava/lang/String;)Lcom/example/lean_bus/leanbus/api/Caller;" = some ⟨[(.object "java/lang/String")], some (.object "com/example/lean_bus/leanbus/api/Caller")⟩ := by decide +kernel
theorem pd_10 : parseMethodDescriptor "()Lcom/example/lean_bus/leanbus/api/Caller;" = some ⟨[], some (.object "com/example/lean_bus/leanbus/api/Caller")⟩ := by decide +kernel
def Q_rm0 (Z : State) (p0 : Int32) (p1 : Int32) (p2 : Int32) (G1 : Int32) (h0 : Heap) (n0 : Nat) (v : Option Value) (h : Heap) (L : List Loc) : Prop := v = some (.int 1) ∧ Fr n0 L
theorem pn_rm0 : plainName "com/example/lean_bus/leanbus/api/CallerIsUncheckedPinLaw" = true := by first | (simp [plainName, overriddenIn]; done) | decide +kernel
theorem ef_rm0 (m : MethodId) (x0 : Int32) (x1 : Int32) (x2 : Int32) : entryFrame m #[(.int x0), (.int x1), (.int x2)] maxLocals = mkF m 0 #[.val (.int x0), .val (.int x1), .val (.int x2), .unset, .unset, .unset, .unset, .unset, .unset, .unset] [] := by first | (simp [entryFrame, mkF, argsToLocals, Value.category, maxLocals]; done) | rfl
set_option maxRecDepth 65536 in
set_option maxHeartbeats 40000000 in
theorem rm0 (l : Launch) (Z : State) (a0 : Array Value) (hw : ∀ d ∈ tables_1, d.before a0 Z = true) (ws : List Jvm.Cond) (p0 : Int32) (p1 : Int32) (p2 : Int32) (G1 : Int32) (h0 : Heap) (n0 : Nat) (Z0 : n0 ≤ h0.size) (Od : Old Z n0 h0) (S_COMPACT_STRINGS : Sta Z Z.heap "java/lang/String" "COMPACT_STRINGS" "Z" (.int G1)) (hG : ¬ G1 = (0 : Int32)) :
    MetFree l x (head1 (Jvm.Cond.code x code maxLocals ret :: ws) room_1) (fun a U => a = #[(.int p0), (.int p1), (.int p2)] ∧ Z.Warmed39 U.vm ∧ U.heap = h0) (fun _ _ _ _ _ => True) (fun _ U o U' => ∃ v L, o = .returned v ∧ (Q_rm0 Z p0 p1 p2 G1 h0 n0) v U'.heap L ∧ ReturnedEndW U o U' L room_1.cells room_1.slots) := by
  refine MetFree.of_bodySF (plainFor_of_name pn_rm0) hisR ?_
  intro p e s m args below meth c s₁ Bd hml0 hP hK
  obtain ⟨rfl, hZ, hh⟩ := hP
  have hx := Bd.exec
  have hby := Bd.bytes
  have hlk := BodyLoose.notSynchronized Bd
  have hret := Bd.returns
  have hml : c.maxLocals = 10 := hml0
  have hown : s.vm.findClass "com/example/lean_bus/leanbus/api/CallerIsUncheckedPinLaw" = some m.cls := findClass_of_methodNamed Bd.named
  have hnm := (name_of_methodNamed Bd.named Bd.method).1
  have X0 : Stand p l e room_1 s m #[(.int p0), (.int p1), (.int p2)] below meth c s₁ [] 0 0 := Stand.of_body Bd
  have e0 : s₁.heap = h0 := by rw [← hh, Bd.state]; rfl
  have Nf := Fr.nil n0
  have Zs := Z0
  have Kp : Keep h0 h0 [] := Keep.refl _ _
  obtain ⟨vm0, k0, X0, hS, hk, hZ, hown⟩ : ∃ (vm0 : Vm) (k0 : Nat), Stand p l e room_1 (s.setVm vm0) m #[(.int p0), (.int p1), (.int p2)] below meth c s₁ [] 0 0 ∧ s.Since vm0 k0 ∧ k0 ≤ h0.size ∧ Z.Warmed39 (s.setVm vm0).vm ∧ (s.setVm vm0).vm.findClass "com/example/lean_bus/leanbus/api/CallerIsUncheckedPinLaw" = some m.cls := ⟨s.vm, s.heap.size, X0, (State.WarmedH.refl s).since _, Nat.le_of_eq (congrArg Array.size hh), hZ, hown⟩
  show own_EndW p e below s (Q_rm0 Z p0 p1 p2 G1 h0 n0) room_1.cells room_1.slots (s₁.setTop (entryFrame m #[(.int p0), (.int p1), (.int p2)] maxLocals))
  refine own_goW (x' := s₁.setTop (mkF m 0 #[.val (.int p0), .val (.int p1), .val (.int p2), .unset, .unset, .unset, .unset, .unset, .unset, .unset] [])) (fun t k => castTop (ef_rm0 m p0 p1 p2) k) ?_
  refine own_goW (x' := s₁.setTop (mkF m 3 #[.val (.int p0), .val (.int p1), .val (.int p2), .unset, .unset, .unset, .unset, .unset, .unset, .unset] [(.int (p0 &&& (3 : Int32)))])) (fun _ k => XS.iloadN X0.here hx rfl (hb hby at_0) rfl (XS.iconst X0.here hx rfl (hb hby at_1) (XS.iand X0.here hx rfl (hb hby at_2) rfl k))) ?_
  have hfl := own_q4 p0
  generalize (p0 &&& (3 : Int32)) = fl at hfl ⊢
  refine own_goW (x' := s₁.setTop (mkF m 5 #[.val (.int p0), .val (.int p1), .val (.int p2), .val (.int fl), .unset, .unset, .unset, .unset, .unset, .unset] [(.int p1)])) (fun _ k => XS.istoreN X0.here hx rfl (hb hby at_3) rfl (l' := #[.val (.int p0), .val (.int p1), .val (.int p2), .val (.int fl), .unset, .unset, .unset, .unset, .unset, .unset]) rfl (XS.iloadN X0.here hx rfl (hb hby at_4) rfl k)) ?_
  obtain ⟨_, _, ⟨T1, L1, k1, n1⟩, -, X1, Sw1, Gw1, ⟨Lc1, hQ1, l1, y1, z1⟩, st1⟩ := Jvm.RoadKit.callSS X0 hx (y := (⟨"com/example/lean_bus/leanbus/api/CallerIsUncheckedPinLaw", "str", "(I)Ljava/lang/String;"⟩ : MethodName)) hown (mvT hZ (own_w hw 0 rfl)) (mvT hZ (own_w hw 1 rfl)) (mvT hZ (own_w hw 2 rfl)) (mvT hZ (own_w hw 3 rfl)) (by decide) (backOfS (W := 0) (rm1 l Z a0 hw [] p1 G1 h0 n0 Zs Od S_COMPACT_STRINGS hG) hZ (own_w hw 3 rfl) (own_w hw 2 rfl) (by decide) (by decide)) (g := (mkF m 5 #[.val (.int p0), .val (.int p1), .val (.int p2), .val (.int fl), .unset, .unset, .unset, .unset, .unset, .unset] [(.int p1)])) rfl (by rw [hml]; rfl) (argsL := [(.int p1)]) (rest := []) (lenOf pd_7 rfl) rfl (by show 2 * 0 + _ ≤ _; exact Nat.le_of_eq rfl) (hb hby at_5) (fun _ _ => ⟨rfl, e0, (by decide : 0 + 3 ≤ _), (by decide : 0 + 8 ≤ _)⟩)
  dsimp only [Pt.U, Pt.locs, Pt.cells, Pt.slots] at X1 l1 y1 z1 st1 hQ1 Sw1 Gw1
  subst l1 y1 z1
  obtain ⟨X1, Sw1, hZ, hown⟩ := rebS hS (own_hk e0 hk) X1 Sw1 Gw1 hZ hown
  obtain ⟨tk1, hv1, Nq1, K1⟩ := hQ1
  subst hv1
  replace Nf := Fr.app Nf Nq1
  replace Od := Od.keep K1 all0
  replace Zs := Nat.le_trans Zs K1.1
  replace hk := Nat.le_trans hk K1.1
  replace hS := Sw1
  replace hk := Nat.le_refl (Array.size T1.heap)
  refine own_goW (x' := T1.setTop (mkF m 8 #[.val (.int p0), .val (.int p1), .val (.int p2), .val (.int fl), .unset, .unset, .unset, .unset, .unset, .unset] [(.ref tk1)])) (fun _ k => st1.trans k) ?_
  refine own_goW (x' := T1.setTop (mkF m 11 #[.val (.int p0), .val (.int p1), .val (.int p2), .val (.int fl), .val (.ref tk1), .unset, .unset, .unset, .unset, .unset] [(.int p2)])) (fun _ k => XS.astore X1.here hx rfl (hb hby at_8) rfl rfl (l' := #[.val (.int p0), .val (.int p1), .val (.int p2), .val (.int fl), .val (.ref tk1), .unset, .unset, .unset, .unset, .unset]) rfl (XS.iloadN X1.here hx rfl (hb hby at_10) rfl k)) ?_
  obtain ⟨_, _, ⟨T2, L2, k2, n2⟩, -, X2, Sw2, Gw2, ⟨Lc2, hQ2, l2, y2, z2⟩, st2⟩ := Jvm.RoadKit.callSS X1 hx (y := (⟨"com/example/lean_bus/leanbus/api/CallerIsUncheckedPinLaw", "str", "(I)Ljava/lang/String;"⟩ : MethodName)) hown (mvT hZ (own_w hw 0 rfl)) (mvT hZ (own_w hw 1 rfl)) (mvT hZ (own_w hw 2 rfl)) (mvT hZ (own_w hw 3 rfl)) (by decide) (backOfS (W := 0) (rm1 l Z a0 hw [] p2 G1 T1.heap n0 Zs Od S_COMPACT_STRINGS hG) hZ (own_w hw 3 rfl) (own_w hw 2 rfl) (by decide) (by decide)) (g := (mkF m 11 #[.val (.int p0), .val (.int p1), .val (.int p2), .val (.int fl), .val (.ref tk1), .unset, .unset, .unset, .unset, .unset] [(.int p2)])) rfl (by rw [hml]; rfl) (argsL := [(.int p2)]) (rest := []) (lenOf pd_7 rfl) rfl (by show 2 * 0 + _ ≤ _; exact Nat.le_of_eq rfl) (hb hby at_11) (fun _ _ => ⟨rfl, rfl, (by decide : 3 + 3 ≤ _), (by decide : 8 + 8 ≤ _)⟩)
  dsimp only [Pt.U, Pt.locs, Pt.cells, Pt.slots] at X2 l2 y2 z2 st2 hQ2 Sw2 Gw2
  subst l2 y2 z2
  obtain ⟨X2, Sw2, hZ, hown⟩ := rebS hS (own_hk rfl hk) X2 Sw2 Gw2 hZ hown
  obtain ⟨tk2, hv2, Nq2, K2⟩ := hQ2
  subst hv2
  replace Nf := Fr.app Nf Nq2
  replace Od := Od.keep K2 all0
  replace Zs := Nat.le_trans Zs K2.1
  replace hk := Nat.le_trans hk K2.1
  replace hS := Sw2
  replace hk := Nat.le_refl (Array.size T2.heap)
  refine own_goW (x' := T2.setTop (mkF m 14 #[.val (.int p0), .val (.int p1), .val (.int p2), .val (.int fl), .val (.ref tk1), .unset, .unset, .unset, .unset, .unset] [(.ref tk2)])) (fun _ k => st2.trans k) ?_
  refine own_goW (x' := T2.setTop (mkF m 16 #[.val (.int p0), .val (.int p1), .val (.int p2), .val (.int fl), .val (.ref tk1), .val (.ref tk2), .unset, .unset, .unset, .unset] [])) (fun _ k => XS.astore X2.here hx rfl (hb hby at_14) rfl rfl (l' := #[.val (.int p0), .val (.int p1), .val (.int p2), .val (.int fl), .val (.ref tk1), .val (.ref tk2), .unset, .unset, .unset, .unset]) rfl k) ?_
  rcases hfl with rfl | rfl | rfl | rfl
  · refine own_goW (x' := T2.setTop (mkF m 29 #[.val (.int p0), .val (.int p1), .val (.int p2), .val (.int 0), .val (.ref tk1), .val (.ref tk2), .val .null, .unset, .unset, .unset] [])) (fun _ k => XS.aconstNull X2.here hx rfl (hb hby at_16) (XS.astore X2.here hx rfl (hb hby at_17) rfl rfl (l' := #[.val (.int p0), .val (.int p1), .val (.int p2), .val (.int 0), .val (.ref tk1), .val (.ref tk2), .val .null, .unset, .unset, .unset]) rfl (XS.iloadN X2.here hx rfl (hb hby at_19) rfl (XS.iconst X2.here hx rfl (hb hby at_20) (XS.iand X2.here hx rfl (hb hby at_21) rfl (XS.ifYes X2.here hx rfl (pc0 := 22) (pc' := 29) rfl (hb hby at_22) rfl ((if0 _ _).trans (teq (by decide +kernel : (((0 : Int32) &&& (1 : Int32)) = (0 : Int32)))).1) (by decide) (by decide) k)))))) ?_
    refine own_goW (x' := T2.setTop (mkF m 42 #[.val (.int p0), .val (.int p1), .val (.int p2), .val (.int 0), .val (.ref tk1), .val (.ref tk2), .val .null, .val .null, .unset, .unset] [])) (fun _ k => XS.aconstNull X2.here hx rfl (hb hby at_29) (XS.astore X2.here hx rfl (hb hby at_30) rfl rfl (l' := #[.val (.int p0), .val (.int p1), .val (.int p2), .val (.int 0), .val (.ref tk1), .val (.ref tk2), .val .null, .val .null, .unset, .unset]) rfl (XS.iloadN X2.here hx rfl (hb hby at_32) rfl (XS.iconst X2.here hx rfl (hb hby at_33) (XS.iand X2.here hx rfl (hb hby at_34) rfl (XS.ifYes X2.here hx rfl (pc0 := 35) (pc' := 42) rfl (hb hby at_35) rfl ((if0 _ _).trans (teq (by decide +kernel : (((0 : Int32) &&& (2 : Int32)) = (0 : Int32)))).1) (by decide) (by decide) k)))))) ?_
    obtain ⟨T3, h3, X3, e3, E3, A3, D3, -, st3⟩ := newO X2 hx hZ hown (own_w hw 35 rfl) (own_w hw 36 rfl) (own_w hw 37 rfl) rfl (g := (mkF m 42 #[.val (.int p0), .val (.int p1), .val (.int p2), .val (.int 0), .val (.ref tk1), .val (.ref tk2), .val .null, .val .null, .unset, .unset] [])) rfl (hb hby at_42) (by decide) (by decide)
    obtain ⟨b3, g3⟩ : ∃ z, z = T2.heap.size := ⟨_, rfl⟩
    rw [← g3] at A3 D3 st3
    have g_b3 : n0 ≤ b3 := Nat.le_trans Zs (Nat.le_of_eq g3.symm)
    replace Od := Od.ext E3
    replace Zs := Nat.le_trans Zs E3.1
    replace hk := Nat.le_trans hk E3.1
    have E_b3 := A3
    have F_b3_token : Fld Z h3 b3 "com/example/lean_bus/leanbus/api/Caller" "token" "Ljava/lang/String;" .null := D3 (Or.inr (own_w hw 48 rfl)) (ty := (.object "java/lang/String")) (by decide)
    have F_b3_name : Fld Z h3 b3 "com/example/lean_bus/leanbus/api/Caller" "name" "Ljava/lang/String;" .null := D3 (Or.inr (own_w hw 50 rfl)) (ty := (.object "java/lang/String")) (by decide)
    refine own_goW (x' := T3.setTop (mkF m 45 #[.val (.int p0), .val (.int p1), .val (.int p2), .val (.int 0), .val (.ref tk1), .val (.ref tk2), .val .null, .val .null, .unset, .unset] [(.ref b3)])) st3 ?_
    refine own_goW (x' := T3.setTop (mkF m 50 #[.val (.int p0), .val (.int p1), .val (.int p2), .val (.int 0), .val (.ref tk1), .val (.ref tk2), .val .null, .val .null, .unset, .unset] [.null, .null, (.ref b3), (.ref b3)])) (fun _ k => XS.dup X3.here hx rfl (hb hby at_45) rfl rfl (XS.aload X3.here hx rfl (hb hby at_46) rfl rfl (XS.aload X3.here hx rfl (hb hby at_48) rfl rfl k))) ?_
    obtain ⟨_, _, ⟨T4, L4, k4, n4⟩, -, X4, ⟨Lc4, hQ4, l4, y4, z4⟩, st4⟩ := X3.specialBack hx (y := (⟨"com/example/lean_bus/leanbus/api/Caller", "<init>", "(Ljava/lang/String;Ljava/lang/String;)V"⟩ : MethodName)) rfl hown (mvT hZ (own_w hw 38 rfl)) (mvT hZ (own_w hw 39 rfl)) (mvT hZ (own_w hw 40 rfl)) (by decide) (backOf (W := 1) (rm8NN l Z a0 hw [] b3 h3 n0 Zs E_b3 F_b3_token F_b3_name g_b3) hZ (own_w hw 40 rfl) (own_w hw 37 rfl) (by decide) (by decide)) (g := (mkF m 50 #[.val (.int p0), .val (.int p1), .val (.int p2), .val (.int 0), .val (.ref tk1), .val (.ref tk2), .val .null, .val .null, .unset, .unset] [.null, .null, (.ref b3), (.ref b3)])) rfl (by rw [hml]; rfl) (Steps.refl _) (a := b3) (argsL := [.null, .null]) (rest := [(.ref b3)]) (lenOf pd_6 rfl) rfl (by show 2 * 0 + _ ≤ _; exact Nat.le_of_eq rfl) (hb hby at_50) (fun _ _ => ⟨rfl, e3, (by decide : 7 + 0 ≤ _), (by decide : 18 + 0 ≤ _)⟩)
    dsimp only [Pt.U, Pt.locs, Pt.cells, Pt.slots] at X4 l4 y4 z4 st4 hQ4
    subst l4 y4 z4
    obtain ⟨hv4, Nq4, K4, Eo4, Fo4_0, Fo4_1⟩ := hQ4
    subst hv4
    replace Nf := Fr.app Nf Nq4
    replace Od := Od.keep K4 (allS g_b3 all0)
    replace Zs := Nat.le_trans Zs K4.1
    replace hk := Nat.le_trans hk K4.1
    replace E_b3 := Eo4
    replace F_b3_token := Fo4_0
    replace F_b3_name := Fo4_1
    refine own_goW (x' := T4.setTop (mkF m 53 #[.val (.int p0), .val (.int p1), .val (.int p2), .val (.int 0), .val (.ref tk1), .val (.ref tk2), .val .null, .val .null, .unset, .unset] [(.ref b3)])) (fun _ k => st4.trans k) ?_
    refine own_goW (x' := T4.setTop (mkF m 69 #[.val (.int p0), .val (.int p1), .val (.int p2), .val (.int 0), .val (.ref tk1), .val (.ref tk2), .val .null, .val .null, .val (.ref b3), .val (.int 0)] [])) (fun _ k => XS.astore X4.here hx rfl (hb hby at_53) rfl rfl (l' := #[.val (.int p0), .val (.int p1), .val (.int p2), .val (.int 0), .val (.ref tk1), .val (.ref tk2), .val .null, .val .null, .val (.ref b3), .unset]) rfl (XS.iloadN X4.here hx rfl (hb hby at_55) rfl (XS.iconst X4.here hx rfl (hb hby at_56) (XS.icmpYes X4.here hx rfl (pc0 := 57) (pc' := 66) rfl (hb hby at_57) rfl (feq (by decide +kernel : ¬ ((0 : Int32) = (1 : Int32)))).2 (by decide) (by decide) (XS.iconst X4.here hx rfl (hb hby at_66) (XS.istore X4.here hx rfl (hb hby at_67) rfl (l' := #[.val (.int p0), .val (.int p1), .val (.int p2), .val (.int 0), .val (.ref tk1), .val (.ref tk2), .val .null, .val .null, .val (.ref b3), .val (.int 0)]) rfl k)))))) ?_
    refine own_goW (x' := T4.setTop (mkF m 71 #[.val (.int p0), .val (.int p1), .val (.int p2), .val (.int 0), .val (.ref tk1), .val (.ref tk2), .val .null, .val .null, .val (.ref b3), .val (.int 0)] [(.ref b3)])) (fun _ k => XS.aload X4.here hx rfl (hb hby at_69) rfl rfl k) ?_
    obtain ⟨cq5, kq5, q5a, q5b, q5c⟩ := isOf hZ rfl E_b3
    obtain ⟨_, _, ⟨T5, L5, k5, n5⟩, -, X5, ⟨Lc5, hQ5, l5, y5, z5⟩, st5⟩ := X4.virtualBack hx (y := (⟨"com/example/lean_bus/leanbus/api/Caller", "isUnchecked", "()Z"⟩ : MethodName)) (z := (⟨"com/example/lean_bus/leanbus/api/Caller", "isUnchecked", "()Z"⟩ : MethodName)) hown (mvT hZ (own_w hw 51 rfl)) (mvT hZ (own_w hw 52 rfl)) (notFace_of_selects (args := #[]) (mvT hZ (own_w hw 54 rfl))) (mvT hZ (own_w hw 54 rfl)) (mvT hZ (own_w hw 53 rfl)) (by decide) (backOf (W := 0) (rm10NN l Z a0 hw [] b3  T4.heap n0 Zs F_b3_token F_b3_name) hZ (own_w hw 55 rfl) (own_w hw 37 rfl) (by decide) (by decide)) q5a q5c (g := (mkF m 71 #[.val (.int p0), .val (.int p1), .val (.int p2), .val (.int 0), .val (.ref tk1), .val (.ref tk2), .val .null, .val .null, .val (.ref b3), .val (.int 0)] [(.ref b3)])) rfl (by rw [hml]; rfl) (Steps.refl _) (argsL := []) (rest := []) (lenOf pd_8 rfl) rfl (by show 2 * 0 + _ ≤ _; exact Nat.le_of_eq rfl) (hb hby at_71) (fun _ _ => ⟨rfl, rfl, (by decide : 7 + 0 ≤ _), (by decide : 18 + 0 ≤ _)⟩)
    dsimp only [Pt.U, Pt.locs, Pt.cells, Pt.slots] at X5 l5 y5 z5 st5 hQ5
    subst l5 y5 z5
    obtain ⟨hv5, Nq5, eq5⟩ := hQ5
    subst hv5
    replace Nf := Fr.app Nf Nq5
    refine own_goW (x' := T5.setTop (mkF m 74 #[.val (.int p0), .val (.int p1), .val (.int p2), .val (.int 0), .val (.ref tk1), .val (.ref tk2), .val .null, .val .null, .val (.ref b3), .val (.int 0)] [(.int 0)])) (fun _ k => st5.trans k) ?_
    refine own_goW (x' := T5.setTop (mkF m 83 #[.val (.int p0), .val (.int p1), .val (.int p2), .val (.int 0), .val (.ref tk1), .val (.ref tk2), .val .null, .val .null, .val (.ref b3), .val (.int 0)] [(.ref tk1)])) (fun _ k => XS.iload X5.here hx rfl (hb hby at_74) rfl (XS.icmpYes X5.here hx rfl (pc0 := 76) (pc' := 81) rfl (hb hby at_76) rfl (teq rfl).1 (by decide) (by decide) (XS.aload X5.here hx rfl (hb hby at_81) rfl rfl k))) ?_
    obtain ⟨_, _, ⟨T6, L6, k6, n6⟩, -, X6, ⟨Lc6, hQ6, l6, y6, z6⟩, st6⟩ := Jvm.LawKit.callS X5 hx (y := (⟨"com/example/lean_bus/leanbus/api/Caller", "unchecked", "(Ljava/lang/String;)Lcom/example/lean_bus/leanbus/api/Caller;"⟩ : MethodName)) hown (mvT hZ (own_w hw 56 rfl)) (mvT hZ (own_w hw 57 rfl)) (mvT hZ (own_w hw 37 rfl)) (mvT hZ (own_w hw 58 rfl)) (by decide) (backOf (W := 0) (rm11 l Z a0 hw [] tk1 T4.heap n0 Zs ) hZ (own_w hw 58 rfl) (own_w hw 37 rfl) (by decide) (by decide)) (g := (mkF m 83 #[.val (.int p0), .val (.int p1), .val (.int p2), .val (.int 0), .val (.ref tk1), .val (.ref tk2), .val .null, .val .null, .val (.ref b3), .val (.int 0)] [(.ref tk1)])) rfl (by rw [hml]; rfl) (argsL := [(.ref tk1)]) (rest := []) (lenOf pd_9 rfl) rfl (by show 2 * 0 + _ ≤ _; exact Nat.le_of_eq rfl) (hb hby at_83) (fun _ _ => ⟨rfl, eq5, (by decide : 7 + 1 ≤ _), (by decide : 18 + 2 ≤ _)⟩)
    dsimp only [Pt.U, Pt.locs, Pt.cells, Pt.slots] at X6 l6 y6 z6 st6 hQ6
    subst l6 y6 z6
    obtain ⟨b6, hv6, Nq6, K6, sq6, g_b6, E_b6, F_b6_token, F_b6_name⟩ := hQ6
    subst hv6
    replace Nf := Fr.app Nf Nq6
    have ne_b3_b6 : b3 ≠ b6 := Nat.ne_of_lt (Nat.lt_of_lt_of_le E_b3.lt sq6)
    replace Od := Od.keep K6 all0
    replace E_b3 := E_b3.keep K6
    replace F_b3_token := F_b3_token.keep K6 nin0
    replace F_b3_name := F_b3_name.keep K6 nin0
    replace Zs := Nat.le_trans Zs K6.1
    replace hk := Nat.le_trans hk K6.1
    refine own_goW (x' := T6.setTop (mkF m 86 #[.val (.int p0), .val (.int p1), .val (.int p2), .val (.int 0), .val (.ref tk1), .val (.ref tk2), .val .null, .val .null, .val (.ref b3), .val (.int 0)] [(.ref b6)])) st6 ?_
    obtain ⟨cq7, kq7, q7a, q7b, q7c⟩ := isOf hZ rfl E_b6
    obtain ⟨_, _, ⟨T7, L7, k7, n7⟩, -, X7, ⟨Lc7, hQ7, l7, y7, z7⟩, st7⟩ := X6.virtualBack hx (y := (⟨"com/example/lean_bus/leanbus/api/Caller", "isUnchecked", "()Z"⟩ : MethodName)) (z := (⟨"com/example/lean_bus/leanbus/api/Caller", "isUnchecked", "()Z"⟩ : MethodName)) hown (mvT hZ (own_w hw 51 rfl)) (mvT hZ (own_w hw 52 rfl)) (notFace_of_selects (args := #[]) (mvT hZ (own_w hw 54 rfl))) (mvT hZ (own_w hw 54 rfl)) (mvT hZ (own_w hw 53 rfl)) (by decide) (backOf (W := 0) (rm10RN l Z a0 hw [] b6 tk1 T6.heap n0 Zs F_b6_token F_b6_name) hZ (own_w hw 55 rfl) (own_w hw 37 rfl) (by decide) (by decide)) q7a q7c (g := (mkF m 86 #[.val (.int p0), .val (.int p1), .val (.int p2), .val (.int 0), .val (.ref tk1), .val (.ref tk2), .val .null, .val .null, .val (.ref b3), .val (.int 0)] [(.ref b6)])) rfl (by rw [hml]; rfl) (Steps.refl _) (argsL := []) (rest := []) (lenOf pd_8 rfl) rfl (by show 2 * 0 + _ ≤ _; exact Nat.le_of_eq rfl) (hb hby at_86) (fun _ _ => ⟨rfl, rfl, (by decide : 8 + 0 ≤ _), (by decide : 20 + 0 ≤ _)⟩)
    dsimp only [Pt.U, Pt.locs, Pt.cells, Pt.slots] at X7 l7 y7 z7 st7 hQ7
    subst l7 y7 z7
    obtain ⟨hv7, Nq7, eq7⟩ := hQ7
    subst hv7
    replace Nf := Fr.app Nf Nq7
    refine own_goW (x' := T7.setTop (mkF m 89 #[.val (.int p0), .val (.int p1), .val (.int p2), .val (.int 0), .val (.ref tk1), .val (.ref tk2), .val .null, .val .null, .val (.ref b3), .val (.int 0)] [(.int 1)])) (fun _ k => st7.trans k) ?_
    refine own_goW (x' := T7.setTop (mkF m 94 #[.val (.int p0), .val (.int p1), .val (.int p2), .val (.int 0), .val (.ref tk1), .val (.ref tk2), .val .null, .val .null, .val (.ref b3), .val (.int 0)] [])) (fun _ k => XS.ifYes X7.here hx rfl (pc0 := 89) (pc' := 94) rfl (hb hby at_89) rfl ((if0 _ _).trans (feq (by decide +kernel : ¬ ((1 : Int32) = (0 : Int32)))).2) (by decide) (by decide) k) ?_
    obtain ⟨_, _, ⟨T8, L8, k8, n8⟩, -, X8, ⟨Lc8, hQ8, l8, y8, z8⟩, st8⟩ := Jvm.LawKit.callS X7 hx (y := (⟨"com/example/lean_bus/leanbus/api/Caller", "root", "()Lcom/example/lean_bus/leanbus/api/Caller;"⟩ : MethodName)) hown (mvT hZ (own_w hw 61 rfl)) (mvT hZ (own_w hw 62 rfl)) (mvT hZ (own_w hw 37 rfl)) (mvT hZ (own_w hw 63 rfl)) (by decide) (backOf (W := 0) (rm12 l Z a0 hw []  T6.heap n0 Zs ) hZ (own_w hw 63 rfl) (own_w hw 37 rfl) (by decide) (by decide)) (g := (mkF m 94 #[.val (.int p0), .val (.int p1), .val (.int p2), .val (.int 0), .val (.ref tk1), .val (.ref tk2), .val .null, .val .null, .val (.ref b3), .val (.int 0)] [])) rfl (by rw [hml]; rfl) (argsL := []) (rest := []) (lenOf pd_10 rfl) rfl (by show 2 * 0 + _ ≤ _; exact Nat.le_of_eq rfl) (hb hby at_94) (fun _ _ => ⟨rfl, eq7, (by decide : 8 + 1 ≤ _), (by decide : 20 + 2 ≤ _)⟩)
    dsimp only [Pt.U, Pt.locs, Pt.cells, Pt.slots] at X8 l8 y8 z8 st8 hQ8
    subst l8 y8 z8
    obtain ⟨b8, hv8, Nq8, K8, sq8, g_b8, E_b8, F_b8_token, F_b8_name⟩ := hQ8
    subst hv8
    replace Nf := Fr.app Nf Nq8
    have ne_b3_b8 : b3 ≠ b8 := Nat.ne_of_lt (Nat.lt_of_lt_of_le E_b3.lt sq8)
    have ne_b6_b8 : b6 ≠ b8 := Nat.ne_of_lt (Nat.lt_of_lt_of_le E_b6.lt sq8)
    replace Od := Od.keep K8 all0
    replace E_b3 := E_b3.keep K8
    replace F_b3_token := F_b3_token.keep K8 nin0
    replace F_b3_name := F_b3_name.keep K8 nin0
    replace E_b6 := E_b6.keep K8
    replace F_b6_token := F_b6_token.keep K8 nin0
    replace F_b6_name := F_b6_name.keep K8 nin0
    replace Zs := Nat.le_trans Zs K8.1
    replace hk := Nat.le_trans hk K8.1
    refine own_goW (x' := T8.setTop (mkF m 97 #[.val (.int p0), .val (.int p1), .val (.int p2), .val (.int 0), .val (.ref tk1), .val (.ref tk2), .val .null, .val .null, .val (.ref b3), .val (.int 0)] [(.ref b8)])) st8 ?_
    obtain ⟨cq9, kq9, q9a, q9b, q9c⟩ := isOf hZ rfl E_b8
    obtain ⟨_, _, ⟨T9, L9, k9, n9⟩, -, X9, ⟨Lc9, hQ9, l9, y9, z9⟩, st9⟩ := X8.virtualBack hx (y := (⟨"com/example/lean_bus/leanbus/api/Caller", "isUnchecked", "()Z"⟩ : MethodName)) (z := (⟨"com/example/lean_bus/leanbus/api/Caller", "isUnchecked", "()Z"⟩ : MethodName)) hown (mvT hZ (own_w hw 51 rfl)) (mvT hZ (own_w hw 52 rfl)) (notFace_of_selects (args := #[]) (mvT hZ (own_w hw 54 rfl))) (mvT hZ (own_w hw 54 rfl)) (mvT hZ (own_w hw 53 rfl)) (by decide) (backOf (W := 0) (rm10NN l Z a0 hw [] b8  T8.heap n0 Zs F_b8_token F_b8_name) hZ (own_w hw 55 rfl) (own_w hw 37 rfl) (by decide) (by decide)) q9a q9c (g := (mkF m 97 #[.val (.int p0), .val (.int p1), .val (.int p2), .val (.int 0), .val (.ref tk1), .val (.ref tk2), .val .null, .val .null, .val (.ref b3), .val (.int 0)] [(.ref b8)])) rfl (by rw [hml]; rfl) (Steps.refl _) (argsL := []) (rest := []) (lenOf pd_8 rfl) rfl (by show 2 * 0 + _ ≤ _; exact Nat.le_of_eq rfl) (hb hby at_97) (fun _ _ => ⟨rfl, rfl, (by decide : 9 + 0 ≤ _), (by decide : 22 + 0 ≤ _)⟩)
    dsimp only [Pt.U, Pt.locs, Pt.cells, Pt.slots] at X9 l9 y9 z9 st9 hQ9
    subst l9 y9 z9
    obtain ⟨hv9, Nq9, eq9⟩ := hQ9
    subst hv9
    replace Nf := Fr.app Nf Nq9
    refine own_goW (x' := T9.setTop (mkF m 100 #[.val (.int p0), .val (.int p1), .val (.int p2), .val (.int 0), .val (.ref tk1), .val (.ref tk2), .val .null, .val .null, .val (.ref b3), .val (.int 0)] [(.int 0)])) (fun _ k => st9.trans k) ?_
    refine own_goW (x' := T9.setTop (mkF m 106 #[.val (.int p0), .val (.int p1), .val (.int p2), .val (.int 0), .val (.ref tk1), .val (.ref tk2), .val .null, .val .null, .val (.ref b3), .val (.int 0)] [(.int 1)])) (fun _ k => XS.ifYes X9.here hx rfl (pc0 := 100) (pc' := 105) rfl (hb hby at_100) rfl ((if0 _ _).trans (teq rfl).1) (by decide) (by decide) (XS.iconst X9.here hx rfl (hb hby at_105) k)) ?_
    refine own_retNW X9 hS (own_hk eq9 hk) hx hlk (t := .boolean) hret (by simp) (hb hby at_106) (w := (1 : Int32)) rfl ?_ (by decide) (by decide)
    rw [eq9]
    exact ⟨rfl, Nf⟩
  · refine own_goW (x' := T2.setTop (mkF m 25 #[.val (.int p0), .val (.int p1), .val (.int p2), .val (.int 1), .val (.ref tk1), .val (.ref tk2), .val .null, .unset, .unset, .unset] [])) (fun _ k => XS.aconstNull X2.here hx rfl (hb hby at_16) (XS.astore X2.here hx rfl (hb hby at_17) rfl rfl (l' := #[.val (.int p0), .val (.int p1), .val (.int p2), .val (.int 1), .val (.ref tk1), .val (.ref tk2), .val .null, .unset, .unset, .unset]) rfl (XS.iloadN X2.here hx rfl (hb hby at_19) rfl (XS.iconst X2.here hx rfl (hb hby at_20) (XS.iand X2.here hx rfl (hb hby at_21) rfl (XS.ifNo X2.here hx rfl (hb hby at_22) rfl ((if0 _ _).trans (feq (by decide +kernel : ¬ (((1 : Int32) &&& (1 : Int32)) = (0 : Int32)))).1) k)))))) ?_
    refine own_goW (x' := T2.setTop (mkF m 34 #[.val (.int p0), .val (.int p1), .val (.int p2), .val (.int 1), .val (.ref tk1), .val (.ref tk2), .val (.ref tk1), .val .null, .unset, .unset] [(.int 2), (.int 1)])) (fun _ k => XS.aload X2.here hx rfl (hb hby at_25) rfl rfl (XS.astore X2.here hx rfl (hb hby at_27) rfl rfl (l' := #[.val (.int p0), .val (.int p1), .val (.int p2), .val (.int 1), .val (.ref tk1), .val (.ref tk2), .val (.ref tk1), .unset, .unset, .unset]) rfl (XS.aconstNull X2.here hx rfl (hb hby at_29) (XS.astore X2.here hx rfl (hb hby at_30) rfl rfl (l' := #[.val (.int p0), .val (.int p1), .val (.int p2), .val (.int 1), .val (.ref tk1), .val (.ref tk2), .val (.ref tk1), .val .null, .unset, .unset]) rfl (XS.iloadN X2.here hx rfl (hb hby at_32) rfl (XS.iconst X2.here hx rfl (hb hby at_33) k)))))) ?_
    refine own_goW (x' := T2.setTop (mkF m 42 #[.val (.int p0), .val (.int p1), .val (.int p2), .val (.int 1), .val (.ref tk1), .val (.ref tk2), .val (.ref tk1), .val .null, .unset, .unset] [])) (fun _ k => XS.iand X2.here hx rfl (hb hby at_34) rfl (XS.ifYes X2.here hx rfl (pc0 := 35) (pc' := 42) rfl (hb hby at_35) rfl ((if0 _ _).trans (teq (by decide +kernel : (((1 : Int32) &&& (2 : Int32)) = (0 : Int32)))).1) (by decide) (by decide) k)) ?_
    obtain ⟨T10, h10, X10, e10, E10, A10, D10, -, st10⟩ := newO X2 hx hZ hown (own_w hw 35 rfl) (own_w hw 36 rfl) (own_w hw 37 rfl) rfl (g := (mkF m 42 #[.val (.int p0), .val (.int p1), .val (.int p2), .val (.int 1), .val (.ref tk1), .val (.ref tk2), .val (.ref tk1), .val .null, .unset, .unset] [])) rfl (hb hby at_42) (by decide) (by decide)
    obtain ⟨b10, g10⟩ : ∃ z, z = T2.heap.size := ⟨_, rfl⟩
    rw [← g10] at A10 D10 st10
    have g_b10 : n0 ≤ b10 := Nat.le_trans Zs (Nat.le_of_eq g10.symm)
    replace Od := Od.ext E10
    replace Zs := Nat.le_trans Zs E10.1
    replace hk := Nat.le_trans hk E10.1
    have E_b10 := A10
    have F_b10_token : Fld Z h10 b10 "com/example/lean_bus/leanbus/api/Caller" "token" "Ljava/lang/String;" .null := D10 (Or.inr (own_w hw 48 rfl)) (ty := (.object "java/lang/String")) (by decide)
    have F_b10_name : Fld Z h10 b10 "com/example/lean_bus/leanbus/api/Caller" "name" "Ljava/lang/String;" .null := D10 (Or.inr (own_w hw 50 rfl)) (ty := (.object "java/lang/String")) (by decide)
    refine own_goW (x' := T10.setTop (mkF m 45 #[.val (.int p0), .val (.int p1), .val (.int p2), .val (.int 1), .val (.ref tk1), .val (.ref tk2), .val (.ref tk1), .val .null, .unset, .unset] [(.ref b10)])) st10 ?_
    refine own_goW (x' := T10.setTop (mkF m 50 #[.val (.int p0), .val (.int p1), .val (.int p2), .val (.int 1), .val (.ref tk1), .val (.ref tk2), .val (.ref tk1), .val .null, .unset, .unset] [.null, (.ref tk1), (.ref b10), (.ref b10)])) (fun _ k => XS.dup X10.here hx rfl (hb hby at_45) rfl rfl (XS.aload X10.here hx rfl (hb hby at_46) rfl rfl (XS.aload X10.here hx rfl (hb hby at_48) rfl rfl k))) ?_
    obtain ⟨_, _, ⟨T11, L11, k11, n11⟩, -, X11, ⟨Lc11, hQ11, l11, y11, z11⟩, st11⟩ := X10.specialBack hx (y := (⟨"com/example/lean_bus/leanbus/api/Caller", "<init>", "(Ljava/lang/String;Ljava/lang/String;)V"⟩ : MethodName)) rfl hown (mvT hZ (own_w hw 38 rfl)) (mvT hZ (own_w hw 39 rfl)) (mvT hZ (own_w hw 40 rfl)) (by decide) (backOf (W := 1) (rm8RN l Z a0 hw [] b10 tk1 h10 n0 Zs E_b10 F_b10_token F_b10_name g_b10) hZ (own_w hw 40 rfl) (own_w hw 37 rfl) (by decide) (by decide)) (g := (mkF m 50 #[.val (.int p0), .val (.int p1), .val (.int p2), .val (.int 1), .val (.ref tk1), .val (.ref tk2), .val (.ref tk1), .val .null, .unset, .unset] [.null, (.ref tk1), (.ref b10), (.ref b10)])) rfl (by rw [hml]; rfl) (Steps.refl _) (a := b10) (argsL := [(.ref tk1), .null]) (rest := [(.ref b10)]) (lenOf pd_6 rfl) rfl (by show 2 * 0 + _ ≤ _; exact Nat.le_of_eq rfl) (hb hby at_50) (fun _ _ => ⟨rfl, e10, (by decide : 7 + 0 ≤ _), (by decide : 18 + 0 ≤ _)⟩)
    dsimp only [Pt.U, Pt.locs, Pt.cells, Pt.slots] at X11 l11 y11 z11 st11 hQ11
    subst l11 y11 z11
    obtain ⟨hv11, Nq11, K11, Eo11, Fo11_0, Fo11_1⟩ := hQ11
    subst hv11
    replace Nf := Fr.app Nf Nq11
    replace Od := Od.keep K11 (allS g_b10 all0)
    replace Zs := Nat.le_trans Zs K11.1
    replace hk := Nat.le_trans hk K11.1
    replace E_b10 := Eo11
    replace F_b10_token := Fo11_0
    replace F_b10_name := Fo11_1
    refine own_goW (x' := T11.setTop (mkF m 53 #[.val (.int p0), .val (.int p1), .val (.int p2), .val (.int 1), .val (.ref tk1), .val (.ref tk2), .val (.ref tk1), .val .null, .unset, .unset] [(.ref b10)])) (fun _ k => st11.trans k) ?_
    refine own_goW (x' := T11.setTop (mkF m 63 #[.val (.int p0), .val (.int p1), .val (.int p2), .val (.int 1), .val (.ref tk1), .val (.ref tk2), .val (.ref tk1), .val .null, .val (.ref b10), .val (.int 1)] [])) (fun _ k => XS.astore X11.here hx rfl (hb hby at_53) rfl rfl (l' := #[.val (.int p0), .val (.int p1), .val (.int p2), .val (.int 1), .val (.ref tk1), .val (.ref tk2), .val (.ref tk1), .val .null, .val (.ref b10), .unset]) rfl (XS.iloadN X11.here hx rfl (hb hby at_55) rfl (XS.iconst X11.here hx rfl (hb hby at_56) (XS.icmpNo X11.here hx rfl (hb hby at_57) rfl (teq rfl).2 (XS.iconst X11.here hx rfl (hb hby at_60) (XS.istore X11.here hx rfl (hb hby at_61) rfl (l' := #[.val (.int p0), .val (.int p1), .val (.int p2), .val (.int 1), .val (.ref tk1), .val (.ref tk2), .val (.ref tk1), .val .null, .val (.ref b10), .val (.int 1)]) rfl k)))))) ?_
    refine own_goW (x' := T11.setTop (mkF m 71 #[.val (.int p0), .val (.int p1), .val (.int p2), .val (.int 1), .val (.ref tk1), .val (.ref tk2), .val (.ref tk1), .val .null, .val (.ref b10), .val (.int 1)] [(.ref b10)])) (fun _ k => XS.goto X11.here hx rfl (pc0 := 63) (pc' := 69) rfl (hb hby at_63) (by decide) (by decide) (XS.aload X11.here hx rfl (hb hby at_69) rfl rfl k)) ?_
    obtain ⟨cq12, kq12, q12a, q12b, q12c⟩ := isOf hZ rfl E_b10
    obtain ⟨_, _, ⟨T12, L12, k12, n12⟩, -, X12, ⟨Lc12, hQ12, l12, y12, z12⟩, st12⟩ := X11.virtualBack hx (y := (⟨"com/example/lean_bus/leanbus/api/Caller", "isUnchecked", "()Z"⟩ : MethodName)) (z := (⟨"com/example/lean_bus/leanbus/api/Caller", "isUnchecked", "()Z"⟩ : MethodName)) hown (mvT hZ (own_w hw 51 rfl)) (mvT hZ (own_w hw 52 rfl)) (notFace_of_selects (args := #[]) (mvT hZ (own_w hw 54 rfl))) (mvT hZ (own_w hw 54 rfl)) (mvT hZ (own_w hw 53 rfl)) (by decide) (backOf (W := 0) (rm10RN l Z a0 hw [] b10 tk1 T11.heap n0 Zs F_b10_token F_b10_name) hZ (own_w hw 55 rfl) (own_w hw 37 rfl) (by decide) (by decide)) q12a q12c (g := (mkF m 71 #[.val (.int p0), .val (.int p1), .val (.int p2), .val (.int 1), .val (.ref tk1), .val (.ref tk2), .val (.ref tk1), .val .null, .val (.ref b10), .val (.int 1)] [(.ref b10)])) rfl (by rw [hml]; rfl) (Steps.refl _) (argsL := []) (rest := []) (lenOf pd_8 rfl) rfl (by show 2 * 0 + _ ≤ _; exact Nat.le_of_eq rfl) (hb hby at_71) (fun _ _ => ⟨rfl, rfl, (by decide : 7 + 0 ≤ _), (by decide : 18 + 0 ≤ _)⟩)
    dsimp only [Pt.U, Pt.locs, Pt.cells, Pt.slots] at X12 l12 y12 z12 st12 hQ12
    subst l12 y12 z12
    obtain ⟨hv12, Nq12, eq12⟩ := hQ12
    subst hv12
    replace Nf := Fr.app Nf Nq12
    refine own_goW (x' := T12.setTop (mkF m 74 #[.val (.int p0), .val (.int p1), .val (.int p2), .val (.int 1), .val (.ref tk1), .val (.ref tk2), .val (.ref tk1), .val .null, .val (.ref b10), .val (.int 1)] [(.int 1)])) (fun _ k => st12.trans k) ?_
    refine own_goW (x' := T12.setTop (mkF m 83 #[.val (.int p0), .val (.int p1), .val (.int p2), .val (.int 1), .val (.ref tk1), .val (.ref tk2), .val (.ref tk1), .val .null, .val (.ref b10), .val (.int 1)] [(.ref tk1)])) (fun _ k => XS.iload X12.here hx rfl (hb hby at_74) rfl (XS.icmpYes X12.here hx rfl (pc0 := 76) (pc' := 81) rfl (hb hby at_76) rfl (teq rfl).1 (by decide) (by decide) (XS.aload X12.here hx rfl (hb hby at_81) rfl rfl k))) ?_
    obtain ⟨_, _, ⟨T13, L13, k13, n13⟩, -, X13, ⟨Lc13, hQ13, l13, y13, z13⟩, st13⟩ := Jvm.LawKit.callS X12 hx (y := (⟨"com/example/lean_bus/leanbus/api/Caller", "unchecked", "(Ljava/lang/String;)Lcom/example/lean_bus/leanbus/api/Caller;"⟩ : MethodName)) hown (mvT hZ (own_w hw 56 rfl)) (mvT hZ (own_w hw 57 rfl)) (mvT hZ (own_w hw 37 rfl)) (mvT hZ (own_w hw 58 rfl)) (by decide) (backOf (W := 0) (rm11 l Z a0 hw [] tk1 T11.heap n0 Zs ) hZ (own_w hw 58 rfl) (own_w hw 37 rfl) (by decide) (by decide)) (g := (mkF m 83 #[.val (.int p0), .val (.int p1), .val (.int p2), .val (.int 1), .val (.ref tk1), .val (.ref tk2), .val (.ref tk1), .val .null, .val (.ref b10), .val (.int 1)] [(.ref tk1)])) rfl (by rw [hml]; rfl) (argsL := [(.ref tk1)]) (rest := []) (lenOf pd_9 rfl) rfl (by show 2 * 0 + _ ≤ _; exact Nat.le_of_eq rfl) (hb hby at_83) (fun _ _ => ⟨rfl, eq12, (by decide : 7 + 1 ≤ _), (by decide : 18 + 2 ≤ _)⟩)
    dsimp only [Pt.U, Pt.locs, Pt.cells, Pt.slots] at X13 l13 y13 z13 st13 hQ13
    subst l13 y13 z13
    obtain ⟨b13, hv13, Nq13, K13, sq13, g_b13, E_b13, F_b13_token, F_b13_name⟩ := hQ13
    subst hv13
    replace Nf := Fr.app Nf Nq13
    have ne_b10_b13 : b10 ≠ b13 := Nat.ne_of_lt (Nat.lt_of_lt_of_le E_b10.lt sq13)
    replace Od := Od.keep K13 all0
    replace E_b10 := E_b10.keep K13
    replace F_b10_token := F_b10_token.keep K13 nin0
    replace F_b10_name := F_b10_name.keep K13 nin0
    replace Zs := Nat.le_trans Zs K13.1
    replace hk := Nat.le_trans hk K13.1
    refine own_goW (x' := T13.setTop (mkF m 86 #[.val (.int p0), .val (.int p1), .val (.int p2), .val (.int 1), .val (.ref tk1), .val (.ref tk2), .val (.ref tk1), .val .null, .val (.ref b10), .val (.int 1)] [(.ref b13)])) st13 ?_
    obtain ⟨cq14, kq14, q14a, q14b, q14c⟩ := isOf hZ rfl E_b13
    obtain ⟨_, _, ⟨T14, L14, k14, n14⟩, -, X14, ⟨Lc14, hQ14, l14, y14, z14⟩, st14⟩ := X13.virtualBack hx (y := (⟨"com/example/lean_bus/leanbus/api/Caller", "isUnchecked", "()Z"⟩ : MethodName)) (z := (⟨"com/example/lean_bus/leanbus/api/Caller", "isUnchecked", "()Z"⟩ : MethodName)) hown (mvT hZ (own_w hw 51 rfl)) (mvT hZ (own_w hw 52 rfl)) (notFace_of_selects (args := #[]) (mvT hZ (own_w hw 54 rfl))) (mvT hZ (own_w hw 54 rfl)) (mvT hZ (own_w hw 53 rfl)) (by decide) (backOf (W := 0) (rm10RN l Z a0 hw [] b13 tk1 T13.heap n0 Zs F_b13_token F_b13_name) hZ (own_w hw 55 rfl) (own_w hw 37 rfl) (by decide) (by decide)) q14a q14c (g := (mkF m 86 #[.val (.int p0), .val (.int p1), .val (.int p2), .val (.int 1), .val (.ref tk1), .val (.ref tk2), .val (.ref tk1), .val .null, .val (.ref b10), .val (.int 1)] [(.ref b13)])) rfl (by rw [hml]; rfl) (Steps.refl _) (argsL := []) (rest := []) (lenOf pd_8 rfl) rfl (by show 2 * 0 + _ ≤ _; exact Nat.le_of_eq rfl) (hb hby at_86) (fun _ _ => ⟨rfl, rfl, (by decide : 8 + 0 ≤ _), (by decide : 20 + 0 ≤ _)⟩)
    dsimp only [Pt.U, Pt.locs, Pt.cells, Pt.slots] at X14 l14 y14 z14 st14 hQ14
    subst l14 y14 z14
    obtain ⟨hv14, Nq14, eq14⟩ := hQ14
    subst hv14
    replace Nf := Fr.app Nf Nq14
    refine own_goW (x' := T14.setTop (mkF m 89 #[.val (.int p0), .val (.int p1), .val (.int p2), .val (.int 1), .val (.ref tk1), .val (.ref tk2), .val (.ref tk1), .val .null, .val (.ref b10), .val (.int 1)] [(.int 1)])) (fun _ k => st14.trans k) ?_
    refine own_goW (x' := T14.setTop (mkF m 94 #[.val (.int p0), .val (.int p1), .val (.int p2), .val (.int 1), .val (.ref tk1), .val (.ref tk2), .val (.ref tk1), .val .null, .val (.ref b10), .val (.int 1)] [])) (fun _ k => XS.ifYes X14.here hx rfl (pc0 := 89) (pc' := 94) rfl (hb hby at_89) rfl ((if0 _ _).trans (feq (by decide +kernel : ¬ ((1 : Int32) = (0 : Int32)))).2) (by decide) (by decide) k) ?_
    obtain ⟨_, _, ⟨T15, L15, k15, n15⟩, -, X15, ⟨Lc15, hQ15, l15, y15, z15⟩, st15⟩ := Jvm.LawKit.callS X14 hx (y := (⟨"com/example/lean_bus/leanbus/api/Caller", "root", "()Lcom/example/lean_bus/leanbus/api/Caller;"⟩ : MethodName)) hown (mvT hZ (own_w hw 61 rfl)) (mvT hZ (own_w hw 62 rfl)) (mvT hZ (own_w hw 37 rfl)) (mvT hZ (own_w hw 63 rfl)) (by decide) (backOf (W := 0) (rm12 l Z a0 hw []  T13.heap n0 Zs ) hZ (own_w hw 63 rfl) (own_w hw 37 rfl) (by decide) (by decide)) (g := (mkF m 94 #[.val (.int p0), .val (.int p1), .val (.int p2), .val (.int 1), .val (.ref tk1), .val (.ref tk2), .val (.ref tk1), .val .null, .val (.ref b10), .val (.int 1)] [])) rfl (by rw [hml]; rfl) (argsL := []) (rest := []) (lenOf pd_10 rfl) rfl (by show 2 * 0 + _ ≤ _; exact Nat.le_of_eq rfl) (hb hby at_94) (fun _ _ => ⟨rfl, eq14, (by decide : 8 + 1 ≤ _), (by decide : 20 + 2 ≤ _)⟩)
    dsimp only [Pt.U, Pt.locs, Pt.cells, Pt.slots] at X15 l15 y15 z15 st15 hQ15
    subst l15 y15 z15
    obtain ⟨b15, hv15, Nq15, K15, sq15, g_b15, E_b15, F_b15_token, F_b15_name⟩ := hQ15
    subst hv15
    replace Nf := Fr.app Nf Nq15
    have ne_b10_b15 : b10 ≠ b15 := Nat.ne_of_lt (Nat.lt_of_lt_of_le E_b10.lt sq15)
    have ne_b13_b15 : b13 ≠ b15 := Nat.ne_of_lt (Nat.lt_of_lt_of_le E_b13.lt sq15)
    replace Od := Od.keep K15 all0
    replace E_b10 := E_b10.keep K15
    replace F_b10_token := F_b10_token.keep K15 nin0
    replace F_b10_name := F_b10_name.keep K15 nin0
    replace E_b13 := E_b13.keep K15
    replace F_b13_token := F_b13_token.keep K15 nin0
    replace F_b13_name := F_b13_name.keep K15 nin0
    replace Zs := Nat.le_trans Zs K15.1
    replace hk := Nat.le_trans hk K15.1
    refine own_goW (x' := T15.setTop (mkF m 97 #[.val (.int p0), .val (.int p1), .val (.int p2), .val (.int 1), .val (.ref tk1), .val (.ref tk2), .val (.ref tk1), .val .null, .val (.ref b10), .val (.int 1)] [(.ref b15)])) st15 ?_
    obtain ⟨cq16, kq16, q16a, q16b, q16c⟩ := isOf hZ rfl E_b15
    obtain ⟨_, _, ⟨T16, L16, k16, n16⟩, -, X16, ⟨Lc16, hQ16, l16, y16, z16⟩, st16⟩ := X15.virtualBack hx (y := (⟨"com/example/lean_bus/leanbus/api/Caller", "isUnchecked", "()Z"⟩ : MethodName)) (z := (⟨"com/example/lean_bus/leanbus/api/Caller", "isUnchecked", "()Z"⟩ : MethodName)) hown (mvT hZ (own_w hw 51 rfl)) (mvT hZ (own_w hw 52 rfl)) (notFace_of_selects (args := #[]) (mvT hZ (own_w hw 54 rfl))) (mvT hZ (own_w hw 54 rfl)) (mvT hZ (own_w hw 53 rfl)) (by decide) (backOf (W := 0) (rm10NN l Z a0 hw [] b15  T15.heap n0 Zs F_b15_token F_b15_name) hZ (own_w hw 55 rfl) (own_w hw 37 rfl) (by decide) (by decide)) q16a q16c (g := (mkF m 97 #[.val (.int p0), .val (.int p1), .val (.int p2), .val (.int 1), .val (.ref tk1), .val (.ref tk2), .val (.ref tk1), .val .null, .val (.ref b10), .val (.int 1)] [(.ref b15)])) rfl (by rw [hml]; rfl) (Steps.refl _) (argsL := []) (rest := []) (lenOf pd_8 rfl) rfl (by show 2 * 0 + _ ≤ _; exact Nat.le_of_eq rfl) (hb hby at_97) (fun _ _ => ⟨rfl, rfl, (by decide : 9 + 0 ≤ _), (by decide : 22 + 0 ≤ _)⟩)
    dsimp only [Pt.U, Pt.locs, Pt.cells, Pt.slots] at X16 l16 y16 z16 st16 hQ16
    subst l16 y16 z16
    obtain ⟨hv16, Nq16, eq16⟩ := hQ16
    subst hv16
    replace Nf := Fr.app Nf Nq16
    refine own_goW (x' := T16.setTop (mkF m 100 #[.val (.int p0), .val (.int p1), .val (.int p2), .val (.int 1), .val (.ref tk1), .val (.ref tk2), .val (.ref tk1), .val .null, .val (.ref b10), .val (.int 1)] [(.int 0)])) (fun _ k => st16.trans k) ?_
    refine own_goW (x' := T16.setTop (mkF m 106 #[.val (.int p0), .val (.int p1), .val (.int p2), .val (.int 1), .val (.ref tk1), .val (.ref tk2), .val (.ref tk1), .val .null, .val (.ref b10), .val (.int 1)] [(.int 1)])) (fun _ k => XS.ifYes X16.here hx rfl (pc0 := 100) (pc' := 105) rfl (hb hby at_100) rfl ((if0 _ _).trans (teq rfl).1) (by decide) (by decide) (XS.iconst X16.here hx rfl (hb hby at_105) k)) ?_
    refine own_retNW X16 hS (own_hk eq16 hk) hx hlk (t := .boolean) hret (by simp) (hb hby at_106) (w := (1 : Int32)) rfl ?_ (by decide) (by decide)
    rw [eq16]
    exact ⟨rfl, Nf⟩
  · refine own_goW (x' := T2.setTop (mkF m 29 #[.val (.int p0), .val (.int p1), .val (.int p2), .val (.int 2), .val (.ref tk1), .val (.ref tk2), .val .null, .unset, .unset, .unset] [])) (fun _ k => XS.aconstNull X2.here hx rfl (hb hby at_16) (XS.astore X2.here hx rfl (hb hby at_17) rfl rfl (l' := #[.val (.int p0), .val (.int p1), .val (.int p2), .val (.int 2), .val (.ref tk1), .val (.ref tk2), .val .null, .unset, .unset, .unset]) rfl (XS.iloadN X2.here hx rfl (hb hby at_19) rfl (XS.iconst X2.here hx rfl (hb hby at_20) (XS.iand X2.here hx rfl (hb hby at_21) rfl (XS.ifYes X2.here hx rfl (pc0 := 22) (pc' := 29) rfl (hb hby at_22) rfl ((if0 _ _).trans (teq (by decide +kernel : (((2 : Int32) &&& (1 : Int32)) = (0 : Int32)))).1) (by decide) (by decide) k)))))) ?_
    refine own_goW (x' := T2.setTop (mkF m 38 #[.val (.int p0), .val (.int p1), .val (.int p2), .val (.int 2), .val (.ref tk1), .val (.ref tk2), .val .null, .val .null, .unset, .unset] [])) (fun _ k => XS.aconstNull X2.here hx rfl (hb hby at_29) (XS.astore X2.here hx rfl (hb hby at_30) rfl rfl (l' := #[.val (.int p0), .val (.int p1), .val (.int p2), .val (.int 2), .val (.ref tk1), .val (.ref tk2), .val .null, .val .null, .unset, .unset]) rfl (XS.iloadN X2.here hx rfl (hb hby at_32) rfl (XS.iconst X2.here hx rfl (hb hby at_33) (XS.iand X2.here hx rfl (hb hby at_34) rfl (XS.ifNo X2.here hx rfl (hb hby at_35) rfl ((if0 _ _).trans (feq (by decide +kernel : ¬ (((2 : Int32) &&& (2 : Int32)) = (0 : Int32)))).1) k)))))) ?_
    refine own_goW (x' := T2.setTop (mkF m 42 #[.val (.int p0), .val (.int p1), .val (.int p2), .val (.int 2), .val (.ref tk1), .val (.ref tk2), .val .null, .val (.ref tk2), .unset, .unset] [])) (fun _ k => XS.aload X2.here hx rfl (hb hby at_38) rfl rfl (XS.astore X2.here hx rfl (hb hby at_40) rfl rfl (l' := #[.val (.int p0), .val (.int p1), .val (.int p2), .val (.int 2), .val (.ref tk1), .val (.ref tk2), .val .null, .val (.ref tk2), .unset, .unset]) rfl k)) ?_
    obtain ⟨T17, h17, X17, e17, E17, A17, D17, -, st17⟩ := newO X2 hx hZ hown (own_w hw 35 rfl) (own_w hw 36 rfl) (own_w hw 37 rfl) rfl (g := (mkF m 42 #[.val (.int p0), .val (.int p1), .val (.int p2), .val (.int 2), .val (.ref tk1), .val (.ref tk2), .val .null, .val (.ref tk2), .unset, .unset] [])) rfl (hb hby at_42) (by decide) (by decide)
    obtain ⟨b17, g17⟩ : ∃ z, z = T2.heap.size := ⟨_, rfl⟩
    rw [← g17] at A17 D17 st17
    have g_b17 : n0 ≤ b17 := Nat.le_trans Zs (Nat.le_of_eq g17.symm)
    replace Od := Od.ext E17
    replace Zs := Nat.le_trans Zs E17.1
    replace hk := Nat.le_trans hk E17.1
    have E_b17 := A17
    have F_b17_token : Fld Z h17 b17 "com/example/lean_bus/leanbus/api/Caller" "token" "Ljava/lang/String;" .null := D17 (Or.inr (own_w hw 48 rfl)) (ty := (.object "java/lang/String")) (by decide)
    have F_b17_name : Fld Z h17 b17 "com/example/lean_bus/leanbus/api/Caller" "name" "Ljava/lang/String;" .null := D17 (Or.inr (own_w hw 50 rfl)) (ty := (.object "java/lang/String")) (by decide)
    refine own_goW (x' := T17.setTop (mkF m 45 #[.val (.int p0), .val (.int p1), .val (.int p2), .val (.int 2), .val (.ref tk1), .val (.ref tk2), .val .null, .val (.ref tk2), .unset, .unset] [(.ref b17)])) st17 ?_
    refine own_goW (x' := T17.setTop (mkF m 50 #[.val (.int p0), .val (.int p1), .val (.int p2), .val (.int 2), .val (.ref tk1), .val (.ref tk2), .val .null, .val (.ref tk2), .unset, .unset] [(.ref tk2), .null, (.ref b17), (.ref b17)])) (fun _ k => XS.dup X17.here hx rfl (hb hby at_45) rfl rfl (XS.aload X17.here hx rfl (hb hby at_46) rfl rfl (XS.aload X17.here hx rfl (hb hby at_48) rfl rfl k))) ?_
    obtain ⟨_, _, ⟨T18, L18, k18, n18⟩, -, X18, ⟨Lc18, hQ18, l18, y18, z18⟩, st18⟩ := X17.specialBack hx (y := (⟨"com/example/lean_bus/leanbus/api/Caller", "<init>", "(Ljava/lang/String;Ljava/lang/String;)V"⟩ : MethodName)) rfl hown (mvT hZ (own_w hw 38 rfl)) (mvT hZ (own_w hw 39 rfl)) (mvT hZ (own_w hw 40 rfl)) (by decide) (backOf (W := 1) (rm8NR l Z a0 hw [] b17 tk2 h17 n0 Zs E_b17 F_b17_token F_b17_name g_b17) hZ (own_w hw 40 rfl) (own_w hw 37 rfl) (by decide) (by decide)) (g := (mkF m 50 #[.val (.int p0), .val (.int p1), .val (.int p2), .val (.int 2), .val (.ref tk1), .val (.ref tk2), .val .null, .val (.ref tk2), .unset, .unset] [(.ref tk2), .null, (.ref b17), (.ref b17)])) rfl (by rw [hml]; rfl) (Steps.refl _) (a := b17) (argsL := [.null, (.ref tk2)]) (rest := [(.ref b17)]) (lenOf pd_6 rfl) rfl (by show 2 * 0 + _ ≤ _; exact Nat.le_of_eq rfl) (hb hby at_50) (fun _ _ => ⟨rfl, e17, (by decide : 7 + 0 ≤ _), (by decide : 18 + 0 ≤ _)⟩)
    dsimp only [Pt.U, Pt.locs, Pt.cells, Pt.slots] at X18 l18 y18 z18 st18 hQ18
    subst l18 y18 z18
    obtain ⟨hv18, Nq18, K18, Eo18, Fo18_0, Fo18_1⟩ := hQ18
    subst hv18
    replace Nf := Fr.app Nf Nq18
    replace Od := Od.keep K18 (allS g_b17 all0)
    replace Zs := Nat.le_trans Zs K18.1
    replace hk := Nat.le_trans hk K18.1
    replace E_b17 := Eo18
    replace F_b17_token := Fo18_0
    replace F_b17_name := Fo18_1
    refine own_goW (x' := T18.setTop (mkF m 53 #[.val (.int p0), .val (.int p1), .val (.int p2), .val (.int 2), .val (.ref tk1), .val (.ref tk2), .val .null, .val (.ref tk2), .unset, .unset] [(.ref b17)])) (fun _ k => st18.trans k) ?_
    refine own_goW (x' := T18.setTop (mkF m 69 #[.val (.int p0), .val (.int p1), .val (.int p2), .val (.int 2), .val (.ref tk1), .val (.ref tk2), .val .null, .val (.ref tk2), .val (.ref b17), .val (.int 0)] [])) (fun _ k => XS.astore X18.here hx rfl (hb hby at_53) rfl rfl (l' := #[.val (.int p0), .val (.int p1), .val (.int p2), .val (.int 2), .val (.ref tk1), .val (.ref tk2), .val .null, .val (.ref tk2), .val (.ref b17), .unset]) rfl (XS.iloadN X18.here hx rfl (hb hby at_55) rfl (XS.iconst X18.here hx rfl (hb hby at_56) (XS.icmpYes X18.here hx rfl (pc0 := 57) (pc' := 66) rfl (hb hby at_57) rfl (feq (by decide +kernel : ¬ ((2 : Int32) = (1 : Int32)))).2 (by decide) (by decide) (XS.iconst X18.here hx rfl (hb hby at_66) (XS.istore X18.here hx rfl (hb hby at_67) rfl (l' := #[.val (.int p0), .val (.int p1), .val (.int p2), .val (.int 2), .val (.ref tk1), .val (.ref tk2), .val .null, .val (.ref tk2), .val (.ref b17), .val (.int 0)]) rfl k)))))) ?_
    refine own_goW (x' := T18.setTop (mkF m 71 #[.val (.int p0), .val (.int p1), .val (.int p2), .val (.int 2), .val (.ref tk1), .val (.ref tk2), .val .null, .val (.ref tk2), .val (.ref b17), .val (.int 0)] [(.ref b17)])) (fun _ k => XS.aload X18.here hx rfl (hb hby at_69) rfl rfl k) ?_
    obtain ⟨cq19, kq19, q19a, q19b, q19c⟩ := isOf hZ rfl E_b17
    obtain ⟨_, _, ⟨T19, L19, k19, n19⟩, -, X19, ⟨Lc19, hQ19, l19, y19, z19⟩, st19⟩ := X18.virtualBack hx (y := (⟨"com/example/lean_bus/leanbus/api/Caller", "isUnchecked", "()Z"⟩ : MethodName)) (z := (⟨"com/example/lean_bus/leanbus/api/Caller", "isUnchecked", "()Z"⟩ : MethodName)) hown (mvT hZ (own_w hw 51 rfl)) (mvT hZ (own_w hw 52 rfl)) (notFace_of_selects (args := #[]) (mvT hZ (own_w hw 54 rfl))) (mvT hZ (own_w hw 54 rfl)) (mvT hZ (own_w hw 53 rfl)) (by decide) (backOf (W := 0) (rm10NR l Z a0 hw [] b17 tk2 T18.heap n0 Zs F_b17_token F_b17_name) hZ (own_w hw 55 rfl) (own_w hw 37 rfl) (by decide) (by decide)) q19a q19c (g := (mkF m 71 #[.val (.int p0), .val (.int p1), .val (.int p2), .val (.int 2), .val (.ref tk1), .val (.ref tk2), .val .null, .val (.ref tk2), .val (.ref b17), .val (.int 0)] [(.ref b17)])) rfl (by rw [hml]; rfl) (Steps.refl _) (argsL := []) (rest := []) (lenOf pd_8 rfl) rfl (by show 2 * 0 + _ ≤ _; exact Nat.le_of_eq rfl) (hb hby at_71) (fun _ _ => ⟨rfl, rfl, (by decide : 7 + 0 ≤ _), (by decide : 18 + 0 ≤ _)⟩)
    dsimp only [Pt.U, Pt.locs, Pt.cells, Pt.slots] at X19 l19 y19 z19 st19 hQ19
    subst l19 y19 z19
    obtain ⟨hv19, Nq19, eq19⟩ := hQ19
    subst hv19
    replace Nf := Fr.app Nf Nq19
    refine own_goW (x' := T19.setTop (mkF m 74 #[.val (.int p0), .val (.int p1), .val (.int p2), .val (.int 2), .val (.ref tk1), .val (.ref tk2), .val .null, .val (.ref tk2), .val (.ref b17), .val (.int 0)] [(.int 0)])) (fun _ k => st19.trans k) ?_
    refine own_goW (x' := T19.setTop (mkF m 83 #[.val (.int p0), .val (.int p1), .val (.int p2), .val (.int 2), .val (.ref tk1), .val (.ref tk2), .val .null, .val (.ref tk2), .val (.ref b17), .val (.int 0)] [(.ref tk1)])) (fun _ k => XS.iload X19.here hx rfl (hb hby at_74) rfl (XS.icmpYes X19.here hx rfl (pc0 := 76) (pc' := 81) rfl (hb hby at_76) rfl (teq rfl).1 (by decide) (by decide) (XS.aload X19.here hx rfl (hb hby at_81) rfl rfl k))) ?_
    obtain ⟨_, _, ⟨T20, L20, k20, n20⟩, -, X20, ⟨Lc20, hQ20, l20, y20, z20⟩, st20⟩ := Jvm.LawKit.callS X19 hx (y := (⟨"com/example/lean_bus/leanbus/api/Caller", "unchecked", "(Ljava/lang/String;)Lcom/example/lean_bus/leanbus/api/Caller;"⟩ : MethodName)) hown (mvT hZ (own_w hw 56 rfl)) (mvT hZ (own_w hw 57 rfl)) (mvT hZ (own_w hw 37 rfl)) (mvT hZ (own_w hw 58 rfl)) (by decide) (backOf (W := 0) (rm11 l Z a0 hw [] tk1 T18.heap n0 Zs ) hZ (own_w hw 58 rfl) (own_w hw 37 rfl) (by decide) (by decide)) (g := (mkF m 83 #[.val (.int p0), .val (.int p1), .val (.int p2), .val (.int 2), .val (.ref tk1), .val (.ref tk2), .val .null, .val (.ref tk2), .val (.ref b17), .val (.int 0)] [(.ref tk1)])) rfl (by rw [hml]; rfl) (argsL := [(.ref tk1)]) (rest := []) (lenOf pd_9 rfl) rfl (by show 2 * 0 + _ ≤ _; exact Nat.le_of_eq rfl) (hb hby at_83) (fun _ _ => ⟨rfl, eq19, (by decide : 7 + 1 ≤ _), (by decide : 18 + 2 ≤ _)⟩)
    dsimp only [Pt.U, Pt.locs, Pt.cells, Pt.slots] at X20 l20 y20 z20 st20 hQ20
    subst l20 y20 z20
    obtain ⟨b20, hv20, Nq20, K20, sq20, g_b20, E_b20, F_b20_token, F_b20_name⟩ := hQ20
    subst hv20
    replace Nf := Fr.app Nf Nq20
    have ne_b17_b20 : b17 ≠ b20 := Nat.ne_of_lt (Nat.lt_of_lt_of_le E_b17.lt sq20)
    replace Od := Od.keep K20 all0
    replace E_b17 := E_b17.keep K20
    replace F_b17_token := F_b17_token.keep K20 nin0
    replace F_b17_name := F_b17_name.keep K20 nin0
    replace Zs := Nat.le_trans Zs K20.1
    replace hk := Nat.le_trans hk K20.1
    refine own_goW (x' := T20.setTop (mkF m 86 #[.val (.int p0), .val (.int p1), .val (.int p2), .val (.int 2), .val (.ref tk1), .val (.ref tk2), .val .null, .val (.ref tk2), .val (.ref b17), .val (.int 0)] [(.ref b20)])) st20 ?_
    obtain ⟨cq21, kq21, q21a, q21b, q21c⟩ := isOf hZ rfl E_b20
    obtain ⟨_, _, ⟨T21, L21, k21, n21⟩, -, X21, ⟨Lc21, hQ21, l21, y21, z21⟩, st21⟩ := X20.virtualBack hx (y := (⟨"com/example/lean_bus/leanbus/api/Caller", "isUnchecked", "()Z"⟩ : MethodName)) (z := (⟨"com/example/lean_bus/leanbus/api/Caller", "isUnchecked", "()Z"⟩ : MethodName)) hown (mvT hZ (own_w hw 51 rfl)) (mvT hZ (own_w hw 52 rfl)) (notFace_of_selects (args := #[]) (mvT hZ (own_w hw 54 rfl))) (mvT hZ (own_w hw 54 rfl)) (mvT hZ (own_w hw 53 rfl)) (by decide) (backOf (W := 0) (rm10RN l Z a0 hw [] b20 tk1 T20.heap n0 Zs F_b20_token F_b20_name) hZ (own_w hw 55 rfl) (own_w hw 37 rfl) (by decide) (by decide)) q21a q21c (g := (mkF m 86 #[.val (.int p0), .val (.int p1), .val (.int p2), .val (.int 2), .val (.ref tk1), .val (.ref tk2), .val .null, .val (.ref tk2), .val (.ref b17), .val (.int 0)] [(.ref b20)])) rfl (by rw [hml]; rfl) (Steps.refl _) (argsL := []) (rest := []) (lenOf pd_8 rfl) rfl (by show 2 * 0 + _ ≤ _; exact Nat.le_of_eq rfl) (hb hby at_86) (fun _ _ => ⟨rfl, rfl, (by decide : 8 + 0 ≤ _), (by decide : 20 + 0 ≤ _)⟩)
    dsimp only [Pt.U, Pt.locs, Pt.cells, Pt.slots] at X21 l21 y21 z21 st21 hQ21
    subst l21 y21 z21
    obtain ⟨hv21, Nq21, eq21⟩ := hQ21
    subst hv21
    replace Nf := Fr.app Nf Nq21
    refine own_goW (x' := T21.setTop (mkF m 89 #[.val (.int p0), .val (.int p1), .val (.int p2), .val (.int 2), .val (.ref tk1), .val (.ref tk2), .val .null, .val (.ref tk2), .val (.ref b17), .val (.int 0)] [(.int 1)])) (fun _ k => st21.trans k) ?_
    refine own_goW (x' := T21.setTop (mkF m 94 #[.val (.int p0), .val (.int p1), .val (.int p2), .val (.int 2), .val (.ref tk1), .val (.ref tk2), .val .null, .val (.ref tk2), .val (.ref b17), .val (.int 0)] [])) (fun _ k => XS.ifYes X21.here hx rfl (pc0 := 89) (pc' := 94) rfl (hb hby at_89) rfl ((if0 _ _).trans (feq (by decide +kernel : ¬ ((1 : Int32) = (0 : Int32)))).2) (by decide) (by decide) k) ?_
    obtain ⟨_, _, ⟨T22, L22, k22, n22⟩, -, X22, ⟨Lc22, hQ22, l22, y22, z22⟩, st22⟩ := Jvm.LawKit.callS X21 hx (y := (⟨"com/example/lean_bus/leanbus/api/Caller", "root", "()Lcom/example/lean_bus/leanbus/api/Caller;"⟩ : MethodName)) hown (mvT hZ (own_w hw 61 rfl)) (mvT hZ (own_w hw 62 rfl)) (mvT hZ (own_w hw 37 rfl)) (mvT hZ (own_w hw 63 rfl)) (by decide) (backOf (W := 0) (rm12 l Z a0 hw []  T20.heap n0 Zs ) hZ (own_w hw 63 rfl) (own_w hw 37 rfl) (by decide) (by decide)) (g := (mkF m 94 #[.val (.int p0), .val (.int p1), .val (.int p2), .val (.int 2), .val (.ref tk1), .val (.ref tk2), .val .null, .val (.ref tk2), .val (.ref b17), .val (.int 0)] [])) rfl (by rw [hml]; rfl) (argsL := []) (rest := []) (lenOf pd_10 rfl) rfl (by show 2 * 0 + _ ≤ _; exact Nat.le_of_eq rfl) (hb hby at_94) (fun _ _ => ⟨rfl, eq21, (by decide : 8 + 1 ≤ _), (by decide : 20 + 2 ≤ _)⟩)
    dsimp only [Pt.U, Pt.locs, Pt.cells, Pt.slots] at X22 l22 y22 z22 st22 hQ22
    subst l22 y22 z22
    obtain ⟨b22, hv22, Nq22, K22, sq22, g_b22, E_b22, F_b22_token, F_b22_name⟩ := hQ22
    subst hv22
    replace Nf := Fr.app Nf Nq22
    have ne_b17_b22 : b17 ≠ b22 := Nat.ne_of_lt (Nat.lt_of_lt_of_le E_b17.lt sq22)
    have ne_b20_b22 : b20 ≠ b22 := Nat.ne_of_lt (Nat.lt_of_lt_of_le E_b20.lt sq22)
    replace Od := Od.keep K22 all0
    replace E_b17 := E_b17.keep K22
    replace F_b17_token := F_b17_token.keep K22 nin0
    replace F_b17_name := F_b17_name.keep K22 nin0
    replace E_b20 := E_b20.keep K22
    replace F_b20_token := F_b20_token.keep K22 nin0
    replace F_b20_name := F_b20_name.keep K22 nin0
    replace Zs := Nat.le_trans Zs K22.1
    replace hk := Nat.le_trans hk K22.1
    refine own_goW (x' := T22.setTop (mkF m 97 #[.val (.int p0), .val (.int p1), .val (.int p2), .val (.int 2), .val (.ref tk1), .val (.ref tk2), .val .null, .val (.ref tk2), .val (.ref b17), .val (.int 0)] [(.ref b22)])) st22 ?_
    obtain ⟨cq23, kq23, q23a, q23b, q23c⟩ := isOf hZ rfl E_b22
    obtain ⟨_, _, ⟨T23, L23, k23, n23⟩, -, X23, ⟨Lc23, hQ23, l23, y23, z23⟩, st23⟩ := X22.virtualBack hx (y := (⟨"com/example/lean_bus/leanbus/api/Caller", "isUnchecked", "()Z"⟩ : MethodName)) (z := (⟨"com/example/lean_bus/leanbus/api/Caller", "isUnchecked", "()Z"⟩ : MethodName)) hown (mvT hZ (own_w hw 51 rfl)) (mvT hZ (own_w hw 52 rfl)) (notFace_of_selects (args := #[]) (mvT hZ (own_w hw 54 rfl))) (mvT hZ (own_w hw 54 rfl)) (mvT hZ (own_w hw 53 rfl)) (by decide) (backOf (W := 0) (rm10NN l Z a0 hw [] b22  T22.heap n0 Zs F_b22_token F_b22_name) hZ (own_w hw 55 rfl) (own_w hw 37 rfl) (by decide) (by decide)) q23a q23c (g := (mkF m 97 #[.val (.int p0), .val (.int p1), .val (.int p2), .val (.int 2), .val (.ref tk1), .val (.ref tk2), .val .null, .val (.ref tk2), .val (.ref b17), .val (.int 0)] [(.ref b22)])) rfl (by rw [hml]; rfl) (Steps.refl _) (argsL := []) (rest := []) (lenOf pd_8 rfl) rfl (by show 2 * 0 + _ ≤ _; exact Nat.le_of_eq rfl) (hb hby at_97) (fun _ _ => ⟨rfl, rfl, (by decide : 9 + 0 ≤ _), (by decide : 22 + 0 ≤ _)⟩)
    dsimp only [Pt.U, Pt.locs, Pt.cells, Pt.slots] at X23 l23 y23 z23 st23 hQ23
    subst l23 y23 z23
    obtain ⟨hv23, Nq23, eq23⟩ := hQ23
    subst hv23
    replace Nf := Fr.app Nf Nq23
    refine own_goW (x' := T23.setTop (mkF m 100 #[.val (.int p0), .val (.int p1), .val (.int p2), .val (.int 2), .val (.ref tk1), .val (.ref tk2), .val .null, .val (.ref tk2), .val (.ref b17), .val (.int 0)] [(.int 0)])) (fun _ k => st23.trans k) ?_
    refine own_goW (x' := T23.setTop (mkF m 106 #[.val (.int p0), .val (.int p1), .val (.int p2), .val (.int 2), .val (.ref tk1), .val (.ref tk2), .val .null, .val (.ref tk2), .val (.ref b17), .val (.int 0)] [(.int 1)])) (fun _ k => XS.ifYes X23.here hx rfl (pc0 := 100) (pc' := 105) rfl (hb hby at_100) rfl ((if0 _ _).trans (teq rfl).1) (by decide) (by decide) (XS.iconst X23.here hx rfl (hb hby at_105) k)) ?_
    refine own_retNW X23 hS (own_hk eq23 hk) hx hlk (t := .boolean) hret (by simp) (hb hby at_106) (w := (1 : Int32)) rfl ?_ (by decide) (by decide)
    rw [eq23]
    exact ⟨rfl, Nf⟩
  · refine own_goW (x' := T2.setTop (mkF m 25 #[.val (.int p0), .val (.int p1), .val (.int p2), .val (.int 3), .val (.ref tk1), .val (.ref tk2), .val .null, .unset, .unset, .unset] [])) (fun _ k => XS.aconstNull X2.here hx rfl (hb hby at_16) (XS.astore X2.here hx rfl (hb hby at_17) rfl rfl (l' := #[.val (.int p0), .val (.int p1), .val (.int p2), .val (.int 3), .val (.ref tk1), .val (.ref tk2), .val .null, .unset, .unset, .unset]) rfl (XS.iloadN X2.here hx rfl (hb hby at_19) rfl (XS.iconst X2.here hx rfl (hb hby at_20) (XS.iand X2.here hx rfl (hb hby at_21) rfl (XS.ifNo X2.here hx rfl (hb hby at_22) rfl ((if0 _ _).trans (feq (by decide +kernel : ¬ (((3 : Int32) &&& (1 : Int32)) = (0 : Int32)))).1) k)))))) ?_
    refine own_goW (x' := T2.setTop (mkF m 34 #[.val (.int p0), .val (.int p1), .val (.int p2), .val (.int 3), .val (.ref tk1), .val (.ref tk2), .val (.ref tk1), .val .null, .unset, .unset] [(.int 2), (.int 3)])) (fun _ k => XS.aload X2.here hx rfl (hb hby at_25) rfl rfl (XS.astore X2.here hx rfl (hb hby at_27) rfl rfl (l' := #[.val (.int p0), .val (.int p1), .val (.int p2), .val (.int 3), .val (.ref tk1), .val (.ref tk2), .val (.ref tk1), .unset, .unset, .unset]) rfl (XS.aconstNull X2.here hx rfl (hb hby at_29) (XS.astore X2.here hx rfl (hb hby at_30) rfl rfl (l' := #[.val (.int p0), .val (.int p1), .val (.int p2), .val (.int 3), .val (.ref tk1), .val (.ref tk2), .val (.ref tk1), .val .null, .unset, .unset]) rfl (XS.iloadN X2.here hx rfl (hb hby at_32) rfl (XS.iconst X2.here hx rfl (hb hby at_33) k)))))) ?_
    refine own_goW (x' := T2.setTop (mkF m 42 #[.val (.int p0), .val (.int p1), .val (.int p2), .val (.int 3), .val (.ref tk1), .val (.ref tk2), .val (.ref tk1), .val (.ref tk2), .unset, .unset] [])) (fun _ k => XS.iand X2.here hx rfl (hb hby at_34) rfl (XS.ifNo X2.here hx rfl (hb hby at_35) rfl ((if0 _ _).trans (feq (by decide +kernel : ¬ (((3 : Int32) &&& (2 : Int32)) = (0 : Int32)))).1) (XS.aload X2.here hx rfl (hb hby at_38) rfl rfl (XS.astore X2.here hx rfl (hb hby at_40) rfl rfl (l' := #[.val (.int p0), .val (.int p1), .val (.int p2), .val (.int 3), .val (.ref tk1), .val (.ref tk2), .val (.ref tk1), .val (.ref tk2), .unset, .unset]) rfl k)))) ?_
    obtain ⟨T24, h24, X24, e24, E24, A24, D24, -, st24⟩ := newO X2 hx hZ hown (own_w hw 35 rfl) (own_w hw 36 rfl) (own_w hw 37 rfl) rfl (g := (mkF m 42 #[.val (.int p0), .val (.int p1), .val (.int p2), .val (.int 3), .val (.ref tk1), .val (.ref tk2), .val (.ref tk1), .val (.ref tk2), .unset, .unset] [])) rfl (hb hby at_42) (by decide) (by decide)
    obtain ⟨b24, g24⟩ : ∃ z, z = T2.heap.size := ⟨_, rfl⟩
    rw [← g24] at A24 D24 st24
    have g_b24 : n0 ≤ b24 := Nat.le_trans Zs (Nat.le_of_eq g24.symm)
    replace Od := Od.ext E24
    replace Zs := Nat.le_trans Zs E24.1
    replace hk := Nat.le_trans hk E24.1
    have E_b24 := A24
    have F_b24_token : Fld Z h24 b24 "com/example/lean_bus/leanbus/api/Caller" "token" "Ljava/lang/String;" .null := D24 (Or.inr (own_w hw 48 rfl)) (ty := (.object "java/lang/String")) (by decide)
    have F_b24_name : Fld Z h24 b24 "com/example/lean_bus/leanbus/api/Caller" "name" "Ljava/lang/String;" .null := D24 (Or.inr (own_w hw 50 rfl)) (ty := (.object "java/lang/String")) (by decide)
    refine own_goW (x' := T24.setTop (mkF m 45 #[.val (.int p0), .val (.int p1), .val (.int p2), .val (.int 3), .val (.ref tk1), .val (.ref tk2), .val (.ref tk1), .val (.ref tk2), .unset, .unset] [(.ref b24)])) st24 ?_
    refine own_goW (x' := T24.setTop (mkF m 50 #[.val (.int p0), .val (.int p1), .val (.int p2), .val (.int 3), .val (.ref tk1), .val (.ref tk2), .val (.ref tk1), .val (.ref tk2), .unset, .unset] [(.ref tk2), (.ref tk1), (.ref b24), (.ref b24)])) (fun _ k => XS.dup X24.here hx rfl (hb hby at_45) rfl rfl (XS.aload X24.here hx rfl (hb hby at_46) rfl rfl (XS.aload X24.here hx rfl (hb hby at_48) rfl rfl k))) ?_
    obtain ⟨_, _, ⟨T25, L25, k25, n25⟩, -, X25, ⟨Lc25, hQ25, l25, y25, z25⟩, st25⟩ := X24.specialBack hx (y := (⟨"com/example/lean_bus/leanbus/api/Caller", "<init>", "(Ljava/lang/String;Ljava/lang/String;)V"⟩ : MethodName)) rfl hown (mvT hZ (own_w hw 38 rfl)) (mvT hZ (own_w hw 39 rfl)) (mvT hZ (own_w hw 40 rfl)) (by decide) (backOf (W := 1) (rm8RR l Z a0 hw [] b24 tk1 tk2 h24 n0 Zs E_b24 F_b24_token F_b24_name g_b24) hZ (own_w hw 40 rfl) (own_w hw 37 rfl) (by decide) (by decide)) (g := (mkF m 50 #[.val (.int p0), .val (.int p1), .val (.int p2), .val (.int 3), .val (.ref tk1), .val (.ref tk2), .val (.ref tk1), .val (.ref tk2), .unset, .unset] [(.ref tk2), (.ref tk1), (.ref b24), (.ref b24)])) rfl (by rw [hml]; rfl) (Steps.refl _) (a := b24) (argsL := [(.ref tk1), (.ref tk2)]) (rest := [(.ref b24)]) (lenOf pd_6 rfl) rfl (by show 2 * 0 + _ ≤ _; exact Nat.le_of_eq rfl) (hb hby at_50) (fun _ _ => ⟨rfl, e24, (by decide : 7 + 0 ≤ _), (by decide : 18 + 0 ≤ _)⟩)
    dsimp only [Pt.U, Pt.locs, Pt.cells, Pt.slots] at X25 l25 y25 z25 st25 hQ25
    subst l25 y25 z25
    obtain ⟨hv25, Nq25, K25, Eo25, Fo25_0, Fo25_1⟩ := hQ25
    subst hv25
    replace Nf := Fr.app Nf Nq25
    replace Od := Od.keep K25 (allS g_b24 all0)
    replace Zs := Nat.le_trans Zs K25.1
    replace hk := Nat.le_trans hk K25.1
    replace E_b24 := Eo25
    replace F_b24_token := Fo25_0
    replace F_b24_name := Fo25_1
    refine own_goW (x' := T25.setTop (mkF m 53 #[.val (.int p0), .val (.int p1), .val (.int p2), .val (.int 3), .val (.ref tk1), .val (.ref tk2), .val (.ref tk1), .val (.ref tk2), .unset, .unset] [(.ref b24)])) (fun _ k => st25.trans k) ?_
    refine own_goW (x' := T25.setTop (mkF m 69 #[.val (.int p0), .val (.int p1), .val (.int p2), .val (.int 3), .val (.ref tk1), .val (.ref tk2), .val (.ref tk1), .val (.ref tk2), .val (.ref b24), .val (.int 0)] [])) (fun _ k => XS.astore X25.here hx rfl (hb hby at_53) rfl rfl (l' := #[.val (.int p0), .val (.int p1), .val (.int p2), .val (.int 3), .val (.ref tk1), .val (.ref tk2), .val (.ref tk1), .val (.ref tk2), .val (.ref b24), .unset]) rfl (XS.iloadN X25.here hx rfl (hb hby at_55) rfl (XS.iconst X25.here hx rfl (hb hby at_56) (XS.icmpYes X25.here hx rfl (pc0 := 57) (pc' := 66) rfl (hb hby at_57) rfl (feq (by decide +kernel : ¬ ((3 : Int32) = (1 : Int32)))).2 (by decide) (by decide) (XS.iconst X25.here hx rfl (hb hby at_66) (XS.istore X25.here hx rfl (hb hby at_67) rfl (l' := #[.val (.int p0), .val (.int p1), .val (.int p2), .val (.int 3), .val (.ref tk1), .val (.ref tk2), .val (.ref tk1), .val (.ref tk2), .val (.ref b24), .val (.int 0)]) rfl k)))))) ?_
    refine own_goW (x' := T25.setTop (mkF m 71 #[.val (.int p0), .val (.int p1), .val (.int p2), .val (.int 3), .val (.ref tk1), .val (.ref tk2), .val (.ref tk1), .val (.ref tk2), .val (.ref b24), .val (.int 0)] [(.ref b24)])) (fun _ k => XS.aload X25.here hx rfl (hb hby at_69) rfl rfl k) ?_
    obtain ⟨cq26, kq26, q26a, q26b, q26c⟩ := isOf hZ rfl E_b24
    obtain ⟨_, _, ⟨T26, L26, k26, n26⟩, -, X26, ⟨Lc26, hQ26, l26, y26, z26⟩, st26⟩ := X25.virtualBack hx (y := (⟨"com/example/lean_bus/leanbus/api/Caller", "isUnchecked", "()Z"⟩ : MethodName)) (z := (⟨"com/example/lean_bus/leanbus/api/Caller", "isUnchecked", "()Z"⟩ : MethodName)) hown (mvT hZ (own_w hw 51 rfl)) (mvT hZ (own_w hw 52 rfl)) (notFace_of_selects (args := #[]) (mvT hZ (own_w hw 54 rfl))) (mvT hZ (own_w hw 54 rfl)) (mvT hZ (own_w hw 53 rfl)) (by decide) (backOf (W := 0) (rm10RR l Z a0 hw [] b24 tk1 tk2 T25.heap n0 Zs F_b24_token F_b24_name) hZ (own_w hw 55 rfl) (own_w hw 37 rfl) (by decide) (by decide)) q26a q26c (g := (mkF m 71 #[.val (.int p0), .val (.int p1), .val (.int p2), .val (.int 3), .val (.ref tk1), .val (.ref tk2), .val (.ref tk1), .val (.ref tk2), .val (.ref b24), .val (.int 0)] [(.ref b24)])) rfl (by rw [hml]; rfl) (Steps.refl _) (argsL := []) (rest := []) (lenOf pd_8 rfl) rfl (by show 2 * 0 + _ ≤ _; exact Nat.le_of_eq rfl) (hb hby at_71) (fun _ _ => ⟨rfl, rfl, (by decide : 7 + 0 ≤ _), (by decide : 18 + 0 ≤ _)⟩)
    dsimp only [Pt.U, Pt.locs, Pt.cells, Pt.slots] at X26 l26 y26 z26 st26 hQ26
    subst l26 y26 z26
    obtain ⟨hv26, Nq26, eq26⟩ := hQ26
    subst hv26
    replace Nf := Fr.app Nf Nq26
    refine own_goW (x' := T26.setTop (mkF m 74 #[.val (.int p0), .val (.int p1), .val (.int p2), .val (.int 3), .val (.ref tk1), .val (.ref tk2), .val (.ref tk1), .val (.ref tk2), .val (.ref b24), .val (.int 0)] [(.int 0)])) (fun _ k => st26.trans k) ?_
    refine own_goW (x' := T26.setTop (mkF m 83 #[.val (.int p0), .val (.int p1), .val (.int p2), .val (.int 3), .val (.ref tk1), .val (.ref tk2), .val (.ref tk1), .val (.ref tk2), .val (.ref b24), .val (.int 0)] [(.ref tk1)])) (fun _ k => XS.iload X26.here hx rfl (hb hby at_74) rfl (XS.icmpYes X26.here hx rfl (pc0 := 76) (pc' := 81) rfl (hb hby at_76) rfl (teq rfl).1 (by decide) (by decide) (XS.aload X26.here hx rfl (hb hby at_81) rfl rfl k))) ?_
    obtain ⟨_, _, ⟨T27, L27, k27, n27⟩, -, X27, ⟨Lc27, hQ27, l27, y27, z27⟩, st27⟩ := Jvm.LawKit.callS X26 hx (y := (⟨"com/example/lean_bus/leanbus/api/Caller", "unchecked", "(Ljava/lang/String;)Lcom/example/lean_bus/leanbus/api/Caller;"⟩ : MethodName)) hown (mvT hZ (own_w hw 56 rfl)) (mvT hZ (own_w hw 57 rfl)) (mvT hZ (own_w hw 37 rfl)) (mvT hZ (own_w hw 58 rfl)) (by decide) (backOf (W := 0) (rm11 l Z a0 hw [] tk1 T25.heap n0 Zs ) hZ (own_w hw 58 rfl) (own_w hw 37 rfl) (by decide) (by decide)) (g := (mkF m 83 #[.val (.int p0), .val (.int p1), .val (.int p2), .val (.int 3), .val (.ref tk1), .val (.ref tk2), .val (.ref tk1), .val (.ref tk2), .val (.ref b24), .val (.int 0)] [(.ref tk1)])) rfl (by rw [hml]; rfl) (argsL := [(.ref tk1)]) (rest := []) (lenOf pd_9 rfl) rfl (by show 2 * 0 + _ ≤ _; exact Nat.le_of_eq rfl) (hb hby at_83) (fun _ _ => ⟨rfl, eq26, (by decide : 7 + 1 ≤ _), (by decide : 18 + 2 ≤ _)⟩)
    dsimp only [Pt.U, Pt.locs, Pt.cells, Pt.slots] at X27 l27 y27 z27 st27 hQ27
    subst l27 y27 z27
    obtain ⟨b27, hv27, Nq27, K27, sq27, g_b27, E_b27, F_b27_token, F_b27_name⟩ := hQ27
    subst hv27
    replace Nf := Fr.app Nf Nq27
    have ne_b24_b27 : b24 ≠ b27 := Nat.ne_of_lt (Nat.lt_of_lt_of_le E_b24.lt sq27)
    replace Od := Od.keep K27 all0
    replace E_b24 := E_b24.keep K27
    replace F_b24_token := F_b24_token.keep K27 nin0
    replace F_b24_name := F_b24_name.keep K27 nin0
    replace Zs := Nat.le_trans Zs K27.1
    replace hk := Nat.le_trans hk K27.1
    refine own_goW (x' := T27.setTop (mkF m 86 #[.val (.int p0), .val (.int p1), .val (.int p2), .val (.int 3), .val (.ref tk1), .val (.ref tk2), .val (.ref tk1), .val (.ref tk2), .val (.ref b24), .val (.int 0)] [(.ref b27)])) st27 ?_
    obtain ⟨cq28, kq28, q28a, q28b, q28c⟩ := isOf hZ rfl E_b27
    obtain ⟨_, _, ⟨T28, L28, k28, n28⟩, -, X28, ⟨Lc28, hQ28, l28, y28, z28⟩, st28⟩ := X27.virtualBack hx (y := (⟨"com/example/lean_bus/leanbus/api/Caller", "isUnchecked", "()Z"⟩ : MethodName)) (z := (⟨"com/example/lean_bus/leanbus/api/Caller", "isUnchecked", "()Z"⟩ : MethodName)) hown (mvT hZ (own_w hw 51 rfl)) (mvT hZ (own_w hw 52 rfl)) (notFace_of_selects (args := #[]) (mvT hZ (own_w hw 54 rfl))) (mvT hZ (own_w hw 54 rfl)) (mvT hZ (own_w hw 53 rfl)) (by decide) (backOf (W := 0) (rm10RN l Z a0 hw [] b27 tk1 T27.heap n0 Zs F_b27_token F_b27_name) hZ (own_w hw 55 rfl) (own_w hw 37 rfl) (by decide) (by decide)) q28a q28c (g := (mkF m 86 #[.val (.int p0), .val (.int p1), .val (.int p2), .val (.int 3), .val (.ref tk1), .val (.ref tk2), .val (.ref tk1), .val (.ref tk2), .val (.ref b24), .val (.int 0)] [(.ref b27)])) rfl (by rw [hml]; rfl) (Steps.refl _) (argsL := []) (rest := []) (lenOf pd_8 rfl) rfl (by show 2 * 0 + _ ≤ _; exact Nat.le_of_eq rfl) (hb hby at_86) (fun _ _ => ⟨rfl, rfl, (by decide : 8 + 0 ≤ _), (by decide : 20 + 0 ≤ _)⟩)
    dsimp only [Pt.U, Pt.locs, Pt.cells, Pt.slots] at X28 l28 y28 z28 st28 hQ28
    subst l28 y28 z28
    obtain ⟨hv28, Nq28, eq28⟩ := hQ28
    subst hv28
    replace Nf := Fr.app Nf Nq28
    refine own_goW (x' := T28.setTop (mkF m 89 #[.val (.int p0), .val (.int p1), .val (.int p2), .val (.int 3), .val (.ref tk1), .val (.ref tk2), .val (.ref tk1), .val (.ref tk2), .val (.ref b24), .val (.int 0)] [(.int 1)])) (fun _ k => st28.trans k) ?_
    refine own_goW (x' := T28.setTop (mkF m 94 #[.val (.int p0), .val (.int p1), .val (.int p2), .val (.int 3), .val (.ref tk1), .val (.ref tk2), .val (.ref tk1), .val (.ref tk2), .val (.ref b24), .val (.int 0)] [])) (fun _ k => XS.ifYes X28.here hx rfl (pc0 := 89) (pc' := 94) rfl (hb hby at_89) rfl ((if0 _ _).trans (feq (by decide +kernel : ¬ ((1 : Int32) = (0 : Int32)))).2) (by decide) (by decide) k) ?_
    obtain ⟨_, _, ⟨T29, L29, k29, n29⟩, -, X29, ⟨Lc29, hQ29, l29, y29, z29⟩, st29⟩ := Jvm.LawKit.callS X28 hx (y := (⟨"com/example/lean_bus/leanbus/api/Caller", "root", "()Lcom/example/lean_bus/leanbus/api/Caller;"⟩ : MethodName)) hown (mvT hZ (own_w hw 61 rfl)) (mvT hZ (own_w hw 62 rfl)) (mvT hZ (own_w hw 37 rfl)) (mvT hZ (own_w hw 63 rfl)) (by decide) (backOf (W := 0) (rm12 l Z a0 hw []  T27.heap n0 Zs ) hZ (own_w hw 63 rfl) (own_w hw 37 rfl) (by decide) (by decide)) (g := (mkF m 94 #[.val (.int p0), .val (.int p1), .val (.int p2), .val (.int 3), .val (.ref tk1), .val (.ref tk2), .val (.ref tk1), .val (.ref tk2), .val (.ref b24), .val (.int 0)] [])) rfl (by rw [hml]; rfl) (argsL := []) (rest := []) (lenOf pd_10 rfl) rfl (by show 2 * 0 + _ ≤ _; exact Nat.le_of_eq rfl) (hb hby at_94) (fun _ _ => ⟨rfl, eq28, (by decide : 8 + 1 ≤ _), (by decide : 20 + 2 ≤ _)⟩)
    dsimp only [Pt.U, Pt.locs, Pt.cells, Pt.slots] at X29 l29 y29 z29 st29 hQ29
    subst l29 y29 z29
    obtain ⟨b29, hv29, Nq29, K29, sq29, g_b29, E_b29, F_b29_token, F_b29_name⟩ := hQ29
    subst hv29
    replace Nf := Fr.app Nf Nq29
    have ne_b24_b29 : b24 ≠ b29 := Nat.ne_of_lt (Nat.lt_of_lt_of_le E_b24.lt sq29)
    have ne_b27_b29 : b27 ≠ b29 := Nat.ne_of_lt (Nat.lt_of_lt_of_le E_b27.lt sq29)
    replace Od := Od.keep K29 all0
    replace E_b24 := E_b24.keep K29
    replace F_b24_token := F_b24_token.keep K29 nin0
    replace F_b24_name := F_b24_name.keep K29 nin0
    replace E_b27 := E_b27.keep K29
    replace F_b27_token := F_b27_token.keep K29 nin0
    replace F_b27_name := F_b27_name.keep K29 nin0
    replace Zs := Nat.le_trans Zs K29.1
    replace hk := Nat.le_trans hk K29.1
    refine own_goW (x' := T29.setTop (mkF m 97 #[.val (.int p0), .val (.int p1), .val (.int p2), .val (.int 3), .val (.ref tk1), .val (.ref tk2), .val (.ref tk1), .val (.ref tk2), .val (.ref b24), .val (.int 0)] [(.ref b29)])) st29 ?_
    obtain ⟨cq30, kq30, q30a, q30b, q30c⟩ := isOf hZ rfl E_b29
    obtain ⟨_, _, ⟨T30, L30, k30, n30⟩, -, X30, ⟨Lc30, hQ30, l30, y30, z30⟩, st30⟩ := X29.virtualBack hx (y := (⟨"com/example/lean_bus/leanbus/api/Caller", "isUnchecked", "()Z"⟩ : MethodName)) (z := (⟨"com/example/lean_bus/leanbus/api/Caller", "isUnchecked", "()Z"⟩ : MethodName)) hown (mvT hZ (own_w hw 51 rfl)) (mvT hZ (own_w hw 52 rfl)) (notFace_of_selects (args := #[]) (mvT hZ (own_w hw 54 rfl))) (mvT hZ (own_w hw 54 rfl)) (mvT hZ (own_w hw 53 rfl)) (by decide) (backOf (W := 0) (rm10NN l Z a0 hw [] b29  T29.heap n0 Zs F_b29_token F_b29_name) hZ (own_w hw 55 rfl) (own_w hw 37 rfl) (by decide) (by decide)) q30a q30c (g := (mkF m 97 #[.val (.int p0), .val (.int p1), .val (.int p2), .val (.int 3), .val (.ref tk1), .val (.ref tk2), .val (.ref tk1), .val (.ref tk2), .val (.ref b24), .val (.int 0)] [(.ref b29)])) rfl (by rw [hml]; rfl) (Steps.refl _) (argsL := []) (rest := []) (lenOf pd_8 rfl) rfl (by show 2 * 0 + _ ≤ _; exact Nat.le_of_eq rfl) (hb hby at_97) (fun _ _ => ⟨rfl, rfl, (by decide : 9 + 0 ≤ _), (by decide : 22 + 0 ≤ _)⟩)
    dsimp only [Pt.U, Pt.locs, Pt.cells, Pt.slots] at X30 l30 y30 z30 st30 hQ30
    subst l30 y30 z30
    obtain ⟨hv30, Nq30, eq30⟩ := hQ30
    subst hv30
    replace Nf := Fr.app Nf Nq30
    refine own_goW (x' := T30.setTop (mkF m 100 #[.val (.int p0), .val (.int p1), .val (.int p2), .val (.int 3), .val (.ref tk1), .val (.ref tk2), .val (.ref tk1), .val (.ref tk2), .val (.ref b24), .val (.int 0)] [(.int 0)])) (fun _ k => st30.trans k) ?_
    refine own_goW (x' := T30.setTop (mkF m 106 #[.val (.int p0), .val (.int p1), .val (.int p2), .val (.int 3), .val (.ref tk1), .val (.ref tk2), .val (.ref tk1), .val (.ref tk2), .val (.ref b24), .val (.int 0)] [(.int 1)])) (fun _ k => XS.ifYes X30.here hx rfl (pc0 := 100) (pc' := 105) rfl (hb hby at_100) rfl ((if0 _ _).trans (teq rfl).1) (by decide) (by decide) (XS.iconst X30.here hx rfl (hb hby at_105) k)) ?_
    refine own_retNW X30 hS (own_hk eq30 hk) hx hlk (t := .boolean) hret (by simp) (hb hby at_106) (w := (1 : Int32)) rfl ?_ (by decide) (by decide)
    rw [eq30]
    exact ⟨rfl, Nf⟩
set_option maxRecDepth 65536 in
set_option maxHeartbeats 40000000 in
theorem comes_1 {Post : Tables → Env → Array Value → State → Outcome → State → Prop} (hpost : ∀ tb e args s v u, (limb_1_1.after args s (.returned v) u = true ∧ limb_1_2.after args s (.returned v) u = true ∧ True) → ReturnedEndW s (.returned v) u (Jvm.fieldLocs frame_1_writes args s ++ Jvm.arrayLocs frame_1_arrays args s ++ Jvm.staticLocs frame_1_statics s) 32 1152 → Post tb e args s (.returned v) u) :
    ArmFor flags0 classFile x code maxLocals ret World_1 tables_1 room_1 Calls_1 rest_1 Pre_1 Post := by
  intro l hfl _ _ p e ha hc hk s m args below hf hA hF happ hP
  obtain ⟨hcalls, hrest, hpre⟩ := hP
  obtain ⟨-, -, -, hnamed, -, -, -, hat⟩ := (Spec.applies_iff hf).mp happ
  obtain ⟨hg, hn⟩ := and_e (Cond.before_iff.mp (show (Jvm.Cond.and given_1 narrow_1).before args s = true from hpre))
  obtain ⟨gg1, gg2⟩ := and_e hg
  obtain ⟨gg3, gg4⟩ := and_e gg2
  obtain ⟨gg5, gg6⟩ := and_e gg4
  obtain ⟨w0, w1, w2, rfl⟩ : ∃ w0 w1 w2 : Value, args = #[w0, w1, w2] := by
    have hs : args.size = 3 := by simpa [Cond.value, given_1] using gg1
    obtain ⟨L⟩ := args
    match L, hs with
    | [w0, w1, w2], _ => exact ⟨w0, w1, w2, rfl⟩
  have hw := fun d (hd : d ∈ tables_1) => atoms_spec (ws := Jvm.Cond.code x code maxLocals ret :: tables_1) hat d (List.mem_cons_of_mem _ hd)
  have hfit : Fit s := fun {y c} hc i hi => by
    obtain ⟨ha, rfl⟩ := Array.getElem?_eq_some_iff.mp hc
    have q := List.all_eq_true.mp ((Array.all_eq_true_iff_forall_mem.mp hF) _ (Array.getElem_mem ha)) i (List.mem_range.mpr hi)
    simpa [Array.getElem?_eq_getElem hi] using q
  obtain ⟨hsets, hown0⟩ := atoms_of _ (rest_1_c_eq ▸ (show rest_1_c.before _ s = true from hrest))
  have hr0 := Cond.before_iff.mp hown0
  obtain ⟨i0, ei0⟩ := is_v gg3
  obtain rfl : w0 = (.int i0) := Option.some.inj ei0
  obtain ⟨i1, ei1⟩ := is_v gg5
  obtain rfl : w1 = (.int i1) := Option.some.inj ei1
  obtain ⟨i2, ei2⟩ := is_v gg6
  obtain rfl : w2 = (.int i2) := Option.some.inj ei2
  have nCS := not_v (Cond.before_iff.mp (hsets _ (List.mem_of_getElem? (i := 2) rfl)))
  obtain ⟨G1, eG1⟩ := is_v (Cond.before_iff.mp (hsets _ (List.mem_of_getElem? (i := 1) rfl)))
  have S_CS : Sta s s.heap "java/lang/String" "COMPACT_STRINGS" "Z" (.int G1) := Sta.start eG1 (Or.inl (hsets _ (List.mem_of_getElem? (i := 0) rfl)))
  have hG : ¬ (G1 = (0 : Int32)) := gotF (Cond.eq_ints eG1 (Term.int_eval (0))) nCS
  obtain ⟨n, o, h1, h2, h3, _, L, rfl, ⟨rfl, N⟩, hq⟩ := rm0 l s _ hw tables_1 i0 i1 i2 G1 s.heap s.heap.size (Nat.le_refl _) (Old.start s) S_CS hG p e ha hc hk s m _ below hf ((Spec.applies_iff_loose hf).mp happ).1 ⟨rfl, State.Warmed39.refl s, rfl⟩ trivial
  refine ⟨n, _, h1, h2, h3, hpost _ _ _ _ _ _ ⟨Cond.after_iff.mpr rfl, Cond.after_iff.mpr (eq_i res_at (Term.int_eval (1)) rfl), trivial⟩ ⟨hq.1, hq.2.1, hq.2.2.1, (hq.2.2.2.sift fun y hy => Or.inr (N y hy)).mono (by decide) (by decide)⟩⟩
theorem main_1_1 : Claimed_1_1 := comes_1 fun _ _ _ _ _ _ h hF => ⟨h.1, hF⟩
theorem main_1_2 : Claimed_1_2 := comes_1 fun _ _ _ _ _ _ h hF => ⟨h.2.1, hF⟩
end Jvm.Pilot.@@N@@
namespace Jvm.Pilot.@@N@@
open Jvm Jvm.ClassFile Sem Op Lib Jvm.Free Jvm.Stand Jvm.Pilot.@@N@@.Jvm.D
/-! MADE BY PROGRAM (witnessworld.py) out of the Statement's table words and the real class files: 21 classes; the members and pool entries that the words name. The judged class is class 1, her method 1. -/
namespace start1
open Jvm.ClassFile
def u (s : String) : CpInfo := .utf8 (stringToUtf16 s)
/-- a pool by its gaps: so many unusable entries, then the entry; so many at the end -/
def gap : Nat → List CpInfo → List CpInfo
  | 0, r => r
  | n + 1, r => .unusable :: gap n r
def poolList (es : List (Nat × CpInfo)) (last : Nat) : List CpInfo := es.foldr (fun e r => gap e.1 (e.2 :: r)) (gap last [])
def pool (es : List (Nat × CpInfo)) (last : Nat) : Array CpInfo := ⟨poolList es last⟩
def fileOf (pool : Array CpInfo) (this : Nat) (attrs : Array Attribute := #[]) (ms : Array MethodInfo := #[]) (fl : Nat := 33) (sup : Nat := 0) (ifs : Array Nat := #[]) (fds : Array FieldInfo := #[]) : ClassFile where
  minorVersion := 0
  majorVersion := 65
  constantPool := pool
  accessFlags := fl
  thisClass := this
  superClass := sup
  interfaces := ifs
  fields := fds
  methods := ms
  attributes := attrs
def plain (name : String) (sup : Option ClassId) : Class where
  name := name
  kind := .ordinary
  loader := none
  accessFlags := 33
  super := sup
  interfaces := #[]
  cf := none
  fields := #[]
  methods := #[]
  instanceTypes := #[]
  staticTypes := #[]
  resolved := #[]
  callSites := []
  init := .initialized
  statics := none
  mirror := none

def pool0 : Array CpInfo := pool [(5, u "<init>"), (0, u "()V"), (1, .class_ 10), (1, u "java/lang/Object")] 113

def k0c0 : Code := { maxStack := 0, maxLocals := 1, code := object_method_1_code, exceptionTable := #[], attributes := #[] }
def k0m0 : Method := { name := "<init>", desc := "()V", sig := { parameters := [], returnType := none }, accessFlags := 1, code := some k0c0 }
/-- java/lang/Object -/
def k0 : Class := { plain "java/lang/Object" none with
  accessFlags := 33
  interfaces := #[]
  cf := some (fileOf pool0 8 #[] #[{ accessFlags := 1, nameIndex := 5, descriptorIndex := 6, attributes := #[] }] 33 0 #[] #[])
  fields := #[]
  methods := #[k0m0]
  instanceTypes := #[]
  staticTypes := #[]
  resolved := Array.replicate 124 none
  statics := none }

def pool1 : Array CpInfo := pool [(2, .class_ 4), (1, u "java/lang/Object"), (0, u "<init>"), (0, u "()V"), (0, .methodref 8 9), (0, .class_ 10), (0, .nameAndType 11 12), (0, u "com/example/lean_bus/leanbus/api/CallerIsUncheckedPinLaw"), (0, u "str"), (0, u "(I)Ljava/lang/String;"), (0, .class_ 14), (0, u "com/example/lean_bus/leanbus/api/Caller"), (0, .methodref 13 16), (0, .nameAndType 5 17), (0, u "(Ljava/lang/String;Ljava/lang/String;)V"), (0, .methodref 13 19), (0, .nameAndType 20 21), (0, u "isUnchecked"), (0, u "()Z"), (0, .methodref 13 23), (0, .nameAndType 24 25), (0, u "unchecked"), (0, u "(Ljava/lang/String;)Lcom/example/lean_bus/leanbus/api/Caller;"), (0, .methodref 13 27), (0, .nameAndType 28 29), (0, u "root"), (0, u "()Lcom/example/lean_bus/leanbus/api/Caller;"), (0, .integer 65536), (0, .string 32), (0, u ""), (0, .class_ 34), (0, u "java/lang/String"), (0, .methodref 33 36), (0, .nameAndType 5 37), (0, u "([C)V"), (2, u "law"), (0, u "(III)Z")] 3

def k1m0 : Method := { name := "<init>", desc := "()V", sig := { parameters := [], returnType := none }, accessFlags := 1, code := none }
def k1c1 : Code := { maxStack := 4, maxLocals := 10, code := code, exceptionTable := #[], attributes := #[] }
def k1m1 : Method := { name := "law", desc := "(III)Z", sig := { parameters := [.int, .int, .int], returnType := some .boolean }, accessFlags := 9, code := some k1c1 }
def k1c2 : Code := { maxStack := 4, maxLocals := 2, code := method_3_code, exceptionTable := #[], attributes := #[] }
def k1m2 : Method := { name := "str", desc := "(I)Ljava/lang/String;", sig := { parameters := [.int], returnType := some (.object "java/lang/String") }, accessFlags := 10, code := some k1c2 }
/-- com/example/lean_bus/leanbus/api/CallerIsUncheckedPinLaw -/
def k1 : Class := { plain "com/example/lean_bus/leanbus/api/CallerIsUncheckedPinLaw" (some 0) with
  accessFlags := 49
  interfaces := #[]
  cf := some (fileOf pool1 8 #[] #[{ accessFlags := 1, nameIndex := 5, descriptorIndex := 6, attributes := #[] }, { accessFlags := 9, nameIndex := 40, descriptorIndex := 41, attributes := #[] }, { accessFlags := 10, nameIndex := 11, descriptorIndex := 12, attributes := #[] }] 49 2 #[] #[])
  fields := #[]
  methods := #[k1m0, k1m1, k1m2]
  instanceTypes := #[]
  staticTypes := #[]
  resolved := Array.replicate 45 none
  statics := none }

def pool2 : Array CpInfo := pool [(1, .class_ 2), (0, u "java/io/Serializable"), (0, .class_ 4), (0, u "java/lang/Object")] 2

/-- java/io/Serializable -/
def k2 : Class := { plain "java/io/Serializable" (some 0) with
  accessFlags := 1537
  interfaces := #[]
  cf := some (fileOf pool2 1 #[] #[] 1537 3 #[] #[])
  fields := #[]
  methods := #[]
  instanceTypes := #[]
  staticTypes := #[]
  resolved := Array.replicate 7 none
  statics := none }

def pool3 : Array CpInfo := pool [(1, .class_ 2), (0, u "java/lang/Comparable"), (0, .class_ 4), (0, u "java/lang/Object")] 7

/-- java/lang/Comparable -/
def k3 : Class := { plain "java/lang/Comparable" (some 0) with
  accessFlags := 1537
  interfaces := #[]
  cf := some (fileOf pool3 1 #[] #[] 1537 3 #[] #[])
  fields := #[]
  methods := #[]
  instanceTypes := #[]
  staticTypes := #[]
  resolved := Array.replicate 12 none
  statics := none }

def pool4 : Array CpInfo := pool [(2, .class_ 4), (1, u "java/lang/CharSequence"), (42, .class_ 48), (0, u "java/lang/CharSequence$1CodePointIterator"), (10, .class_ 60), (0, u "java/lang/CharSequence$1CharIterator"), (5, .class_ 67), (0, u "java/lang/Object")] 63

/-- java/lang/CharSequence -/
def k4 : Class := { plain "java/lang/CharSequence" (some 0) with
  accessFlags := 1537
  interfaces := #[]
  cf := some (fileOf pool4 2 #[.nestMembers #[47, 59]] #[] 1537 66 #[] #[])
  fields := #[]
  methods := #[]
  instanceTypes := #[]
  staticTypes := #[]
  resolved := Array.replicate 131 none
  statics := none }

def pool5 : Array CpInfo := pool [(1, .class_ 2), (0, u "java/lang/constant/Constable"), (0, .class_ 4), (0, u "java/lang/Object")] 6

/-- java/lang/constant/Constable -/
def k5 : Class := { plain "java/lang/constant/Constable" (some 0) with
  accessFlags := 1537
  interfaces := #[]
  cf := some (fileOf pool5 1 #[] #[] 1537 3 #[] #[])
  fields := #[]
  methods := #[]
  instanceTypes := #[]
  staticTypes := #[]
  resolved := Array.replicate 11 none
  statics := none }

def pool6 : Array CpInfo := pool [(1, .class_ 2), (0, u "java/lang/constant/ConstantDesc"), (0, .class_ 4), (0, u "java/lang/Object")] 32

/-- java/lang/constant/ConstantDesc -/
def k6 : Class := { plain "java/lang/constant/ConstantDesc" (some 0) with
  accessFlags := 1537
  interfaces := #[]
  cf := some (fileOf pool6 1 #[] #[] 1537 3 #[] #[])
  fields := #[]
  methods := #[]
  instanceTypes := #[]
  staticTypes := #[]
  resolved := Array.replicate 37 none
  statics := none }

def pool7 : Array CpInfo := pool [(1, .methodref 2 3), (0, .class_ 4), (0, .nameAndType 5 6), (0, u "java/lang/Object"), (0, u "<init>"), (0, u "()V"), (2, .fieldref 10 11), (0, .class_ 12), (0, .nameAndType 13 14), (0, u "java/lang/String"), (0, u "value"), (0, u "[B"), (0, .fieldref 10 16), (0, .nameAndType 17 18), (0, u "coder"), (0, u "B"), (2, u "hash"), (0, u "I"), (2, u "hashIsZero"), (0, u "Z"), (0, .methodref 10 28), (0, .nameAndType 5 29), (0, u "([CIILjava/lang/Void;)V"), (8, .fieldref 10 39), (0, .nameAndType 40 26), (0, u "COMPACT_STRINGS"), (1, .class_ 44), (1, u "java/lang/StringUTF16"), (0, u "compress"), (1, .methodref 42 48), (0, .nameAndType 49 50), (0, u "coderFromArrayLen"), (0, u "([BI)B"), (126, .methodref 42 178), (0, .nameAndType 45 179), (0, u "([CII)[B"), (395, .class_ 576), (0, u "java/lang/CharSequence"), (22, u "CASE_INSENSITIVE_ORDER"), (0, u "Ljava/util/Comparator;"), (409, u "([C)V"), (90, u "serialPersistentFields"), (0, u "[Ljava/io/ObjectStreamField;"), (0, .class_ 1104), (0, u "java/lang/String$CaseInsensitiveComparator"), (1, .class_ 1107), (0, u "java/io/Serializable"), (0, .class_ 1109), (0, u "java/lang/Comparable"), (0, .class_ 1111), (0, u "java/lang/constant/Constable"), (0, .class_ 1113), (0, u "java/lang/constant/ConstantDesc"), (2, u "serialVersionUID"), (0, u "J"), (3, u "REPL"), (0, u "C"), (2, u "LATIN1"), (1, u "UTF16")] 323

def k7m0 : Method := { name := "<init>", desc := "()V", sig := { parameters := [], returnType := none }, accessFlags := 1, code := none }
def k7c1 : Code := { maxStack := 5, maxLocals := 2, code := jdk_42_method_3_code, exceptionTable := #[], attributes := #[] }
def k7m1 : Method := { name := "<init>", desc := "([C)V", sig := { parameters := [(.array .char)], returnType := none }, accessFlags := 1, code := some k7c1 }
def k7c2 : Code := { maxStack := 4, maxLocals := 6, code := jdk_42_method_149_code, exceptionTable := #[], attributes := #[] }
def k7m2 : Method := { name := "<init>", desc := "([CIILjava/lang/Void;)V", sig := { parameters := [(.array .char), .int, .int, (.object "java/lang/Void")], returnType := none }, accessFlags := 2, code := some k7c2 }
/-- java/lang/String -/
def k7 : Class := { plain "java/lang/String" (some 0) with
  accessFlags := 49
  interfaces := #[2, 3, 4, 5, 6]
  cf := some (fileOf pool7 10 #[.nestMembers #[1103]] #[{ accessFlags := 1, nameIndex := 5, descriptorIndex := 6, attributes := #[] }, { accessFlags := 1, nameIndex := 5, descriptorIndex := 1010, attributes := #[] }, { accessFlags := 2, nameIndex := 5, descriptorIndex := 29, attributes := #[] }] 49 2 #[1106, 1108, 575, 1110, 1112] #[{ accessFlags := 18, nameIndex := 13, descriptorIndex := 14, attributes := #[] }, { accessFlags := 18, nameIndex := 17, descriptorIndex := 18, attributes := #[] }, { accessFlags := 2, nameIndex := 21, descriptorIndex := 22, attributes := #[] }, { accessFlags := 2, nameIndex := 25, descriptorIndex := 26, attributes := #[] }, { accessFlags := 26, nameIndex := 1116, descriptorIndex := 1117, attributes := #[] }, { accessFlags := 24, nameIndex := 40, descriptorIndex := 26, attributes := #[] }, { accessFlags := 26, nameIndex := 1101, descriptorIndex := 1102, attributes := #[] }, { accessFlags := 26, nameIndex := 1121, descriptorIndex := 1122, attributes := #[] }, { accessFlags := 25, nameIndex := 599, descriptorIndex := 600, attributes := #[] }, { accessFlags := 24, nameIndex := 1125, descriptorIndex := 18, attributes := #[] }, { accessFlags := 24, nameIndex := 1127, descriptorIndex := 18, attributes := #[] }])
  fields := #[{ name := "value", type := (.array .byte), accessFlags := 18, slot := 0, constantValue := 0 }, { name := "coder", type := .byte, accessFlags := 18, slot := 1, constantValue := 0 }, { name := "hash", type := .int, accessFlags := 2, slot := 2, constantValue := 0 }, { name := "hashIsZero", type := .boolean, accessFlags := 2, slot := 3, constantValue := 0 }, { name := "serialVersionUID", type := .long, accessFlags := 26, slot := 0, constantValue := 0 }, { name := "COMPACT_STRINGS", type := .boolean, accessFlags := 24, slot := 1, constantValue := 0 }, { name := "serialPersistentFields", type := (.array (.object "java/io/ObjectStreamField")), accessFlags := 26, slot := 2, constantValue := 0 }, { name := "REPL", type := .char, accessFlags := 26, slot := 3, constantValue := 0 }, { name := "CASE_INSENSITIVE_ORDER", type := (.object "java/util/Comparator"), accessFlags := 25, slot := 4, constantValue := 0 }, { name := "LATIN1", type := .byte, accessFlags := 24, slot := 5, constantValue := 0 }, { name := "UTF16", type := .byte, accessFlags := 24, slot := 6, constantValue := 0 }]
  methods := #[k7m0, k7m1, k7m2]
  instanceTypes := #[(.array .byte), .byte, .int, .boolean]
  staticTypes := #[.long, .boolean, (.array (.object "java/io/ObjectStreamField")), .char, (.object "java/util/Comparator"), .byte, .byte]
  resolved := Array.replicate 1451 none
  statics := some 0 }

def pool8 : Array CpInfo := pool [(6, .class_ 8), (1, u "java/lang/Object"), (0, u "<init>"), (0, u "()V"), (1, .class_ 14), (1, u "java/lang/StringUTF16"), (31, u "$assertionsDisabled"), (0, u "Z"), (13, u "HI_BYTE_SHIFT"), (0, u "I"), (2, u "LO_BYTE_SHIFT"), (49, .methodref 12 116), (0, .nameAndType 117 118), (0, u "compress"), (0, u "([CI[BII)I"), (3, u "([CII)[B"), (138, u "coderFromArrayLen"), (0, u "([BI)B"), (106, .class_ 371), (1, u "java/lang/StringUTF16$LinesSpliterator"), (58, u "MAX_LENGTH"), (196, .class_ 628), (0, u "java/lang/StringUTF16$CodePointsSpliterator"), (0, .class_ 630), (0, u "java/lang/StringUTF16$CharsSpliterator")] 4

def k8m0 : Method := { name := "<init>", desc := "()V", sig := { parameters := [], returnType := none }, accessFlags := 0, code := none }
def k8c1 : Code := { maxStack := 2, maxLocals := 2, code := jdk_52_method_15_code, exceptionTable := #[], attributes := #[] }
def k8m1 : Method := { name := "coderFromArrayLen", desc := "([BI)B", sig := { parameters := [(.array .byte), .int], returnType := some .byte }, accessFlags := 8, code := some k8c1 }
def k8c2 : Code := { maxStack := 5, maxLocals := 6, code := jdk_52_method_16_code, exceptionTable := #[], attributes := #[] }
def k8m2 : Method := { name := "compress", desc := "([CII)[B", sig := { parameters := [(.array .char), .int, .int], returnType := some (.array .byte) }, accessFlags := 9, code := some k8c2 }
def k8c3 : Code := { maxStack := 3, maxLocals := 7, code := jdk_52_method_21_code, exceptionTable := #[], attributes := #[] }
def k8m3 : Method := { name := "compress", desc := "([CI[BII)I", sig := { parameters := [(.array .char), .int, (.array .byte), .int, .int], returnType := some .int }, accessFlags := 9, code := some k8c3 }
/-- java/lang/StringUTF16 -/
def k8 : Class := { plain "java/lang/StringUTF16" (some 0) with
  accessFlags := 48
  interfaces := #[]
  cf := some (fileOf pool8 12 #[.nestMembers #[627, 629, 369]] #[{ accessFlags := 0, nameIndex := 9, descriptorIndex := 10, attributes := #[] }, { accessFlags := 8, nameIndex := 261, descriptorIndex := 262, attributes := #[] }, { accessFlags := 9, nameIndex := 117, descriptorIndex := 122, attributes := #[] }, { accessFlags := 9, nameIndex := 117, descriptorIndex := 118, attributes := #[] }] 48 6 #[] #[{ accessFlags := 26, nameIndex := 61, descriptorIndex := 62, attributes := #[] }, { accessFlags := 26, nameIndex := 65, descriptorIndex := 62, attributes := #[] }, { accessFlags := 24, nameIndex := 430, descriptorIndex := 62, attributes := #[] }, { accessFlags := 4120, nameIndex := 46, descriptorIndex := 47, attributes := #[] }])
  fields := #[{ name := "HI_BYTE_SHIFT", type := .int, accessFlags := 26, slot := 0, constantValue := 0 }, { name := "LO_BYTE_SHIFT", type := .int, accessFlags := 26, slot := 1, constantValue := 0 }, { name := "MAX_LENGTH", type := .int, accessFlags := 24, slot := 2, constantValue := 0 }, { name := "$assertionsDisabled", type := .boolean, accessFlags := 4120, slot := 3, constantValue := 0 }]
  methods := #[k8m0, k8m1, k8m2, k8m3]
  instanceTypes := #[]
  staticTypes := #[.int, .int, .int, .boolean]
  resolved := Array.replicate 635 none
  statics := none }

def pool9 : Array CpInfo := pool [(1, .methodref 2 3), (0, .class_ 4), (0, .nameAndType 5 6), (0, u "java/lang/Object"), (0, u "<init>"), (0, u "()V"), (0, .class_ 8), (0, u "java/lang/Record")] 13

def k9c0 : Code := { maxStack := 1, maxLocals := 1, code := jdk_30_method_1_code, exceptionTable := #[], attributes := #[] }
def k9m0 : Method := { name := "<init>", desc := "()V", sig := { parameters := [], returnType := none }, accessFlags := 4, code := some k9c0 }
/-- java/lang/Record -/
def k9 : Class := { plain "java/lang/Record" (some 0) with
  accessFlags := 1057
  interfaces := #[]
  cf := some (fileOf pool9 7 #[] #[{ accessFlags := 4, nameIndex := 5, descriptorIndex := 6, attributes := #[] }] 1057 2 #[] #[])
  fields := #[]
  methods := #[k9m0]
  instanceTypes := #[]
  staticTypes := #[]
  resolved := Array.replicate 22 none
  statics := none }

def pool10 : Array CpInfo := pool [(1, .methodref 2 3), (0, .class_ 4), (0, .nameAndType 5 6), (0, u "java/lang/Record"), (0, u "<init>"), (0, u "()V"), (0, .fieldref 8 9), (0, .class_ 10), (0, .nameAndType 11 12), (0, u "com/example/lean_bus/leanbus/api/Caller"), (0, u "token"), (0, u "Ljava/lang/String;"), (0, .fieldref 8 14), (0, .nameAndType 15 12), (0, u "name"), (0, .methodref 8 17), (0, .nameAndType 5 18), (0, u "(Ljava/lang/String;Ljava/lang/String;)V"), (3, u "()Z"), (17, u "root"), (0, u "()Lcom/example/lean_bus/leanbus/api/Caller;"), (0, u "unchecked"), (0, u "(Ljava/lang/String;)Lcom/example/lean_bus/leanbus/api/Caller;"), (1, u "isUnchecked")] 35

def k10c0 : Code := { maxStack := 2, maxLocals := 3, code := prog_2_method_1_code, exceptionTable := #[], attributes := #[] }
def k10m0 : Method := { name := "<init>", desc := "(Ljava/lang/String;Ljava/lang/String;)V", sig := { parameters := [(.object "java/lang/String"), (.object "java/lang/String")], returnType := none }, accessFlags := 0, code := some k10c0 }
def k10c1 : Code := { maxStack := 4, maxLocals := 0, code := prog_2_method_2_code, exceptionTable := #[], attributes := #[] }
def k10m1 : Method := { name := "root", desc := "()Lcom/example/lean_bus/leanbus/api/Caller;", sig := { parameters := [], returnType := some (.object "com/example/lean_bus/leanbus/api/Caller") }, accessFlags := 8, code := some k10c1 }
def k10c2 : Code := { maxStack := 4, maxLocals := 1, code := prog_2_method_3_code, exceptionTable := #[], attributes := #[] }
def k10m2 : Method := { name := "unchecked", desc := "(Ljava/lang/String;)Lcom/example/lean_bus/leanbus/api/Caller;", sig := { parameters := [(.object "java/lang/String")], returnType := some (.object "com/example/lean_bus/leanbus/api/Caller") }, accessFlags := 8, code := some k10c2 }
def k10c3 : Code := { maxStack := 1, maxLocals := 1, code := prog_2_method_5_code, exceptionTable := #[], attributes := #[] }
def k10m3 : Method := { name := "isUnchecked", desc := "()Z", sig := { parameters := [], returnType := some .boolean }, accessFlags := 0, code := some k10c3 }
/-- com/example/lean_bus/leanbus/api/Caller -/
def k10 : Class := { plain "com/example/lean_bus/leanbus/api/Caller" (some 9) with
  accessFlags := 48
  interfaces := #[]
  cf := some (fileOf pool10 8 #[] #[{ accessFlags := 0, nameIndex := 5, descriptorIndex := 18, attributes := #[] }, { accessFlags := 8, nameIndex := 40, descriptorIndex := 41, attributes := #[] }, { accessFlags := 8, nameIndex := 42, descriptorIndex := 43, attributes := #[] }, { accessFlags := 0, nameIndex := 45, descriptorIndex := 22, attributes := #[] }] 48 2 #[] #[{ accessFlags := 18, nameIndex := 11, descriptorIndex := 12, attributes := #[] }, { accessFlags := 18, nameIndex := 15, descriptorIndex := 12, attributes := #[] }])
  fields := #[{ name := "token", type := (.object "java/lang/String"), accessFlags := 18, slot := 0, constantValue := 0 }, { name := "name", type := (.object "java/lang/String"), accessFlags := 18, slot := 1, constantValue := 0 }]
  methods := #[k10m0, k10m1, k10m2, k10m3]
  instanceTypes := #[(.object "java/lang/String"), (.object "java/lang/String")]
  staticTypes := #[]
  resolved := Array.replicate 81 none
  statics := none }

def pool11 : Array CpInfo := pool [(4, .class_ 6), (1, u "java/lang/Object"), (0, u "<init>"), (0, u "()V"), (5, .class_ 16), (1, u "java/lang/StringLatin1"), (104, u "$assertionsDisabled"), (0, u "Z"), (98, .class_ 223), (1, u "java/lang/StringLatin1$LinesSpliterator"), (166, .class_ 391), (0, u "java/lang/StringLatin1$CharsSpliterator")] 3

def k11m0 : Method := { name := "<init>", desc := "()V", sig := { parameters := [], returnType := none }, accessFlags := 0, code := none }
/-- java/lang/StringLatin1 -/
def k11 : Class := { plain "java/lang/StringLatin1" (some 0) with
  accessFlags := 48
  interfaces := #[]
  cf := some (fileOf pool11 14 #[.nestMembers #[390, 221]] #[{ accessFlags := 0, nameIndex := 7, descriptorIndex := 8, attributes := #[] }] 48 4 #[] #[{ accessFlags := 4120, nameIndex := 121, descriptorIndex := 122, attributes := #[] }])
  fields := #[{ name := "$assertionsDisabled", type := .boolean, accessFlags := 4120, slot := 0, constantValue := 0 }]
  methods := #[k11m0]
  instanceTypes := #[]
  staticTypes := #[.boolean]
  resolved := Array.replicate 395 none
  statics := none }

def pool12 : Array CpInfo := pool [(2, .class_ 4), (1, u "java/lang/Object"), (0, u "<init>"), (0, u "()V"), (17, .class_ 26), (1, u "jdk/internal/util/Preconditions"), (28, .class_ 56), (0, u "jdk/internal/util/Preconditions$4"), (57, .class_ 115), (0, u "jdk/internal/util/Preconditions$1"), (7, u "SIOOBE_FORMATTER"), (0, u "Ljava/util/function/BiFunction;"), (0, .class_ 126), (0, u "jdk/internal/util/Preconditions$2"), (3, u "AIOOBE_FORMATTER"), (0, .class_ 132), (0, u "jdk/internal/util/Preconditions$3"), (3, u "IOOBE_FORMATTER")] 57

def k12m0 : Method := { name := "<init>", desc := "()V", sig := { parameters := [], returnType := none }, accessFlags := 1, code := none }
/-- jdk/internal/util/Preconditions -/
def k12 : Class := { plain "jdk/internal/util/Preconditions" (some 0) with
  accessFlags := 33
  interfaces := #[]
  cf := some (fileOf pool12 24 #[.nestMembers #[55, 131, 125, 114]] #[{ accessFlags := 1, nameIndex := 5, descriptorIndex := 6, attributes := #[] }] 33 2 #[] #[{ accessFlags := 25, nameIndex := 123, descriptorIndex := 124, attributes := #[] }, { accessFlags := 25, nameIndex := 130, descriptorIndex := 124, attributes := #[] }, { accessFlags := 25, nameIndex := 136, descriptorIndex := 124, attributes := #[] }])
  fields := #[{ name := "SIOOBE_FORMATTER", type := (.object "java/util/function/BiFunction"), accessFlags := 25, slot := 0, constantValue := 0 }, { name := "AIOOBE_FORMATTER", type := (.object "java/util/function/BiFunction"), accessFlags := 25, slot := 1, constantValue := 0 }, { name := "IOOBE_FORMATTER", type := (.object "java/util/function/BiFunction"), accessFlags := 25, slot := 2, constantValue := 0 }]
  methods := #[k12m0]
  instanceTypes := #[]
  staticTypes := #[(.object "java/util/function/BiFunction"), (.object "java/util/function/BiFunction"), (.object "java/util/function/BiFunction")]
  resolved := Array.replicate 194 none
  statics := some 1 }

def pool13 : Array CpInfo := pool [(9, u "<init>"), (6, .class_ 18), (1, u "java/lang/Object"), (0, u "()V"), (1, .class_ 23), (1, u "jdk/internal/util/ArraysSupport"), (0, u "LOG2_ARRAY_LONG_INDEX_SCALE"), (0, u "I"), (2, u "U"), (0, u "Ljdk/internal/misc/Unsafe;"), (8, u "BIG_ENDIAN"), (0, u "Z"), (8, u "LOG2_BYTE_BIT_SIZE"), (4, u "LOG2_ARRAY_INT_INDEX_SCALE"), (54, u "JLA"), (0, u "Ljdk/internal/access/JavaLangAccess;"), (11, u "LOG2_ARRAY_BOOLEAN_INDEX_SCALE"), (9, u "LOG2_ARRAY_BYTE_INDEX_SCALE"), (5, u "LOG2_ARRAY_CHAR_INDEX_SCALE"), (5, u "LOG2_ARRAY_SHORT_INDEX_SCALE"), (18, u "LOG2_ARRAY_FLOAT_INDEX_SCALE"), (24, u "LOG2_ARRAY_DOUBLE_INDEX_SCALE"), (89, u "T_BOOLEAN"), (2, u "T_CHAR"), (1, u "T_FLOAT"), (1, u "T_DOUBLE"), (1, u "T_BYTE"), (1, u "T_SHORT"), (1, u "T_INT"), (1, u "T_LONG"), (1, u "SOFT_MAX_ARRAY_LENGTH")] 83

def k13m0 : Method := { name := "<init>", desc := "()V", sig := { parameters := [], returnType := none }, accessFlags := 2, code := none }
/-- jdk/internal/util/ArraysSupport -/
def k13 : Class := { plain "jdk/internal/util/ArraysSupport" (some 0) with
  accessFlags := 33
  interfaces := #[]
  cf := some (fileOf pool13 21 #[] #[{ accessFlags := 2, nameIndex := 9, descriptorIndex := 19, attributes := #[] }] 33 16 #[] #[{ accessFlags := 24, nameIndex := 28, descriptorIndex := 29, attributes := #[] }, { accessFlags := 26, nameIndex := 38, descriptorIndex := 39, attributes := #[] }, { accessFlags := 25, nameIndex := 121, descriptorIndex := 25, attributes := #[] }, { accessFlags := 25, nameIndex := 131, descriptorIndex := 25, attributes := #[] }, { accessFlags := 25, nameIndex := 137, descriptorIndex := 25, attributes := #[] }, { accessFlags := 25, nameIndex := 143, descriptorIndex := 25, attributes := #[] }, { accessFlags := 25, nameIndex := 53, descriptorIndex := 25, attributes := #[] }, { accessFlags := 25, nameIndex := 24, descriptorIndex := 25, attributes := #[] }, { accessFlags := 25, nameIndex := 162, descriptorIndex := 25, attributes := #[] }, { accessFlags := 25, nameIndex := 187, descriptorIndex := 25, attributes := #[] }, { accessFlags := 26, nameIndex := 48, descriptorIndex := 25, attributes := #[] }, { accessFlags := 25, nameIndex := 277, descriptorIndex := 25, attributes := #[] }, { accessFlags := 25, nameIndex := 280, descriptorIndex := 25, attributes := #[] }, { accessFlags := 25, nameIndex := 282, descriptorIndex := 25, attributes := #[] }, { accessFlags := 25, nameIndex := 284, descriptorIndex := 25, attributes := #[] }, { accessFlags := 25, nameIndex := 286, descriptorIndex := 25, attributes := #[] }, { accessFlags := 25, nameIndex := 288, descriptorIndex := 25, attributes := #[] }, { accessFlags := 25, nameIndex := 290, descriptorIndex := 25, attributes := #[] }, { accessFlags := 25, nameIndex := 292, descriptorIndex := 25, attributes := #[] }, { accessFlags := 26, nameIndex := 108, descriptorIndex := 109, attributes := #[] }, { accessFlags := 25, nameIndex := 294, descriptorIndex := 25, attributes := #[] }])
  fields := #[{ name := "U", type := (.object "jdk/internal/misc/Unsafe"), accessFlags := 24, slot := 0, constantValue := 0 }, { name := "BIG_ENDIAN", type := .boolean, accessFlags := 26, slot := 1, constantValue := 0 }, { name := "LOG2_ARRAY_BOOLEAN_INDEX_SCALE", type := .int, accessFlags := 25, slot := 2, constantValue := 0 }, { name := "LOG2_ARRAY_BYTE_INDEX_SCALE", type := .int, accessFlags := 25, slot := 3, constantValue := 0 }, { name := "LOG2_ARRAY_CHAR_INDEX_SCALE", type := .int, accessFlags := 25, slot := 4, constantValue := 0 }, { name := "LOG2_ARRAY_SHORT_INDEX_SCALE", type := .int, accessFlags := 25, slot := 5, constantValue := 0 }, { name := "LOG2_ARRAY_INT_INDEX_SCALE", type := .int, accessFlags := 25, slot := 6, constantValue := 0 }, { name := "LOG2_ARRAY_LONG_INDEX_SCALE", type := .int, accessFlags := 25, slot := 7, constantValue := 0 }, { name := "LOG2_ARRAY_FLOAT_INDEX_SCALE", type := .int, accessFlags := 25, slot := 8, constantValue := 0 }, { name := "LOG2_ARRAY_DOUBLE_INDEX_SCALE", type := .int, accessFlags := 25, slot := 9, constantValue := 0 }, { name := "LOG2_BYTE_BIT_SIZE", type := .int, accessFlags := 26, slot := 10, constantValue := 0 }, { name := "T_BOOLEAN", type := .int, accessFlags := 25, slot := 11, constantValue := 0 }, { name := "T_CHAR", type := .int, accessFlags := 25, slot := 12, constantValue := 0 }, { name := "T_FLOAT", type := .int, accessFlags := 25, slot := 13, constantValue := 0 }, { name := "T_DOUBLE", type := .int, accessFlags := 25, slot := 14, constantValue := 0 }, { name := "T_BYTE", type := .int, accessFlags := 25, slot := 15, constantValue := 0 }, { name := "T_SHORT", type := .int, accessFlags := 25, slot := 16, constantValue := 0 }, { name := "T_INT", type := .int, accessFlags := 25, slot := 17, constantValue := 0 }, { name := "T_LONG", type := .int, accessFlags := 25, slot := 18, constantValue := 0 }, { name := "JLA", type := (.object "jdk/internal/access/JavaLangAccess"), accessFlags := 26, slot := 19, constantValue := 0 }, { name := "SOFT_MAX_ARRAY_LENGTH", type := .int, accessFlags := 25, slot := 20, constantValue := 0 }]
  methods := #[k13m0]
  instanceTypes := #[]
  staticTypes := #[(.object "jdk/internal/misc/Unsafe"), .boolean, .int, .int, .int, .int, .int, .int, .int, .int, .int, .int, .int, .int, .int, .int, .int, .int, .int, (.object "jdk/internal/access/JavaLangAccess"), .int]
  resolved := Array.replicate 378 none
  statics := none }

def pool14 : Array CpInfo := pool [(1, u "java/lang/Cloneable"), (0, .class_ 1), (0, u "java/lang/Object"), (0, .class_ 3)] 3

/-- java/lang/Cloneable -/
def k14 : Class := { plain "java/lang/Cloneable" (some 0) with
  accessFlags := 1537
  interfaces := #[]
  cf := some (fileOf pool14 2 #[] #[] 1537 4 #[] #[])
  fields := #[]
  methods := #[]
  instanceTypes := #[]
  staticTypes := #[]
  resolved := Array.replicate 8 none
  statics := none }

/-- the primitive byte -/
def k15 : Class := { plain "byte" none with kind := .primitive 'B', accessFlags := 0x411 }
/-- [B -/
def k16 : Class := { plain "[B" (some 0) with kind := .array 15 .byte, interfaces := #[14, 2], accessFlags := 1041 }

/-- the primitive char -/
def k17 : Class := { plain "char" none with kind := .primitive 'C', accessFlags := 0x411 }
/-- [C -/
def k18 : Class := { plain "[C" (some 0) with kind := .array 17 .char, interfaces := #[14, 2], accessFlags := 1041 }

/-- the primitive int -/
def k19 : Class := { plain "int" none with kind := .primitive 'I', accessFlags := 0x411 }
/-- [I -/
def k20 : Class := { plain "[I" (some 0) with kind := .array 19 .int, interfaces := #[14, 2], accessFlags := 1041 }

def heap : Heap := #[{ cls := 7, slots := #[.long 0, .int 1, .null, .int 0, .null, .int 0, .int 0], vm := .statics 7 },
  { cls := 12, slots := #[.null, .null, .null], vm := .statics 12 }]
def classes : Array Class := #[k0, k1, k2, k3, k4, k5, k6, k7, k8, k9, k10, k11, k12, k13, k14, k15, k16, k17, k18, k19, k20]
def interned : List (Array UInt16 × Addr) := []
def slotsUsed : Nat := 10
def theMethod : MethodId := ⟨1, 1⟩
def args0 : Array Value := #[.int 3, .int 4, .int 5]
def aboutOver (below : List Frame) : State where
  vm := { classes := classes, interned := interned.toArray }
  heap := heap
  slotsUsed := slotsUsed
  threads := #[{ frames := .invoking theMethod args0 :: below }]
def below0 : List Frame := [.native { method := ⟨0, 0⟩, args := #[] }]
def about1 : State := aboutOver below0
def p0 : Program := .bare "" "" ""
def e0 : Env := launch0.env 0 0 0
theorem w_frames : about1.frames = Frame.invoking theMethod args0 :: below0 := rfl
set_option maxRecDepth 65536 in
theorem w_args : argsFit about1.vm theMethod args0 = true := by decide +kernel
set_option maxRecDepth 65536 in
theorem w_heap : heapFits about1 = true := by decide +kernel
set_option maxRecDepth 65536 in
theorem w_runnable : about1.curStatus? = some .runnable := by decide +kernel
set_option maxRecDepth 65536 in
theorem w_alone : about1.alone = true := by decide +kernel
set_option maxRecDepth 65536 in
theorem w_named : about1.methodNamed? x = some theMethod := by decide +kernel
set_option maxRecDepth 65536 in
theorem w_hears : about1.hears theMethod below0 = true := by decide +kernel
set_option maxRecDepth 65536 in
theorem w_ripe : about1.ripe theMethod args0 below0 = true := by decide +kernel
theorem w_running : about1.status = .running := rfl
set_option maxRecDepth 65536 in
theorem w_room : about1.hasRoom e0.platform room_1 = true :=
  launch0.hasRoom_least _ room_1 (by decide +kernel) (by decide +kernel) (by decide +kernel) (by decide +kernel) (by decide +kernel) (by decide +kernel)
theorem allAtoms_all (ts : List Jvm.Cond) (a : Array Jvm.Value) (st : Jvm.State) : (allAtoms ts).before a st = ts.all (fun c => c.before a st) := by
  induction ts with
  | nil => rfl
  | cons c t ih =>
    show (Jvm.Cond.and c (allAtoms t)).before a st = _
    rw [Jvm.Cond.before_and, ih, List.all_cons]
def words1 : List Jvm.Cond := Jvm.Cond.code x code maxLocals ret :: tables_1
/-- a 'code' word, met by the world's own term for the bytes: nothing is compared byte by byte -/
theorem code_word {y : MethodName} {bytes : ByteArray} {mx : Nat} {rt : Option FieldType} {a : Array Value} {s : State} {m : MethodId} {meth : Method} {c : Code} (h1 : s.methodNamed? y = some m) (h2 : s.vm.method? m = some meth) (h3 : meth.code = some c) (h4 : c.code = bytes)
    (h5 : (c.maxLocals == mx && c.exceptionTable.isEmpty && decide (c.maxStack ≤ mostOperands) && decide (meth.sig.returnType = rt) && !meth.locks && decide (parseMethodDescriptor y.desc = some meth.sig)) = true) : (Jvm.Cond.code y bytes mx rt).before a s = true := by
  simp only [Bool.and_eq_true, beq_iff_eq, Bool.not_eq_true', decide_eq_true_eq] at h5
  obtain ⟨⟨⟨⟨⟨g1, g2⟩, g3⟩, g4⟩, g5⟩, g6⟩ := h5
  simp [Cond.before, Cond.holds, Cond.value, h1, h2, h3, h4, g1, g2, g3, g4, g5, g6]
def isCode : Jvm.Cond → Bool
  | .code _ _ _ _ => true
  | _ => false
theorem all_split {L : List Jvm.Cond} {P : Jvm.Cond → Bool} (h1 : L.all (fun c => isCode c || P c) = true) (h2 : ∀ c ∈ L.filter isCode, P c = true) : L.all P = true := by
  refine List.all_eq_true.mpr fun c hc => ?_
  have h := List.all_eq_true.mp h1 c hc
  rcases Bool.eq_false_or_eq_true (isCode c) with hi | hi
  · exact h2 c (List.mem_filter.mpr ⟨hc, hi⟩)
  · simpa [hi] using h
set_option maxRecDepth 65536 in
theorem w_c0 : (Jvm.Cond.code x code maxLocals ret).before args0 about1 = true := code_word (m := ⟨1, 1⟩) (meth := k1m1) (c := k1c1) (by decide +kernel) rfl rfl rfl (by decide +kernel)
set_option maxRecDepth 65536 in
theorem w_c1 : (Jvm.Cond.code ({ cls := "com/example/lean_bus/leanbus/api/CallerIsUncheckedPinLaw", name := "str", desc := "(I)Ljava/lang/String;" } : Jvm.MethodName) method_3_code (2 : Nat) (Option.some (Jvm.ClassFile.FieldType.object "java/lang/String"))).before args0 about1 = true := code_word (m := ⟨1, 2⟩) (meth := k1m2) (c := k1c2) (by decide +kernel) rfl rfl rfl (by decide +kernel)
set_option maxRecDepth 65536 in
theorem w_c2 : (Jvm.Cond.code ({ cls := "java/lang/String", name := "<init>", desc := "([C)V" } : Jvm.MethodName) jdk_42_method_3_code (2 : Nat) (Option.none : Option Jvm.ClassFile.FieldType)).before args0 about1 = true := code_word (m := ⟨7, 1⟩) (meth := k7m1) (c := k7c1) (by decide +kernel) rfl rfl rfl (by decide +kernel)
set_option maxRecDepth 65536 in
theorem w_c3 : (Jvm.Cond.code ({ cls := "java/lang/String", name := "<init>", desc := "([CIILjava/lang/Void;)V" } : Jvm.MethodName) jdk_42_method_149_code (6 : Nat) (Option.none : Option Jvm.ClassFile.FieldType)).before args0 about1 = true := code_word (m := ⟨7, 2⟩) (meth := k7m2) (c := k7c2) (by decide +kernel) rfl rfl rfl (by decide +kernel)
set_option maxRecDepth 65536 in
theorem w_c4 : (Jvm.Cond.code ({ cls := "java/lang/Object", name := "<init>", desc := "()V" } : Jvm.MethodName) object_method_1_code (1 : Nat) (Option.none : Option Jvm.ClassFile.FieldType)).before args0 about1 = true := code_word (m := ⟨0, 0⟩) (meth := k0m0) (c := k0c0) (by decide +kernel) rfl rfl rfl (by decide +kernel)
set_option maxRecDepth 65536 in
theorem w_c5 : (Jvm.Cond.code ({ cls := "java/lang/StringUTF16", name := "compress", desc := "([CII)[B" } : Jvm.MethodName) jdk_52_method_16_code (6 : Nat) (Option.some (Jvm.ClassFile.FieldType.array Jvm.ClassFile.FieldType.byte))).before args0 about1 = true := code_word (m := ⟨8, 2⟩) (meth := k8m2) (c := k8c2) (by decide +kernel) rfl rfl rfl (by decide +kernel)
set_option maxRecDepth 65536 in
theorem w_c6 : (Jvm.Cond.code ({ cls := "java/lang/StringUTF16", name := "compress", desc := "([CI[BII)I" } : Jvm.MethodName) jdk_52_method_21_code (7 : Nat) (Option.some Jvm.ClassFile.FieldType.int)).before args0 about1 = true := code_word (m := ⟨8, 3⟩) (meth := k8m3) (c := k8c3) (by decide +kernel) rfl rfl rfl (by decide +kernel)
set_option maxRecDepth 65536 in
theorem w_c7 : (Jvm.Cond.code ({ cls := "java/lang/StringUTF16", name := "coderFromArrayLen", desc := "([BI)B" } : Jvm.MethodName) jdk_52_method_15_code (2 : Nat) (Option.some Jvm.ClassFile.FieldType.byte)).before args0 about1 = true := code_word (m := ⟨8, 1⟩) (meth := k8m1) (c := k8c1) (by decide +kernel) rfl rfl rfl (by decide +kernel)
set_option maxRecDepth 65536 in
theorem w_c8 : (Jvm.Cond.code ({ cls := "com/example/lean_bus/leanbus/api/Caller", name := "<init>", desc := "(Ljava/lang/String;Ljava/lang/String;)V" } : Jvm.MethodName) prog_2_method_1_code (3 : Nat) (Option.none : Option Jvm.ClassFile.FieldType)).before args0 about1 = true := code_word (m := ⟨10, 0⟩) (meth := k10m0) (c := k10c0) (by decide +kernel) rfl rfl rfl (by decide +kernel)
set_option maxRecDepth 65536 in
theorem w_c9 : (Jvm.Cond.code ({ cls := "java/lang/Record", name := "<init>", desc := "()V" } : Jvm.MethodName) jdk_30_method_1_code (1 : Nat) (Option.none : Option Jvm.ClassFile.FieldType)).before args0 about1 = true := code_word (m := ⟨9, 0⟩) (meth := k9m0) (c := k9c0) (by decide +kernel) rfl rfl rfl (by decide +kernel)
set_option maxRecDepth 65536 in
theorem w_c10 : (Jvm.Cond.code ({ cls := "com/example/lean_bus/leanbus/api/Caller", name := "isUnchecked", desc := "()Z" } : Jvm.MethodName) prog_2_method_5_code (1 : Nat) (Option.some Jvm.ClassFile.FieldType.boolean)).before args0 about1 = true := code_word (m := ⟨10, 3⟩) (meth := k10m3) (c := k10c3) (by decide +kernel) rfl rfl rfl (by decide +kernel)
set_option maxRecDepth 65536 in
theorem w_c11 : (Jvm.Cond.code ({ cls := "com/example/lean_bus/leanbus/api/Caller", name := "unchecked", desc := "(Ljava/lang/String;)Lcom/example/lean_bus/leanbus/api/Caller;" } : Jvm.MethodName) prog_2_method_3_code (1 : Nat) (Option.some (Jvm.ClassFile.FieldType.object "com/example/lean_bus/leanbus/api/Caller"))).before args0 about1 = true := code_word (m := ⟨10, 2⟩) (meth := k10m2) (c := k10c2) (by decide +kernel) rfl rfl rfl (by decide +kernel)
set_option maxRecDepth 65536 in
theorem w_c12 : (Jvm.Cond.code ({ cls := "com/example/lean_bus/leanbus/api/Caller", name := "root", desc := "()Lcom/example/lean_bus/leanbus/api/Caller;" } : Jvm.MethodName) prog_2_method_2_code (0 : Nat) (Option.some (Jvm.ClassFile.FieldType.object "com/example/lean_bus/leanbus/api/Caller"))).before args0 about1 = true := code_word (m := ⟨10, 1⟩) (meth := k10m1) (c := k10c1) (by decide +kernel) rfl rfl rfl (by decide +kernel)
def codes1 : List Jvm.Cond := [Jvm.Cond.code x code maxLocals ret, Jvm.Cond.code ({ cls := "com/example/lean_bus/leanbus/api/CallerIsUncheckedPinLaw", name := "str", desc := "(I)Ljava/lang/String;" } : Jvm.MethodName) method_3_code (2 : Nat) (Option.some (Jvm.ClassFile.FieldType.object "java/lang/String")), Jvm.Cond.code ({ cls := "java/lang/String", name := "<init>", desc := "([C)V" } : Jvm.MethodName) jdk_42_method_3_code (2 : Nat) (Option.none : Option Jvm.ClassFile.FieldType), Jvm.Cond.code ({ cls := "java/lang/String", name := "<init>", desc := "([CIILjava/lang/Void;)V" } : Jvm.MethodName) jdk_42_method_149_code (6 : Nat) (Option.none : Option Jvm.ClassFile.FieldType), Jvm.Cond.code ({ cls := "java/lang/Object", name := "<init>", desc := "()V" } : Jvm.MethodName) object_method_1_code (1 : Nat) (Option.none : Option Jvm.ClassFile.FieldType), Jvm.Cond.code ({ cls := "java/lang/StringUTF16", name := "compress", desc := "([CII)[B" } : Jvm.MethodName) jdk_52_method_16_code (6 : Nat) (Option.some (Jvm.ClassFile.FieldType.array Jvm.ClassFile.FieldType.byte)), Jvm.Cond.code ({ cls := "java/lang/StringUTF16", name := "compress", desc := "([CI[BII)I" } : Jvm.MethodName) jdk_52_method_21_code (7 : Nat) (Option.some Jvm.ClassFile.FieldType.int), Jvm.Cond.code ({ cls := "java/lang/StringUTF16", name := "coderFromArrayLen", desc := "([BI)B" } : Jvm.MethodName) jdk_52_method_15_code (2 : Nat) (Option.some Jvm.ClassFile.FieldType.byte), Jvm.Cond.code ({ cls := "com/example/lean_bus/leanbus/api/Caller", name := "<init>", desc := "(Ljava/lang/String;Ljava/lang/String;)V" } : Jvm.MethodName) prog_2_method_1_code (3 : Nat) (Option.none : Option Jvm.ClassFile.FieldType), Jvm.Cond.code ({ cls := "java/lang/Record", name := "<init>", desc := "()V" } : Jvm.MethodName) jdk_30_method_1_code (1 : Nat) (Option.none : Option Jvm.ClassFile.FieldType), Jvm.Cond.code ({ cls := "com/example/lean_bus/leanbus/api/Caller", name := "isUnchecked", desc := "()Z" } : Jvm.MethodName) prog_2_method_5_code (1 : Nat) (Option.some Jvm.ClassFile.FieldType.boolean), Jvm.Cond.code ({ cls := "com/example/lean_bus/leanbus/api/Caller", name := "unchecked", desc := "(Ljava/lang/String;)Lcom/example/lean_bus/leanbus/api/Caller;" } : Jvm.MethodName) prog_2_method_3_code (1 : Nat) (Option.some (Jvm.ClassFile.FieldType.object "com/example/lean_bus/leanbus/api/Caller")), Jvm.Cond.code ({ cls := "com/example/lean_bus/leanbus/api/Caller", name := "root", desc := "()Lcom/example/lean_bus/leanbus/api/Caller;" } : Jvm.MethodName) prog_2_method_2_code (0 : Nat) (Option.some (Jvm.ClassFile.FieldType.object "com/example/lean_bus/leanbus/api/Caller"))]
set_option maxRecDepth 65536 in
theorem codes_eq : words1.filter isCode = codes1 := rfl
theorem w_codes : ∀ c ∈ words1.filter isCode, c.before args0 about1 = true := by
  rw [codes_eq]
  intro c hc
  simp only [codes1, List.mem_cons, List.not_mem_nil, or_false] at hc
  rcases hc with rfl | rfl | rfl | rfl | rfl | rfl | rfl | rfl | rfl | rfl | rfl | rfl | rfl
  · exact w_c0
  · exact w_c1
  · exact w_c2
  · exact w_c3
  · exact w_c4
  · exact w_c5
  · exact w_c6
  · exact w_c7
  · exact w_c8
  · exact w_c9
  · exact w_c10
  · exact w_c11
  · exact w_c12
set_option maxRecDepth 65536 in
theorem w_t1 : (words1.take 24).all (fun c => isCode c || c.before args0 about1) = true := by decide +kernel
set_option maxRecDepth 65536 in
theorem w_t2 : ((words1.drop 24).take 24).all (fun c => isCode c || c.before args0 about1) = true := by decide +kernel
set_option maxRecDepth 65536 in
theorem w_t3 : ((words1.drop 24).drop 24).all (fun c => isCode c || c.before args0 about1) = true := by decide +kernel
theorem w_tables : (allAtoms (Jvm.Cond.code x code maxLocals ret :: tables_1)).before args0 about1 = true := by
  rw [allAtoms_all]
  show words1.all (fun c => c.before args0 about1) = true
  refine all_split ?_ w_codes
  rw [← List.take_append_drop 24 words1, List.all_append, w_t1, ← List.take_append_drop 24 (words1.drop 24), List.all_append, w_t2, w_t3]
  rfl
set_option maxRecDepth 65536 in
theorem w_rest : rest_1_c.before args0 about1 = true := by decide +kernel
set_option maxRecDepth 65536 in
theorem w_case : (Jvm.Cond.and given_1 narrow_1).before args0 about1 = true := by decide +kernel
theorem w_applies : (headSpec (Jvm.Cond.code x code maxLocals ret :: tables_1) room_1).applies x e0.platform about1 = true :=
  (Spec.applies_iff w_frames).mpr ⟨w_running, w_runnable, w_alone, w_named, w_hears, w_ripe, w_room, w_tables⟩
theorem atStart : AtStart classFile x code maxLocals ret World_1 tables_1 room_1 Calls_1 rest_1 Pre_1 launch0 p0 e0 about1 theMethod args0 below0 :=
  ⟨lists_1, trivial, launch0.admits_env _ _ _, launch0.least_env, fairChoices_fair.cas, fairChoices_fair.clock, w_frames, w_args, w_heap, w_applies, trivial, w_rest, w_case⟩
end start1
theorem witness_1 : WitnessClaimed_1 := ⟨start1.p0, start1.e0, start1.about1, start1.theMethod, start1.args0, start1.below0, start1.atStart⟩
end Jvm.Pilot.@@N@@
