import JvmDerived
import JvmDerived.Pilot.@@N@@Statement
import JvmDerived.Pilot.@@N@@Code
set_option linter.unusedVariables false
set_option linter.unusedSimpArgs false
namespace Jvm.Pilot.@@N@@
open Jvm Jvm.ClassFile Sem Op Lib Jvm.Free Jvm.Stand Jvm.LawKit Jvm.RoadKit Bundle Jvm.Pilot.@@N@@.Jvm.D
section OwnKit
variable {p : Program} {l : Launch} {e : Env} {R : Room} {s : State} {m : MethodId} {args : Array Value} {below : List Frame} {meth : Method} {c : Code} {T : State} {locs : List Loc} {cells slots : Nat} {Q : Option Value → Heap → List Loc → Prop} {C S : Nat}
/-- from x the run ends, returning, with what Q says -/
def own_End (p : Program) (e : Env) (below : List Frame) (s : State) (Q : Option Value → Heap → List Loc → Prop) (C S : Nat) (x : State) : Prop :=
  ∃ t o, Steps p.tables e below x t ∧ t.status = .running ∧ Ended t below o ∧ ∃ v L, o = .returned v ∧ Q v t.heap L ∧ FrameEnd s o t L C S
theorem own_go {x x' : State} (h : ∀ t, Steps p.tables e below x' t → Steps p.tables e below x t) (k : own_End p e below s Q C S x') : own_End p e below s Q C S x := by
  obtain ⟨t, o, h1, h2⟩ := k
  exact ⟨t, o, h t h1, h2⟩
theorem own_mono {Q' : Option Value → Heap → List Loc → Prop} {x : State} (h : ∀ v h L, Q v h L → Q' v h L) (k : own_End p e below s Q C S x) : own_End p e below s Q' C S x := by
  obtain ⟨t, o, h1, h2, h3, v, L, h4, h5, h6⟩ := k
  exact ⟨t, o, h1, h2, h3, v, L, h4, h _ _ _ h5, h6⟩
theorem own_out (X : Stand p l e R s m args below meth c T locs cells slots) (hlk : meth.locks = false) {v : Option Value} (hv : meth.sig.returnType = none → v = none) {x : State}
    (h : ∀ fs, (∀ (f : JFrame) (acts : List Action), f.method = m → f.locked = none → f.entered = [] → (doReturn e (T.setTop f) acts v).1 = T.setFrames fs) → Steps p.tables e below x (T.setFrames fs))
    (hq : Q v T.heap locs) (hc : cells ≤ C) (hs : slots ≤ S) : own_End p e below s Q C S x := by
  obtain ⟨fs, hr, hrun, hended, hW, hsame⟩ := X.leave hv hlk
  exact ⟨_, _, h fs hr, hrun, hended, _, _, rfl, hq, ⟨_, rfl⟩, hW, hsame.mono hc hs⟩
theorem own_retV (X : Stand p l e R s m args below meth c T locs cells slots) (hx : p.tables.exec = Jvm.exec) (hlk : meth.locks = false) {pc : Nat} {Ls : Array Slot} (hret : meth.sig.returnType = none) (hd : decode c.code pc = .ok (.return_, 1))
    (hq : Q none T.heap locs) (hc : cells ≤ C) (hs : slots ≤ S) : own_End p e below s Q C S (T.setTop (mkF m pc Ls [])) :=
  own_out X hlk (fun _ => rfl) (fun fs hr => X.returnOut hx hret hd hr) hq hc hs
theorem own_retN (X : Stand p l e R s m args below meth c T locs cells slots) (hx : p.tables.exec = Jvm.exec) (hlk : meth.locks = false) {pc : Nat} {Ls : Array Slot} {z w : Int32} {t : FieldType} {rest : List Value} (hret : meth.sig.returnType = some t) (ht : t = .boolean ∨ t = .byte ∨ t = .char ∨ t = .short) (hd : decode c.code pc = .ok (.ireturn, 1))
    (hz : nar t z = w) (hq : Q (some (.int w)) T.heap locs) (hc : cells ≤ C) (hs : slots ≤ S) : own_End p e below s Q C S (T.setTop (mkF m pc Ls (.int z :: rest))) := by
  subst hz
  exact own_out X hlk (fun h => by rw [hret] at h; cases h) (fun fs hr => retN X hx hret ht hd hr) hq hc hs
theorem own_retI (X : Stand p l e R s m args below meth c T locs cells slots) (hx : p.tables.exec = Jvm.exec) (hlk : meth.locks = false) {pc : Nat} {Ls : Array Slot} {z : Int32} {rest : List Value} (hret : meth.sig.returnType = some .int) (hd : decode c.code pc = .ok (.ireturn, 1))
    (hq : Q (some (.int z)) T.heap locs) (hc : cells ≤ C) (hs : slots ≤ S) : own_End p e below s Q C S (T.setTop (mkF m pc Ls (.int z :: rest))) :=
  own_out X hlk (fun h => by rw [hret] at h; cases h) (fun fs hr => retOut X hx hret rfl (Or.inl ⟨rfl, Or.inl rfl, _, rfl⟩) hd hr) hq hc hs
theorem own_retJ (X : Stand p l e R s m args below meth c T locs cells slots) (hx : p.tables.exec = Jvm.exec) (hlk : meth.locks = false) {pc : Nat} {Ls : Array Slot} {z : Int64} {rest : List Value} (hret : meth.sig.returnType = some .long) (hd : decode c.code pc = .ok (.lreturn, 1))
    (hq : Q (some (.long z)) T.heap locs) (hc : cells ≤ C) (hs : slots ≤ S) : own_End p e below s Q C S (T.setTop (mkF m pc Ls (.long z :: rest))) :=
  own_out X hlk (fun h => by rw [hret] at h; cases h) (fun fs hr => retOut X hx hret rfl (Or.inr (Or.inl ⟨rfl, rfl, _, rfl⟩)) hd hr) hq hc hs
theorem own_retR (X : Stand p l e R s m args below meth c T locs cells slots) (hx : p.tables.exec = Jvm.exec) (hlk : meth.locks = false) {pc : Nat} {Ls : Array Slot} {z : Value} {t : FieldType} {rest : List Value} (hret : meth.sig.returnType = some t) (ht : t.isReference = true) (hv : z.isRef = true) (hd : decode c.code pc = .ok (.areturn, 1))
    (hq : Q (some z) T.heap locs) (hc : cells ≤ C) (hs : slots ≤ S) : own_End p e below s Q C S (T.setTop (mkF m pc Ls (z :: rest))) :=
  own_out X hlk (fun h => by rw [hret] at h; cases h) (fun fs hr => retOut X hx hret (by cases t <;> first | rfl | cases ht) (Or.inr (Or.inr (Or.inr (Or.inr ⟨rfl, ht, hv⟩)))) hd hr) hq hc hs
theorem own_w {a0 : Array Value} {Z : State} (hw : ∀ d ∈ tables_1, d.before a0 Z = true) (i : Nat) {d : Jvm.Cond} (h : tables_1[i]? = some d) : d.before a0 Z = true := hw _ (List.mem_of_getElem? h)
end OwnKit
theorem d2_0 : decode jdk_30_method_1_code 0 = .ok (.aload_n 0, 1) := by decide +kernel
theorem d2_1 : decode jdk_30_method_1_code 1 = .ok (.invokespecial 1, 3) := by decide +kernel
theorem d2_4 : decode jdk_30_method_1_code 4 = .ok (.return_, 1) := by decide +kernel
def Q_rm2 (Z : State) (ao0 : Addr) (h0 : Heap) (n0 : Nat) (v : Option Value) (h : Heap) (L : List Loc) : Prop := v = none ∧ Fr n0 L ∧ h = h0
theorem pn_rm2 : plainName "java/lang/Record" = true := by first | (simp [plainName, overriddenIn]; done) | decide +kernel
theorem ef_rm2 (m : MethodId) (x0 : Addr) : entryFrame m #[(.ref x0)] 1 = mkF m 0 #[.val (.ref x0)] [] := by first | (simp [entryFrame, mkF, argsToLocals, Value.category]; done) | rfl
set_option maxRecDepth 65536 in
set_option maxHeartbeats 40000000 in
theorem rm2 (l : Launch) (Z : State) (a0 : Array Value) (hw : ∀ d ∈ tables_1, d.before a0 Z = true) (ws : List Jvm.Cond) (ao0 : Addr) (h0 : Heap) (n0 : Nat) (Z0 : n0 ≤ h0.size) :
    MetFree l (⟨"java/lang/Record", "<init>", "()V"⟩ : MethodName) (head1 (Jvm.Cond.code (⟨"java/lang/Record", "<init>", "()V"⟩ : MethodName) jdk_30_method_1_code 1 none :: ws) ({ frames := 1, cells := 0, slots := 0, locals := 12 } : Room)) (fun a U => a = #[(.ref ao0)] ∧ Z.Warmed39 U.vm ∧ U.heap = h0) (fun _ _ _ _ _ => True) (fun _ U o U' => ∃ v L, o = .returned v ∧ (Q_rm2 Z ao0 h0 n0) v U'.heap L ∧ FrameEnd U o U' L ({ frames := 1, cells := 0, slots := 0, locals := 12 } : Room).cells ({ frames := 1, cells := 0, slots := 0, locals := 12 } : Room).slots) := by
  refine MetFree.of_bodySF (plainFor_of_name pn_rm2) hisR ?_
  intro p e s m args below meth c s₁ Bd hml0 hP hK
  obtain ⟨rfl, hZ, hh⟩ := hP
  have hx := Bd.exec
  have hby := Bd.bytes
  have hlk := BodyLoose.notSynchronized Bd
  have hret := Bd.returns
  have hml : c.maxLocals = 1 := hml0
  have hown : s.vm.findClass "java/lang/Record" = some m.cls := findClass_of_methodNamed Bd.named
  have hnm := (name_of_methodNamed Bd.named Bd.method).1
  have X0 : Stand p l e ({ frames := 1, cells := 0, slots := 0, locals := 12 } : Room) s m #[(.ref ao0)] below meth c s₁ [] 0 0 := Stand.of_body Bd
  have e0 : s₁.heap = h0 := by rw [← hh, Bd.state]; rfl
  have Nf := Fr.nil n0
  have Zs := Z0
  have Kp : Keep h0 h0 [] := Keep.refl _ _
  show own_End p e below s (Q_rm2 Z ao0 h0 n0) ({ frames := 1, cells := 0, slots := 0, locals := 12 } : Room).cells ({ frames := 1, cells := 0, slots := 0, locals := 12 } : Room).slots (s₁.setTop (entryFrame m #[(.ref ao0)] 1))
  refine own_go (x' := s₁.setTop (mkF m 0 #[.val (.ref ao0)] [])) (fun t k => castTop (ef_rm2 m ao0) k) ?_
  refine own_go (x' := s₁.setTop (mkF m 1 #[.val (.ref ao0)] [(.ref ao0)])) (fun _ k => XS.aloadN X0.here hx rfl (hb hby d2_0) rfl rfl k) ?_
  obtain ⟨T1, X1, e1, st1⟩ := initO X0 hx hZ hown (own_w hw 11 rfl) (own_w hw 12 rfl) (own_w hw 13 rfl) e0 (g := (mkF m 1 #[.val (.ref ao0)] [(.ref ao0)])) rfl (by rw [hml]; rfl) rfl (hb hby d2_1) (by decide) (W := 0) (by show 2 * 0 + _ ≤ _; exact Nat.le_of_eq rfl) (by decide)
  refine own_go (x' := T1.setTop (mkF m 4 #[.val (.ref ao0)] [])) st1 ?_
  refine own_retV X1 hx hlk hret (hb hby d2_4) ?_ (by decide) (by decide)
  rw [e1]
  exact ⟨rfl, Nf, rfl⟩
theorem pd_0 : parseMethodDescriptor "()V" = some ⟨[], none⟩ := by decide +kernel
theorem d1_0 : decode prog_11_method_2_code 0 = .ok (.aload_n 0, 1) := by decide +kernel
theorem d1_1 : decode prog_11_method_2_code 1 = .ok (.invokespecial 1, 3) := by decide +kernel
theorem d1_4 : decode prog_11_method_2_code 4 = .ok (.aload_n 0, 1) := by decide +kernel
theorem d1_5 : decode prog_11_method_2_code 5 = .ok (.lload_n 1, 1) := by decide +kernel
theorem d1_6 : decode prog_11_method_2_code 6 = .ok (.putfield 7, 3) := by decide +kernel
theorem d1_9 : decode prog_11_method_2_code 9 = .ok (.aload_n 0, 1) := by decide +kernel
theorem d1_10 : decode prog_11_method_2_code 10 = .ok (.lload_n 3, 1) := by decide +kernel
theorem d1_11 : decode prog_11_method_2_code 11 = .ok (.putfield 13, 3) := by decide +kernel
theorem d1_14 : decode prog_11_method_2_code 14 = .ok (.aload_n 0, 1) := by decide +kernel
theorem d1_15 : decode prog_11_method_2_code 15 = .ok (.lload 5, 2) := by decide +kernel
theorem d1_17 : decode prog_11_method_2_code 17 = .ok (.putfield 16, 3) := by decide +kernel
theorem d1_20 : decode prog_11_method_2_code 20 = .ok (.return_, 1) := by decide +kernel
def Q_rm1 (Z : State) (ao0 : Addr) (q1 : Int64) (q2 : Int64) (q3 : Int64) (h0 : Heap) (n0 : Nat) (v : Option Value) (h : Heap) (L : List Loc) : Prop := v = none ∧ Fr n0 L ∧ Keep h0 h [ao0] ∧ Exa Z h ao0 "com/example/lean_bus/leanbus/store/MemoryLimits" ∧ Fld Z h ao0 "com/example/lean_bus/leanbus/store/MemoryLimits" "max" "J" (.long q1) ∧ Fld Z h ao0 "com/example/lean_bus/leanbus/store/MemoryLimits" "minFree" "J" (.long q2) ∧ Fld Z h ao0 "com/example/lean_bus/leanbus/store/MemoryLimits" "statuses" "J" (.long q3)
theorem pn_rm1 : plainName "com/example/lean_bus/leanbus/store/MemoryLimits" = true := by first | (simp [plainName, overriddenIn]; done) | decide +kernel
theorem ef_rm1 (m : MethodId) (x0 : Addr) (x1 : Int64) (x2 : Int64) (x3 : Int64) : entryFrame m #[(.ref x0), (.long x1), (.long x2), (.long x3)] 7 = mkF m 0 #[.val (.ref x0), .val (.long x1), .second, .val (.long x2), .second, .val (.long x3), .second] [] := by first | (simp [entryFrame, mkF, argsToLocals, Value.category]; done) | rfl
set_option maxRecDepth 65536 in
set_option maxHeartbeats 40000000 in
theorem rm1 (l : Launch) (Z : State) (a0 : Array Value) (hw : ∀ d ∈ tables_1, d.before a0 Z = true) (ws : List Jvm.Cond) (ao0 : Addr) (q1 : Int64) (q2 : Int64) (q3 : Int64) (h0 : Heap) (n0 : Nat) (Z0 : n0 ≤ h0.size) (E_ao0 : Exa Z h0 ao0 "com/example/lean_bus/leanbus/store/MemoryLimits") (F_ao0_max : Fld Z h0 ao0 "com/example/lean_bus/leanbus/store/MemoryLimits" "max" "J" (.long (0 : Int64))) (F_ao0_minFree : Fld Z h0 ao0 "com/example/lean_bus/leanbus/store/MemoryLimits" "minFree" "J" (.long (0 : Int64))) (F_ao0_statuses : Fld Z h0 ao0 "com/example/lean_bus/leanbus/store/MemoryLimits" "statuses" "J" (.long (0 : Int64))) (g_ao0 : n0 ≤ ao0) :
    MetFree l (⟨"com/example/lean_bus/leanbus/store/MemoryLimits", "<init>", "(JJJ)V"⟩ : MethodName) (head1 (Jvm.Cond.code (⟨"com/example/lean_bus/leanbus/store/MemoryLimits", "<init>", "(JJJ)V"⟩ : MethodName) prog_11_method_2_code 7 none :: ws) ({ frames := 2, cells := 0, slots := 0, locals := 24 } : Room)) (fun a U => a = #[(.ref ao0), (.long q1), (.long q2), (.long q3)] ∧ Z.Warmed39 U.vm ∧ U.heap = h0) (fun _ _ _ _ _ => True) (fun _ U o U' => ∃ v L, o = .returned v ∧ (Q_rm1 Z ao0 q1 q2 q3 h0 n0) v U'.heap L ∧ FrameEnd U o U' L ({ frames := 2, cells := 0, slots := 0, locals := 24 } : Room).cells ({ frames := 2, cells := 0, slots := 0, locals := 24 } : Room).slots) := by
  refine MetFree.of_bodySF (plainFor_of_name pn_rm1) hisR ?_
  intro p e s m args below meth c s₁ Bd hml0 hP hK
  obtain ⟨rfl, hZ, hh⟩ := hP
  have hx := Bd.exec
  have hby := Bd.bytes
  have hlk := BodyLoose.notSynchronized Bd
  have hret := Bd.returns
  have hml : c.maxLocals = 7 := hml0
  have hown : s.vm.findClass "com/example/lean_bus/leanbus/store/MemoryLimits" = some m.cls := findClass_of_methodNamed Bd.named
  have hnm := (name_of_methodNamed Bd.named Bd.method).1
  have X0 : Stand p l e ({ frames := 2, cells := 0, slots := 0, locals := 24 } : Room) s m #[(.ref ao0), (.long q1), (.long q2), (.long q3)] below meth c s₁ [] 0 0 := Stand.of_body Bd
  have e0 : s₁.heap = h0 := by rw [← hh, Bd.state]; rfl
  have Nf := Fr.nil n0
  have Zs := Z0
  have Kp : Keep h0 h0 [ao0] := Keep.refl _ _
  show own_End p e below s (Q_rm1 Z ao0 q1 q2 q3 h0 n0) ({ frames := 2, cells := 0, slots := 0, locals := 24 } : Room).cells ({ frames := 2, cells := 0, slots := 0, locals := 24 } : Room).slots (s₁.setTop (entryFrame m #[(.ref ao0), (.long q1), (.long q2), (.long q3)] 7))
  refine own_go (x' := s₁.setTop (mkF m 0 #[.val (.ref ao0), .val (.long q1), .second, .val (.long q2), .second, .val (.long q3), .second] [])) (fun t k => castTop (ef_rm1 m ao0 q1 q2 q3) k) ?_
  refine own_go (x' := s₁.setTop (mkF m 1 #[.val (.ref ao0), .val (.long q1), .second, .val (.long q2), .second, .val (.long q3), .second] [(.ref ao0)])) (fun _ k => XS.aloadN X0.here hx rfl (hb hby d1_0) rfl rfl k) ?_
  obtain ⟨_, _, ⟨T1, L1, k1, n1⟩, -, X1, ⟨Lc1, hQ1, l1, y1, z1⟩, st1⟩ := X0.specialBack hx (y := (⟨"java/lang/Record", "<init>", "()V"⟩ : MethodName)) rfl hown (mvT hZ (own_w hw 6 rfl)) (mvT hZ (own_w hw 7 rfl)) (mvT hZ (own_w hw 10 rfl)) (by decide) (backOf (W := 0) (rm2 l Z a0 hw [] ao0 h0 n0 Zs ) hZ (own_w hw 10 rfl) (own_w hw 9 rfl) (by decide) (by decide)) (g := (mkF m 1 #[.val (.ref ao0), .val (.long q1), .second, .val (.long q2), .second, .val (.long q3), .second] [(.ref ao0)])) rfl (by rw [hml]; rfl) (Steps.refl _) (a := ao0) (argsL := []) (rest := []) (lenOf pd_0 rfl) rfl (by show 2 * 0 + _ ≤ _; exact Nat.le_of_eq rfl) (hb hby d1_1) (fun _ _ => ⟨rfl, e0, (by decide : 0 + 0 ≤ _), (by decide : 0 + 0 ≤ _)⟩)
  dsimp only [Pt.U, Pt.locs, Pt.cells, Pt.slots] at X1 l1 y1 z1 st1 hQ1
  subst l1 y1 z1
  obtain ⟨hv1, Nq1, eq1⟩ := hQ1
  subst hv1
  replace Nf := Fr.app Nf Nq1
  refine own_go (x' := T1.setTop (mkF m 4 #[.val (.ref ao0), .val (.long q1), .second, .val (.long q2), .second, .val (.long q3), .second] [])) (fun _ k => st1.trans k) ?_
  refine own_go (x' := T1.setTop (mkF m 6 #[.val (.ref ao0), .val (.long q1), .second, .val (.long q2), .second, .val (.long q3), .second] [(.long q1), (.ref ao0)])) (fun _ k => XS.aloadN X1.here hx rfl (hb hby d1_4) rfl rfl (XS.lloadN X1.here hx rfl (hb hby d1_5) rfl k)) ?_
  obtain ⟨T2, h2, X2, e2, W2, st2⟩ := putF X1 hx hZ hown (host := "") (Or.inl (own_w hw 14 rfl)) Via.refl eq1 F_ao0_max E_ao0 (Or.inr ⟨(own_w hw 15 rfl), rfl, hnm⟩) (own_w hw 1 rfl) (ty := .long) (by decide) rfl rfl (g := (mkF m 6 #[.val (.ref ao0), .val (.long q1), .second, .val (.long q2), .second, .val (.long q3), .second] [(.long q1), (.ref ao0)])) rfl rfl (hb hby d1_6)
  refine own_go (x' := T2.setTop (mkF m 9 #[.val (.ref ao0), .val (.long q1), .second, .val (.long q2), .second, .val (.long q3), .second] [])) st2 ?_
  replace E_ao0 := Exa.wr W2 E_ao0
  replace F_ao0_max := Fld.same W2 F_ao0_max
  replace F_ao0_minFree := Fld.other W2 F_ao0_minFree (Or.inr (slot_ne (Or.inr (own_w hw 17 rfl)) (Or.inr (own_w hw 15 rfl)) (by decide) (t := .long) (t' := .long) (by decide) (by decide)))
  replace F_ao0_statuses := Fld.other W2 F_ao0_statuses (Or.inr (slot_ne (Or.inr (own_w hw 19 rfl)) (Or.inr (own_w hw 15 rfl)) (by decide) (t := .long) (t' := .long) (by decide) (by decide)))
  replace Zs := Nat.le_trans Zs (Keep.of_wr W2).1
  replace Nf := Fr.snoc X2 Nf g_ao0
  replace Kp := Kp.wr W2 (Or.inl (by simp))
  refine own_go (x' := T2.setTop (mkF m 11 #[.val (.ref ao0), .val (.long q1), .second, .val (.long q2), .second, .val (.long q3), .second] [(.long q2), (.ref ao0)])) (fun _ k => XS.aloadN X2.here hx rfl (hb hby d1_9) rfl rfl (XS.lloadN X2.here hx rfl (hb hby d1_10) rfl k)) ?_
  obtain ⟨T3, h3, X3, e3, W3, st3⟩ := putF X2 hx hZ hown (host := "") (Or.inl (own_w hw 16 rfl)) Via.refl e2 F_ao0_minFree E_ao0 (Or.inr ⟨(own_w hw 17 rfl), rfl, hnm⟩) (own_w hw 1 rfl) (ty := .long) (by decide) rfl rfl (g := (mkF m 11 #[.val (.ref ao0), .val (.long q1), .second, .val (.long q2), .second, .val (.long q3), .second] [(.long q2), (.ref ao0)])) rfl rfl (hb hby d1_11)
  refine own_go (x' := T3.setTop (mkF m 14 #[.val (.ref ao0), .val (.long q1), .second, .val (.long q2), .second, .val (.long q3), .second] [])) st3 ?_
  replace E_ao0 := Exa.wr W3 E_ao0
  replace F_ao0_max := Fld.other W3 F_ao0_max (Or.inr (slot_ne (Or.inr (own_w hw 15 rfl)) (Or.inr (own_w hw 17 rfl)) (by decide) (t := .long) (t' := .long) (by decide) (by decide)))
  replace F_ao0_minFree := Fld.same W3 F_ao0_minFree
  replace F_ao0_statuses := Fld.other W3 F_ao0_statuses (Or.inr (slot_ne (Or.inr (own_w hw 19 rfl)) (Or.inr (own_w hw 17 rfl)) (by decide) (t := .long) (t' := .long) (by decide) (by decide)))
  replace Zs := Nat.le_trans Zs (Keep.of_wr W3).1
  replace Nf := Fr.snoc X3 Nf g_ao0
  replace Kp := Kp.wr W3 (Or.inl (by simp))
  refine own_go (x' := T3.setTop (mkF m 17 #[.val (.ref ao0), .val (.long q1), .second, .val (.long q2), .second, .val (.long q3), .second] [(.long q3), (.ref ao0)])) (fun _ k => XS.aloadN X3.here hx rfl (hb hby d1_14) rfl rfl (XS.lload X3.here hx rfl (hb hby d1_15) rfl k)) ?_
  obtain ⟨T4, h4, X4, e4, W4, st4⟩ := putF X3 hx hZ hown (host := "") (Or.inl (own_w hw 18 rfl)) Via.refl e3 F_ao0_statuses E_ao0 (Or.inr ⟨(own_w hw 19 rfl), rfl, hnm⟩) (own_w hw 1 rfl) (ty := .long) (by decide) rfl rfl (g := (mkF m 17 #[.val (.ref ao0), .val (.long q1), .second, .val (.long q2), .second, .val (.long q3), .second] [(.long q3), (.ref ao0)])) rfl rfl (hb hby d1_17)
  refine own_go (x' := T4.setTop (mkF m 20 #[.val (.ref ao0), .val (.long q1), .second, .val (.long q2), .second, .val (.long q3), .second] [])) st4 ?_
  replace E_ao0 := Exa.wr W4 E_ao0
  replace F_ao0_max := Fld.other W4 F_ao0_max (Or.inr (slot_ne (Or.inr (own_w hw 15 rfl)) (Or.inr (own_w hw 19 rfl)) (by decide) (t := .long) (t' := .long) (by decide) (by decide)))
  replace F_ao0_minFree := Fld.other W4 F_ao0_minFree (Or.inr (slot_ne (Or.inr (own_w hw 17 rfl)) (Or.inr (own_w hw 19 rfl)) (by decide) (t := .long) (t' := .long) (by decide) (by decide)))
  replace F_ao0_statuses := Fld.same W4 F_ao0_statuses
  replace Zs := Nat.le_trans Zs (Keep.of_wr W4).1
  replace Nf := Fr.snoc X4 Nf g_ao0
  replace Kp := Kp.wr W4 (Or.inl (by simp))
  refine own_retV X4 hx hlk hret (hb hby d1_20) ?_ (by decide) (by decide)
  rw [e4]
  exact ⟨rfl, Nf, Kp, E_ao0, F_ao0_max, F_ao0_minFree, F_ao0_statuses⟩
def own_max (a b : Int64) : Int64 := if a < b then b else a
theorem d5_0 : decode jdk_29_method_66_code 0 = .ok (.lload_n 0, 1) := by decide +kernel
theorem d5_1 : decode jdk_29_method_66_code 1 = .ok (.lload_n 2, 1) := by decide +kernel
theorem d5_2 : decode jdk_29_method_66_code 2 = .ok (.lcmp, 1) := by decide +kernel
theorem d5_3 : decode jdk_29_method_66_code 3 = .ok (.ifCond .lt 7, 3) := by decide +kernel
theorem d5_6 : decode jdk_29_method_66_code 6 = .ok (.lload_n 0, 1) := by decide +kernel
theorem d5_7 : decode jdk_29_method_66_code 7 = .ok (.goto 4, 3) := by decide +kernel
theorem d5_10 : decode jdk_29_method_66_code 10 = .ok (.lload_n 2, 1) := by decide +kernel
theorem d5_11 : decode jdk_29_method_66_code 11 = .ok (.lreturn, 1) := by decide +kernel
def Q_rm5 (Z : State) (q0 : Int64) (q1 : Int64) (h0 : Heap) (n0 : Nat) (v : Option Value) (h : Heap) (L : List Loc) : Prop := v = some (.long (own_max q0 q1)) ∧ Fr n0 L ∧ h = h0
theorem ef_rm5 (m : MethodId) (x0 : Int64) (x1 : Int64) : entryFrame m #[(.long x0), (.long x1)] 4 = mkF m 0 #[.val (.long x0), .second, .val (.long x1), .second] [] := by first | (simp [entryFrame, mkF, argsToLocals, Value.category]; done) | rfl
set_option maxRecDepth 65536 in
set_option maxHeartbeats 40000000 in
theorem rm5 (l : Launch) (Z : State) (a0 : Array Value) (hw : ∀ d ∈ tables_1, d.before a0 Z = true) (ws : List Jvm.Cond) (q0 : Int64) (q1 : Int64) (h0 : Heap) (n0 : Nat) (Z0 : n0 ≤ h0.size) :
    MetFree l (⟨"java/lang/Math", "max", "(JJ)J"⟩ : MethodName) (head1 (Jvm.Cond.code (⟨"java/lang/Math", "max", "(JJ)J"⟩ : MethodName) jdk_29_method_66_code 4 (some .long) :: ws) ({ frames := 0, cells := 0, slots := 0, locals := 0 } : Room)) (fun a U => a = #[(.long q0), (.long q1)] ∧ Z.Warmed39 U.vm ∧ U.heap = h0) (fun _ _ _ _ _ => True) (fun _ U o U' => ∃ v L, o = .returned v ∧ (Q_rm5 Z q0 q1 h0 n0) v U'.heap L ∧ FrameEnd U o U' L ({ frames := 0, cells := 0, slots := 0, locals := 0 } : Room).cells ({ frames := 0, cells := 0, slots := 0, locals := 0 } : Room).slots) := by
  refine MetFree.of_bodySF (Jvm.Free.JP.mathPlain rfl (by decide +kernel)) hisR ?_
  intro p e s m args below meth c s₁ Bd hml0 hP hK
  obtain ⟨rfl, hZ, hh⟩ := hP
  have hx := Bd.exec
  have hby := Bd.bytes
  have hlk := BodyLoose.notSynchronized Bd
  have hret := Bd.returns
  have hml : c.maxLocals = 4 := hml0
  have hown : s.vm.findClass "java/lang/Math" = some m.cls := findClass_of_methodNamed Bd.named
  have hnm := (name_of_methodNamed Bd.named Bd.method).1
  have X0 : Stand p l e ({ frames := 0, cells := 0, slots := 0, locals := 0 } : Room) s m #[(.long q0), (.long q1)] below meth c s₁ [] 0 0 := Stand.of_body Bd
  have e0 : s₁.heap = h0 := by rw [← hh, Bd.state]; rfl
  have Nf := Fr.nil n0
  have Zs := Z0
  have Kp : Keep h0 h0 [] := Keep.refl _ _
  show own_End p e below s (Q_rm5 Z q0 q1 h0 n0) ({ frames := 0, cells := 0, slots := 0, locals := 0 } : Room).cells ({ frames := 0, cells := 0, slots := 0, locals := 0 } : Room).slots (s₁.setTop (entryFrame m #[(.long q0), (.long q1)] 4))
  refine own_go (x' := s₁.setTop (mkF m 0 #[.val (.long q0), .second, .val (.long q1), .second] [])) (fun t k => castTop (ef_rm5 m q0 q1) k) ?_
  refine own_go (x' := s₁.setTop (mkF m 3 #[.val (.long q0), .second, .val (.long q1), .second] [(.int (lcmpW q0 q1))])) (fun _ k => XS.lloadN X0.here hx rfl (hb hby d5_0) rfl (XS.lloadN X0.here hx rfl (hb hby d5_1) rfl (XS.lcmp X0.here hx rfl (hb hby d5_2) rfl k))) ?_
  by_cases hc3 : q0 < q1
  · refine own_go (x' := s₁.setTop (mkF m 11 #[.val (.long q0), .second, .val (.long q1), .second] [(.long q1)])) (fun _ k => XS.ifYes X0.here hx rfl (pc0 := 3) (pc' := 10) rfl (hb hby d5_3) rfl ((if0 _ _).trans (tlt ((lw_lt q0 q1).mpr hc3)).1) (by decide) (by decide) (XS.lloadN X0.here hx rfl (hb hby d5_10) rfl k)) ?_
    refine own_retJ X0 hx hlk hret (hb hby d5_11) ?_ (by decide) (by decide)
    rw [e0]
    exact ⟨by simp only [own_max, if_pos hc3], Nf, rfl⟩
  · refine own_go (x' := s₁.setTop (mkF m 11 #[.val (.long q0), .second, .val (.long q1), .second] [(.long q0)])) (fun _ k => XS.ifNo X0.here hx rfl (hb hby d5_3) rfl ((if0 _ _).trans (flt (fun q_ => hc3 ((lw_lt q0 q1).mp q_))).1) (XS.lloadN X0.here hx rfl (hb hby d5_6) rfl (XS.goto X0.here hx rfl (pc0 := 7) (pc' := 11) rfl (hb hby d5_7) (by decide) (by decide) k))) ?_
    refine own_retJ X0 hx hlk hret (hb hby d5_11) ?_ (by decide) (by decide)
    rw [e0]
    exact ⟨by simp only [own_max, if_neg hc3], Nf, rfl⟩
def own_most (x : Int64) : Int64 := own_max (x / 4) 262144
theorem pd_1 : parseMethodDescriptor "(JJ)J" = some ⟨[.long, .long], some .long⟩ := by decide +kernel
theorem d4_0 : decode prog_11_method_4_code 0 = .ok (.aload_n 0, 1) := by decide +kernel
theorem d4_1 : decode prog_11_method_4_code 1 = .ok (.getfield 13, 3) := by decide +kernel
theorem d4_4 : decode prog_11_method_4_code 4 = .ok (.ldc2_w 32, 3) := by decide +kernel
theorem d4_7 : decode prog_11_method_4_code 7 = .ok (.ldiv, 1) := by decide +kernel
theorem d4_8 : decode prog_11_method_4_code 8 = .ok (.ldc2_w 34, 3) := by decide +kernel
theorem d4_11 : decode prog_11_method_4_code 11 = .ok (.invokestatic 30, 3) := by decide +kernel
theorem d4_14 : decode prog_11_method_4_code 14 = .ok (.lreturn, 1) := by decide +kernel
def Q_rm4 (Z : State) (ao0 : Addr) (u : Int64) (h0 : Heap) (n0 : Nat) (v : Option Value) (h : Heap) (L : List Loc) : Prop := v = some (.long (own_most u)) ∧ Fr n0 L ∧ h = h0
theorem pn_rm4 : plainName "com/example/lean_bus/leanbus/store/MemoryLimits" = true := by first | (simp [plainName, overriddenIn]; done) | decide +kernel
theorem ef_rm4 (m : MethodId) (x0 : Addr) : entryFrame m #[(.ref x0)] 1 = mkF m 0 #[.val (.ref x0)] [] := by first | (simp [entryFrame, mkF, argsToLocals, Value.category]; done) | rfl
set_option maxRecDepth 65536 in
set_option maxHeartbeats 40000000 in
theorem rm4 (l : Launch) (Z : State) (a0 : Array Value) (hw : ∀ d ∈ tables_1, d.before a0 Z = true) (ws : List Jvm.Cond) (ao0 : Addr) (u : Int64) (h0 : Heap) (n0 : Nat) (Z0 : n0 ≤ h0.size) (F_ao0_minFree : Fld Z h0 ao0 "com/example/lean_bus/leanbus/store/MemoryLimits" "minFree" "J" (.long u)) :
    MetFree l (⟨"com/example/lean_bus/leanbus/store/MemoryLimits", "mostCarriedAtOnce", "()J"⟩ : MethodName) (head1 (Jvm.Cond.code (⟨"com/example/lean_bus/leanbus/store/MemoryLimits", "mostCarriedAtOnce", "()J"⟩ : MethodName) prog_11_method_4_code 1 (some .long) :: ws) ({ frames := 1, cells := 0, slots := 0, locals := 15 } : Room)) (fun a U => a = #[(.ref ao0)] ∧ Z.Warmed39 U.vm ∧ U.heap = h0) (fun _ _ _ _ _ => True) (fun _ U o U' => ∃ v L, o = .returned v ∧ (Q_rm4 Z ao0 u h0 n0) v U'.heap L ∧ FrameEnd U o U' L ({ frames := 1, cells := 0, slots := 0, locals := 15 } : Room).cells ({ frames := 1, cells := 0, slots := 0, locals := 15 } : Room).slots) := by
  refine MetFree.of_bodySF (plainFor_of_name pn_rm4) hisR ?_
  intro p e s m args below meth c s₁ Bd hml0 hP hK
  obtain ⟨rfl, hZ, hh⟩ := hP
  have hx := Bd.exec
  have hby := Bd.bytes
  have hlk := BodyLoose.notSynchronized Bd
  have hret := Bd.returns
  have hml : c.maxLocals = 1 := hml0
  have hown : s.vm.findClass "com/example/lean_bus/leanbus/store/MemoryLimits" = some m.cls := findClass_of_methodNamed Bd.named
  have hnm := (name_of_methodNamed Bd.named Bd.method).1
  have X0 : Stand p l e ({ frames := 1, cells := 0, slots := 0, locals := 15 } : Room) s m #[(.ref ao0)] below meth c s₁ [] 0 0 := Stand.of_body Bd
  have e0 : s₁.heap = h0 := by rw [← hh, Bd.state]; rfl
  have Nf := Fr.nil n0
  have Zs := Z0
  have Kp : Keep h0 h0 [] := Keep.refl _ _
  show own_End p e below s (Q_rm4 Z ao0 u h0 n0) ({ frames := 1, cells := 0, slots := 0, locals := 15 } : Room).cells ({ frames := 1, cells := 0, slots := 0, locals := 15 } : Room).slots (s₁.setTop (entryFrame m #[(.ref ao0)] 1))
  refine own_go (x' := s₁.setTop (mkF m 0 #[.val (.ref ao0)] [])) (fun t k => castTop (ef_rm4 m ao0) k) ?_
  refine own_go (x' := s₁.setTop (mkF m 1 #[.val (.ref ao0)] [(.ref ao0)])) (fun _ k => XS.aloadN X0.here hx rfl (hb hby d4_0) rfl rfl k) ?_
  obtain ⟨T1, X1, e1, st1⟩ := getF X0 hx hZ hown (host := "") (Or.inl (own_w hw 16 rfl)) Via.refl e0 F_ao0_minFree (g := (mkF m 1 #[.val (.ref ao0)] [(.ref ao0)])) rfl rfl (hb hby d4_1)
  refine own_go (x' := T1.setTop (mkF m 4 #[.val (.ref ao0)] [(.long u)])) st1 ?_
  refine own_go (x' := T1.setTop (mkF m 7 #[.val (.ref ao0)] [(.long (4 : Int64)), (.long u)])) (fun t k => X1.ldc2Long hx hown (mvT hZ (own_w hw 25 rfl)) (g := (mkF m 4 #[.val (.ref ao0)] [(.long u)])) rfl (hb hby d4_4) t k) ?_
  refine own_go (x' := T1.setTop (mkF m 8 #[.val (.ref ao0)] [(.long (u / (4 : Int64)))])) (fun _ k => XS.ldiv X1.here hx rfl (hb hby d4_7) rfl (by decide) k) ?_
  refine own_go (x' := T1.setTop (mkF m 11 #[.val (.ref ao0)] [(.long (262144 : Int64)), (.long (u / (4 : Int64)))])) (fun t k => X1.ldc2Long hx hown (mvT hZ (own_w hw 26 rfl)) (g := (mkF m 8 #[.val (.ref ao0)] [(.long (u / (4 : Int64)))])) rfl (hb hby d4_8) t k) ?_
  obtain ⟨_, _, ⟨T2, L2, k2, n2⟩, -, X2, ⟨Lc2, hQ2, l2, y2, z2⟩, st2⟩ := Jvm.LawKit.callS X1 hx (y := (⟨"java/lang/Math", "max", "(JJ)J"⟩ : MethodName)) hown (mvT hZ (own_w hw 27 rfl)) (mvT hZ (own_w hw 28 rfl)) (mvT hZ (own_w hw 29 rfl)) (mvT hZ (own_w hw 30 rfl)) (by decide) (backOf (W := 0) (rm5 l Z a0 hw [] (u / (4 : Int64)) (262144 : Int64) h0 n0 Zs ) hZ (own_w hw 30 rfl) (own_w hw 29 rfl) (by decide) (by decide)) (g := (mkF m 11 #[.val (.ref ao0)] [(.long (262144 : Int64)), (.long (u / (4 : Int64)))])) rfl (by rw [hml]; rfl) (argsL := [(.long (u / (4 : Int64))), (.long (262144 : Int64))]) (rest := []) (lenOf pd_1 rfl) rfl (by show 2 * 0 + _ ≤ _; exact Nat.le_of_eq rfl) (hb hby d4_11) (fun _ _ => ⟨rfl, e1, (by decide : 0 + 0 ≤ _), (by decide : 0 + 0 ≤ _)⟩)
  dsimp only [Pt.U, Pt.locs, Pt.cells, Pt.slots] at X2 l2 y2 z2 st2 hQ2
  subst l2 y2 z2
  obtain ⟨hv2, Nq2, eq2⟩ := hQ2
  subst hv2
  replace Nf := Fr.app Nf Nq2
  refine own_go (x' := T2.setTop (mkF m 14 #[.val (.ref ao0)] [(.long (own_max (u / (4 : Int64)) (262144 : Int64)))])) st2 ?_
  refine own_retJ X2 hx hlk hret (hb hby d4_14) ?_ (by decide) (by decide)
  rw [eq2]
  exact ⟨rfl, Nf, rfl⟩
theorem own_mm (x : Int64) : ((own_most x).toInt = (x / 4).toInt ∧ 262144 ≤ (x / 4).toInt) ∨ ((own_most x).toInt = 262144 ∧ (x / 4).toInt < 262144) := by
  have l : (262144 : Int64).toInt = 262144 := by decide
  by_cases h : x / 4 < 262144
  · right
    have e : own_most x = 262144 := if_pos h
    have := Int64.lt_iff_toInt_lt.mp h
    rw [e, l]; exact ⟨rfl, by omega⟩
  · left
    have e : own_most x = x / 4 := if_neg h
    have := mt Int64.lt_iff_toInt_lt.mpr h
    rw [e]; exact ⟨rfl, by omega⟩
theorem pd_2 : parseMethodDescriptor "(JJJ)V" = some ⟨[.long, .long, .long], none⟩ := by decide +kernel
theorem pd_3 : parseMethodDescriptor "()J" = some ⟨[], some .long⟩ := by decide +kernel
def Q_rm0 (Z : State) (q0 : Int64) (q1 : Int64) (q2 : Int64) (q3 : Int64) (q4 : Int64) (h0 : Heap) (n0 : Nat) (v : Option Value) (h : Heap) (L : List Loc) : Prop := v = some (.int 1) ∧ Fr n0 L
theorem pn_rm0 : plainName "com/example/lean_bus/leanbus/store/MemoryLimitsMostCarriedAtOncePinLaw" = true := by first | (simp [plainName, overriddenIn]; done) | decide +kernel
theorem ef_rm0 (m : MethodId) (x0 : Int64) (x1 : Int64) (x2 : Int64) (x3 : Int64) (x4 : Int64) : entryFrame m #[(.long x0), (.long x1), (.long x2), (.long x3), (.long x4)] maxLocals = mkF m 0 #[.val (.long x0), .second, .val (.long x1), .second, .val (.long x2), .second, .val (.long x3), .second, .val (.long x4), .second, .unset, .unset, .unset, .unset, .unset, .unset, .unset, .unset, .unset, .unset, .unset, .unset] [] := by first | (simp [entryFrame, mkF, argsToLocals, Value.category, maxLocals]; done) | rfl
set_option maxRecDepth 65536 in
set_option maxHeartbeats 40000000 in
theorem rm0 (l : Launch) (Z : State) (a0 : Array Value) (hw : ∀ d ∈ tables_1, d.before a0 Z = true) (ws : List Jvm.Cond) (q0 : Int64) (q1 : Int64) (q2 : Int64) (q3 : Int64) (q4 : Int64) (h0 : Heap) (n0 : Nat) (Z0 : n0 ≤ h0.size) :
    MetFree l x (head1 (Jvm.Cond.code x code maxLocals ret :: ws) room_1) (fun a U => a = #[(.long q0), (.long q1), (.long q2), (.long q3), (.long q4)] ∧ Z.Warmed39 U.vm ∧ U.heap = h0) (fun _ _ _ _ _ => True) (fun _ U o U' => ∃ v L, o = .returned v ∧ (Q_rm0 Z q0 q1 q2 q3 q4 h0 n0) v U'.heap L ∧ FrameEnd U o U' L room_1.cells room_1.slots) := by
  refine MetFree.of_bodySF (plainFor_of_name pn_rm0) hisR ?_
  intro p e s m args below meth c s₁ Bd hml0 hP hK
  obtain ⟨rfl, hZ, hh⟩ := hP
  have hx := Bd.exec
  have hby := Bd.bytes
  have hlk := BodyLoose.notSynchronized Bd
  have hret := Bd.returns
  have hml : c.maxLocals = 22 := hml0
  have hown : s.vm.findClass "com/example/lean_bus/leanbus/store/MemoryLimitsMostCarriedAtOncePinLaw" = some m.cls := findClass_of_methodNamed Bd.named
  have hnm := (name_of_methodNamed Bd.named Bd.method).1
  have X0 : Stand p l e room_1 s m #[(.long q0), (.long q1), (.long q2), (.long q3), (.long q4)] below meth c s₁ [] 0 0 := Stand.of_body Bd
  have e0 : s₁.heap = h0 := by rw [← hh, Bd.state]; rfl
  have Nf := Fr.nil n0
  have Zs := Z0
  have Kp : Keep h0 h0 [] := Keep.refl _ _
  show own_End p e below s (Q_rm0 Z q0 q1 q2 q3 q4 h0 n0) room_1.cells room_1.slots (s₁.setTop (entryFrame m #[(.long q0), (.long q1), (.long q2), (.long q3), (.long q4)] maxLocals))
  refine own_go (x' := s₁.setTop (mkF m 0 #[.val (.long q0), .second, .val (.long q1), .second, .val (.long q2), .second, .val (.long q3), .second, .val (.long q4), .second, .unset, .unset, .unset, .unset, .unset, .unset, .unset, .unset, .unset, .unset, .unset, .unset] [])) (fun t k => castTop (ef_rm0 m q0 q1 q2 q3 q4) k) ?_
  obtain ⟨T1, h1, X1, e1, E1, A1, D1, -, st1⟩ := newO X0 hx hZ hown (own_w hw 0 rfl) (own_w hw 1 rfl) (own_w hw 2 rfl) e0 (g := (mkF m 0 #[.val (.long q0), .second, .val (.long q1), .second, .val (.long q2), .second, .val (.long q3), .second, .val (.long q4), .second, .unset, .unset, .unset, .unset, .unset, .unset, .unset, .unset, .unset, .unset, .unset, .unset] [])) rfl (hb hby at_0) (by decide) (by decide)
  obtain ⟨b1, g1⟩ : ∃ z, z = h0.size := ⟨_, rfl⟩
  rw [← g1] at A1 D1 st1
  have g_b1 : n0 ≤ b1 := Nat.le_trans Zs (Nat.le_of_eq g1.symm)
  replace Zs := Nat.le_trans Zs E1.1
  have E_b1 := A1
  have F_b1_max : Fld Z h1 b1 "com/example/lean_bus/leanbus/store/MemoryLimits" "max" "J" (.long (0 : Int64)) := D1 (Or.inr (own_w hw 15 rfl)) (ty := .long) (by decide)
  have F_b1_minFree : Fld Z h1 b1 "com/example/lean_bus/leanbus/store/MemoryLimits" "minFree" "J" (.long (0 : Int64)) := D1 (Or.inr (own_w hw 17 rfl)) (ty := .long) (by decide)
  have F_b1_statuses : Fld Z h1 b1 "com/example/lean_bus/leanbus/store/MemoryLimits" "statuses" "J" (.long (0 : Int64)) := D1 (Or.inr (own_w hw 19 rfl)) (ty := .long) (by decide)
  refine own_go (x' := T1.setTop (mkF m 3 #[.val (.long q0), .second, .val (.long q1), .second, .val (.long q2), .second, .val (.long q3), .second, .val (.long q4), .second, .unset, .unset, .unset, .unset, .unset, .unset, .unset, .unset, .unset, .unset, .unset, .unset] [(.ref b1)])) st1 ?_
  refine own_go (x' := T1.setTop (mkF m 8 #[.val (.long q0), .second, .val (.long q1), .second, .val (.long q2), .second, .val (.long q3), .second, .val (.long q4), .second, .unset, .unset, .unset, .unset, .unset, .unset, .unset, .unset, .unset, .unset, .unset, .unset] [(.long q2), (.long q1), (.long q0), (.ref b1), (.ref b1)])) (fun _ k => XS.dup X1.here hx rfl (hb hby at_3) rfl rfl (XS.lloadN X1.here hx rfl (hb hby at_4) rfl (XS.lloadN X1.here hx rfl (hb hby at_5) rfl (XS.lload X1.here hx rfl (hb hby at_6) rfl k)))) ?_
  obtain ⟨_, _, ⟨T2, L2, k2, n2⟩, -, X2, ⟨Lc2, hQ2, l2, y2, z2⟩, st2⟩ := X1.specialBack hx (y := (⟨"com/example/lean_bus/leanbus/store/MemoryLimits", "<init>", "(JJJ)V"⟩ : MethodName)) rfl hown (mvT hZ (own_w hw 3 rfl)) (mvT hZ (own_w hw 4 rfl)) (mvT hZ (own_w hw 5 rfl)) (by decide) (backOf (W := 1) (rm1 l Z a0 hw [] b1 q0 q1 q2 h1 n0 Zs E_b1 F_b1_max F_b1_minFree F_b1_statuses g_b1) hZ (own_w hw 5 rfl) (own_w hw 2 rfl) (by decide) (by decide)) (g := (mkF m 8 #[.val (.long q0), .second, .val (.long q1), .second, .val (.long q2), .second, .val (.long q3), .second, .val (.long q4), .second, .unset, .unset, .unset, .unset, .unset, .unset, .unset, .unset, .unset, .unset, .unset, .unset] [(.long q2), (.long q1), (.long q0), (.ref b1), (.ref b1)])) rfl (by rw [hml]; rfl) (Steps.refl _) (a := b1) (argsL := [(.long q0), (.long q1), (.long q2)]) (rest := [(.ref b1)]) (lenOf pd_2 rfl) rfl (by show 2 * 0 + _ ≤ _; exact Nat.le_of_eq rfl) (hb hby at_8) (fun _ _ => ⟨rfl, e1, (by decide : 1 + 0 ≤ _), (by decide : 3 + 0 ≤ _)⟩)
  dsimp only [Pt.U, Pt.locs, Pt.cells, Pt.slots] at X2 l2 y2 z2 st2 hQ2
  subst l2 y2 z2
  obtain ⟨hv2, Nq2, K2, Eo2, Fo2_0, Fo2_1, Fo2_2⟩ := hQ2
  subst hv2
  replace Nf := Fr.app Nf Nq2
  replace Zs := Nat.le_trans Zs K2.1
  replace E_b1 := Eo2
  replace F_b1_max := Fo2_0
  replace F_b1_minFree := Fo2_1
  replace F_b1_statuses := Fo2_2
  refine own_go (x' := T2.setTop (mkF m 11 #[.val (.long q0), .second, .val (.long q1), .second, .val (.long q2), .second, .val (.long q3), .second, .val (.long q4), .second, .unset, .unset, .unset, .unset, .unset, .unset, .unset, .unset, .unset, .unset, .unset, .unset] [(.ref b1)])) (fun _ k => st2.trans k) ?_
  refine own_go (x' := T2.setTop (mkF m 13 #[.val (.long q0), .second, .val (.long q1), .second, .val (.long q2), .second, .val (.long q3), .second, .val (.long q4), .second, .val (.ref b1), .unset, .unset, .unset, .unset, .unset, .unset, .unset, .unset, .unset, .unset, .unset] [])) (fun _ k => XS.astore X2.here hx rfl (hb hby at_11) rfl rfl (l' := #[.val (.long q0), .second, .val (.long q1), .second, .val (.long q2), .second, .val (.long q3), .second, .val (.long q4), .second, .val (.ref b1), .unset, .unset, .unset, .unset, .unset, .unset, .unset, .unset, .unset, .unset, .unset]) rfl k) ?_
  obtain ⟨T3, h3, X3, e3, E3, A3, D3, -, st3⟩ := newO X2 hx hZ hown (own_w hw 0 rfl) (own_w hw 1 rfl) (own_w hw 2 rfl) rfl (g := (mkF m 13 #[.val (.long q0), .second, .val (.long q1), .second, .val (.long q2), .second, .val (.long q3), .second, .val (.long q4), .second, .val (.ref b1), .unset, .unset, .unset, .unset, .unset, .unset, .unset, .unset, .unset, .unset, .unset] [])) rfl (hb hby at_13) (by decide) (by decide)
  obtain ⟨b3, g3⟩ : ∃ z, z = T2.heap.size := ⟨_, rfl⟩
  rw [← g3] at A3 D3 st3
  have ne_b1_b3 : b1 ≠ b3 := Nat.ne_of_lt (Nat.lt_of_lt_of_le E_b1.lt (Nat.le_of_eq g3.symm))
  have g_b3 : n0 ≤ b3 := Nat.le_trans Zs (Nat.le_of_eq g3.symm)
  replace E_b1 := Exa.ext E3 E_b1
  replace F_b1_max := Fld.ext E3 F_b1_max
  replace F_b1_minFree := Fld.ext E3 F_b1_minFree
  replace F_b1_statuses := Fld.ext E3 F_b1_statuses
  replace Zs := Nat.le_trans Zs E3.1
  have E_b3 := A3
  have F_b3_max : Fld Z h3 b3 "com/example/lean_bus/leanbus/store/MemoryLimits" "max" "J" (.long (0 : Int64)) := D3 (Or.inr (own_w hw 15 rfl)) (ty := .long) (by decide)
  have F_b3_minFree : Fld Z h3 b3 "com/example/lean_bus/leanbus/store/MemoryLimits" "minFree" "J" (.long (0 : Int64)) := D3 (Or.inr (own_w hw 17 rfl)) (ty := .long) (by decide)
  have F_b3_statuses : Fld Z h3 b3 "com/example/lean_bus/leanbus/store/MemoryLimits" "statuses" "J" (.long (0 : Int64)) := D3 (Or.inr (own_w hw 19 rfl)) (ty := .long) (by decide)
  refine own_go (x' := T3.setTop (mkF m 16 #[.val (.long q0), .second, .val (.long q1), .second, .val (.long q2), .second, .val (.long q3), .second, .val (.long q4), .second, .val (.ref b1), .unset, .unset, .unset, .unset, .unset, .unset, .unset, .unset, .unset, .unset, .unset] [(.ref b3)])) st3 ?_
  refine own_go (x' := T3.setTop (mkF m 22 #[.val (.long q0), .second, .val (.long q1), .second, .val (.long q2), .second, .val (.long q3), .second, .val (.long q4), .second, .val (.ref b1), .unset, .unset, .unset, .unset, .unset, .unset, .unset, .unset, .unset, .unset, .unset] [(.long q4), (.long q1), (.long q3), (.ref b3), (.ref b3)])) (fun _ k => XS.dup X3.here hx rfl (hb hby at_16) rfl rfl (XS.lload X3.here hx rfl (hb hby at_17) rfl (XS.lloadN X3.here hx rfl (hb hby at_19) rfl (XS.lload X3.here hx rfl (hb hby at_20) rfl k)))) ?_
  obtain ⟨_, _, ⟨T4, L4, k4, n4⟩, -, X4, ⟨Lc4, hQ4, l4, y4, z4⟩, st4⟩ := X3.specialBack hx (y := (⟨"com/example/lean_bus/leanbus/store/MemoryLimits", "<init>", "(JJJ)V"⟩ : MethodName)) rfl hown (mvT hZ (own_w hw 3 rfl)) (mvT hZ (own_w hw 4 rfl)) (mvT hZ (own_w hw 5 rfl)) (by decide) (backOf (W := 1) (rm1 l Z a0 hw [] b3 q3 q1 q4 h3 n0 Zs E_b3 F_b3_max F_b3_minFree F_b3_statuses g_b3) hZ (own_w hw 5 rfl) (own_w hw 2 rfl) (by decide) (by decide)) (g := (mkF m 22 #[.val (.long q0), .second, .val (.long q1), .second, .val (.long q2), .second, .val (.long q3), .second, .val (.long q4), .second, .val (.ref b1), .unset, .unset, .unset, .unset, .unset, .unset, .unset, .unset, .unset, .unset, .unset] [(.long q4), (.long q1), (.long q3), (.ref b3), (.ref b3)])) rfl (by rw [hml]; rfl) (Steps.refl _) (a := b3) (argsL := [(.long q3), (.long q1), (.long q4)]) (rest := [(.ref b3)]) (lenOf pd_2 rfl) rfl (by show 2 * 0 + _ ≤ _; exact Nat.le_of_eq rfl) (hb hby at_22) (fun _ _ => ⟨rfl, e3, (by decide : 2 + 0 ≤ _), (by decide : 6 + 0 ≤ _)⟩)
  dsimp only [Pt.U, Pt.locs, Pt.cells, Pt.slots] at X4 l4 y4 z4 st4 hQ4
  subst l4 y4 z4
  obtain ⟨hv4, Nq4, K4, Eo4, Fo4_0, Fo4_1, Fo4_2⟩ := hQ4
  subst hv4
  replace Nf := Fr.app Nf Nq4
  replace E_b1 := E_b1.keep K4
  replace F_b1_max := F_b1_max.keep K4 (ninS ne_b1_b3 nin0)
  replace F_b1_minFree := F_b1_minFree.keep K4 (ninS ne_b1_b3 nin0)
  replace F_b1_statuses := F_b1_statuses.keep K4 (ninS ne_b1_b3 nin0)
  replace Zs := Nat.le_trans Zs K4.1
  replace E_b3 := Eo4
  replace F_b3_max := Fo4_0
  replace F_b3_minFree := Fo4_1
  replace F_b3_statuses := Fo4_2
  refine own_go (x' := T4.setTop (mkF m 25 #[.val (.long q0), .second, .val (.long q1), .second, .val (.long q2), .second, .val (.long q3), .second, .val (.long q4), .second, .val (.ref b1), .unset, .unset, .unset, .unset, .unset, .unset, .unset, .unset, .unset, .unset, .unset] [(.ref b3)])) (fun _ k => st4.trans k) ?_
  refine own_go (x' := T4.setTop (mkF m 29 #[.val (.long q0), .second, .val (.long q1), .second, .val (.long q2), .second, .val (.long q3), .second, .val (.long q4), .second, .val (.ref b1), .val (.ref b3), .unset, .unset, .unset, .unset, .unset, .unset, .unset, .unset, .unset, .unset] [(.ref b1)])) (fun _ k => XS.astore X4.here hx rfl (hb hby at_25) rfl rfl (l' := #[.val (.long q0), .second, .val (.long q1), .second, .val (.long q2), .second, .val (.long q3), .second, .val (.long q4), .second, .val (.ref b1), .val (.ref b3), .unset, .unset, .unset, .unset, .unset, .unset, .unset, .unset, .unset, .unset]) rfl (XS.aload X4.here hx rfl (hb hby at_27) rfl rfl k)) ?_
  obtain ⟨cq5, kq5, q5a, q5b, q5c⟩ := isOf hZ rfl E_b1
  obtain ⟨_, _, ⟨T5, L5, k5, n5⟩, -, X5, ⟨Lc5, hQ5, l5, y5, z5⟩, st5⟩ := X4.virtualBack hx (y := (⟨"com/example/lean_bus/leanbus/store/MemoryLimits", "mostCarriedAtOnce", "()J"⟩ : MethodName)) (z := (⟨"com/example/lean_bus/leanbus/store/MemoryLimits", "mostCarriedAtOnce", "()J"⟩ : MethodName)) hown (mvT hZ (own_w hw 20 rfl)) (mvT hZ (own_w hw 21 rfl)) (notFace_of_selects (args := #[]) (mvT hZ (own_w hw 23 rfl))) (mvT hZ (own_w hw 23 rfl)) (mvT hZ (own_w hw 22 rfl)) (by decide) (backOf (W := 0) (rm4 l Z a0 hw [] b1 q1 T4.heap n0 Zs F_b1_minFree) hZ (own_w hw 24 rfl) (own_w hw 2 rfl) (by decide) (by decide)) q5a q5c (g := (mkF m 29 #[.val (.long q0), .second, .val (.long q1), .second, .val (.long q2), .second, .val (.long q3), .second, .val (.long q4), .second, .val (.ref b1), .val (.ref b3), .unset, .unset, .unset, .unset, .unset, .unset, .unset, .unset, .unset, .unset] [(.ref b1)])) rfl (by rw [hml]; rfl) (Steps.refl _) (argsL := []) (rest := []) (lenOf pd_3 rfl) rfl (by show 2 * 0 + _ ≤ _; exact Nat.le_of_eq rfl) (hb hby at_29) (fun _ _ => ⟨rfl, rfl, (by decide : 2 + 0 ≤ _), (by decide : 6 + 0 ≤ _)⟩)
  dsimp only [Pt.U, Pt.locs, Pt.cells, Pt.slots] at X5 l5 y5 z5 st5 hQ5
  subst l5 y5 z5
  obtain ⟨hv5, Nq5, eq5⟩ := hQ5
  subst hv5
  replace Nf := Fr.app Nf Nq5
  refine own_go (x' := T5.setTop (mkF m 32 #[.val (.long q0), .second, .val (.long q1), .second, .val (.long q2), .second, .val (.long q3), .second, .val (.long q4), .second, .val (.ref b1), .val (.ref b3), .unset, .unset, .unset, .unset, .unset, .unset, .unset, .unset, .unset, .unset] [(.long (own_most q1))])) (fun _ k => st5.trans k) ?_
  refine own_go (x' := T5.setTop (mkF m 36 #[.val (.long q0), .second, .val (.long q1), .second, .val (.long q2), .second, .val (.long q3), .second, .val (.long q4), .second, .val (.ref b1), .val (.ref b3), .val (.long (own_most q1)), .second, .unset, .unset, .unset, .unset, .unset, .unset, .unset, .unset] [(.ref b3)])) (fun _ k => XS.lstore X5.here hx rfl (hb hby at_32) rfl (l' := #[.val (.long q0), .second, .val (.long q1), .second, .val (.long q2), .second, .val (.long q3), .second, .val (.long q4), .second, .val (.ref b1), .val (.ref b3), .val (.long (own_most q1)), .second, .unset, .unset, .unset, .unset, .unset, .unset, .unset, .unset]) rfl (XS.aload X5.here hx rfl (hb hby at_34) rfl rfl k)) ?_
  obtain ⟨cq6, kq6, q6a, q6b, q6c⟩ := isOf hZ eq5 E_b3
  obtain ⟨_, _, ⟨T6, L6, k6, n6⟩, -, X6, ⟨Lc6, hQ6, l6, y6, z6⟩, st6⟩ := X5.virtualBack hx (y := (⟨"com/example/lean_bus/leanbus/store/MemoryLimits", "mostCarriedAtOnce", "()J"⟩ : MethodName)) (z := (⟨"com/example/lean_bus/leanbus/store/MemoryLimits", "mostCarriedAtOnce", "()J"⟩ : MethodName)) hown (mvT hZ (own_w hw 20 rfl)) (mvT hZ (own_w hw 21 rfl)) (notFace_of_selects (args := #[]) (mvT hZ (own_w hw 23 rfl))) (mvT hZ (own_w hw 23 rfl)) (mvT hZ (own_w hw 22 rfl)) (by decide) (backOf (W := 0) (rm4 l Z a0 hw [] b3 q1 T4.heap n0 Zs F_b3_minFree) hZ (own_w hw 24 rfl) (own_w hw 2 rfl) (by decide) (by decide)) q6a q6c (g := (mkF m 36 #[.val (.long q0), .second, .val (.long q1), .second, .val (.long q2), .second, .val (.long q3), .second, .val (.long q4), .second, .val (.ref b1), .val (.ref b3), .val (.long (own_most q1)), .second, .unset, .unset, .unset, .unset, .unset, .unset, .unset, .unset] [(.ref b3)])) rfl (by rw [hml]; rfl) (Steps.refl _) (argsL := []) (rest := []) (lenOf pd_3 rfl) rfl (by show 2 * 0 + _ ≤ _; exact Nat.le_of_eq rfl) (hb hby at_36) (fun _ _ => ⟨rfl, eq5, (by decide : 2 + 0 ≤ _), (by decide : 6 + 0 ≤ _)⟩)
  dsimp only [Pt.U, Pt.locs, Pt.cells, Pt.slots] at X6 l6 y6 z6 st6 hQ6
  subst l6 y6 z6
  obtain ⟨hv6, Nq6, eq6⟩ := hQ6
  subst hv6
  replace Nf := Fr.app Nf Nq6
  refine own_go (x' := T6.setTop (mkF m 39 #[.val (.long q0), .second, .val (.long q1), .second, .val (.long q2), .second, .val (.long q3), .second, .val (.long q4), .second, .val (.ref b1), .val (.ref b3), .val (.long (own_most q1)), .second, .unset, .unset, .unset, .unset, .unset, .unset, .unset, .unset] [(.long (own_most q1))])) (fun _ k => st6.trans k) ?_
  refine own_go (x' := T6.setTop (mkF m 42 #[.val (.long q0), .second, .val (.long q1), .second, .val (.long q2), .second, .val (.long q3), .second, .val (.long q4), .second, .val (.ref b1), .val (.ref b3), .val (.long (own_most q1)), .second, .val (.long (own_most q1)), .second, .unset, .unset, .unset, .unset, .unset, .unset] [(.long q1)])) (fun _ k => XS.lstore X6.here hx rfl (hb hby at_39) rfl (l' := #[.val (.long q0), .second, .val (.long q1), .second, .val (.long q2), .second, .val (.long q3), .second, .val (.long q4), .second, .val (.ref b1), .val (.ref b3), .val (.long (own_most q1)), .second, .val (.long (own_most q1)), .second, .unset, .unset, .unset, .unset, .unset, .unset]) rfl (XS.lloadN X6.here hx rfl (hb hby at_41) rfl k)) ?_
  refine own_go (x' := T6.setTop (mkF m 45 #[.val (.long q0), .second, .val (.long q1), .second, .val (.long q2), .second, .val (.long q3), .second, .val (.long q4), .second, .val (.ref b1), .val (.ref b3), .val (.long (own_most q1)), .second, .val (.long (own_most q1)), .second, .unset, .unset, .unset, .unset, .unset, .unset] [(.long (4 : Int64)), (.long q1)])) (fun t k => X6.ldc2Long hx hown (mvT hZ (own_w hw 31 rfl)) (g := (mkF m 42 #[.val (.long q0), .second, .val (.long q1), .second, .val (.long q2), .second, .val (.long q3), .second, .val (.long q4), .second, .val (.ref b1), .val (.ref b3), .val (.long (own_most q1)), .second, .val (.long (own_most q1)), .second, .unset, .unset, .unset, .unset, .unset, .unset] [(.long q1)])) rfl (hb hby at_42) t k) ?_
  refine own_go (x' := T6.setTop (mkF m 48 #[.val (.long q0), .second, .val (.long q1), .second, .val (.long q2), .second, .val (.long q3), .second, .val (.long q4), .second, .val (.ref b1), .val (.ref b3), .val (.long (own_most q1)), .second, .val (.long (own_most q1)), .second, .val (.long (q1 / (4 : Int64))), .second, .unset, .unset, .unset, .unset] [])) (fun _ k => XS.ldiv X6.here hx rfl (hb hby at_45) rfl (by decide) (XS.lstore X6.here hx rfl (hb hby at_46) rfl (l' := #[.val (.long q0), .second, .val (.long q1), .second, .val (.long q2), .second, .val (.long q3), .second, .val (.long q4), .second, .val (.ref b1), .val (.ref b3), .val (.long (own_most q1)), .second, .val (.long (own_most q1)), .second, .val (.long (q1 / (4 : Int64))), .second, .unset, .unset, .unset, .unset]) rfl k)) ?_
  refine own_go (x' := T6.setTop (mkF m 51 #[.val (.long q0), .second, .val (.long q1), .second, .val (.long q2), .second, .val (.long q3), .second, .val (.long q4), .second, .val (.ref b1), .val (.ref b3), .val (.long (own_most q1)), .second, .val (.long (own_most q1)), .second, .val (.long (q1 / (4 : Int64))), .second, .unset, .unset, .unset, .unset] [(.long (262144 : Int64))])) (fun t k => X6.ldc2Long hx hown (mvT hZ (own_w hw 32 rfl)) (g := (mkF m 48 #[.val (.long q0), .second, .val (.long q1), .second, .val (.long q2), .second, .val (.long q3), .second, .val (.long q4), .second, .val (.ref b1), .val (.ref b3), .val (.long (own_most q1)), .second, .val (.long (own_most q1)), .second, .val (.long (q1 / (4 : Int64))), .second, .unset, .unset, .unset, .unset] [])) rfl (hb hby at_48) t k) ?_
  refine own_go (x' := T6.setTop (mkF m 58 #[.val (.long q0), .second, .val (.long q1), .second, .val (.long q2), .second, .val (.long q3), .second, .val (.long q4), .second, .val (.ref b1), .val (.ref b3), .val (.long (own_most q1)), .second, .val (.long (own_most q1)), .second, .val (.long (q1 / (4 : Int64))), .second, .val (.long (262144 : Int64)), .second, .unset, .unset] [(.int (lcmpW (own_most q1) (q1 / (4 : Int64))))])) (fun _ k => XS.lstore X6.here hx rfl (hb hby at_51) rfl (l' := #[.val (.long q0), .second, .val (.long q1), .second, .val (.long q2), .second, .val (.long q3), .second, .val (.long q4), .second, .val (.ref b1), .val (.ref b3), .val (.long (own_most q1)), .second, .val (.long (own_most q1)), .second, .val (.long (q1 / (4 : Int64))), .second, .val (.long (262144 : Int64)), .second, .unset, .unset]) rfl (XS.lload X6.here hx rfl (hb hby at_53) rfl (XS.lload X6.here hx rfl (hb hby at_55) rfl (XS.lcmp X6.here hx rfl (hb hby at_57) rfl k)))) ?_
  by_cases hc58 : (own_most q1) < (q1 / (4 : Int64))
  · refine own_go (x' := T6.setTop (mkF m 81 #[.val (.long q0), .second, .val (.long q1), .second, .val (.long q2), .second, .val (.long q3), .second, .val (.long q4), .second, .val (.ref b1), .val (.ref b3), .val (.long (own_most q1)), .second, .val (.long (own_most q1)), .second, .val (.long (q1 / (4 : Int64))), .second, .val (.long (262144 : Int64)), .second, .val (.int (0 : Int32)), .unset] [(.int (lcmpW (own_most q1) (q1 / (4 : Int64))))])) (fun _ k => XS.ifYes X6.here hx rfl (pc0 := 58) (pc' := 73) rfl (hb hby at_58) rfl ((if0 _ _).trans (tlt ((lw_lt (own_most q1) (q1 / (4 : Int64))).mpr hc58)).1) (by decide) (by decide) (XS.iconst X6.here hx rfl (hb hby at_73) (XS.istore X6.here hx rfl (hb hby at_74) rfl (l' := #[.val (.long q0), .second, .val (.long q1), .second, .val (.long q2), .second, .val (.long q3), .second, .val (.long q4), .second, .val (.ref b1), .val (.ref b3), .val (.long (own_most q1)), .second, .val (.long (own_most q1)), .second, .val (.long (q1 / (4 : Int64))), .second, .val (.long (262144 : Int64)), .second, .val (.int (0 : Int32)), .unset]) rfl (XS.lload X6.here hx rfl (hb hby at_76) rfl (XS.lload X6.here hx rfl (hb hby at_78) rfl (XS.lcmp X6.here hx rfl (hb hby at_80) rfl k)))))) ?_
    by_cases hc81 : (own_most q1) = (q1 / (4 : Int64))
    · refine own_go (x' := T6.setTop (mkF m 121 #[.val (.long q0), .second, .val (.long q1), .second, .val (.long q2), .second, .val (.long q3), .second, .val (.long q4), .second, .val (.ref b1), .val (.ref b3), .val (.long (own_most q1)), .second, .val (.long (own_most q1)), .second, .val (.long (q1 / (4 : Int64))), .second, .val (.long (262144 : Int64)), .second, .val (.int (0 : Int32)), .val (.int (1 : Int32))] [])) (fun _ k => XS.ifYes X6.here hx rfl (pc0 := 81) (pc' := 92) rfl (hb hby at_81) rfl ((if0 _ _).trans (teq ((lw_eq (own_most q1) (q1 / (4 : Int64))).mpr hc81)).1) (by decide) (by decide) (XS.iconst X6.here hx rfl (hb hby at_92) (XS.goto X6.here hx rfl (pc0 := 93) (pc' := 97) rfl (hb hby at_93) (by decide) (by decide) (XS.istore X6.here hx rfl (hb hby at_97) rfl (l' := #[.val (.long q0), .second, .val (.long q1), .second, .val (.long q2), .second, .val (.long q3), .second, .val (.long q4), .second, .val (.ref b1), .val (.ref b3), .val (.long (own_most q1)), .second, .val (.long (own_most q1)), .second, .val (.long (q1 / (4 : Int64))), .second, .val (.long (262144 : Int64)), .second, .val (.int (0 : Int32)), .val (.int (1 : Int32))]) rfl (XS.iload X6.here hx rfl (hb hby at_99) rfl (XS.ifYes X6.here hx rfl (pc0 := 101) (pc' := 121) rfl (hb hby at_101) rfl ((if0 _ _).trans (teq rfl).1) (by decide) (by decide) k)))))) ?_
      refine own_go (x' := T6.setTop (mkF m 122 #[.val (.long q0), .second, .val (.long q1), .second, .val (.long q2), .second, .val (.long q3), .second, .val (.long q4), .second, .val (.ref b1), .val (.ref b3), .val (.long (own_most q1)), .second, .val (.long (own_most q1)), .second, .val (.long (q1 / (4 : Int64))), .second, .val (.long (262144 : Int64)), .second, .val (.int (0 : Int32)), .val (.int (1 : Int32))] [(.int (0 : Int32))])) (fun _ k => XS.iconst X6.here hx rfl (hb hby at_121) k) ?_
      refine own_retN X6 hx hlk (t := .boolean) hret (by simp) (hb hby at_122) (w := (0 : Int32)) rfl ?_ (by decide) (by decide)
      rw [eq6]
      exfalso
      have t_hc58 := Int64.lt_iff_toInt_lt.mp hc58
      have t_hc81 := congrArg Int64.toInt hc81
      have l64_4 : (4 : Int64).toInt = 4 := by decide
      have hm := own_mm q1
      have hl : (4 : Int64) = 4 := rfl
      omega
    · refine own_go (x' := T6.setTop (mkF m 89 #[.val (.long q0), .second, .val (.long q1), .second, .val (.long q2), .second, .val (.long q3), .second, .val (.long q4), .second, .val (.ref b1), .val (.ref b3), .val (.long (own_most q1)), .second, .val (.long (own_most q1)), .second, .val (.long (q1 / (4 : Int64))), .second, .val (.long (262144 : Int64)), .second, .val (.int (0 : Int32)), .unset] [(.int (lcmpW (own_most q1) (262144 : Int64)))])) (fun _ k => XS.ifNo X6.here hx rfl (hb hby at_81) rfl ((if0 _ _).trans (feq (fun q_ => hc81 ((lw_eq (own_most q1) (q1 / (4 : Int64))).mp q_))).1) (XS.lload X6.here hx rfl (hb hby at_84) rfl (XS.lload X6.here hx rfl (hb hby at_86) rfl (XS.lcmp X6.here hx rfl (hb hby at_88) rfl k)))) ?_
      by_cases hc89 : (own_most q1) = (262144 : Int64)
      · refine own_go (x' := T6.setTop (mkF m 121 #[.val (.long q0), .second, .val (.long q1), .second, .val (.long q2), .second, .val (.long q3), .second, .val (.long q4), .second, .val (.ref b1), .val (.ref b3), .val (.long (own_most q1)), .second, .val (.long (own_most q1)), .second, .val (.long (q1 / (4 : Int64))), .second, .val (.long (262144 : Int64)), .second, .val (.int (0 : Int32)), .val (.int (1 : Int32))] [])) (fun _ k => XS.ifNo X6.here hx rfl (hb hby at_89) rfl ((if0 _ _).trans (teq ((lw_eq (own_most q1) (262144 : Int64)).mpr hc89)).2) (XS.iconst X6.here hx rfl (hb hby at_92) (XS.goto X6.here hx rfl (pc0 := 93) (pc' := 97) rfl (hb hby at_93) (by decide) (by decide) (XS.istore X6.here hx rfl (hb hby at_97) rfl (l' := #[.val (.long q0), .second, .val (.long q1), .second, .val (.long q2), .second, .val (.long q3), .second, .val (.long q4), .second, .val (.ref b1), .val (.ref b3), .val (.long (own_most q1)), .second, .val (.long (own_most q1)), .second, .val (.long (q1 / (4 : Int64))), .second, .val (.long (262144 : Int64)), .second, .val (.int (0 : Int32)), .val (.int (1 : Int32))]) rfl (XS.iload X6.here hx rfl (hb hby at_99) rfl (XS.ifYes X6.here hx rfl (pc0 := 101) (pc' := 121) rfl (hb hby at_101) rfl ((if0 _ _).trans (teq rfl).1) (by decide) (by decide) k)))))) ?_
        refine own_go (x' := T6.setTop (mkF m 122 #[.val (.long q0), .second, .val (.long q1), .second, .val (.long q2), .second, .val (.long q3), .second, .val (.long q4), .second, .val (.ref b1), .val (.ref b3), .val (.long (own_most q1)), .second, .val (.long (own_most q1)), .second, .val (.long (q1 / (4 : Int64))), .second, .val (.long (262144 : Int64)), .second, .val (.int (0 : Int32)), .val (.int (1 : Int32))] [(.int (0 : Int32))])) (fun _ k => XS.iconst X6.here hx rfl (hb hby at_121) k) ?_
        refine own_retN X6 hx hlk (t := .boolean) hret (by simp) (hb hby at_122) (w := (0 : Int32)) rfl ?_ (by decide) (by decide)
        rw [eq6]
        exfalso
        have t_hc58 := Int64.lt_iff_toInt_lt.mp hc58
        have t_hc81 := mt Int64.toInt_inj.mp hc81
        have t_hc89 := congrArg Int64.toInt hc89
        have l64_262144 : (262144 : Int64).toInt = 262144 := by decide
        have l64_4 : (4 : Int64).toInt = 4 := by decide
        have hm := own_mm q1
        have hl : (4 : Int64) = 4 := rfl
        omega
      · refine own_go (x' := T6.setTop (mkF m 122 #[.val (.long q0), .second, .val (.long q1), .second, .val (.long q2), .second, .val (.long q3), .second, .val (.long q4), .second, .val (.ref b1), .val (.ref b3), .val (.long (own_most q1)), .second, .val (.long (own_most q1)), .second, .val (.long (q1 / (4 : Int64))), .second, .val (.long (262144 : Int64)), .second, .val (.int (0 : Int32)), .val (.int (0 : Int32))] [(.int (0 : Int32))])) (fun _ k => XS.ifYes X6.here hx rfl (pc0 := 89) (pc' := 96) rfl (hb hby at_89) rfl ((if0 _ _).trans (feq (fun q_ => hc89 ((lw_eq (own_most q1) (262144 : Int64)).mp q_))).2) (by decide) (by decide) (XS.iconst X6.here hx rfl (hb hby at_96) (XS.istore X6.here hx rfl (hb hby at_97) rfl (l' := #[.val (.long q0), .second, .val (.long q1), .second, .val (.long q2), .second, .val (.long q3), .second, .val (.long q4), .second, .val (.ref b1), .val (.ref b3), .val (.long (own_most q1)), .second, .val (.long (own_most q1)), .second, .val (.long (q1 / (4 : Int64))), .second, .val (.long (262144 : Int64)), .second, .val (.int (0 : Int32)), .val (.int (0 : Int32))]) rfl (XS.iload X6.here hx rfl (hb hby at_99) rfl (XS.ifYes X6.here hx rfl (pc0 := 101) (pc' := 121) rfl (hb hby at_101) rfl ((if0 _ _).trans (teq rfl).1) (by decide) (by decide) (XS.iconst X6.here hx rfl (hb hby at_121) k)))))) ?_
        refine own_retN X6 hx hlk (t := .boolean) hret (by simp) (hb hby at_122) (w := (0 : Int32)) rfl ?_ (by decide) (by decide)
        rw [eq6]
        exfalso
        have t_hc58 := Int64.lt_iff_toInt_lt.mp hc58
        have t_hc81 := mt Int64.toInt_inj.mp hc81
        have t_hc89 := mt Int64.toInt_inj.mp hc89
        have l64_262144 : (262144 : Int64).toInt = 262144 := by decide
        have l64_4 : (4 : Int64).toInt = 4 := by decide
        have hm := own_mm q1
        have hl : (4 : Int64) = 4 := rfl
        omega
  · refine own_go (x' := T6.setTop (mkF m 66 #[.val (.long q0), .second, .val (.long q1), .second, .val (.long q2), .second, .val (.long q3), .second, .val (.long q4), .second, .val (.ref b1), .val (.ref b3), .val (.long (own_most q1)), .second, .val (.long (own_most q1)), .second, .val (.long (q1 / (4 : Int64))), .second, .val (.long (262144 : Int64)), .second, .unset, .unset] [(.int (lcmpW (own_most q1) (262144 : Int64)))])) (fun _ k => XS.ifNo X6.here hx rfl (hb hby at_58) rfl ((if0 _ _).trans (flt (fun q_ => hc58 ((lw_lt (own_most q1) (q1 / (4 : Int64))).mp q_))).1) (XS.lload X6.here hx rfl (hb hby at_61) rfl (XS.lload X6.here hx rfl (hb hby at_63) rfl (XS.lcmp X6.here hx rfl (hb hby at_65) rfl k)))) ?_
    by_cases hc66 : (own_most q1) < (262144 : Int64)
    · refine own_go (x' := T6.setTop (mkF m 81 #[.val (.long q0), .second, .val (.long q1), .second, .val (.long q2), .second, .val (.long q3), .second, .val (.long q4), .second, .val (.ref b1), .val (.ref b3), .val (.long (own_most q1)), .second, .val (.long (own_most q1)), .second, .val (.long (q1 / (4 : Int64))), .second, .val (.long (262144 : Int64)), .second, .val (.int (0 : Int32)), .unset] [(.int (lcmpW (own_most q1) (q1 / (4 : Int64))))])) (fun _ k => XS.ifYes X6.here hx rfl (pc0 := 66) (pc' := 73) rfl (hb hby at_66) rfl ((if0 _ _).trans (tlt ((lw_lt (own_most q1) (262144 : Int64)).mpr hc66)).1) (by decide) (by decide) (XS.iconst X6.here hx rfl (hb hby at_73) (XS.istore X6.here hx rfl (hb hby at_74) rfl (l' := #[.val (.long q0), .second, .val (.long q1), .second, .val (.long q2), .second, .val (.long q3), .second, .val (.long q4), .second, .val (.ref b1), .val (.ref b3), .val (.long (own_most q1)), .second, .val (.long (own_most q1)), .second, .val (.long (q1 / (4 : Int64))), .second, .val (.long (262144 : Int64)), .second, .val (.int (0 : Int32)), .unset]) rfl (XS.lload X6.here hx rfl (hb hby at_76) rfl (XS.lload X6.here hx rfl (hb hby at_78) rfl (XS.lcmp X6.here hx rfl (hb hby at_80) rfl k)))))) ?_
      by_cases hc81 : (own_most q1) = (q1 / (4 : Int64))
      · refine own_go (x' := T6.setTop (mkF m 121 #[.val (.long q0), .second, .val (.long q1), .second, .val (.long q2), .second, .val (.long q3), .second, .val (.long q4), .second, .val (.ref b1), .val (.ref b3), .val (.long (own_most q1)), .second, .val (.long (own_most q1)), .second, .val (.long (q1 / (4 : Int64))), .second, .val (.long (262144 : Int64)), .second, .val (.int (0 : Int32)), .val (.int (1 : Int32))] [])) (fun _ k => XS.ifYes X6.here hx rfl (pc0 := 81) (pc' := 92) rfl (hb hby at_81) rfl ((if0 _ _).trans (teq ((lw_eq (own_most q1) (q1 / (4 : Int64))).mpr hc81)).1) (by decide) (by decide) (XS.iconst X6.here hx rfl (hb hby at_92) (XS.goto X6.here hx rfl (pc0 := 93) (pc' := 97) rfl (hb hby at_93) (by decide) (by decide) (XS.istore X6.here hx rfl (hb hby at_97) rfl (l' := #[.val (.long q0), .second, .val (.long q1), .second, .val (.long q2), .second, .val (.long q3), .second, .val (.long q4), .second, .val (.ref b1), .val (.ref b3), .val (.long (own_most q1)), .second, .val (.long (own_most q1)), .second, .val (.long (q1 / (4 : Int64))), .second, .val (.long (262144 : Int64)), .second, .val (.int (0 : Int32)), .val (.int (1 : Int32))]) rfl (XS.iload X6.here hx rfl (hb hby at_99) rfl (XS.ifYes X6.here hx rfl (pc0 := 101) (pc' := 121) rfl (hb hby at_101) rfl ((if0 _ _).trans (teq rfl).1) (by decide) (by decide) k)))))) ?_
        refine own_go (x' := T6.setTop (mkF m 122 #[.val (.long q0), .second, .val (.long q1), .second, .val (.long q2), .second, .val (.long q3), .second, .val (.long q4), .second, .val (.ref b1), .val (.ref b3), .val (.long (own_most q1)), .second, .val (.long (own_most q1)), .second, .val (.long (q1 / (4 : Int64))), .second, .val (.long (262144 : Int64)), .second, .val (.int (0 : Int32)), .val (.int (1 : Int32))] [(.int (0 : Int32))])) (fun _ k => XS.iconst X6.here hx rfl (hb hby at_121) k) ?_
        refine own_retN X6 hx hlk (t := .boolean) hret (by simp) (hb hby at_122) (w := (0 : Int32)) rfl ?_ (by decide) (by decide)
        rw [eq6]
        exfalso
        have t_hc58 := mt Int64.lt_iff_toInt_lt.mpr hc58
        have t_hc66 := Int64.lt_iff_toInt_lt.mp hc66
        have t_hc81 := congrArg Int64.toInt hc81
        have l64_262144 : (262144 : Int64).toInt = 262144 := by decide
        have l64_4 : (4 : Int64).toInt = 4 := by decide
        have hm := own_mm q1
        have hl : (4 : Int64) = 4 := rfl
        omega
      · refine own_go (x' := T6.setTop (mkF m 89 #[.val (.long q0), .second, .val (.long q1), .second, .val (.long q2), .second, .val (.long q3), .second, .val (.long q4), .second, .val (.ref b1), .val (.ref b3), .val (.long (own_most q1)), .second, .val (.long (own_most q1)), .second, .val (.long (q1 / (4 : Int64))), .second, .val (.long (262144 : Int64)), .second, .val (.int (0 : Int32)), .unset] [(.int (lcmpW (own_most q1) (262144 : Int64)))])) (fun _ k => XS.ifNo X6.here hx rfl (hb hby at_81) rfl ((if0 _ _).trans (feq (fun q_ => hc81 ((lw_eq (own_most q1) (q1 / (4 : Int64))).mp q_))).1) (XS.lload X6.here hx rfl (hb hby at_84) rfl (XS.lload X6.here hx rfl (hb hby at_86) rfl (XS.lcmp X6.here hx rfl (hb hby at_88) rfl k)))) ?_
        by_cases hc89 : (own_most q1) = (262144 : Int64)
        · refine own_go (x' := T6.setTop (mkF m 121 #[.val (.long q0), .second, .val (.long q1), .second, .val (.long q2), .second, .val (.long q3), .second, .val (.long q4), .second, .val (.ref b1), .val (.ref b3), .val (.long (own_most q1)), .second, .val (.long (own_most q1)), .second, .val (.long (q1 / (4 : Int64))), .second, .val (.long (262144 : Int64)), .second, .val (.int (0 : Int32)), .val (.int (1 : Int32))] [])) (fun _ k => XS.ifNo X6.here hx rfl (hb hby at_89) rfl ((if0 _ _).trans (teq ((lw_eq (own_most q1) (262144 : Int64)).mpr hc89)).2) (XS.iconst X6.here hx rfl (hb hby at_92) (XS.goto X6.here hx rfl (pc0 := 93) (pc' := 97) rfl (hb hby at_93) (by decide) (by decide) (XS.istore X6.here hx rfl (hb hby at_97) rfl (l' := #[.val (.long q0), .second, .val (.long q1), .second, .val (.long q2), .second, .val (.long q3), .second, .val (.long q4), .second, .val (.ref b1), .val (.ref b3), .val (.long (own_most q1)), .second, .val (.long (own_most q1)), .second, .val (.long (q1 / (4 : Int64))), .second, .val (.long (262144 : Int64)), .second, .val (.int (0 : Int32)), .val (.int (1 : Int32))]) rfl (XS.iload X6.here hx rfl (hb hby at_99) rfl (XS.ifYes X6.here hx rfl (pc0 := 101) (pc' := 121) rfl (hb hby at_101) rfl ((if0 _ _).trans (teq rfl).1) (by decide) (by decide) k)))))) ?_
          refine own_go (x' := T6.setTop (mkF m 122 #[.val (.long q0), .second, .val (.long q1), .second, .val (.long q2), .second, .val (.long q3), .second, .val (.long q4), .second, .val (.ref b1), .val (.ref b3), .val (.long (own_most q1)), .second, .val (.long (own_most q1)), .second, .val (.long (q1 / (4 : Int64))), .second, .val (.long (262144 : Int64)), .second, .val (.int (0 : Int32)), .val (.int (1 : Int32))] [(.int (0 : Int32))])) (fun _ k => XS.iconst X6.here hx rfl (hb hby at_121) k) ?_
          refine own_retN X6 hx hlk (t := .boolean) hret (by simp) (hb hby at_122) (w := (0 : Int32)) rfl ?_ (by decide) (by decide)
          rw [eq6]
          exfalso
          have t_hc58 := mt Int64.lt_iff_toInt_lt.mpr hc58
          have t_hc66 := Int64.lt_iff_toInt_lt.mp hc66
          have t_hc81 := mt Int64.toInt_inj.mp hc81
          have t_hc89 := congrArg Int64.toInt hc89
          have l64_262144 : (262144 : Int64).toInt = 262144 := by decide
          have l64_4 : (4 : Int64).toInt = 4 := by decide
          have hm := own_mm q1
          have hl : (4 : Int64) = 4 := rfl
          omega
        · refine own_go (x' := T6.setTop (mkF m 122 #[.val (.long q0), .second, .val (.long q1), .second, .val (.long q2), .second, .val (.long q3), .second, .val (.long q4), .second, .val (.ref b1), .val (.ref b3), .val (.long (own_most q1)), .second, .val (.long (own_most q1)), .second, .val (.long (q1 / (4 : Int64))), .second, .val (.long (262144 : Int64)), .second, .val (.int (0 : Int32)), .val (.int (0 : Int32))] [(.int (0 : Int32))])) (fun _ k => XS.ifYes X6.here hx rfl (pc0 := 89) (pc' := 96) rfl (hb hby at_89) rfl ((if0 _ _).trans (feq (fun q_ => hc89 ((lw_eq (own_most q1) (262144 : Int64)).mp q_))).2) (by decide) (by decide) (XS.iconst X6.here hx rfl (hb hby at_96) (XS.istore X6.here hx rfl (hb hby at_97) rfl (l' := #[.val (.long q0), .second, .val (.long q1), .second, .val (.long q2), .second, .val (.long q3), .second, .val (.long q4), .second, .val (.ref b1), .val (.ref b3), .val (.long (own_most q1)), .second, .val (.long (own_most q1)), .second, .val (.long (q1 / (4 : Int64))), .second, .val (.long (262144 : Int64)), .second, .val (.int (0 : Int32)), .val (.int (0 : Int32))]) rfl (XS.iload X6.here hx rfl (hb hby at_99) rfl (XS.ifYes X6.here hx rfl (pc0 := 101) (pc' := 121) rfl (hb hby at_101) rfl ((if0 _ _).trans (teq rfl).1) (by decide) (by decide) (XS.iconst X6.here hx rfl (hb hby at_121) k)))))) ?_
          refine own_retN X6 hx hlk (t := .boolean) hret (by simp) (hb hby at_122) (w := (0 : Int32)) rfl ?_ (by decide) (by decide)
          rw [eq6]
          exfalso
          have t_hc58 := mt Int64.lt_iff_toInt_lt.mpr hc58
          have t_hc66 := Int64.lt_iff_toInt_lt.mp hc66
          have t_hc81 := mt Int64.toInt_inj.mp hc81
          have t_hc89 := mt Int64.toInt_inj.mp hc89
          have l64_262144 : (262144 : Int64).toInt = 262144 := by decide
          have l64_4 : (4 : Int64).toInt = 4 := by decide
          have hm := own_mm q1
          have hl : (4 : Int64) = 4 := rfl
          omega
    · refine own_go (x' := T6.setTop (mkF m 80 #[.val (.long q0), .second, .val (.long q1), .second, .val (.long q2), .second, .val (.long q3), .second, .val (.long q4), .second, .val (.ref b1), .val (.ref b3), .val (.long (own_most q1)), .second, .val (.long (own_most q1)), .second, .val (.long (q1 / (4 : Int64))), .second, .val (.long (262144 : Int64)), .second, .val (.int (1 : Int32)), .unset] [(.long (q1 / (4 : Int64))), (.long (own_most q1))])) (fun _ k => XS.ifNo X6.here hx rfl (hb hby at_66) rfl ((if0 _ _).trans (flt (fun q_ => hc66 ((lw_lt (own_most q1) (262144 : Int64)).mp q_))).1) (XS.iconst X6.here hx rfl (hb hby at_69) (XS.goto X6.here hx rfl (pc0 := 70) (pc' := 74) rfl (hb hby at_70) (by decide) (by decide) (XS.istore X6.here hx rfl (hb hby at_74) rfl (l' := #[.val (.long q0), .second, .val (.long q1), .second, .val (.long q2), .second, .val (.long q3), .second, .val (.long q4), .second, .val (.ref b1), .val (.ref b3), .val (.long (own_most q1)), .second, .val (.long (own_most q1)), .second, .val (.long (q1 / (4 : Int64))), .second, .val (.long (262144 : Int64)), .second, .val (.int (1 : Int32)), .unset]) rfl (XS.lload X6.here hx rfl (hb hby at_76) rfl (XS.lload X6.here hx rfl (hb hby at_78) rfl k)))))) ?_
      refine own_go (x' := T6.setTop (mkF m 81 #[.val (.long q0), .second, .val (.long q1), .second, .val (.long q2), .second, .val (.long q3), .second, .val (.long q4), .second, .val (.ref b1), .val (.ref b3), .val (.long (own_most q1)), .second, .val (.long (own_most q1)), .second, .val (.long (q1 / (4 : Int64))), .second, .val (.long (262144 : Int64)), .second, .val (.int (1 : Int32)), .unset] [(.int (lcmpW (own_most q1) (q1 / (4 : Int64))))])) (fun _ k => XS.lcmp X6.here hx rfl (hb hby at_80) rfl k) ?_
      by_cases hc81 : (own_most q1) = (q1 / (4 : Int64))
      · refine own_go (x' := T6.setTop (mkF m 104 #[.val (.long q0), .second, .val (.long q1), .second, .val (.long q2), .second, .val (.long q3), .second, .val (.long q4), .second, .val (.ref b1), .val (.ref b3), .val (.long (own_most q1)), .second, .val (.long (own_most q1)), .second, .val (.long (q1 / (4 : Int64))), .second, .val (.long (262144 : Int64)), .second, .val (.int (1 : Int32)), .val (.int (1 : Int32))] [])) (fun _ k => XS.ifYes X6.here hx rfl (pc0 := 81) (pc' := 92) rfl (hb hby at_81) rfl ((if0 _ _).trans (teq ((lw_eq (own_most q1) (q1 / (4 : Int64))).mpr hc81)).1) (by decide) (by decide) (XS.iconst X6.here hx rfl (hb hby at_92) (XS.goto X6.here hx rfl (pc0 := 93) (pc' := 97) rfl (hb hby at_93) (by decide) (by decide) (XS.istore X6.here hx rfl (hb hby at_97) rfl (l' := #[.val (.long q0), .second, .val (.long q1), .second, .val (.long q2), .second, .val (.long q3), .second, .val (.long q4), .second, .val (.ref b1), .val (.ref b3), .val (.long (own_most q1)), .second, .val (.long (own_most q1)), .second, .val (.long (q1 / (4 : Int64))), .second, .val (.long (262144 : Int64)), .second, .val (.int (1 : Int32)), .val (.int (1 : Int32))]) rfl (XS.iload X6.here hx rfl (hb hby at_99) rfl (XS.ifNo X6.here hx rfl (hb hby at_101) rfl ((if0 _ _).trans (feq (by decide +kernel : ¬ ((1 : Int32) = (0 : Int32)))).1) k)))))) ?_
        refine own_go (x' := T6.setTop (mkF m 117 #[.val (.long q0), .second, .val (.long q1), .second, .val (.long q2), .second, .val (.long q3), .second, .val (.long q4), .second, .val (.ref b1), .val (.ref b3), .val (.long (own_most q1)), .second, .val (.long (own_most q1)), .second, .val (.long (q1 / (4 : Int64))), .second, .val (.long (262144 : Int64)), .second, .val (.int (1 : Int32)), .val (.int (1 : Int32))] [])) (fun _ k => XS.iload X6.here hx rfl (hb hby at_104) rfl (XS.ifNo X6.here hx rfl (hb hby at_106) rfl ((if0 _ _).trans (feq (by decide +kernel : ¬ ((1 : Int32) = (0 : Int32)))).1) (XS.lload X6.here hx rfl (hb hby at_109) rfl (XS.lload X6.here hx rfl (hb hby at_111) rfl (XS.lcmp X6.here hx rfl (hb hby at_113) rfl (XS.ifNo X6.here hx rfl (hb hby at_114) rfl ((if0 _ _).trans (teq ((lw_eq (own_most q1) (own_most q1)).mpr rfl)).2) k)))))) ?_
        refine own_go (x' := T6.setTop (mkF m 122 #[.val (.long q0), .second, .val (.long q1), .second, .val (.long q2), .second, .val (.long q3), .second, .val (.long q4), .second, .val (.ref b1), .val (.ref b3), .val (.long (own_most q1)), .second, .val (.long (own_most q1)), .second, .val (.long (q1 / (4 : Int64))), .second, .val (.long (262144 : Int64)), .second, .val (.int (1 : Int32)), .val (.int (1 : Int32))] [(.int (1 : Int32))])) (fun _ k => XS.iconst X6.here hx rfl (hb hby at_117) (XS.goto X6.here hx rfl (pc0 := 118) (pc' := 122) rfl (hb hby at_118) (by decide) (by decide) k)) ?_
        refine own_retN X6 hx hlk (t := .boolean) hret (by simp) (hb hby at_122) (w := (1 : Int32)) rfl ?_ (by decide) (by decide)
        rw [eq6]
        exact ⟨rfl, Nf⟩
      · refine own_go (x' := T6.setTop (mkF m 89 #[.val (.long q0), .second, .val (.long q1), .second, .val (.long q2), .second, .val (.long q3), .second, .val (.long q4), .second, .val (.ref b1), .val (.ref b3), .val (.long (own_most q1)), .second, .val (.long (own_most q1)), .second, .val (.long (q1 / (4 : Int64))), .second, .val (.long (262144 : Int64)), .second, .val (.int (1 : Int32)), .unset] [(.int (lcmpW (own_most q1) (262144 : Int64)))])) (fun _ k => XS.ifNo X6.here hx rfl (hb hby at_81) rfl ((if0 _ _).trans (feq (fun q_ => hc81 ((lw_eq (own_most q1) (q1 / (4 : Int64))).mp q_))).1) (XS.lload X6.here hx rfl (hb hby at_84) rfl (XS.lload X6.here hx rfl (hb hby at_86) rfl (XS.lcmp X6.here hx rfl (hb hby at_88) rfl k)))) ?_
        by_cases hc89 : (own_most q1) = (262144 : Int64)
        · refine own_go (x' := T6.setTop (mkF m 104 #[.val (.long q0), .second, .val (.long q1), .second, .val (.long q2), .second, .val (.long q3), .second, .val (.long q4), .second, .val (.ref b1), .val (.ref b3), .val (.long (own_most q1)), .second, .val (.long (own_most q1)), .second, .val (.long (q1 / (4 : Int64))), .second, .val (.long (262144 : Int64)), .second, .val (.int (1 : Int32)), .val (.int (1 : Int32))] [])) (fun _ k => XS.ifNo X6.here hx rfl (hb hby at_89) rfl ((if0 _ _).trans (teq ((lw_eq (own_most q1) (262144 : Int64)).mpr hc89)).2) (XS.iconst X6.here hx rfl (hb hby at_92) (XS.goto X6.here hx rfl (pc0 := 93) (pc' := 97) rfl (hb hby at_93) (by decide) (by decide) (XS.istore X6.here hx rfl (hb hby at_97) rfl (l' := #[.val (.long q0), .second, .val (.long q1), .second, .val (.long q2), .second, .val (.long q3), .second, .val (.long q4), .second, .val (.ref b1), .val (.ref b3), .val (.long (own_most q1)), .second, .val (.long (own_most q1)), .second, .val (.long (q1 / (4 : Int64))), .second, .val (.long (262144 : Int64)), .second, .val (.int (1 : Int32)), .val (.int (1 : Int32))]) rfl (XS.iload X6.here hx rfl (hb hby at_99) rfl (XS.ifNo X6.here hx rfl (hb hby at_101) rfl ((if0 _ _).trans (feq (by decide +kernel : ¬ ((1 : Int32) = (0 : Int32)))).1) k)))))) ?_
          refine own_go (x' := T6.setTop (mkF m 117 #[.val (.long q0), .second, .val (.long q1), .second, .val (.long q2), .second, .val (.long q3), .second, .val (.long q4), .second, .val (.ref b1), .val (.ref b3), .val (.long (own_most q1)), .second, .val (.long (own_most q1)), .second, .val (.long (q1 / (4 : Int64))), .second, .val (.long (262144 : Int64)), .second, .val (.int (1 : Int32)), .val (.int (1 : Int32))] [])) (fun _ k => XS.iload X6.here hx rfl (hb hby at_104) rfl (XS.ifNo X6.here hx rfl (hb hby at_106) rfl ((if0 _ _).trans (feq (by decide +kernel : ¬ ((1 : Int32) = (0 : Int32)))).1) (XS.lload X6.here hx rfl (hb hby at_109) rfl (XS.lload X6.here hx rfl (hb hby at_111) rfl (XS.lcmp X6.here hx rfl (hb hby at_113) rfl (XS.ifNo X6.here hx rfl (hb hby at_114) rfl ((if0 _ _).trans (teq ((lw_eq (own_most q1) (own_most q1)).mpr rfl)).2) k)))))) ?_
          refine own_go (x' := T6.setTop (mkF m 122 #[.val (.long q0), .second, .val (.long q1), .second, .val (.long q2), .second, .val (.long q3), .second, .val (.long q4), .second, .val (.ref b1), .val (.ref b3), .val (.long (own_most q1)), .second, .val (.long (own_most q1)), .second, .val (.long (q1 / (4 : Int64))), .second, .val (.long (262144 : Int64)), .second, .val (.int (1 : Int32)), .val (.int (1 : Int32))] [(.int (1 : Int32))])) (fun _ k => XS.iconst X6.here hx rfl (hb hby at_117) (XS.goto X6.here hx rfl (pc0 := 118) (pc' := 122) rfl (hb hby at_118) (by decide) (by decide) k)) ?_
          refine own_retN X6 hx hlk (t := .boolean) hret (by simp) (hb hby at_122) (w := (1 : Int32)) rfl ?_ (by decide) (by decide)
          rw [eq6]
          exact ⟨rfl, Nf⟩
        · refine own_go (x' := T6.setTop (mkF m 106 #[.val (.long q0), .second, .val (.long q1), .second, .val (.long q2), .second, .val (.long q3), .second, .val (.long q4), .second, .val (.ref b1), .val (.ref b3), .val (.long (own_most q1)), .second, .val (.long (own_most q1)), .second, .val (.long (q1 / (4 : Int64))), .second, .val (.long (262144 : Int64)), .second, .val (.int (1 : Int32)), .val (.int (0 : Int32))] [(.int (0 : Int32))])) (fun _ k => XS.ifYes X6.here hx rfl (pc0 := 89) (pc' := 96) rfl (hb hby at_89) rfl ((if0 _ _).trans (feq (fun q_ => hc89 ((lw_eq (own_most q1) (262144 : Int64)).mp q_))).2) (by decide) (by decide) (XS.iconst X6.here hx rfl (hb hby at_96) (XS.istore X6.here hx rfl (hb hby at_97) rfl (l' := #[.val (.long q0), .second, .val (.long q1), .second, .val (.long q2), .second, .val (.long q3), .second, .val (.long q4), .second, .val (.ref b1), .val (.ref b3), .val (.long (own_most q1)), .second, .val (.long (own_most q1)), .second, .val (.long (q1 / (4 : Int64))), .second, .val (.long (262144 : Int64)), .second, .val (.int (1 : Int32)), .val (.int (0 : Int32))]) rfl (XS.iload X6.here hx rfl (hb hby at_99) rfl (XS.ifNo X6.here hx rfl (hb hby at_101) rfl ((if0 _ _).trans (feq (by decide +kernel : ¬ ((1 : Int32) = (0 : Int32)))).1) (XS.iload X6.here hx rfl (hb hby at_104) rfl k)))))) ?_
          refine own_go (x' := T6.setTop (mkF m 122 #[.val (.long q0), .second, .val (.long q1), .second, .val (.long q2), .second, .val (.long q3), .second, .val (.long q4), .second, .val (.ref b1), .val (.ref b3), .val (.long (own_most q1)), .second, .val (.long (own_most q1)), .second, .val (.long (q1 / (4 : Int64))), .second, .val (.long (262144 : Int64)), .second, .val (.int (1 : Int32)), .val (.int (0 : Int32))] [(.int (0 : Int32))])) (fun _ k => XS.ifYes X6.here hx rfl (pc0 := 106) (pc' := 121) rfl (hb hby at_106) rfl ((if0 _ _).trans (teq rfl).1) (by decide) (by decide) (XS.iconst X6.here hx rfl (hb hby at_121) k)) ?_
          refine own_retN X6 hx hlk (t := .boolean) hret (by simp) (hb hby at_122) (w := (0 : Int32)) rfl ?_ (by decide) (by decide)
          rw [eq6]
          exfalso
          have t_hc58 := mt Int64.lt_iff_toInt_lt.mpr hc58
          have t_hc66 := mt Int64.lt_iff_toInt_lt.mpr hc66
          have t_hc81 := mt Int64.toInt_inj.mp hc81
          have t_hc89 := mt Int64.toInt_inj.mp hc89
          have l64_262144 : (262144 : Int64).toInt = 262144 := by decide
          have l64_4 : (4 : Int64).toInt = 4 := by decide
          have hm := own_mm q1
          have hl : (4 : Int64) = 4 := rfl
          omega
set_option maxRecDepth 65536 in
set_option maxHeartbeats 40000000 in
theorem comes_1 {Post : Tables → Env → Array Value → State → Outcome → State → Prop} (hpost : ∀ tb e args s v u, (limb_1_1.after args s (.returned v) u = true ∧ limb_1_2.after args s (.returned v) u = true ∧ True) → FrameEnd s (.returned v) u (Jvm.fieldLocs frame_1_writes args s ++ Jvm.arrayLocs frame_1_arrays args s ++ Jvm.staticLocs frame_1_statics s) 16 128 → Post tb e args s (.returned v) u) :
    ArmFor flags0 classFile x code maxLocals ret World_1 tables_1 room_1 Calls_1 rest_1 Pre_1 Post := by
  intro l hfl _ _ p e ha hc hk s m args below hf hA hF happ hP
  obtain ⟨hcalls, hrest, hpre⟩ := hP
  obtain ⟨-, -, -, hnamed, -, -, -, hat⟩ := (Spec.applies_iff hf).mp happ
  obtain ⟨hg, hn⟩ := and_e (Cond.before_iff.mp (show (Jvm.Cond.and given_1 narrow_1).before args s = true from hpre))
  obtain ⟨gg1, gg2⟩ := and_e hg
  obtain ⟨gg3, gg4⟩ := and_e gg2
  obtain ⟨gg5, gg6⟩ := and_e gg4
  obtain ⟨gg7, gg8⟩ := and_e gg6
  obtain ⟨gg9, gg10⟩ := and_e gg8
  obtain ⟨w0, w1, w2, w3, w4, rfl⟩ : ∃ w0 w1 w2 w3 w4 : Value, args = #[w0, w1, w2, w3, w4] := by
    have hs : args.size = 5 := by simpa [Cond.value, given_1] using gg1
    obtain ⟨L⟩ := args
    match L, hs with
    | [w0, w1, w2, w3, w4], _ => exact ⟨w0, w1, w2, w3, w4, rfl⟩
  have hw := fun d (hd : d ∈ tables_1) => atoms_spec (ws := Jvm.Cond.code x code maxLocals ret :: tables_1) hat d (List.mem_cons_of_mem _ hd)
  have hfit : Fit s := fun {y c} hc i hi => by
    obtain ⟨ha, rfl⟩ := Array.getElem?_eq_some_iff.mp hc
    have q := List.all_eq_true.mp ((Array.all_eq_true_iff_forall_mem.mp hF) _ (Array.getElem_mem ha)) i (List.mem_range.mpr hi)
    simpa [Array.getElem?_eq_getElem hi] using q
  obtain ⟨i0, ei0⟩ := isL_v gg3
  obtain rfl : w0 = (.long i0) := Option.some.inj ei0
  obtain ⟨i1, ei1⟩ := isL_v gg5
  obtain rfl : w1 = (.long i1) := Option.some.inj ei1
  obtain ⟨i2, ei2⟩ := isL_v gg7
  obtain rfl : w2 = (.long i2) := Option.some.inj ei2
  obtain ⟨i3, ei3⟩ := isL_v gg9
  obtain rfl : w3 = (.long i3) := Option.some.inj ei3
  obtain ⟨i4, ei4⟩ := isL_v gg10
  obtain rfl : w4 = (.long i4) := Option.some.inj ei4
  obtain ⟨n, o, h1, h2, h3, _, L, rfl, ⟨rfl, N⟩, hq⟩ := rm0 l s _ hw tables_1 i0 i1 i2 i3 i4  s.heap s.heap.size (Nat.le_refl _)  p e ha hc hk s m _ below hf ((Spec.applies_iff_loose hf).mp happ).1 ⟨rfl, State.Warmed39.refl s, rfl⟩ trivial
  refine ⟨n, _, h1, h2, h3, hpost _ _ _ _ _ _ ⟨Cond.after_iff.mpr rfl, Cond.after_iff.mpr (eq_i res_at (Term.int_eval (1)) rfl), trivial⟩ ⟨hq.1, hq.2.1, (hq.2.2.sift fun y hy => Or.inr (N y hy)).mono (by decide) (by decide)⟩⟩
theorem main_1_1 : Claimed_1_1 := comes_1 fun _ _ _ _ _ _ h hF => ⟨h.1, hF⟩
theorem main_1_2 : Claimed_1_2 := comes_1 fun _ _ _ _ _ _ h hF => ⟨h.2.1, hF⟩
end Jvm.Pilot.@@N@@
namespace Jvm.Pilot.@@N@@
open Jvm Jvm.ClassFile Sem Op Lib Jvm.Free Jvm.Stand Jvm.Pilot.@@N@@.Jvm.D
/-! MADE BY PROGRAM (witnessworld.py) out of the Statement's table words and the real class files: 9 classes; the members and pool entries that the words name. The judged class is class 1, her method 1. -/
namespace start1
open Jvm.ClassFile
def u (s : String) : CpInfo := .utf8 (stringToUtf16 s)
/-- a pool by its gaps: so many unusable entries, then the entry; so many at the end -/
def gap : Nat → List CpInfo → List CpInfo
  | 0, r => r
  | n + 1, r => .unusable :: gap n r
def poolList (es : List (Nat × CpInfo)) (last : Nat) : List CpInfo := es.foldr (fun e r => gap e.1 (e.2 :: r)) (gap last [])
def pool (es : List (Nat × CpInfo)) (last : Nat) : Array CpInfo := ⟨poolList es last⟩
def fileOf (pool : Array CpInfo) (this : Nat) (attrs : Array Attribute := #[]) (ms : Array MethodInfo := #[]) (fl : Nat := 33) (sup : Nat := 0) (ifs : Array Nat := #[]) (fds : Array FieldInfo := #[]) : ClassFile where
  minorVersion := 0
  majorVersion := 65
  constantPool := pool
  accessFlags := fl
  thisClass := this
  superClass := sup
  interfaces := ifs
  fields := fds
  methods := ms
  attributes := attrs
def plain (name : String) (sup : Option ClassId) : Class where
  name := name
  kind := .ordinary
  loader := none
  accessFlags := 33
  super := sup
  interfaces := #[]
  cf := none
  fields := #[]
  methods := #[]
  instanceTypes := #[]
  staticTypes := #[]
  resolved := #[]
  callSites := []
  init := .initialized
  statics := none
  mirror := none

def pool0 : Array CpInfo := pool [(5, u "<init>"), (0, u "()V"), (1, .class_ 10), (1, u "java/lang/Object")] 113

def k0c0 : Code := { maxStack := 0, maxLocals := 1, code := object_method_1_code, exceptionTable := #[], attributes := #[] }
def k0m0 : Method := { name := "<init>", desc := "()V", sig := { parameters := [], returnType := none }, accessFlags := 1, code := some k0c0 }
/-- java/lang/Object -/
def k0 : Class := { plain "java/lang/Object" none with
  accessFlags := 33
  interfaces := #[]
  cf := some (fileOf pool0 8 #[] #[{ accessFlags := 1, nameIndex := 5, descriptorIndex := 6, attributes := #[] }] 33 0 #[] #[])
  fields := #[]
  methods := #[k0m0]
  instanceTypes := #[]
  staticTypes := #[]
  resolved := Array.replicate 124 none
  statics := none }

def pool1 : Array CpInfo := pool [(2, .class_ 4), (1, u "java/lang/Object"), (0, u "<init>"), (0, u "()V"), (0, .class_ 8), (0, u "com/example/lean_bus/leanbus/store/MemoryLimits"), (0, .methodref 7 10), (0, .nameAndType 5 11), (0, u "(JJJ)V"), (0, .methodref 7 13), (0, .nameAndType 14 15), (0, u "mostCarriedAtOnce"), (0, u "()J"), (0, .long 4), (1, .long 262144), (1, .class_ 21), (0, u "com/example/lean_bus/leanbus/store/MemoryLimitsMostCarriedAtOncePinLaw"), (2, u "law"), (0, u "(JJJJJ)Z")] 3

def k1m0 : Method := { name := "<init>", desc := "()V", sig := { parameters := [], returnType := none }, accessFlags := 1, code := none }
def k1c1 : Code := { maxStack := 8, maxLocals := 22, code := code, exceptionTable := #[], attributes := #[] }
def k1m1 : Method := { name := "law", desc := "(JJJJJ)Z", sig := { parameters := [.long, .long, .long, .long, .long], returnType := some .boolean }, accessFlags := 9, code := some k1c1 }
/-- com/example/lean_bus/leanbus/store/MemoryLimitsMostCarriedAtOncePinLaw -/
def k1 : Class := { plain "com/example/lean_bus/leanbus/store/MemoryLimitsMostCarriedAtOncePinLaw" (some 0) with
  accessFlags := 49
  interfaces := #[]
  cf := some (fileOf pool1 20 #[] #[{ accessFlags := 1, nameIndex := 5, descriptorIndex := 6, attributes := #[] }, { accessFlags := 9, nameIndex := 24, descriptorIndex := 25, attributes := #[] }] 49 2 #[] #[])
  fields := #[]
  methods := #[k1m0, k1m1]
  instanceTypes := #[]
  staticTypes := #[]
  resolved := Array.replicate 29 none
  statics := none }

def pool2 : Array CpInfo := pool [(1, .methodref 2 3), (0, .class_ 4), (0, .nameAndType 5 6), (0, u "java/lang/Object"), (0, u "<init>"), (0, u "()V"), (0, .class_ 8), (0, u "java/lang/Record")] 13

def k2c0 : Code := { maxStack := 1, maxLocals := 1, code := jdk_30_method_1_code, exceptionTable := #[], attributes := #[] }
def k2m0 : Method := { name := "<init>", desc := "()V", sig := { parameters := [], returnType := none }, accessFlags := 4, code := some k2c0 }
/-- java/lang/Record -/
def k2 : Class := { plain "java/lang/Record" (some 0) with
  accessFlags := 1057
  interfaces := #[]
  cf := some (fileOf pool2 7 #[] #[{ accessFlags := 4, nameIndex := 5, descriptorIndex := 6, attributes := #[] }] 1057 2 #[] #[])
  fields := #[]
  methods := #[k2m0]
  instanceTypes := #[]
  staticTypes := #[]
  resolved := Array.replicate 22 none
  statics := none }

def pool3 : Array CpInfo := pool [(1, .methodref 2 3), (0, .class_ 4), (0, .nameAndType 5 6), (0, u "java/lang/Record"), (0, u "<init>"), (0, u "()V"), (0, .fieldref 8 9), (0, .class_ 10), (0, .nameAndType 11 12), (0, u "com/example/lean_bus/leanbus/store/MemoryLimits"), (0, u "max"), (0, u "J"), (0, .fieldref 8 14), (0, .nameAndType 15 12), (0, u "minFree"), (0, .fieldref 8 17), (0, .nameAndType 18 12), (0, u "statuses"), (2, u "(JJJ)V"), (3, .class_ 27), (1, u "java/lang/Math"), (1, u "(JJ)J"), (0, .methodref 25 31), (0, .nameAndType 11 29), (0, .long 4), (1, .long 262144), (13, u "LEAST_CARRIED_AT_ONCE"), (8, u "mostCarriedAtOnce"), (0, u "()J")] 25

def k3c0 : Code := { maxStack := 3, maxLocals := 7, code := prog_11_method_2_code, exceptionTable := #[], attributes := #[] }
def k3m0 : Method := { name := "<init>", desc := "(JJJ)V", sig := { parameters := [.long, .long, .long], returnType := none }, accessFlags := 1, code := some k3c0 }
def k3c1 : Code := { maxStack := 4, maxLocals := 1, code := prog_11_method_4_code, exceptionTable := #[], attributes := #[] }
def k3m1 : Method := { name := "mostCarriedAtOnce", desc := "()J", sig := { parameters := [], returnType := some .long }, accessFlags := 0, code := some k3c1 }
/-- com/example/lean_bus/leanbus/store/MemoryLimits -/
def k3 : Class := { plain "com/example/lean_bus/leanbus/store/MemoryLimits" (some 2) with
  accessFlags := 49
  interfaces := #[]
  cf := some (fileOf pool3 8 #[] #[{ accessFlags := 1, nameIndex := 5, descriptorIndex := 21, attributes := #[] }, { accessFlags := 0, nameIndex := 57, descriptorIndex := 58, attributes := #[] }] 49 2 #[] #[{ accessFlags := 18, nameIndex := 11, descriptorIndex := 12, attributes := #[] }, { accessFlags := 18, nameIndex := 15, descriptorIndex := 12, attributes := #[] }, { accessFlags := 18, nameIndex := 18, descriptorIndex := 12, attributes := #[] }, { accessFlags := 24, nameIndex := 48, descriptorIndex := 12, attributes := #[] }])
  fields := #[{ name := "max", type := .long, accessFlags := 18, slot := 0, constantValue := 0 }, { name := "minFree", type := .long, accessFlags := 18, slot := 1, constantValue := 0 }, { name := "statuses", type := .long, accessFlags := 18, slot := 2, constantValue := 0 }, { name := "LEAST_CARRIED_AT_ONCE", type := .long, accessFlags := 24, slot := 0, constantValue := 0 }]
  methods := #[k3m0, k3m1]
  instanceTypes := #[.long, .long, .long]
  staticTypes := #[.long]
  resolved := Array.replicate 84 none
  statics := none }

def pool4 : Array CpInfo := pool [(1, .class_ 2), (0, u "java/lang/Math"), (1, .class_ 6), (1, u "java/lang/Object"), (0, u "<init>"), (0, u "()V"), (89, .class_ 100), (1, u "java/lang/Math$RandomNumberGeneratorHolder"), (20, u "(JJ)J"), (50, u "negativeZeroFloatBits"), (0, u "J"), (2, u "negativeZeroDoubleBits"), (21, u "max"), (46, u "$assertionsDisabled"), (0, u "Z"), (91, u "twoToTheDoubleScaleDown"), (0, u "D"), (4, u "twoToTheDoubleScaleUp"), (9, u "E"), (3, u "PI"), (2, u "TAU"), (2, u "DEGREES_TO_RADIANS"), (0, u "RADIANS_TO_DEGREES")] 94

def k4m0 : Method := { name := "<init>", desc := "()V", sig := { parameters := [], returnType := none }, accessFlags := 2, code := none }
def k4c1 : Code := { maxStack := 4, maxLocals := 4, code := jdk_29_method_66_code, exceptionTable := #[], attributes := #[] }
def k4m1 : Method := { name := "max", desc := "(JJ)J", sig := { parameters := [.long, .long], returnType := some .long }, accessFlags := 9, code := some k4c1 }
/-- java/lang/Math -/
def k4 : Class := { plain "java/lang/Math" (some 0) with
  accessFlags := 49
  interfaces := #[]
  cf := some (fileOf pool4 1 #[.nestMembers #[98]] #[{ accessFlags := 2, nameIndex := 7, descriptorIndex := 8, attributes := #[] }, { accessFlags := 9, nameIndex := 198, descriptorIndex := 121, attributes := #[] }] 49 4 #[] #[{ accessFlags := 25, nameIndex := 354, descriptorIndex := 339, attributes := #[] }, { accessFlags := 25, nameIndex := 358, descriptorIndex := 339, attributes := #[] }, { accessFlags := 25, nameIndex := 361, descriptorIndex := 339, attributes := #[] }, { accessFlags := 26, nameIndex := 364, descriptorIndex := 339, attributes := #[] }, { accessFlags := 26, nameIndex := 365, descriptorIndex := 339, attributes := #[] }, { accessFlags := 26, nameIndex := 172, descriptorIndex := 173, attributes := #[] }, { accessFlags := 26, nameIndex := 176, descriptorIndex := 173, attributes := #[] }, { accessFlags := 8, nameIndex := 344, descriptorIndex := 339, attributes := #[] }, { accessFlags := 8, nameIndex := 338, descriptorIndex := 339, attributes := #[] }, { accessFlags := 4120, nameIndex := 245, descriptorIndex := 246, attributes := #[] }])
  fields := #[{ name := "E", type := .double, accessFlags := 25, slot := 0, constantValue := 0 }, { name := "PI", type := .double, accessFlags := 25, slot := 1, constantValue := 0 }, { name := "TAU", type := .double, accessFlags := 25, slot := 2, constantValue := 0 }, { name := "DEGREES_TO_RADIANS", type := .double, accessFlags := 26, slot := 3, constantValue := 0 }, { name := "RADIANS_TO_DEGREES", type := .double, accessFlags := 26, slot := 4, constantValue := 0 }, { name := "negativeZeroFloatBits", type := .long, accessFlags := 26, slot := 5, constantValue := 0 }, { name := "negativeZeroDoubleBits", type := .long, accessFlags := 26, slot := 6, constantValue := 0 }, { name := "twoToTheDoubleScaleUp", type := .double, accessFlags := 8, slot := 7, constantValue := 0 }, { name := "twoToTheDoubleScaleDown", type := .double, accessFlags := 8, slot := 8, constantValue := 0 }, { name := "$assertionsDisabled", type := .boolean, accessFlags := 4120, slot := 9, constantValue := 0 }]
  methods := #[k4m0, k4m1]
  instanceTypes := #[]
  staticTypes := #[.double, .double, .double, .double, .double, .long, .long, .double, .double, .boolean]
  resolved := Array.replicate 460 none
  statics := none }

def pool5 : Array CpInfo := pool [(1, u "java/lang/Cloneable"), (0, .class_ 1), (0, u "java/lang/Object"), (0, .class_ 3)] 3

/-- java/lang/Cloneable -/
def k5 : Class := { plain "java/lang/Cloneable" (some 0) with
  accessFlags := 1537
  interfaces := #[]
  cf := some (fileOf pool5 2 #[] #[] 1537 4 #[] #[])
  fields := #[]
  methods := #[]
  instanceTypes := #[]
  staticTypes := #[]
  resolved := Array.replicate 8 none
  statics := none }

def pool6 : Array CpInfo := pool [(1, u "java/io/Serializable"), (0, .class_ 1), (0, u "java/lang/Object"), (0, .class_ 3)] 3

/-- java/io/Serializable -/
def k6 : Class := { plain "java/io/Serializable" (some 0) with
  accessFlags := 1537
  interfaces := #[]
  cf := some (fileOf pool6 2 #[] #[] 1537 4 #[] #[])
  fields := #[]
  methods := #[]
  instanceTypes := #[]
  staticTypes := #[]
  resolved := Array.replicate 8 none
  statics := none }

/-- the primitive byte -/
def k7 : Class := { plain "byte" none with kind := .primitive 'B', accessFlags := 0x411 }
/-- [B -/
def k8 : Class := { plain "[B" (some 0) with kind := .array 7 .byte, interfaces := #[5, 6], accessFlags := 1041 }

def heap : Heap := #[]
def classes : Array Class := #[k0, k1, k2, k3, k4, k5, k6, k7, k8]
def interned : List (Array UInt16 × Addr) := []
def slotsUsed : Nat := 0
def theMethod : MethodId := ⟨1, 1⟩
def args0 : Array Value := #[.long 1, .long 2, .long 3, .long 4, .long 5]
def aboutOver (below : List Frame) : State where
  vm := { classes := classes, interned := interned.toArray }
  heap := heap
  slotsUsed := slotsUsed
  threads := #[{ frames := .invoking theMethod args0 :: below }]
def below0 : List Frame := [.native { method := ⟨0, 0⟩, args := #[] }]
def about1 : State := aboutOver below0
def p0 : Program := .bare "" "" ""
def e0 : Env := launch0.env 0 0 0
theorem w_frames : about1.frames = Frame.invoking theMethod args0 :: below0 := rfl
set_option maxRecDepth 65536 in
theorem w_args : argsFit about1.vm theMethod args0 = true := by decide +kernel
set_option maxRecDepth 65536 in
theorem w_heap : heapFits about1 = true := by decide +kernel
set_option maxRecDepth 65536 in
theorem w_runnable : about1.curStatus? = some .runnable := by decide +kernel
set_option maxRecDepth 65536 in
theorem w_alone : about1.alone = true := by decide +kernel
set_option maxRecDepth 65536 in
theorem w_named : about1.methodNamed? x = some theMethod := by decide +kernel
set_option maxRecDepth 65536 in
theorem w_hears : about1.hears theMethod below0 = true := by decide +kernel
set_option maxRecDepth 65536 in
theorem w_ripe : about1.ripe theMethod args0 below0 = true := by decide +kernel
theorem w_running : about1.status = .running := rfl
set_option maxRecDepth 65536 in
theorem w_room : about1.hasRoom e0.platform room_1 = true :=
  launch0.hasRoom_least _ room_1 (by decide +kernel) (by decide +kernel) (by decide +kernel) (by decide +kernel) (by decide +kernel) (by decide +kernel)
theorem allAtoms_all (ts : List Jvm.Cond) (a : Array Jvm.Value) (st : Jvm.State) : (allAtoms ts).before a st = ts.all (fun c => c.before a st) := by
  induction ts with
  | nil => rfl
  | cons c t ih =>
    show (Jvm.Cond.and c (allAtoms t)).before a st = _
    rw [Jvm.Cond.before_and, ih, List.all_cons]
def words1 : List Jvm.Cond := Jvm.Cond.code x code maxLocals ret :: tables_1
/-- a 'code' word, met by the world's own term for the bytes: nothing is compared byte by byte -/
theorem code_word {y : MethodName} {bytes : ByteArray} {mx : Nat} {rt : Option FieldType} {a : Array Value} {s : State} {m : MethodId} {meth : Method} {c : Code} (h1 : s.methodNamed? y = some m) (h2 : s.vm.method? m = some meth) (h3 : meth.code = some c) (h4 : c.code = bytes)
    (h5 : (c.maxLocals == mx && c.exceptionTable.isEmpty && decide (c.maxStack ≤ mostOperands) && decide (meth.sig.returnType = rt) && !meth.locks && decide (parseMethodDescriptor y.desc = some meth.sig)) = true) : (Jvm.Cond.code y bytes mx rt).before a s = true := by
  simp only [Bool.and_eq_true, beq_iff_eq, Bool.not_eq_true', decide_eq_true_eq] at h5
  obtain ⟨⟨⟨⟨⟨g1, g2⟩, g3⟩, g4⟩, g5⟩, g6⟩ := h5
  simp [Cond.before, Cond.holds, Cond.value, h1, h2, h3, h4, g1, g2, g3, g4, g5, g6]
def isCode : Jvm.Cond → Bool
  | .code _ _ _ _ => true
  | _ => false
theorem all_split {L : List Jvm.Cond} {P : Jvm.Cond → Bool} (h1 : L.all (fun c => isCode c || P c) = true) (h2 : ∀ c ∈ L.filter isCode, P c = true) : L.all P = true := by
  refine List.all_eq_true.mpr fun c hc => ?_
  have h := List.all_eq_true.mp h1 c hc
  rcases Bool.eq_false_or_eq_true (isCode c) with hi | hi
  · exact h2 c (List.mem_filter.mpr ⟨hc, hi⟩)
  · simpa [hi] using h
set_option maxRecDepth 65536 in
theorem w_c0 : (Jvm.Cond.code x code maxLocals ret).before args0 about1 = true := code_word (m := ⟨1, 1⟩) (meth := k1m1) (c := k1c1) (by decide +kernel) rfl rfl rfl (by decide +kernel)
set_option maxRecDepth 65536 in
theorem w_c1 : (Jvm.Cond.code ({ cls := "com/example/lean_bus/leanbus/store/MemoryLimits", name := "<init>", desc := "(JJJ)V" } : Jvm.MethodName) prog_11_method_2_code (7 : Nat) (Option.none : Option Jvm.ClassFile.FieldType)).before args0 about1 = true := code_word (m := ⟨3, 0⟩) (meth := k3m0) (c := k3c0) (by decide +kernel) rfl rfl rfl (by decide +kernel)
set_option maxRecDepth 65536 in
theorem w_c2 : (Jvm.Cond.code ({ cls := "java/lang/Record", name := "<init>", desc := "()V" } : Jvm.MethodName) jdk_30_method_1_code (1 : Nat) (Option.none : Option Jvm.ClassFile.FieldType)).before args0 about1 = true := code_word (m := ⟨2, 0⟩) (meth := k2m0) (c := k2c0) (by decide +kernel) rfl rfl rfl (by decide +kernel)
set_option maxRecDepth 65536 in
theorem w_c3 : (Jvm.Cond.code ({ cls := "java/lang/Object", name := "<init>", desc := "()V" } : Jvm.MethodName) object_method_1_code (1 : Nat) (Option.none : Option Jvm.ClassFile.FieldType)).before args0 about1 = true := code_word (m := ⟨0, 0⟩) (meth := k0m0) (c := k0c0) (by decide +kernel) rfl rfl rfl (by decide +kernel)
set_option maxRecDepth 65536 in
theorem w_c4 : (Jvm.Cond.code ({ cls := "com/example/lean_bus/leanbus/store/MemoryLimits", name := "mostCarriedAtOnce", desc := "()J" } : Jvm.MethodName) prog_11_method_4_code (1 : Nat) (Option.some Jvm.ClassFile.FieldType.long)).before args0 about1 = true := code_word (m := ⟨3, 1⟩) (meth := k3m1) (c := k3c1) (by decide +kernel) rfl rfl rfl (by decide +kernel)
set_option maxRecDepth 65536 in
theorem w_c5 : (Jvm.Cond.code ({ cls := "java/lang/Math", name := "max", desc := "(JJ)J" } : Jvm.MethodName) jdk_29_method_66_code (4 : Nat) (Option.some Jvm.ClassFile.FieldType.long)).before args0 about1 = true := code_word (m := ⟨4, 1⟩) (meth := k4m1) (c := k4c1) (by decide +kernel) rfl rfl rfl (by decide +kernel)
def codes1 : List Jvm.Cond := [Jvm.Cond.code x code maxLocals ret, Jvm.Cond.code ({ cls := "com/example/lean_bus/leanbus/store/MemoryLimits", name := "<init>", desc := "(JJJ)V" } : Jvm.MethodName) prog_11_method_2_code (7 : Nat) (Option.none : Option Jvm.ClassFile.FieldType), Jvm.Cond.code ({ cls := "java/lang/Record", name := "<init>", desc := "()V" } : Jvm.MethodName) jdk_30_method_1_code (1 : Nat) (Option.none : Option Jvm.ClassFile.FieldType), Jvm.Cond.code ({ cls := "java/lang/Object", name := "<init>", desc := "()V" } : Jvm.MethodName) object_method_1_code (1 : Nat) (Option.none : Option Jvm.ClassFile.FieldType), Jvm.Cond.code ({ cls := "com/example/lean_bus/leanbus/store/MemoryLimits", name := "mostCarriedAtOnce", desc := "()J" } : Jvm.MethodName) prog_11_method_4_code (1 : Nat) (Option.some Jvm.ClassFile.FieldType.long), Jvm.Cond.code ({ cls := "java/lang/Math", name := "max", desc := "(JJ)J" } : Jvm.MethodName) jdk_29_method_66_code (4 : Nat) (Option.some Jvm.ClassFile.FieldType.long)]
set_option maxRecDepth 65536 in
theorem codes_eq : words1.filter isCode = codes1 := rfl
theorem w_codes : ∀ c ∈ words1.filter isCode, c.before args0 about1 = true := by
  rw [codes_eq]
  intro c hc
  simp only [codes1, List.mem_cons, List.not_mem_nil, or_false] at hc
  rcases hc with rfl | rfl | rfl | rfl | rfl | rfl
  · exact w_c0
  · exact w_c1
  · exact w_c2
  · exact w_c3
  · exact w_c4
  · exact w_c5
set_option maxRecDepth 65536 in
theorem w_t1 : (words1.take 24).all (fun c => isCode c || c.before args0 about1) = true := by decide +kernel
set_option maxRecDepth 65536 in
theorem w_t2 : (words1.drop 24).all (fun c => isCode c || c.before args0 about1) = true := by decide +kernel
theorem w_tables : (allAtoms (Jvm.Cond.code x code maxLocals ret :: tables_1)).before args0 about1 = true := by
  rw [allAtoms_all]
  show words1.all (fun c => c.before args0 about1) = true
  refine all_split ?_ w_codes
  rw [← List.take_append_drop 24 words1, List.all_append, w_t1, w_t2]
  rfl
set_option maxRecDepth 65536 in
theorem w_case : (Jvm.Cond.and given_1 narrow_1).before args0 about1 = true := by decide +kernel
theorem w_applies : (headSpec (Jvm.Cond.code x code maxLocals ret :: tables_1) room_1).applies x e0.platform about1 = true :=
  (Spec.applies_iff w_frames).mpr ⟨w_running, w_runnable, w_alone, w_named, w_hears, w_ripe, w_room, w_tables⟩
theorem atStart : AtStart classFile x code maxLocals ret World_1 tables_1 room_1 Calls_1 rest_1 Pre_1 launch0 p0 e0 about1 theMethod args0 below0 :=
  ⟨lists_1, trivial, launch0.admits_env _ _ _, launch0.least_env, fairChoices_fair.cas, fairChoices_fair.clock, w_frames, w_args, w_heap, w_applies, trivial, trivial, w_case⟩
end start1
theorem witness_1 : WitnessClaimed_1 := ⟨start1.p0, start1.e0, start1.about1, start1.theMethod, start1.args0, start1.below0, start1.atStart⟩
end Jvm.Pilot.@@N@@
