import JvmDerived
import JvmDerived.Pilot.@@N@@Statement
import JvmDerived.Pilot.@@N@@Code
set_option linter.unusedVariables false
set_option linter.unusedSimpArgs false
namespace Jvm.Pilot.@@N@@
open Jvm Jvm.ClassFile Sem Op Lib Jvm.Free Jvm.Stand Jvm.LawKit Jvm.RoadKit Bundle Jvm.Pilot.@@N@@.Jvm.D
section OwnKit
variable {p : Program} {l : Launch} {e : Env} {R : Room} {s : State} {m : MethodId} {args : Array Value} {below : List Frame} {meth : Method} {c : Code} {T : State} {locs : List Loc} {cells slots : Nat} {Q : Option Value → Heap → List Loc → Prop} {C S : Nat}
/-- from x the run ends, returning, with what Q says -/
def own_End (p : Program) (e : Env) (below : List Frame) (s : State) (Q : Option Value → Heap → List Loc → Prop) (C S : Nat) (x : State) : Prop :=
  ∃ t o, Steps p.tables e below x t ∧ t.status = .running ∧ Ended t below o ∧ ∃ v L, o = .returned v ∧ Q v t.heap L ∧ FrameEnd s o t L C S
theorem own_go {x x' : State} (h : ∀ t, Steps p.tables e below x' t → Steps p.tables e below x t) (k : own_End p e below s Q C S x') : own_End p e below s Q C S x := by
  obtain ⟨t, o, h1, h2⟩ := k
  exact ⟨t, o, h t h1, h2⟩
theorem own_mono {Q' : Option Value → Heap → List Loc → Prop} {x : State} (h : ∀ v h L, Q v h L → Q' v h L) (k : own_End p e below s Q C S x) : own_End p e below s Q' C S x := by
  obtain ⟨t, o, h1, h2, h3, v, L, h4, h5, h6⟩ := k
  exact ⟨t, o, h1, h2, h3, v, L, h4, h _ _ _ h5, h6⟩
theorem own_out (X : Stand p l e R s m args below meth c T locs cells slots) (hlk : meth.locks = false) {v : Option Value} (hv : meth.sig.returnType = none → v = none) {x : State}
    (h : ∀ fs, (∀ (f : JFrame) (acts : List Action), f.method = m → f.locked = none → f.entered = [] → (doReturn e (T.setTop f) acts v).1 = T.setFrames fs) → Steps p.tables e below x (T.setFrames fs))
    (hq : Q v T.heap locs) (hc : cells ≤ C) (hs : slots ≤ S) : own_End p e below s Q C S x := by
  obtain ⟨fs, hr, hrun, hended, hW, hsame⟩ := X.leave hv hlk
  exact ⟨_, _, h fs hr, hrun, hended, _, _, rfl, hq, ⟨_, rfl⟩, hW, hsame.mono hc hs⟩
theorem own_retV (X : Stand p l e R s m args below meth c T locs cells slots) (hx : p.tables.exec = Jvm.exec) (hlk : meth.locks = false) {pc : Nat} {Ls : Array Slot} (hret : meth.sig.returnType = none) (hd : decode c.code pc = .ok (.return_, 1))
    (hq : Q none T.heap locs) (hc : cells ≤ C) (hs : slots ≤ S) : own_End p e below s Q C S (T.setTop (mkF m pc Ls [])) :=
  own_out X hlk (fun _ => rfl) (fun fs hr => X.returnOut hx hret hd hr) hq hc hs
theorem own_retN (X : Stand p l e R s m args below meth c T locs cells slots) (hx : p.tables.exec = Jvm.exec) (hlk : meth.locks = false) {pc : Nat} {Ls : Array Slot} {z w : Int32} {t : FieldType} {rest : List Value} (hret : meth.sig.returnType = some t) (ht : t = .boolean ∨ t = .byte ∨ t = .char ∨ t = .short) (hd : decode c.code pc = .ok (.ireturn, 1))
    (hz : nar t z = w) (hq : Q (some (.int w)) T.heap locs) (hc : cells ≤ C) (hs : slots ≤ S) : own_End p e below s Q C S (T.setTop (mkF m pc Ls (.int z :: rest))) := by
  subst hz
  exact own_out X hlk (fun h => by rw [hret] at h; cases h) (fun fs hr => retN X hx hret ht hd hr) hq hc hs
theorem own_retI (X : Stand p l e R s m args below meth c T locs cells slots) (hx : p.tables.exec = Jvm.exec) (hlk : meth.locks = false) {pc : Nat} {Ls : Array Slot} {z : Int32} {rest : List Value} (hret : meth.sig.returnType = some .int) (hd : decode c.code pc = .ok (.ireturn, 1))
    (hq : Q (some (.int z)) T.heap locs) (hc : cells ≤ C) (hs : slots ≤ S) : own_End p e below s Q C S (T.setTop (mkF m pc Ls (.int z :: rest))) :=
  own_out X hlk (fun h => by rw [hret] at h; cases h) (fun fs hr => retOut X hx hret rfl (Or.inl ⟨rfl, Or.inl rfl, _, rfl⟩) hd hr) hq hc hs
theorem own_retJ (X : Stand p l e R s m args below meth c T locs cells slots) (hx : p.tables.exec = Jvm.exec) (hlk : meth.locks = false) {pc : Nat} {Ls : Array Slot} {z : Int64} {rest : List Value} (hret : meth.sig.returnType = some .long) (hd : decode c.code pc = .ok (.lreturn, 1))
    (hq : Q (some (.long z)) T.heap locs) (hc : cells ≤ C) (hs : slots ≤ S) : own_End p e below s Q C S (T.setTop (mkF m pc Ls (.long z :: rest))) :=
  own_out X hlk (fun h => by rw [hret] at h; cases h) (fun fs hr => retOut X hx hret rfl (Or.inr (Or.inl ⟨rfl, rfl, _, rfl⟩)) hd hr) hq hc hs
theorem own_retR (X : Stand p l e R s m args below meth c T locs cells slots) (hx : p.tables.exec = Jvm.exec) (hlk : meth.locks = false) {pc : Nat} {Ls : Array Slot} {z : Value} {t : FieldType} {rest : List Value} (hret : meth.sig.returnType = some t) (ht : t.isReference = true) (hv : z.isRef = true) (hd : decode c.code pc = .ok (.areturn, 1))
    (hq : Q (some z) T.heap locs) (hc : cells ≤ C) (hs : slots ≤ S) : own_End p e below s Q C S (T.setTop (mkF m pc Ls (z :: rest))) :=
  own_out X hlk (fun h => by rw [hret] at h; cases h) (fun fs hr => retOut X hx hret (by cases t <;> first | rfl | cases ht) (Or.inr (Or.inr (Or.inr (Or.inr ⟨rfl, ht, hv⟩)))) hd hr) hq hc hs
theorem own_w {a0 : Array Value} {Z : State} (hw : ∀ d ∈ tables_1, d.before a0 Z = true) (i : Nat) {d : Jvm.Cond} (h : tables_1[i]? = some d) : d.before a0 Z = true := hw _ (List.mem_of_getElem? h)
end OwnKit
def own_min (a b : Int32) : Int32 := if b < a then b else a
def own_max (a b : Int32) : Int32 := if a < b then b else a
theorem d1_0 : decode jdk_29_method_69_code 0 = .ok (.iload_n 0, 1) := by decide +kernel
theorem d1_1 : decode jdk_29_method_69_code 1 = .ok (.iload_n 1, 1) := by decide +kernel
theorem d1_2 : decode jdk_29_method_69_code 2 = .ok (.if_icmp .gt 7, 3) := by decide +kernel
theorem d1_5 : decode jdk_29_method_69_code 5 = .ok (.iload_n 0, 1) := by decide +kernel
theorem d1_6 : decode jdk_29_method_69_code 6 = .ok (.goto 4, 3) := by decide +kernel
theorem d1_9 : decode jdk_29_method_69_code 9 = .ok (.iload_n 1, 1) := by decide +kernel
theorem d1_10 : decode jdk_29_method_69_code 10 = .ok (.ireturn, 1) := by decide +kernel
def Q_rm1 (Z : State) (p0 : Int32) (p1 : Int32) (h0 : Heap) (n0 : Nat) (v : Option Value) (h : Heap) (L : List Loc) : Prop := v = some (.int (own_min p0 p1)) ∧ Fr n0 L ∧ h = h0
theorem ef_rm1 (m : MethodId) (x0 : Int32) (x1 : Int32) : entryFrame m #[(.int x0), (.int x1)] 2 = mkF m 0 #[.val (.int x0), .val (.int x1)] [] := by first | (simp [entryFrame, mkF, argsToLocals, Value.category]; done) | rfl
set_option maxRecDepth 65536 in
set_option maxHeartbeats 40000000 in
theorem rm1 (l : Launch) (Z : State) (a0 : Array Value) (hw : ∀ d ∈ tables_1, d.before a0 Z = true) (ws : List Jvm.Cond) (p0 : Int32) (p1 : Int32) (h0 : Heap) (n0 : Nat) (Z0 : n0 ≤ h0.size) :
    MetFree l (⟨"java/lang/Math", "min", "(II)I"⟩ : MethodName) (head1 (Jvm.Cond.code (⟨"java/lang/Math", "min", "(II)I"⟩ : MethodName) jdk_29_method_69_code 2 (some .int) :: ws) ({ frames := 0, cells := 0, slots := 0, locals := 0 } : Room)) (fun a U => a = #[(.int p0), (.int p1)] ∧ Z.Warmed39 U.vm ∧ U.heap = h0) (fun _ _ _ _ _ => True) (fun _ U o U' => ∃ v L, o = .returned v ∧ (Q_rm1 Z p0 p1 h0 n0) v U'.heap L ∧ FrameEnd U o U' L ({ frames := 0, cells := 0, slots := 0, locals := 0 } : Room).cells ({ frames := 0, cells := 0, slots := 0, locals := 0 } : Room).slots) := by
  refine MetFree.of_bodySF (Jvm.Free.JP.mathPlain rfl (by decide +kernel)) hisR ?_
  intro p e s m args below meth c s₁ Bd hml0 hP hK
  obtain ⟨rfl, hZ, hh⟩ := hP
  have hx := Bd.exec
  have hby := Bd.bytes
  have hlk := BodyLoose.notSynchronized Bd
  have hret := Bd.returns
  have hml : c.maxLocals = 2 := hml0
  have hown : s.vm.findClass "java/lang/Math" = some m.cls := findClass_of_methodNamed Bd.named
  have hnm := (name_of_methodNamed Bd.named Bd.method).1
  have X0 : Stand p l e ({ frames := 0, cells := 0, slots := 0, locals := 0 } : Room) s m #[(.int p0), (.int p1)] below meth c s₁ [] 0 0 := Stand.of_body Bd
  have e0 : s₁.heap = h0 := by rw [← hh, Bd.state]; rfl
  have Nf := Fr.nil n0
  have Zs := Z0
  have Kp : Keep h0 h0 [] := Keep.refl _ _
  show own_End p e below s (Q_rm1 Z p0 p1 h0 n0) ({ frames := 0, cells := 0, slots := 0, locals := 0 } : Room).cells ({ frames := 0, cells := 0, slots := 0, locals := 0 } : Room).slots (s₁.setTop (entryFrame m #[(.int p0), (.int p1)] 2))
  refine own_go (x' := s₁.setTop (mkF m 0 #[.val (.int p0), .val (.int p1)] [])) (fun t k => castTop (ef_rm1 m p0 p1) k) ?_
  refine own_go (x' := s₁.setTop (mkF m 2 #[.val (.int p0), .val (.int p1)] [(.int p1), (.int p0)])) (fun _ k => XS.iloadN X0.here hx rfl (hb hby d1_0) rfl (XS.iloadN X0.here hx rfl (hb hby d1_1) rfl k)) ?_
  by_cases hc2 : p1 < p0
  · refine own_go (x' := s₁.setTop (mkF m 10 #[.val (.int p0), .val (.int p1)] [(.int p1)])) (fun _ k => XS.icmpYes X0.here hx rfl (pc0 := 2) (pc' := 9) rfl (hb hby d1_2) rfl (tlt hc2).2.2.1 (by decide) (by decide) (XS.iloadN X0.here hx rfl (hb hby d1_9) rfl k)) ?_
    refine own_retI X0 hx hlk hret (hb hby d1_10) ?_ (by decide) (by decide)
    rw [e0]
    exact ⟨by simp only [own_min, if_pos hc2], Nf, rfl⟩
  · refine own_go (x' := s₁.setTop (mkF m 10 #[.val (.int p0), .val (.int p1)] [(.int p0)])) (fun _ k => XS.icmpNo X0.here hx rfl (hb hby d1_2) rfl (flt hc2).2.2.1 (XS.iloadN X0.here hx rfl (hb hby d1_5) rfl (XS.goto X0.here hx rfl (pc0 := 6) (pc' := 10) rfl (hb hby d1_6) (by decide) (by decide) k))) ?_
    refine own_retI X0 hx hlk hret (hb hby d1_10) ?_ (by decide) (by decide)
    rw [e0]
    exact ⟨by simp only [own_min, if_neg hc2], Nf, rfl⟩
theorem d2_0 : decode jdk_29_method_65_code 0 = .ok (.iload_n 0, 1) := by decide +kernel
theorem d2_1 : decode jdk_29_method_65_code 1 = .ok (.iload_n 1, 1) := by decide +kernel
theorem d2_2 : decode jdk_29_method_65_code 2 = .ok (.if_icmp .lt 7, 3) := by decide +kernel
theorem d2_5 : decode jdk_29_method_65_code 5 = .ok (.iload_n 0, 1) := by decide +kernel
theorem d2_6 : decode jdk_29_method_65_code 6 = .ok (.goto 4, 3) := by decide +kernel
theorem d2_9 : decode jdk_29_method_65_code 9 = .ok (.iload_n 1, 1) := by decide +kernel
theorem d2_10 : decode jdk_29_method_65_code 10 = .ok (.ireturn, 1) := by decide +kernel
def Q_rm2 (Z : State) (p0 : Int32) (p1 : Int32) (h0 : Heap) (n0 : Nat) (v : Option Value) (h : Heap) (L : List Loc) : Prop := v = some (.int (own_max p0 p1)) ∧ Fr n0 L ∧ h = h0
theorem ef_rm2 (m : MethodId) (x0 : Int32) (x1 : Int32) : entryFrame m #[(.int x0), (.int x1)] 2 = mkF m 0 #[.val (.int x0), .val (.int x1)] [] := by first | (simp [entryFrame, mkF, argsToLocals, Value.category]; done) | rfl
set_option maxRecDepth 65536 in
set_option maxHeartbeats 40000000 in
theorem rm2 (l : Launch) (Z : State) (a0 : Array Value) (hw : ∀ d ∈ tables_1, d.before a0 Z = true) (ws : List Jvm.Cond) (p0 : Int32) (p1 : Int32) (h0 : Heap) (n0 : Nat) (Z0 : n0 ≤ h0.size) :
    MetFree l (⟨"java/lang/Math", "max", "(II)I"⟩ : MethodName) (head1 (Jvm.Cond.code (⟨"java/lang/Math", "max", "(II)I"⟩ : MethodName) jdk_29_method_65_code 2 (some .int) :: ws) ({ frames := 0, cells := 0, slots := 0, locals := 0 } : Room)) (fun a U => a = #[(.int p0), (.int p1)] ∧ Z.Warmed39 U.vm ∧ U.heap = h0) (fun _ _ _ _ _ => True) (fun _ U o U' => ∃ v L, o = .returned v ∧ (Q_rm2 Z p0 p1 h0 n0) v U'.heap L ∧ FrameEnd U o U' L ({ frames := 0, cells := 0, slots := 0, locals := 0 } : Room).cells ({ frames := 0, cells := 0, slots := 0, locals := 0 } : Room).slots) := by
  refine MetFree.of_bodySF (Jvm.Free.JP.mathPlain rfl (by decide +kernel)) hisR ?_
  intro p e s m args below meth c s₁ Bd hml0 hP hK
  obtain ⟨rfl, hZ, hh⟩ := hP
  have hx := Bd.exec
  have hby := Bd.bytes
  have hlk := BodyLoose.notSynchronized Bd
  have hret := Bd.returns
  have hml : c.maxLocals = 2 := hml0
  have hown : s.vm.findClass "java/lang/Math" = some m.cls := findClass_of_methodNamed Bd.named
  have hnm := (name_of_methodNamed Bd.named Bd.method).1
  have X0 : Stand p l e ({ frames := 0, cells := 0, slots := 0, locals := 0 } : Room) s m #[(.int p0), (.int p1)] below meth c s₁ [] 0 0 := Stand.of_body Bd
  have e0 : s₁.heap = h0 := by rw [← hh, Bd.state]; rfl
  have Nf := Fr.nil n0
  have Zs := Z0
  have Kp : Keep h0 h0 [] := Keep.refl _ _
  show own_End p e below s (Q_rm2 Z p0 p1 h0 n0) ({ frames := 0, cells := 0, slots := 0, locals := 0 } : Room).cells ({ frames := 0, cells := 0, slots := 0, locals := 0 } : Room).slots (s₁.setTop (entryFrame m #[(.int p0), (.int p1)] 2))
  refine own_go (x' := s₁.setTop (mkF m 0 #[.val (.int p0), .val (.int p1)] [])) (fun t k => castTop (ef_rm2 m p0 p1) k) ?_
  refine own_go (x' := s₁.setTop (mkF m 2 #[.val (.int p0), .val (.int p1)] [(.int p1), (.int p0)])) (fun _ k => XS.iloadN X0.here hx rfl (hb hby d2_0) rfl (XS.iloadN X0.here hx rfl (hb hby d2_1) rfl k)) ?_
  by_cases hc2 : p0 < p1
  · refine own_go (x' := s₁.setTop (mkF m 10 #[.val (.int p0), .val (.int p1)] [(.int p1)])) (fun _ k => XS.icmpYes X0.here hx rfl (pc0 := 2) (pc' := 9) rfl (hb hby d2_2) rfl (tlt hc2).1 (by decide) (by decide) (XS.iloadN X0.here hx rfl (hb hby d2_9) rfl k)) ?_
    refine own_retI X0 hx hlk hret (hb hby d2_10) ?_ (by decide) (by decide)
    rw [e0]
    exact ⟨by simp only [own_max, if_pos hc2], Nf, rfl⟩
  · refine own_go (x' := s₁.setTop (mkF m 10 #[.val (.int p0), .val (.int p1)] [(.int p0)])) (fun _ k => XS.icmpNo X0.here hx rfl (hb hby d2_2) rfl (flt hc2).1 (XS.iloadN X0.here hx rfl (hb hby d2_5) rfl (XS.goto X0.here hx rfl (pc0 := 6) (pc' := 10) rfl (hb hby d2_6) (by decide) (by decide) k))) ?_
    refine own_retI X0 hx hlk hret (hb hby d2_10) ?_ (by decide) (by decide)
    rw [e0]
    exact ⟨by simp only [own_max, if_neg hc2], Nf, rfl⟩
theorem d4_0 : decode prog_13_method_2_code 0 = .ok (.aload_n 0, 1) := by decide +kernel
theorem d4_1 : decode prog_13_method_2_code 1 = .ok (.invokespecial 15, 3) := by decide +kernel
theorem d4_4 : decode prog_13_method_2_code 4 = .ok (.aload_n 0, 1) := by decide +kernel
theorem d4_5 : decode prog_13_method_2_code 5 = .ok (.iload_n 1, 1) := by decide +kernel
theorem d4_6 : decode prog_13_method_2_code 6 = .ok (.putfield 20, 3) := by decide +kernel
theorem d4_9 : decode prog_13_method_2_code 9 = .ok (.aload_n 0, 1) := by decide +kernel
theorem d4_10 : decode prog_13_method_2_code 10 = .ok (.iload_n 2, 1) := by decide +kernel
theorem d4_11 : decode prog_13_method_2_code 11 = .ok (.putfield 24, 3) := by decide +kernel
theorem d4_14 : decode prog_13_method_2_code 14 = .ok (.aload_n 0, 1) := by decide +kernel
theorem d4_15 : decode prog_13_method_2_code 15 = .ok (.lload_n 3, 1) := by decide +kernel
theorem d4_16 : decode prog_13_method_2_code 16 = .ok (.putfield 27, 3) := by decide +kernel
theorem d4_19 : decode prog_13_method_2_code 19 = .ok (.aload_n 0, 1) := by decide +kernel
theorem d4_20 : decode prog_13_method_2_code 20 = .ok (.lload 5, 2) := by decide +kernel
theorem d4_22 : decode prog_13_method_2_code 22 = .ok (.putfield 31, 3) := by decide +kernel
theorem d4_25 : decode prog_13_method_2_code 25 = .ok (.aload_n 0, 1) := by decide +kernel
theorem d4_26 : decode prog_13_method_2_code 26 = .ok (.lload 7, 2) := by decide +kernel
theorem d4_28 : decode prog_13_method_2_code 28 = .ok (.putfield 34, 3) := by decide +kernel
theorem d4_31 : decode prog_13_method_2_code 31 = .ok (.aload_n 0, 1) := by decide +kernel
theorem d4_32 : decode prog_13_method_2_code 32 = .ok (.lload 9, 2) := by decide +kernel
theorem d4_34 : decode prog_13_method_2_code 34 = .ok (.putfield 37, 3) := by decide +kernel
theorem d4_37 : decode prog_13_method_2_code 37 = .ok (.return_, 1) := by decide +kernel
def Q_rm4 (Z : State) (ao0 : Addr) (p1 : Int32) (p2 : Int32) (q3 : Int64) (q4 : Int64) (q5 : Int64) (q6 : Int64) (h0 : Heap) (n0 : Nat) (v : Option Value) (h : Heap) (L : List Loc) : Prop := v = none ∧ Fr n0 L ∧ Keep h0 h [ao0] ∧ Exa Z h ao0 "com/example/mechelen/mechelen/group/GroupLimits" ∧ Fld Z h ao0 "com/example/mechelen/mechelen/group/GroupLimits" "minSessionTimeoutMs" "I" (.int p1) ∧ Fld Z h ao0 "com/example/mechelen/mechelen/group/GroupLimits" "maxSessionTimeoutMs" "I" (.int p2) ∧ Fld Z h ao0 "com/example/mechelen/mechelen/group/GroupLimits" "membersMaxBytes" "J" (.long q3) ∧ Fld Z h ao0 "com/example/mechelen/mechelen/group/GroupLimits" "offsetsMaxBytes" "J" (.long q4) ∧ Fld Z h ao0 "com/example/mechelen/mechelen/group/GroupLimits" "offsetsRetentionMs" "J" (.long q5) ∧ Fld Z h ao0 "com/example/mechelen/mechelen/group/GroupLimits" "offsetsCheckIntervalMs" "J" (.long q6)
theorem pn_rm4 : plainName "com/example/mechelen/mechelen/group/GroupLimits" = true := by first | (simp [plainName, overriddenIn]; done) | decide +kernel
theorem ef_rm4 (m : MethodId) (x0 : Addr) (x1 : Int32) (x2 : Int32) (x3 : Int64) (x4 : Int64) (x5 : Int64) (x6 : Int64) : entryFrame m #[(.ref x0), (.int x1), (.int x2), (.long x3), (.long x4), (.long x5), (.long x6)] 11 = mkF m 0 #[.val (.ref x0), .val (.int x1), .val (.int x2), .val (.long x3), .second, .val (.long x4), .second, .val (.long x5), .second, .val (.long x6), .second] [] := by first | (simp [entryFrame, mkF, argsToLocals, Value.category]; done) | rfl
set_option maxRecDepth 65536 in
set_option maxHeartbeats 40000000 in
theorem rm4 (l : Launch) (Z : State) (a0 : Array Value) (hw : ∀ d ∈ tables_1, d.before a0 Z = true) (ws : List Jvm.Cond) (ao0 : Addr) (p1 : Int32) (p2 : Int32) (q3 : Int64) (q4 : Int64) (q5 : Int64) (q6 : Int64) (h0 : Heap) (n0 : Nat) (Z0 : n0 ≤ h0.size) (E_ao0 : Exa Z h0 ao0 "com/example/mechelen/mechelen/group/GroupLimits") (F_ao0_minSessionTimeoutMs : Fld Z h0 ao0 "com/example/mechelen/mechelen/group/GroupLimits" "minSessionTimeoutMs" "I" (.int (0 : Int32))) (F_ao0_maxSessionTimeoutMs : Fld Z h0 ao0 "com/example/mechelen/mechelen/group/GroupLimits" "maxSessionTimeoutMs" "I" (.int (0 : Int32))) (F_ao0_membersMaxBytes : Fld Z h0 ao0 "com/example/mechelen/mechelen/group/GroupLimits" "membersMaxBytes" "J" (.long (0 : Int64))) (F_ao0_offsetsMaxBytes : Fld Z h0 ao0 "com/example/mechelen/mechelen/group/GroupLimits" "offsetsMaxBytes" "J" (.long (0 : Int64))) (F_ao0_offsetsRetentionMs : Fld Z h0 ao0 "com/example/mechelen/mechelen/group/GroupLimits" "offsetsRetentionMs" "J" (.long (0 : Int64))) (F_ao0_offsetsCheckIntervalMs : Fld Z h0 ao0 "com/example/mechelen/mechelen/group/GroupLimits" "offsetsCheckIntervalMs" "J" (.long (0 : Int64))) (g_ao0 : n0 ≤ ao0) :
    MetFree l (⟨"com/example/mechelen/mechelen/group/GroupLimits", "<init>", "(IIJJJJ)V"⟩ : MethodName) (head1 (Jvm.Cond.code (⟨"com/example/mechelen/mechelen/group/GroupLimits", "<init>", "(IIJJJJ)V"⟩ : MethodName) prog_13_method_2_code 11 none :: ws) ({ frames := 1, cells := 0, slots := 0, locals := 12 } : Room)) (fun a U => a = #[(.ref ao0), (.int p1), (.int p2), (.long q3), (.long q4), (.long q5), (.long q6)] ∧ Z.Warmed39 U.vm ∧ U.heap = h0) (fun _ _ _ _ _ => True) (fun _ U o U' => ∃ v L, o = .returned v ∧ (Q_rm4 Z ao0 p1 p2 q3 q4 q5 q6 h0 n0) v U'.heap L ∧ FrameEnd U o U' L ({ frames := 1, cells := 0, slots := 0, locals := 12 } : Room).cells ({ frames := 1, cells := 0, slots := 0, locals := 12 } : Room).slots) := by
  refine MetFree.of_bodySF (plainFor_of_name pn_rm4) hisR ?_
  intro p e s m args below meth c s₁ Bd hml0 hP hK
  obtain ⟨rfl, hZ, hh⟩ := hP
  have hx := Bd.exec
  have hby := Bd.bytes
  have hlk := BodyLoose.notSynchronized Bd
  have hret := Bd.returns
  have hml : c.maxLocals = 11 := hml0
  have hown : s.vm.findClass "com/example/mechelen/mechelen/group/GroupLimits" = some m.cls := findClass_of_methodNamed Bd.named
  have hnm := (name_of_methodNamed Bd.named Bd.method).1
  have X0 : Stand p l e ({ frames := 1, cells := 0, slots := 0, locals := 12 } : Room) s m #[(.ref ao0), (.int p1), (.int p2), (.long q3), (.long q4), (.long q5), (.long q6)] below meth c s₁ [] 0 0 := Stand.of_body Bd
  have e0 : s₁.heap = h0 := by rw [← hh, Bd.state]; rfl
  have Nf := Fr.nil n0
  have Zs := Z0
  have Kp : Keep h0 h0 [ao0] := Keep.refl _ _
  show own_End p e below s (Q_rm4 Z ao0 p1 p2 q3 q4 q5 q6 h0 n0) ({ frames := 1, cells := 0, slots := 0, locals := 12 } : Room).cells ({ frames := 1, cells := 0, slots := 0, locals := 12 } : Room).slots (s₁.setTop (entryFrame m #[(.ref ao0), (.int p1), (.int p2), (.long q3), (.long q4), (.long q5), (.long q6)] 11))
  refine own_go (x' := s₁.setTop (mkF m 0 #[.val (.ref ao0), .val (.int p1), .val (.int p2), .val (.long q3), .second, .val (.long q4), .second, .val (.long q5), .second, .val (.long q6), .second] [])) (fun t k => castTop (ef_rm4 m ao0 p1 p2 q3 q4 q5 q6) k) ?_
  refine own_go (x' := s₁.setTop (mkF m 1 #[.val (.ref ao0), .val (.int p1), .val (.int p2), .val (.long q3), .second, .val (.long q4), .second, .val (.long q5), .second, .val (.long q6), .second] [(.ref ao0)])) (fun _ k => XS.aloadN X0.here hx rfl (hb hby d4_0) rfl rfl k) ?_
  obtain ⟨T1, X1, e1, st1⟩ := initO X0 hx hZ hown (own_w hw 19 rfl) (own_w hw 20 rfl) (own_w hw 21 rfl) e0 (g := (mkF m 1 #[.val (.ref ao0), .val (.int p1), .val (.int p2), .val (.long q3), .second, .val (.long q4), .second, .val (.long q5), .second, .val (.long q6), .second] [(.ref ao0)])) rfl (by rw [hml]; rfl) rfl (hb hby d4_1) (by decide) (W := 0) (by show 2 * 0 + _ ≤ _; exact Nat.le_of_eq rfl) (by decide)
  refine own_go (x' := T1.setTop (mkF m 4 #[.val (.ref ao0), .val (.int p1), .val (.int p2), .val (.long q3), .second, .val (.long q4), .second, .val (.long q5), .second, .val (.long q6), .second] [])) st1 ?_
  refine own_go (x' := T1.setTop (mkF m 6 #[.val (.ref ao0), .val (.int p1), .val (.int p2), .val (.long q3), .second, .val (.long q4), .second, .val (.long q5), .second, .val (.long q6), .second] [(.int p1), (.ref ao0)])) (fun _ k => XS.aloadN X1.here hx rfl (hb hby d4_4) rfl rfl (XS.iloadN X1.here hx rfl (hb hby d4_5) rfl k)) ?_
  obtain ⟨T2, h2, X2, e2, W2, st2⟩ := putF X1 hx hZ hown (host := "") (Or.inl (own_w hw 22 rfl)) Via.refl e1 F_ao0_minSessionTimeoutMs E_ao0 (Or.inr ⟨(own_w hw 23 rfl), rfl, hnm⟩) (own_w hw 8 rfl) (ty := .int) (by decide) rfl rfl (g := (mkF m 6 #[.val (.ref ao0), .val (.int p1), .val (.int p2), .val (.long q3), .second, .val (.long q4), .second, .val (.long q5), .second, .val (.long q6), .second] [(.int p1), (.ref ao0)])) rfl rfl (hb hby d4_6)
  refine own_go (x' := T2.setTop (mkF m 9 #[.val (.ref ao0), .val (.int p1), .val (.int p2), .val (.long q3), .second, .val (.long q4), .second, .val (.long q5), .second, .val (.long q6), .second] [])) st2 ?_
  replace E_ao0 := Exa.wr W2 E_ao0
  replace F_ao0_minSessionTimeoutMs := Fld.same W2 F_ao0_minSessionTimeoutMs
  replace F_ao0_maxSessionTimeoutMs := Fld.other W2 F_ao0_maxSessionTimeoutMs (Or.inr (slot_ne (Or.inr (own_w hw 25 rfl)) (Or.inr (own_w hw 23 rfl)) (by decide) (t := .int) (t' := .int) (by decide) (by decide)))
  replace F_ao0_membersMaxBytes := Fld.other W2 F_ao0_membersMaxBytes (Or.inr (slot_ne (Or.inr (own_w hw 27 rfl)) (Or.inr (own_w hw 23 rfl)) (by decide) (t := .long) (t' := .int) (by decide) (by decide)))
  replace F_ao0_offsetsMaxBytes := Fld.other W2 F_ao0_offsetsMaxBytes (Or.inr (slot_ne (Or.inr (own_w hw 29 rfl)) (Or.inr (own_w hw 23 rfl)) (by decide) (t := .long) (t' := .int) (by decide) (by decide)))
  replace F_ao0_offsetsRetentionMs := Fld.other W2 F_ao0_offsetsRetentionMs (Or.inr (slot_ne (Or.inr (own_w hw 31 rfl)) (Or.inr (own_w hw 23 rfl)) (by decide) (t := .long) (t' := .int) (by decide) (by decide)))
  replace F_ao0_offsetsCheckIntervalMs := Fld.other W2 F_ao0_offsetsCheckIntervalMs (Or.inr (slot_ne (Or.inr (own_w hw 33 rfl)) (Or.inr (own_w hw 23 rfl)) (by decide) (t := .long) (t' := .int) (by decide) (by decide)))
  replace Zs := Nat.le_trans Zs (Keep.of_wr W2).1
  replace Nf := Fr.snoc X2 Nf g_ao0
  replace Kp := Kp.wr W2 (Or.inl (by simp))
  refine own_go (x' := T2.setTop (mkF m 11 #[.val (.ref ao0), .val (.int p1), .val (.int p2), .val (.long q3), .second, .val (.long q4), .second, .val (.long q5), .second, .val (.long q6), .second] [(.int p2), (.ref ao0)])) (fun _ k => XS.aloadN X2.here hx rfl (hb hby d4_9) rfl rfl (XS.iloadN X2.here hx rfl (hb hby d4_10) rfl k)) ?_
  obtain ⟨T3, h3, X3, e3, W3, st3⟩ := putF X2 hx hZ hown (host := "") (Or.inl (own_w hw 24 rfl)) Via.refl e2 F_ao0_maxSessionTimeoutMs E_ao0 (Or.inr ⟨(own_w hw 25 rfl), rfl, hnm⟩) (own_w hw 8 rfl) (ty := .int) (by decide) rfl rfl (g := (mkF m 11 #[.val (.ref ao0), .val (.int p1), .val (.int p2), .val (.long q3), .second, .val (.long q4), .second, .val (.long q5), .second, .val (.long q6), .second] [(.int p2), (.ref ao0)])) rfl rfl (hb hby d4_11)
  refine own_go (x' := T3.setTop (mkF m 14 #[.val (.ref ao0), .val (.int p1), .val (.int p2), .val (.long q3), .second, .val (.long q4), .second, .val (.long q5), .second, .val (.long q6), .second] [])) st3 ?_
  replace E_ao0 := Exa.wr W3 E_ao0
  replace F_ao0_minSessionTimeoutMs := Fld.other W3 F_ao0_minSessionTimeoutMs (Or.inr (slot_ne (Or.inr (own_w hw 23 rfl)) (Or.inr (own_w hw 25 rfl)) (by decide) (t := .int) (t' := .int) (by decide) (by decide)))
  replace F_ao0_maxSessionTimeoutMs := Fld.same W3 F_ao0_maxSessionTimeoutMs
  replace F_ao0_membersMaxBytes := Fld.other W3 F_ao0_membersMaxBytes (Or.inr (slot_ne (Or.inr (own_w hw 27 rfl)) (Or.inr (own_w hw 25 rfl)) (by decide) (t := .long) (t' := .int) (by decide) (by decide)))
  replace F_ao0_offsetsMaxBytes := Fld.other W3 F_ao0_offsetsMaxBytes (Or.inr (slot_ne (Or.inr (own_w hw 29 rfl)) (Or.inr (own_w hw 25 rfl)) (by decide) (t := .long) (t' := .int) (by decide) (by decide)))
  replace F_ao0_offsetsRetentionMs := Fld.other W3 F_ao0_offsetsRetentionMs (Or.inr (slot_ne (Or.inr (own_w hw 31 rfl)) (Or.inr (own_w hw 25 rfl)) (by decide) (t := .long) (t' := .int) (by decide) (by decide)))
  replace F_ao0_offsetsCheckIntervalMs := Fld.other W3 F_ao0_offsetsCheckIntervalMs (Or.inr (slot_ne (Or.inr (own_w hw 33 rfl)) (Or.inr (own_w hw 25 rfl)) (by decide) (t := .long) (t' := .int) (by decide) (by decide)))
  replace Zs := Nat.le_trans Zs (Keep.of_wr W3).1
  replace Nf := Fr.snoc X3 Nf g_ao0
  replace Kp := Kp.wr W3 (Or.inl (by simp))
  refine own_go (x' := T3.setTop (mkF m 16 #[.val (.ref ao0), .val (.int p1), .val (.int p2), .val (.long q3), .second, .val (.long q4), .second, .val (.long q5), .second, .val (.long q6), .second] [(.long q3), (.ref ao0)])) (fun _ k => XS.aloadN X3.here hx rfl (hb hby d4_14) rfl rfl (XS.lloadN X3.here hx rfl (hb hby d4_15) rfl k)) ?_
  obtain ⟨T4, h4, X4, e4, W4, st4⟩ := putF X3 hx hZ hown (host := "") (Or.inl (own_w hw 26 rfl)) Via.refl e3 F_ao0_membersMaxBytes E_ao0 (Or.inr ⟨(own_w hw 27 rfl), rfl, hnm⟩) (own_w hw 8 rfl) (ty := .long) (by decide) rfl rfl (g := (mkF m 16 #[.val (.ref ao0), .val (.int p1), .val (.int p2), .val (.long q3), .second, .val (.long q4), .second, .val (.long q5), .second, .val (.long q6), .second] [(.long q3), (.ref ao0)])) rfl rfl (hb hby d4_16)
  refine own_go (x' := T4.setTop (mkF m 19 #[.val (.ref ao0), .val (.int p1), .val (.int p2), .val (.long q3), .second, .val (.long q4), .second, .val (.long q5), .second, .val (.long q6), .second] [])) st4 ?_
  replace E_ao0 := Exa.wr W4 E_ao0
  replace F_ao0_minSessionTimeoutMs := Fld.other W4 F_ao0_minSessionTimeoutMs (Or.inr (slot_ne (Or.inr (own_w hw 23 rfl)) (Or.inr (own_w hw 27 rfl)) (by decide) (t := .int) (t' := .long) (by decide) (by decide)))
  replace F_ao0_maxSessionTimeoutMs := Fld.other W4 F_ao0_maxSessionTimeoutMs (Or.inr (slot_ne (Or.inr (own_w hw 25 rfl)) (Or.inr (own_w hw 27 rfl)) (by decide) (t := .int) (t' := .long) (by decide) (by decide)))
  replace F_ao0_membersMaxBytes := Fld.same W4 F_ao0_membersMaxBytes
  replace F_ao0_offsetsMaxBytes := Fld.other W4 F_ao0_offsetsMaxBytes (Or.inr (slot_ne (Or.inr (own_w hw 29 rfl)) (Or.inr (own_w hw 27 rfl)) (by decide) (t := .long) (t' := .long) (by decide) (by decide)))
  replace F_ao0_offsetsRetentionMs := Fld.other W4 F_ao0_offsetsRetentionMs (Or.inr (slot_ne (Or.inr (own_w hw 31 rfl)) (Or.inr (own_w hw 27 rfl)) (by decide) (t := .long) (t' := .long) (by decide) (by decide)))
  replace F_ao0_offsetsCheckIntervalMs := Fld.other W4 F_ao0_offsetsCheckIntervalMs (Or.inr (slot_ne (Or.inr (own_w hw 33 rfl)) (Or.inr (own_w hw 27 rfl)) (by decide) (t := .long) (t' := .long) (by decide) (by decide)))
  replace Zs := Nat.le_trans Zs (Keep.of_wr W4).1
  replace Nf := Fr.snoc X4 Nf g_ao0
  replace Kp := Kp.wr W4 (Or.inl (by simp))
  refine own_go (x' := T4.setTop (mkF m 22 #[.val (.ref ao0), .val (.int p1), .val (.int p2), .val (.long q3), .second, .val (.long q4), .second, .val (.long q5), .second, .val (.long q6), .second] [(.long q4), (.ref ao0)])) (fun _ k => XS.aloadN X4.here hx rfl (hb hby d4_19) rfl rfl (XS.lload X4.here hx rfl (hb hby d4_20) rfl k)) ?_
  obtain ⟨T5, h5, X5, e5, W5, st5⟩ := putF X4 hx hZ hown (host := "") (Or.inl (own_w hw 28 rfl)) Via.refl e4 F_ao0_offsetsMaxBytes E_ao0 (Or.inr ⟨(own_w hw 29 rfl), rfl, hnm⟩) (own_w hw 8 rfl) (ty := .long) (by decide) rfl rfl (g := (mkF m 22 #[.val (.ref ao0), .val (.int p1), .val (.int p2), .val (.long q3), .second, .val (.long q4), .second, .val (.long q5), .second, .val (.long q6), .second] [(.long q4), (.ref ao0)])) rfl rfl (hb hby d4_22)
  refine own_go (x' := T5.setTop (mkF m 25 #[.val (.ref ao0), .val (.int p1), .val (.int p2), .val (.long q3), .second, .val (.long q4), .second, .val (.long q5), .second, .val (.long q6), .second] [])) st5 ?_
  replace E_ao0 := Exa.wr W5 E_ao0
  replace F_ao0_minSessionTimeoutMs := Fld.other W5 F_ao0_minSessionTimeoutMs (Or.inr (slot_ne (Or.inr (own_w hw 23 rfl)) (Or.inr (own_w hw 29 rfl)) (by decide) (t := .int) (t' := .long) (by decide) (by decide)))
  replace F_ao0_maxSessionTimeoutMs := Fld.other W5 F_ao0_maxSessionTimeoutMs (Or.inr (slot_ne (Or.inr (own_w hw 25 rfl)) (Or.inr (own_w hw 29 rfl)) (by decide) (t := .int) (t' := .long) (by decide) (by decide)))
  replace F_ao0_membersMaxBytes := Fld.other W5 F_ao0_membersMaxBytes (Or.inr (slot_ne (Or.inr (own_w hw 27 rfl)) (Or.inr (own_w hw 29 rfl)) (by decide) (t := .long) (t' := .long) (by decide) (by decide)))
  replace F_ao0_offsetsMaxBytes := Fld.same W5 F_ao0_offsetsMaxBytes
  replace F_ao0_offsetsRetentionMs := Fld.other W5 F_ao0_offsetsRetentionMs (Or.inr (slot_ne (Or.inr (own_w hw 31 rfl)) (Or.inr (own_w hw 29 rfl)) (by decide) (t := .long) (t' := .long) (by decide) (by decide)))
  replace F_ao0_offsetsCheckIntervalMs := Fld.other W5 F_ao0_offsetsCheckIntervalMs (Or.inr (slot_ne (Or.inr (own_w hw 33 rfl)) (Or.inr (own_w hw 29 rfl)) (by decide) (t := .long) (t' := .long) (by decide) (by decide)))
  replace Zs := Nat.le_trans Zs (Keep.of_wr W5).1
  replace Nf := Fr.snoc X5 Nf g_ao0
  replace Kp := Kp.wr W5 (Or.inl (by simp))
  refine own_go (x' := T5.setTop (mkF m 28 #[.val (.ref ao0), .val (.int p1), .val (.int p2), .val (.long q3), .second, .val (.long q4), .second, .val (.long q5), .second, .val (.long q6), .second] [(.long q5), (.ref ao0)])) (fun _ k => XS.aloadN X5.here hx rfl (hb hby d4_25) rfl rfl (XS.lload X5.here hx rfl (hb hby d4_26) rfl k)) ?_
  obtain ⟨T6, h6, X6, e6, W6, st6⟩ := putF X5 hx hZ hown (host := "") (Or.inl (own_w hw 30 rfl)) Via.refl e5 F_ao0_offsetsRetentionMs E_ao0 (Or.inr ⟨(own_w hw 31 rfl), rfl, hnm⟩) (own_w hw 8 rfl) (ty := .long) (by decide) rfl rfl (g := (mkF m 28 #[.val (.ref ao0), .val (.int p1), .val (.int p2), .val (.long q3), .second, .val (.long q4), .second, .val (.long q5), .second, .val (.long q6), .second] [(.long q5), (.ref ao0)])) rfl rfl (hb hby d4_28)
  refine own_go (x' := T6.setTop (mkF m 31 #[.val (.ref ao0), .val (.int p1), .val (.int p2), .val (.long q3), .second, .val (.long q4), .second, .val (.long q5), .second, .val (.long q6), .second] [])) st6 ?_
  replace E_ao0 := Exa.wr W6 E_ao0
  replace F_ao0_minSessionTimeoutMs := Fld.other W6 F_ao0_minSessionTimeoutMs (Or.inr (slot_ne (Or.inr (own_w hw 23 rfl)) (Or.inr (own_w hw 31 rfl)) (by decide) (t := .int) (t' := .long) (by decide) (by decide)))
  replace F_ao0_maxSessionTimeoutMs := Fld.other W6 F_ao0_maxSessionTimeoutMs (Or.inr (slot_ne (Or.inr (own_w hw 25 rfl)) (Or.inr (own_w hw 31 rfl)) (by decide) (t := .int) (t' := .long) (by decide) (by decide)))
  replace F_ao0_membersMaxBytes := Fld.other W6 F_ao0_membersMaxBytes (Or.inr (slot_ne (Or.inr (own_w hw 27 rfl)) (Or.inr (own_w hw 31 rfl)) (by decide) (t := .long) (t' := .long) (by decide) (by decide)))
  replace F_ao0_offsetsMaxBytes := Fld.other W6 F_ao0_offsetsMaxBytes (Or.inr (slot_ne (Or.inr (own_w hw 29 rfl)) (Or.inr (own_w hw 31 rfl)) (by decide) (t := .long) (t' := .long) (by decide) (by decide)))
  replace F_ao0_offsetsRetentionMs := Fld.same W6 F_ao0_offsetsRetentionMs
  replace F_ao0_offsetsCheckIntervalMs := Fld.other W6 F_ao0_offsetsCheckIntervalMs (Or.inr (slot_ne (Or.inr (own_w hw 33 rfl)) (Or.inr (own_w hw 31 rfl)) (by decide) (t := .long) (t' := .long) (by decide) (by decide)))
  replace Zs := Nat.le_trans Zs (Keep.of_wr W6).1
  replace Nf := Fr.snoc X6 Nf g_ao0
  replace Kp := Kp.wr W6 (Or.inl (by simp))
  refine own_go (x' := T6.setTop (mkF m 34 #[.val (.ref ao0), .val (.int p1), .val (.int p2), .val (.long q3), .second, .val (.long q4), .second, .val (.long q5), .second, .val (.long q6), .second] [(.long q6), (.ref ao0)])) (fun _ k => XS.aloadN X6.here hx rfl (hb hby d4_31) rfl rfl (XS.lload X6.here hx rfl (hb hby d4_32) rfl k)) ?_
  obtain ⟨T7, h7, X7, e7, W7, st7⟩ := putF X6 hx hZ hown (host := "") (Or.inl (own_w hw 32 rfl)) Via.refl e6 F_ao0_offsetsCheckIntervalMs E_ao0 (Or.inr ⟨(own_w hw 33 rfl), rfl, hnm⟩) (own_w hw 8 rfl) (ty := .long) (by decide) rfl rfl (g := (mkF m 34 #[.val (.ref ao0), .val (.int p1), .val (.int p2), .val (.long q3), .second, .val (.long q4), .second, .val (.long q5), .second, .val (.long q6), .second] [(.long q6), (.ref ao0)])) rfl rfl (hb hby d4_34)
  refine own_go (x' := T7.setTop (mkF m 37 #[.val (.ref ao0), .val (.int p1), .val (.int p2), .val (.long q3), .second, .val (.long q4), .second, .val (.long q5), .second, .val (.long q6), .second] [])) st7 ?_
  replace E_ao0 := Exa.wr W7 E_ao0
  replace F_ao0_minSessionTimeoutMs := Fld.other W7 F_ao0_minSessionTimeoutMs (Or.inr (slot_ne (Or.inr (own_w hw 23 rfl)) (Or.inr (own_w hw 33 rfl)) (by decide) (t := .int) (t' := .long) (by decide) (by decide)))
  replace F_ao0_maxSessionTimeoutMs := Fld.other W7 F_ao0_maxSessionTimeoutMs (Or.inr (slot_ne (Or.inr (own_w hw 25 rfl)) (Or.inr (own_w hw 33 rfl)) (by decide) (t := .int) (t' := .long) (by decide) (by decide)))
  replace F_ao0_membersMaxBytes := Fld.other W7 F_ao0_membersMaxBytes (Or.inr (slot_ne (Or.inr (own_w hw 27 rfl)) (Or.inr (own_w hw 33 rfl)) (by decide) (t := .long) (t' := .long) (by decide) (by decide)))
  replace F_ao0_offsetsMaxBytes := Fld.other W7 F_ao0_offsetsMaxBytes (Or.inr (slot_ne (Or.inr (own_w hw 29 rfl)) (Or.inr (own_w hw 33 rfl)) (by decide) (t := .long) (t' := .long) (by decide) (by decide)))
  replace F_ao0_offsetsRetentionMs := Fld.other W7 F_ao0_offsetsRetentionMs (Or.inr (slot_ne (Or.inr (own_w hw 31 rfl)) (Or.inr (own_w hw 33 rfl)) (by decide) (t := .long) (t' := .long) (by decide) (by decide)))
  replace F_ao0_offsetsCheckIntervalMs := Fld.same W7 F_ao0_offsetsCheckIntervalMs
  replace Zs := Nat.le_trans Zs (Keep.of_wr W7).1
  replace Nf := Fr.snoc X7 Nf g_ao0
  replace Kp := Kp.wr W7 (Or.inl (by simp))
  refine own_retV X7 hx hlk hret (hb hby d4_37) ?_ (by decide) (by decide)
  rw [e7]
  exact ⟨rfl, Nf, Kp, E_ao0, F_ao0_minSessionTimeoutMs, F_ao0_maxSessionTimeoutMs, F_ao0_membersMaxBytes, F_ao0_offsetsMaxBytes, F_ao0_offsetsRetentionMs, F_ao0_offsetsCheckIntervalMs⟩
theorem pd_0 : parseMethodDescriptor "(IIJJJJ)V" = some ⟨[.int, .int, .long, .long, .long, .long], none⟩ := by decide +kernel
theorem d3_0 : decode prog_13_method_1_code 0 = .ok (.aload_n 0, 1) := by decide +kernel
theorem d3_1 : decode prog_13_method_1_code 1 = .ok (.ldc 3, 2) := by decide +kernel
theorem d3_3 : decode prog_13_method_1_code 3 = .ok (.ldc 4, 2) := by decide +kernel
theorem d3_5 : decode prog_13_method_1_code 5 = .ok (.ldc2_w 7, 3) := by decide +kernel
theorem d3_8 : decode prog_13_method_1_code 8 = .ok (.ldc2_w 7, 3) := by decide +kernel
theorem d3_11 : decode prog_13_method_1_code 11 = .ok (.ldc2_w 7, 3) := by decide +kernel
theorem d3_14 : decode prog_13_method_1_code 14 = .ok (.ldc2_w 7, 3) := by decide +kernel
theorem d3_17 : decode prog_13_method_1_code 17 = .ok (.invokespecial 9, 3) := by decide +kernel
theorem d3_20 : decode prog_13_method_1_code 20 = .ok (.return_, 1) := by decide +kernel
def Q_rm3 (Z : State) (ao0 : Addr) (h0 : Heap) (n0 : Nat) (v : Option Value) (h : Heap) (L : List Loc) : Prop := v = none ∧ Fr n0 L ∧ Keep h0 h [ao0] ∧ Exa Z h ao0 "com/example/mechelen/mechelen/group/GroupLimits" ∧ Fld Z h ao0 "com/example/mechelen/mechelen/group/GroupLimits" "minSessionTimeoutMs" "I" (.int (-2147483648 : Int32)) ∧ Fld Z h ao0 "com/example/mechelen/mechelen/group/GroupLimits" "maxSessionTimeoutMs" "I" (.int (2147483647 : Int32)) ∧ Fld Z h ao0 "com/example/mechelen/mechelen/group/GroupLimits" "membersMaxBytes" "J" (.long (9223372036854775807 : Int64)) ∧ Fld Z h ao0 "com/example/mechelen/mechelen/group/GroupLimits" "offsetsMaxBytes" "J" (.long (9223372036854775807 : Int64)) ∧ Fld Z h ao0 "com/example/mechelen/mechelen/group/GroupLimits" "offsetsRetentionMs" "J" (.long (9223372036854775807 : Int64)) ∧ Fld Z h ao0 "com/example/mechelen/mechelen/group/GroupLimits" "offsetsCheckIntervalMs" "J" (.long (9223372036854775807 : Int64))
theorem pn_rm3 : plainName "com/example/mechelen/mechelen/group/GroupLimits" = true := by first | (simp [plainName, overriddenIn]; done) | decide +kernel
theorem ef_rm3 (m : MethodId) (x0 : Addr) : entryFrame m #[(.ref x0)] 1 = mkF m 0 #[.val (.ref x0)] [] := by first | (simp [entryFrame, mkF, argsToLocals, Value.category]; done) | rfl
set_option maxRecDepth 65536 in
set_option maxHeartbeats 40000000 in
theorem rm3 (l : Launch) (Z : State) (a0 : Array Value) (hw : ∀ d ∈ tables_1, d.before a0 Z = true) (ws : List Jvm.Cond) (ao0 : Addr) (h0 : Heap) (n0 : Nat) (Z0 : n0 ≤ h0.size) (E_ao0 : Exa Z h0 ao0 "com/example/mechelen/mechelen/group/GroupLimits") (F_ao0_minSessionTimeoutMs : Fld Z h0 ao0 "com/example/mechelen/mechelen/group/GroupLimits" "minSessionTimeoutMs" "I" (.int (0 : Int32))) (F_ao0_maxSessionTimeoutMs : Fld Z h0 ao0 "com/example/mechelen/mechelen/group/GroupLimits" "maxSessionTimeoutMs" "I" (.int (0 : Int32))) (F_ao0_membersMaxBytes : Fld Z h0 ao0 "com/example/mechelen/mechelen/group/GroupLimits" "membersMaxBytes" "J" (.long (0 : Int64))) (F_ao0_offsetsMaxBytes : Fld Z h0 ao0 "com/example/mechelen/mechelen/group/GroupLimits" "offsetsMaxBytes" "J" (.long (0 : Int64))) (F_ao0_offsetsRetentionMs : Fld Z h0 ao0 "com/example/mechelen/mechelen/group/GroupLimits" "offsetsRetentionMs" "J" (.long (0 : Int64))) (F_ao0_offsetsCheckIntervalMs : Fld Z h0 ao0 "com/example/mechelen/mechelen/group/GroupLimits" "offsetsCheckIntervalMs" "J" (.long (0 : Int64))) (g_ao0 : n0 ≤ ao0) :
    MetFree l (⟨"com/example/mechelen/mechelen/group/GroupLimits", "<init>", "()V"⟩ : MethodName) (head1 (Jvm.Cond.code (⟨"com/example/mechelen/mechelen/group/GroupLimits", "<init>", "()V"⟩ : MethodName) prog_13_method_1_code 1 none :: ws) ({ frames := 2, cells := 0, slots := 0, locals := 34 } : Room)) (fun a U => a = #[(.ref ao0)] ∧ Z.Warmed39 U.vm ∧ U.heap = h0) (fun _ _ _ _ _ => True) (fun _ U o U' => ∃ v L, o = .returned v ∧ (Q_rm3 Z ao0 h0 n0) v U'.heap L ∧ FrameEnd U o U' L ({ frames := 2, cells := 0, slots := 0, locals := 34 } : Room).cells ({ frames := 2, cells := 0, slots := 0, locals := 34 } : Room).slots) := by
  refine MetFree.of_bodySF (plainFor_of_name pn_rm3) hisR ?_
  intro p e s m args below meth c s₁ Bd hml0 hP hK
  obtain ⟨rfl, hZ, hh⟩ := hP
  have hx := Bd.exec
  have hby := Bd.bytes
  have hlk := BodyLoose.notSynchronized Bd
  have hret := Bd.returns
  have hml : c.maxLocals = 1 := hml0
  have hown : s.vm.findClass "com/example/mechelen/mechelen/group/GroupLimits" = some m.cls := findClass_of_methodNamed Bd.named
  have hnm := (name_of_methodNamed Bd.named Bd.method).1
  have X0 : Stand p l e ({ frames := 2, cells := 0, slots := 0, locals := 34 } : Room) s m #[(.ref ao0)] below meth c s₁ [] 0 0 := Stand.of_body Bd
  have e0 : s₁.heap = h0 := by rw [← hh, Bd.state]; rfl
  have Nf := Fr.nil n0
  have Zs := Z0
  have Kp : Keep h0 h0 [ao0] := Keep.refl _ _
  show own_End p e below s (Q_rm3 Z ao0 h0 n0) ({ frames := 2, cells := 0, slots := 0, locals := 34 } : Room).cells ({ frames := 2, cells := 0, slots := 0, locals := 34 } : Room).slots (s₁.setTop (entryFrame m #[(.ref ao0)] 1))
  refine own_go (x' := s₁.setTop (mkF m 0 #[.val (.ref ao0)] [])) (fun t k => castTop (ef_rm3 m ao0) k) ?_
  refine own_go (x' := s₁.setTop (mkF m 1 #[.val (.ref ao0)] [(.ref ao0)])) (fun _ k => XS.aloadN X0.here hx rfl (hb hby d3_0) rfl rfl k) ?_
  refine own_go (x' := s₁.setTop (mkF m 3 #[.val (.ref ao0)] [(.int (-2147483648 : Int32)), (.ref ao0)])) (fun t k => X0.ldcInt hx hown (mvT hZ (own_w hw 13 rfl)) (g := (mkF m 1 #[.val (.ref ao0)] [(.ref ao0)])) rfl (hb hby d3_1) t k) ?_
  refine own_go (x' := s₁.setTop (mkF m 5 #[.val (.ref ao0)] [(.int (2147483647 : Int32)), (.int (-2147483648 : Int32)), (.ref ao0)])) (fun t k => X0.ldcInt hx hown (mvT hZ (own_w hw 14 rfl)) (g := (mkF m 3 #[.val (.ref ao0)] [(.int (-2147483648 : Int32)), (.ref ao0)])) rfl (hb hby d3_3) t k) ?_
  refine own_go (x' := s₁.setTop (mkF m 8 #[.val (.ref ao0)] [(.long (9223372036854775807 : Int64)), (.int (2147483647 : Int32)), (.int (-2147483648 : Int32)), (.ref ao0)])) (fun t k => X0.ldc2Long hx hown (mvT hZ (own_w hw 15 rfl)) (g := (mkF m 5 #[.val (.ref ao0)] [(.int (2147483647 : Int32)), (.int (-2147483648 : Int32)), (.ref ao0)])) rfl (hb hby d3_5) t k) ?_
  refine own_go (x' := s₁.setTop (mkF m 11 #[.val (.ref ao0)] [(.long (9223372036854775807 : Int64)), (.long (9223372036854775807 : Int64)), (.int (2147483647 : Int32)), (.int (-2147483648 : Int32)), (.ref ao0)])) (fun t k => X0.ldc2Long hx hown (mvT hZ (own_w hw 15 rfl)) (g := (mkF m 8 #[.val (.ref ao0)] [(.long (9223372036854775807 : Int64)), (.int (2147483647 : Int32)), (.int (-2147483648 : Int32)), (.ref ao0)])) rfl (hb hby d3_8) t k) ?_
  refine own_go (x' := s₁.setTop (mkF m 14 #[.val (.ref ao0)] [(.long (9223372036854775807 : Int64)), (.long (9223372036854775807 : Int64)), (.long (9223372036854775807 : Int64)), (.int (2147483647 : Int32)), (.int (-2147483648 : Int32)), (.ref ao0)])) (fun t k => X0.ldc2Long hx hown (mvT hZ (own_w hw 15 rfl)) (g := (mkF m 11 #[.val (.ref ao0)] [(.long (9223372036854775807 : Int64)), (.long (9223372036854775807 : Int64)), (.int (2147483647 : Int32)), (.int (-2147483648 : Int32)), (.ref ao0)])) rfl (hb hby d3_11) t k) ?_
  refine own_go (x' := s₁.setTop (mkF m 17 #[.val (.ref ao0)] [(.long (9223372036854775807 : Int64)), (.long (9223372036854775807 : Int64)), (.long (9223372036854775807 : Int64)), (.long (9223372036854775807 : Int64)), (.int (2147483647 : Int32)), (.int (-2147483648 : Int32)), (.ref ao0)])) (fun t k => X0.ldc2Long hx hown (mvT hZ (own_w hw 15 rfl)) (g := (mkF m 14 #[.val (.ref ao0)] [(.long (9223372036854775807 : Int64)), (.long (9223372036854775807 : Int64)), (.long (9223372036854775807 : Int64)), (.int (2147483647 : Int32)), (.int (-2147483648 : Int32)), (.ref ao0)])) rfl (hb hby d3_14) t k) ?_
  obtain ⟨_, _, ⟨T1, L1, k1, n1⟩, -, X1, ⟨Lc1, hQ1, l1, y1, z1⟩, st1⟩ := X0.specialBack hx (y := (⟨"com/example/mechelen/mechelen/group/GroupLimits", "<init>", "(IIJJJJ)V"⟩ : MethodName)) rfl hown (mvT hZ (own_w hw 16 rfl)) (mvT hZ (own_w hw 17 rfl)) (mvT hZ (own_w hw 18 rfl)) (by decide) (backOf (W := 0) (rm4 l Z a0 hw [] ao0 (-2147483648 : Int32) (2147483647 : Int32) (9223372036854775807 : Int64) (9223372036854775807 : Int64) (9223372036854775807 : Int64) (9223372036854775807 : Int64) h0 n0 Zs E_ao0 F_ao0_minSessionTimeoutMs F_ao0_maxSessionTimeoutMs F_ao0_membersMaxBytes F_ao0_offsetsMaxBytes F_ao0_offsetsRetentionMs F_ao0_offsetsCheckIntervalMs g_ao0) hZ (own_w hw 18 rfl) (own_w hw 9 rfl) (by decide) (by decide)) (g := (mkF m 17 #[.val (.ref ao0)] [(.long (9223372036854775807 : Int64)), (.long (9223372036854775807 : Int64)), (.long (9223372036854775807 : Int64)), (.long (9223372036854775807 : Int64)), (.int (2147483647 : Int32)), (.int (-2147483648 : Int32)), (.ref ao0)])) rfl (by rw [hml]; rfl) (Steps.refl _) (a := ao0) (argsL := [(.int (-2147483648 : Int32)), (.int (2147483647 : Int32)), (.long (9223372036854775807 : Int64)), (.long (9223372036854775807 : Int64)), (.long (9223372036854775807 : Int64)), (.long (9223372036854775807 : Int64))]) (rest := []) (lenOf pd_0 rfl) rfl (by show 2 * 0 + _ ≤ _; exact Nat.le_of_eq rfl) (hb hby d3_17) (fun _ _ => ⟨rfl, e0, (by decide : 0 + 0 ≤ _), (by decide : 0 + 0 ≤ _)⟩)
  dsimp only [Pt.U, Pt.locs, Pt.cells, Pt.slots] at X1 l1 y1 z1 st1 hQ1
  subst l1 y1 z1
  obtain ⟨hv1, Nq1, K1, Eo1, Fo1_0, Fo1_1, Fo1_2, Fo1_3, Fo1_4, Fo1_5⟩ := hQ1
  subst hv1
  replace Nf := Fr.app Nf Nq1
  replace Zs := Nat.le_trans Zs K1.1
  replace Kp := Kp.trans K1 (allS (Or.inl (by simp)) all0)
  replace E_ao0 := Eo1
  replace F_ao0_minSessionTimeoutMs := Fo1_0
  replace F_ao0_maxSessionTimeoutMs := Fo1_1
  replace F_ao0_membersMaxBytes := Fo1_2
  replace F_ao0_offsetsMaxBytes := Fo1_3
  replace F_ao0_offsetsRetentionMs := Fo1_4
  replace F_ao0_offsetsCheckIntervalMs := Fo1_5
  refine own_go (x' := T1.setTop (mkF m 20 #[.val (.ref ao0)] [])) (fun _ k => st1.trans k) ?_
  refine own_retV X1 hx hlk hret (hb hby d3_20) ?_ (by decide) (by decide)
  exact ⟨rfl, Nf, Kp, E_ao0, F_ao0_minSessionTimeoutMs, F_ao0_maxSessionTimeoutMs, F_ao0_membersMaxBytes, F_ao0_offsetsMaxBytes, F_ao0_offsetsRetentionMs, F_ao0_offsetsCheckIntervalMs⟩
theorem d6_0 : decode prog_13_method_3_code 0 = .ok (.new 10, 3) := by decide +kernel
theorem d6_3 : decode prog_13_method_3_code 3 = .ok (.dup, 1) := by decide +kernel
theorem d6_4 : decode prog_13_method_3_code 4 = .ok (.iload_n 1, 1) := by decide +kernel
theorem d6_5 : decode prog_13_method_3_code 5 = .ok (.iload_n 2, 1) := by decide +kernel
theorem d6_6 : decode prog_13_method_3_code 6 = .ok (.aload_n 0, 1) := by decide +kernel
theorem d6_7 : decode prog_13_method_3_code 7 = .ok (.getfield 27, 3) := by decide +kernel
theorem d6_10 : decode prog_13_method_3_code 10 = .ok (.aload_n 0, 1) := by decide +kernel
theorem d6_11 : decode prog_13_method_3_code 11 = .ok (.getfield 31, 3) := by decide +kernel
theorem d6_14 : decode prog_13_method_3_code 14 = .ok (.aload_n 0, 1) := by decide +kernel
theorem d6_15 : decode prog_13_method_3_code 15 = .ok (.getfield 34, 3) := by decide +kernel
theorem d6_18 : decode prog_13_method_3_code 18 = .ok (.aload_n 0, 1) := by decide +kernel
theorem d6_19 : decode prog_13_method_3_code 19 = .ok (.getfield 37, 3) := by decide +kernel
theorem d6_22 : decode prog_13_method_3_code 22 = .ok (.invokespecial 9, 3) := by decide +kernel
theorem d6_25 : decode prog_13_method_3_code 25 = .ok (.areturn, 1) := by decide +kernel
def Q_rm6 (Z : State) (ao0 : Addr) (p1 : Int32) (p2 : Int32) (u0 : Int64) (u1 : Int64) (u2 : Int64) (u3 : Int64) (h0 : Heap) (n0 : Nat) (v : Option Value) (h : Heap) (L : List Loc) : Prop := ∃ b : Addr, v = some (.ref b) ∧ Fr n0 L ∧ Keep h0 h [] ∧ h0.size ≤ b ∧ n0 ≤ b ∧ Exa Z h b "com/example/mechelen/mechelen/group/GroupLimits" ∧ Fld Z h b "com/example/mechelen/mechelen/group/GroupLimits" "minSessionTimeoutMs" "I" (.int p1) ∧ Fld Z h b "com/example/mechelen/mechelen/group/GroupLimits" "maxSessionTimeoutMs" "I" (.int p2) ∧ Fld Z h b "com/example/mechelen/mechelen/group/GroupLimits" "membersMaxBytes" "J" (.long u0) ∧ Fld Z h b "com/example/mechelen/mechelen/group/GroupLimits" "offsetsMaxBytes" "J" (.long u1) ∧ Fld Z h b "com/example/mechelen/mechelen/group/GroupLimits" "offsetsRetentionMs" "J" (.long u2) ∧ Fld Z h b "com/example/mechelen/mechelen/group/GroupLimits" "offsetsCheckIntervalMs" "J" (.long u3)
theorem pn_rm6 : plainName "com/example/mechelen/mechelen/group/GroupLimits" = true := by first | (simp [plainName, overriddenIn]; done) | decide +kernel
theorem ef_rm6 (m : MethodId) (x0 : Addr) (x1 : Int32) (x2 : Int32) : entryFrame m #[(.ref x0), (.int x1), (.int x2)] 3 = mkF m 0 #[.val (.ref x0), .val (.int x1), .val (.int x2)] [] := by first | (simp [entryFrame, mkF, argsToLocals, Value.category]; done) | rfl
set_option maxRecDepth 65536 in
set_option maxHeartbeats 40000000 in
theorem rm6 (l : Launch) (Z : State) (a0 : Array Value) (hw : ∀ d ∈ tables_1, d.before a0 Z = true) (ws : List Jvm.Cond) (ao0 : Addr) (p1 : Int32) (p2 : Int32) (u0 : Int64) (u1 : Int64) (u2 : Int64) (u3 : Int64) (h0 : Heap) (n0 : Nat) (Z0 : n0 ≤ h0.size) (F_ao0_membersMaxBytes : Fld Z h0 ao0 "com/example/mechelen/mechelen/group/GroupLimits" "membersMaxBytes" "J" (.long u0)) (F_ao0_offsetsMaxBytes : Fld Z h0 ao0 "com/example/mechelen/mechelen/group/GroupLimits" "offsetsMaxBytes" "J" (.long u1)) (F_ao0_offsetsRetentionMs : Fld Z h0 ao0 "com/example/mechelen/mechelen/group/GroupLimits" "offsetsRetentionMs" "J" (.long u2)) (F_ao0_offsetsCheckIntervalMs : Fld Z h0 ao0 "com/example/mechelen/mechelen/group/GroupLimits" "offsetsCheckIntervalMs" "J" (.long u3)) :
    MetFree l (⟨"com/example/mechelen/mechelen/group/GroupLimits", "withSessionTimeoutMs", "(II)Lcom/example/mechelen/mechelen/group/GroupLimits;"⟩ : MethodName) (head1 (Jvm.Cond.code (⟨"com/example/mechelen/mechelen/group/GroupLimits", "withSessionTimeoutMs", "(II)Lcom/example/mechelen/mechelen/group/GroupLimits;"⟩ : MethodName) prog_13_method_3_code 3 (some (.object "com/example/mechelen/mechelen/group/GroupLimits")) :: ws) ({ frames := 2, cells := 1, slots := 6, locals := 35 } : Room)) (fun a U => a = #[(.ref ao0), (.int p1), (.int p2)] ∧ Z.Warmed39 U.vm ∧ U.heap = h0) (fun _ _ _ _ _ => True) (fun _ U o U' => ∃ v L, o = .returned v ∧ (Q_rm6 Z ao0 p1 p2 u0 u1 u2 u3 h0 n0) v U'.heap L ∧ FrameEnd U o U' L ({ frames := 2, cells := 1, slots := 6, locals := 35 } : Room).cells ({ frames := 2, cells := 1, slots := 6, locals := 35 } : Room).slots) := by
  refine MetFree.of_bodySF (plainFor_of_name pn_rm6) hisR ?_
  intro p e s m args below meth c s₁ Bd hml0 hP hK
  obtain ⟨rfl, hZ, hh⟩ := hP
  have hx := Bd.exec
  have hby := Bd.bytes
  have hlk := BodyLoose.notSynchronized Bd
  have hret := Bd.returns
  have hml : c.maxLocals = 3 := hml0
  have hown : s.vm.findClass "com/example/mechelen/mechelen/group/GroupLimits" = some m.cls := findClass_of_methodNamed Bd.named
  have hnm := (name_of_methodNamed Bd.named Bd.method).1
  have X0 : Stand p l e ({ frames := 2, cells := 1, slots := 6, locals := 35 } : Room) s m #[(.ref ao0), (.int p1), (.int p2)] below meth c s₁ [] 0 0 := Stand.of_body Bd
  have e0 : s₁.heap = h0 := by rw [← hh, Bd.state]; rfl
  have Nf := Fr.nil n0
  have Zs := Z0
  have Kp : Keep h0 h0 [] := Keep.refl _ _
  show own_End p e below s (Q_rm6 Z ao0 p1 p2 u0 u1 u2 u3 h0 n0) ({ frames := 2, cells := 1, slots := 6, locals := 35 } : Room).cells ({ frames := 2, cells := 1, slots := 6, locals := 35 } : Room).slots (s₁.setTop (entryFrame m #[(.ref ao0), (.int p1), (.int p2)] 3))
  refine own_go (x' := s₁.setTop (mkF m 0 #[.val (.ref ao0), .val (.int p1), .val (.int p2)] [])) (fun t k => castTop (ef_rm6 m ao0 p1 p2) k) ?_
  obtain ⟨T1, h1, X1, e1, E1, A1, D1, -, st1⟩ := newO X0 hx hZ hown (own_w hw 39 rfl) (own_w hw 8 rfl) (own_w hw 9 rfl) e0 (g := (mkF m 0 #[.val (.ref ao0), .val (.int p1), .val (.int p2)] [])) rfl (hb hby d6_0) (by decide) (by decide)
  obtain ⟨b1, g1⟩ : ∃ z, z = h0.size := ⟨_, rfl⟩
  rw [← g1] at A1 D1 st1
  have ne_ao0_b1 : ao0 ≠ b1 := Nat.ne_of_lt (Nat.lt_of_lt_of_le F_ao0_membersMaxBytes.lt (Nat.le_of_eq g1.symm))
  have g_b1 : n0 ≤ b1 := Nat.le_trans Zs (Nat.le_of_eq g1.symm)
  have sz_b1 : h0.size ≤ b1 := Nat.le_trans Kp.1 (Nat.le_of_eq g1.symm)
  replace F_ao0_membersMaxBytes := Fld.ext E1 F_ao0_membersMaxBytes
  replace F_ao0_offsetsMaxBytes := Fld.ext E1 F_ao0_offsetsMaxBytes
  replace F_ao0_offsetsRetentionMs := Fld.ext E1 F_ao0_offsetsRetentionMs
  replace F_ao0_offsetsCheckIntervalMs := Fld.ext E1 F_ao0_offsetsCheckIntervalMs
  replace Zs := Nat.le_trans Zs E1.1
  replace Kp := Kp.ext E1
  have E_b1 := A1
  have F_b1_minSessionTimeoutMs : Fld Z h1 b1 "com/example/mechelen/mechelen/group/GroupLimits" "minSessionTimeoutMs" "I" (.int (0 : Int32)) := D1 (Or.inr (own_w hw 23 rfl)) (ty := .int) (by decide)
  have F_b1_maxSessionTimeoutMs : Fld Z h1 b1 "com/example/mechelen/mechelen/group/GroupLimits" "maxSessionTimeoutMs" "I" (.int (0 : Int32)) := D1 (Or.inr (own_w hw 25 rfl)) (ty := .int) (by decide)
  have F_b1_membersMaxBytes : Fld Z h1 b1 "com/example/mechelen/mechelen/group/GroupLimits" "membersMaxBytes" "J" (.long (0 : Int64)) := D1 (Or.inr (own_w hw 27 rfl)) (ty := .long) (by decide)
  have F_b1_offsetsMaxBytes : Fld Z h1 b1 "com/example/mechelen/mechelen/group/GroupLimits" "offsetsMaxBytes" "J" (.long (0 : Int64)) := D1 (Or.inr (own_w hw 29 rfl)) (ty := .long) (by decide)
  have F_b1_offsetsRetentionMs : Fld Z h1 b1 "com/example/mechelen/mechelen/group/GroupLimits" "offsetsRetentionMs" "J" (.long (0 : Int64)) := D1 (Or.inr (own_w hw 31 rfl)) (ty := .long) (by decide)
  have F_b1_offsetsCheckIntervalMs : Fld Z h1 b1 "com/example/mechelen/mechelen/group/GroupLimits" "offsetsCheckIntervalMs" "J" (.long (0 : Int64)) := D1 (Or.inr (own_w hw 33 rfl)) (ty := .long) (by decide)
  refine own_go (x' := T1.setTop (mkF m 3 #[.val (.ref ao0), .val (.int p1), .val (.int p2)] [(.ref b1)])) st1 ?_
  refine own_go (x' := T1.setTop (mkF m 7 #[.val (.ref ao0), .val (.int p1), .val (.int p2)] [(.ref ao0), (.int p2), (.int p1), (.ref b1), (.ref b1)])) (fun _ k => XS.dup X1.here hx rfl (hb hby d6_3) rfl rfl (XS.iloadN X1.here hx rfl (hb hby d6_4) rfl (XS.iloadN X1.here hx rfl (hb hby d6_5) rfl (XS.aloadN X1.here hx rfl (hb hby d6_6) rfl rfl k)))) ?_
  obtain ⟨T2, X2, e2, st2⟩ := getF X1 hx hZ hown (host := "") (Or.inl (own_w hw 26 rfl)) Via.refl e1 F_ao0_membersMaxBytes (g := (mkF m 7 #[.val (.ref ao0), .val (.int p1), .val (.int p2)] [(.ref ao0), (.int p2), (.int p1), (.ref b1), (.ref b1)])) rfl rfl (hb hby d6_7)
  refine own_go (x' := T2.setTop (mkF m 10 #[.val (.ref ao0), .val (.int p1), .val (.int p2)] [(.long u0), (.int p2), (.int p1), (.ref b1), (.ref b1)])) st2 ?_
  refine own_go (x' := T2.setTop (mkF m 11 #[.val (.ref ao0), .val (.int p1), .val (.int p2)] [(.ref ao0), (.long u0), (.int p2), (.int p1), (.ref b1), (.ref b1)])) (fun _ k => XS.aloadN X2.here hx rfl (hb hby d6_10) rfl rfl k) ?_
  obtain ⟨T3, X3, e3, st3⟩ := getF X2 hx hZ hown (host := "") (Or.inl (own_w hw 28 rfl)) Via.refl e2 F_ao0_offsetsMaxBytes (g := (mkF m 11 #[.val (.ref ao0), .val (.int p1), .val (.int p2)] [(.ref ao0), (.long u0), (.int p2), (.int p1), (.ref b1), (.ref b1)])) rfl rfl (hb hby d6_11)
  refine own_go (x' := T3.setTop (mkF m 14 #[.val (.ref ao0), .val (.int p1), .val (.int p2)] [(.long u1), (.long u0), (.int p2), (.int p1), (.ref b1), (.ref b1)])) st3 ?_
  refine own_go (x' := T3.setTop (mkF m 15 #[.val (.ref ao0), .val (.int p1), .val (.int p2)] [(.ref ao0), (.long u1), (.long u0), (.int p2), (.int p1), (.ref b1), (.ref b1)])) (fun _ k => XS.aloadN X3.here hx rfl (hb hby d6_14) rfl rfl k) ?_
  obtain ⟨T4, X4, e4, st4⟩ := getF X3 hx hZ hown (host := "") (Or.inl (own_w hw 30 rfl)) Via.refl e3 F_ao0_offsetsRetentionMs (g := (mkF m 15 #[.val (.ref ao0), .val (.int p1), .val (.int p2)] [(.ref ao0), (.long u1), (.long u0), (.int p2), (.int p1), (.ref b1), (.ref b1)])) rfl rfl (hb hby d6_15)
  refine own_go (x' := T4.setTop (mkF m 18 #[.val (.ref ao0), .val (.int p1), .val (.int p2)] [(.long u2), (.long u1), (.long u0), (.int p2), (.int p1), (.ref b1), (.ref b1)])) st4 ?_
  refine own_go (x' := T4.setTop (mkF m 19 #[.val (.ref ao0), .val (.int p1), .val (.int p2)] [(.ref ao0), (.long u2), (.long u1), (.long u0), (.int p2), (.int p1), (.ref b1), (.ref b1)])) (fun _ k => XS.aloadN X4.here hx rfl (hb hby d6_18) rfl rfl k) ?_
  obtain ⟨T5, X5, e5, st5⟩ := getF X4 hx hZ hown (host := "") (Or.inl (own_w hw 32 rfl)) Via.refl e4 F_ao0_offsetsCheckIntervalMs (g := (mkF m 19 #[.val (.ref ao0), .val (.int p1), .val (.int p2)] [(.ref ao0), (.long u2), (.long u1), (.long u0), (.int p2), (.int p1), (.ref b1), (.ref b1)])) rfl rfl (hb hby d6_19)
  refine own_go (x' := T5.setTop (mkF m 22 #[.val (.ref ao0), .val (.int p1), .val (.int p2)] [(.long u3), (.long u2), (.long u1), (.long u0), (.int p2), (.int p1), (.ref b1), (.ref b1)])) st5 ?_
  obtain ⟨_, _, ⟨T6, L6, k6, n6⟩, -, X6, ⟨Lc6, hQ6, l6, y6, z6⟩, st6⟩ := X5.specialBack hx (y := (⟨"com/example/mechelen/mechelen/group/GroupLimits", "<init>", "(IIJJJJ)V"⟩ : MethodName)) rfl hown (mvT hZ (own_w hw 16 rfl)) (mvT hZ (own_w hw 17 rfl)) (mvT hZ (own_w hw 18 rfl)) (by decide) (backOf (W := 1) (rm4 l Z a0 hw [] b1 p1 p2 u0 u1 u2 u3 h1 n0 Zs E_b1 F_b1_minSessionTimeoutMs F_b1_maxSessionTimeoutMs F_b1_membersMaxBytes F_b1_offsetsMaxBytes F_b1_offsetsRetentionMs F_b1_offsetsCheckIntervalMs g_b1) hZ (own_w hw 18 rfl) (own_w hw 9 rfl) (by decide) (by decide)) (g := (mkF m 22 #[.val (.ref ao0), .val (.int p1), .val (.int p2)] [(.long u3), (.long u2), (.long u1), (.long u0), (.int p2), (.int p1), (.ref b1), (.ref b1)])) rfl (by rw [hml]; rfl) (Steps.refl _) (a := b1) (argsL := [(.int p1), (.int p2), (.long u0), (.long u1), (.long u2), (.long u3)]) (rest := [(.ref b1)]) (lenOf pd_0 rfl) rfl (by show 2 * 0 + _ ≤ _; exact Nat.le_of_eq rfl) (hb hby d6_22) (fun _ _ => ⟨rfl, e5, (by decide : 1 + 0 ≤ _), (by decide : 6 + 0 ≤ _)⟩)
  dsimp only [Pt.U, Pt.locs, Pt.cells, Pt.slots] at X6 l6 y6 z6 st6 hQ6
  subst l6 y6 z6
  obtain ⟨hv6, Nq6, K6, Eo6, Fo6_0, Fo6_1, Fo6_2, Fo6_3, Fo6_4, Fo6_5⟩ := hQ6
  subst hv6
  replace Nf := Fr.app Nf Nq6
  replace F_ao0_membersMaxBytes := F_ao0_membersMaxBytes.keep K6 (ninS ne_ao0_b1 nin0)
  replace F_ao0_offsetsMaxBytes := F_ao0_offsetsMaxBytes.keep K6 (ninS ne_ao0_b1 nin0)
  replace F_ao0_offsetsRetentionMs := F_ao0_offsetsRetentionMs.keep K6 (ninS ne_ao0_b1 nin0)
  replace F_ao0_offsetsCheckIntervalMs := F_ao0_offsetsCheckIntervalMs.keep K6 (ninS ne_ao0_b1 nin0)
  replace Zs := Nat.le_trans Zs K6.1
  replace Kp := Kp.trans K6 (allS (Or.inr sz_b1) all0)
  replace E_b1 := Eo6
  replace F_b1_minSessionTimeoutMs := Fo6_0
  replace F_b1_maxSessionTimeoutMs := Fo6_1
  replace F_b1_membersMaxBytes := Fo6_2
  replace F_b1_offsetsMaxBytes := Fo6_3
  replace F_b1_offsetsRetentionMs := Fo6_4
  replace F_b1_offsetsCheckIntervalMs := Fo6_5
  refine own_go (x' := T6.setTop (mkF m 25 #[.val (.ref ao0), .val (.int p1), .val (.int p2)] [(.ref b1)])) (fun _ k => st6.trans k) ?_
  refine own_retR X6 hx hlk hret rfl rfl (hb hby d6_25) ?_ (by decide) (by decide)
  exact ⟨b1, rfl, Nf, Kp, sz_b1, g_b1, E_b1, F_b1_minSessionTimeoutMs, F_b1_maxSessionTimeoutMs, F_b1_membersMaxBytes, F_b1_offsetsMaxBytes, F_b1_offsetsRetentionMs, F_b1_offsetsCheckIntervalMs⟩
def own_allows (t lo hi : Int32) : Int32 := if t < lo then 0 else if hi < t then 0 else 1
theorem d7_0 : decode prog_13_method_7_code 0 = .ok (.iload_n 1, 1) := by decide +kernel
theorem d7_1 : decode prog_13_method_7_code 1 = .ok (.aload_n 0, 1) := by decide +kernel
theorem d7_2 : decode prog_13_method_7_code 2 = .ok (.getfield 20, 3) := by decide +kernel
theorem d7_5 : decode prog_13_method_7_code 5 = .ok (.if_icmp .lt 15, 3) := by decide +kernel
theorem d7_8 : decode prog_13_method_7_code 8 = .ok (.iload_n 1, 1) := by decide +kernel
theorem d7_9 : decode prog_13_method_7_code 9 = .ok (.aload_n 0, 1) := by decide +kernel
theorem d7_10 : decode prog_13_method_7_code 10 = .ok (.getfield 24, 3) := by decide +kernel
theorem d7_13 : decode prog_13_method_7_code 13 = .ok (.if_icmp .gt 7, 3) := by decide +kernel
theorem d7_16 : decode prog_13_method_7_code 16 = .ok (.iconst 1, 1) := by decide +kernel
theorem d7_17 : decode prog_13_method_7_code 17 = .ok (.goto 4, 3) := by decide +kernel
theorem d7_20 : decode prog_13_method_7_code 20 = .ok (.iconst 0, 1) := by decide +kernel
theorem d7_21 : decode prog_13_method_7_code 21 = .ok (.ireturn, 1) := by decide +kernel
def Q_rm7 (Z : State) (ao0 : Addr) (p1 : Int32) (u : Int32) (r : Int32) (h0 : Heap) (n0 : Nat) (v : Option Value) (h : Heap) (L : List Loc) : Prop := v = some (.int (own_allows p1 u r)) ∧ Fr n0 L ∧ h = h0
theorem pn_rm7 : plainName "com/example/mechelen/mechelen/group/GroupLimits" = true := by first | (simp [plainName, overriddenIn]; done) | decide +kernel
theorem ef_rm7 (m : MethodId) (x0 : Addr) (x1 : Int32) : entryFrame m #[(.ref x0), (.int x1)] 2 = mkF m 0 #[.val (.ref x0), .val (.int x1)] [] := by first | (simp [entryFrame, mkF, argsToLocals, Value.category]; done) | rfl
set_option maxRecDepth 65536 in
set_option maxHeartbeats 40000000 in
theorem rm7 (l : Launch) (Z : State) (a0 : Array Value) (hw : ∀ d ∈ tables_1, d.before a0 Z = true) (ws : List Jvm.Cond) (ao0 : Addr) (p1 : Int32) (u : Int32) (r : Int32) (h0 : Heap) (n0 : Nat) (Z0 : n0 ≤ h0.size) (F_ao0_minSessionTimeoutMs : Fld Z h0 ao0 "com/example/mechelen/mechelen/group/GroupLimits" "minSessionTimeoutMs" "I" (.int u)) (F_ao0_maxSessionTimeoutMs : Fld Z h0 ao0 "com/example/mechelen/mechelen/group/GroupLimits" "maxSessionTimeoutMs" "I" (.int r)) :
    MetFree l (⟨"com/example/mechelen/mechelen/group/GroupLimits", "allowsSessionTimeoutMs", "(I)Z"⟩ : MethodName) (head1 (Jvm.Cond.code (⟨"com/example/mechelen/mechelen/group/GroupLimits", "allowsSessionTimeoutMs", "(I)Z"⟩ : MethodName) prog_13_method_7_code 2 (some .boolean) :: ws) ({ frames := 0, cells := 0, slots := 0, locals := 0 } : Room)) (fun a U => a = #[(.ref ao0), (.int p1)] ∧ Z.Warmed39 U.vm ∧ U.heap = h0) (fun _ _ _ _ _ => True) (fun _ U o U' => ∃ v L, o = .returned v ∧ (Q_rm7 Z ao0 p1 u r h0 n0) v U'.heap L ∧ FrameEnd U o U' L ({ frames := 0, cells := 0, slots := 0, locals := 0 } : Room).cells ({ frames := 0, cells := 0, slots := 0, locals := 0 } : Room).slots) := by
  refine MetFree.of_bodySF (plainFor_of_name pn_rm7) hisR ?_
  intro p e s m args below meth c s₁ Bd hml0 hP hK
  obtain ⟨rfl, hZ, hh⟩ := hP
  have hx := Bd.exec
  have hby := Bd.bytes
  have hlk := BodyLoose.notSynchronized Bd
  have hret := Bd.returns
  have hml : c.maxLocals = 2 := hml0
  have hown : s.vm.findClass "com/example/mechelen/mechelen/group/GroupLimits" = some m.cls := findClass_of_methodNamed Bd.named
  have hnm := (name_of_methodNamed Bd.named Bd.method).1
  have X0 : Stand p l e ({ frames := 0, cells := 0, slots := 0, locals := 0 } : Room) s m #[(.ref ao0), (.int p1)] below meth c s₁ [] 0 0 := Stand.of_body Bd
  have e0 : s₁.heap = h0 := by rw [← hh, Bd.state]; rfl
  have Nf := Fr.nil n0
  have Zs := Z0
  have Kp : Keep h0 h0 [] := Keep.refl _ _
  show own_End p e below s (Q_rm7 Z ao0 p1 u r h0 n0) ({ frames := 0, cells := 0, slots := 0, locals := 0 } : Room).cells ({ frames := 0, cells := 0, slots := 0, locals := 0 } : Room).slots (s₁.setTop (entryFrame m #[(.ref ao0), (.int p1)] 2))
  refine own_go (x' := s₁.setTop (mkF m 0 #[.val (.ref ao0), .val (.int p1)] [])) (fun t k => castTop (ef_rm7 m ao0 p1) k) ?_
  refine own_go (x' := s₁.setTop (mkF m 2 #[.val (.ref ao0), .val (.int p1)] [(.ref ao0), (.int p1)])) (fun _ k => XS.iloadN X0.here hx rfl (hb hby d7_0) rfl (XS.aloadN X0.here hx rfl (hb hby d7_1) rfl rfl k)) ?_
  obtain ⟨T1, X1, e1, st1⟩ := getF X0 hx hZ hown (host := "") (Or.inl (own_w hw 22 rfl)) Via.refl e0 F_ao0_minSessionTimeoutMs (g := (mkF m 2 #[.val (.ref ao0), .val (.int p1)] [(.ref ao0), (.int p1)])) rfl rfl (hb hby d7_2)
  refine own_go (x' := T1.setTop (mkF m 5 #[.val (.ref ao0), .val (.int p1)] [(.int u), (.int p1)])) st1 ?_
  by_cases hc5 : p1 < u
  · refine own_go (x' := T1.setTop (mkF m 21 #[.val (.ref ao0), .val (.int p1)] [(.int (0 : Int32))])) (fun _ k => XS.icmpYes X1.here hx rfl (pc0 := 5) (pc' := 20) rfl (hb hby d7_5) rfl (tlt hc5).1 (by decide) (by decide) (XS.iconst X1.here hx rfl (hb hby d7_20) k)) ?_
    refine own_retN X1 hx hlk (t := .boolean) hret (by simp) (hb hby d7_21) (w := (0 : Int32)) rfl ?_ (by decide) (by decide)
    rw [e1]
    exact ⟨by simp only [own_allows, if_pos hc5], Nf, rfl⟩
  · refine own_go (x' := T1.setTop (mkF m 10 #[.val (.ref ao0), .val (.int p1)] [(.ref ao0), (.int p1)])) (fun _ k => XS.icmpNo X1.here hx rfl (hb hby d7_5) rfl (flt hc5).1 (XS.iloadN X1.here hx rfl (hb hby d7_8) rfl (XS.aloadN X1.here hx rfl (hb hby d7_9) rfl rfl k))) ?_
    obtain ⟨T2, X2, e2, st2⟩ := getF X1 hx hZ hown (host := "") (Or.inl (own_w hw 24 rfl)) Via.refl e1 F_ao0_maxSessionTimeoutMs (g := (mkF m 10 #[.val (.ref ao0), .val (.int p1)] [(.ref ao0), (.int p1)])) rfl rfl (hb hby d7_10)
    refine own_go (x' := T2.setTop (mkF m 13 #[.val (.ref ao0), .val (.int p1)] [(.int r), (.int p1)])) st2 ?_
    by_cases hc13 : r < p1
    · refine own_go (x' := T2.setTop (mkF m 21 #[.val (.ref ao0), .val (.int p1)] [(.int (0 : Int32))])) (fun _ k => XS.icmpYes X2.here hx rfl (pc0 := 13) (pc' := 20) rfl (hb hby d7_13) rfl (tlt hc13).2.2.1 (by decide) (by decide) (XS.iconst X2.here hx rfl (hb hby d7_20) k)) ?_
      refine own_retN X2 hx hlk (t := .boolean) hret (by simp) (hb hby d7_21) (w := (0 : Int32)) rfl ?_ (by decide) (by decide)
      rw [e2]
      exact ⟨by simp only [own_allows, if_neg hc5, if_pos hc13], Nf, rfl⟩
    · refine own_go (x' := T2.setTop (mkF m 21 #[.val (.ref ao0), .val (.int p1)] [(.int (1 : Int32))])) (fun _ k => XS.icmpNo X2.here hx rfl (hb hby d7_13) rfl (flt hc13).2.2.1 (XS.iconst X2.here hx rfl (hb hby d7_16) (XS.goto X2.here hx rfl (pc0 := 17) (pc' := 21) rfl (hb hby d7_17) (by decide) (by decide) k))) ?_
      refine own_retN X2 hx hlk (t := .boolean) hret (by simp) (hb hby d7_21) (w := (1 : Int32)) rfl ?_ (by decide) (by decide)
      rw [e2]
      exact ⟨by simp only [own_allows, if_neg hc5, if_neg hc13], Nf, rfl⟩
theorem own_al (t lo hi : Int32) : ((own_allows t lo hi).toInt = 1 ∧ lo.toInt ≤ t.toInt ∧ t.toInt ≤ hi.toInt) ∨ ((own_allows t lo hi).toInt = 0 ∧ (t.toInt < lo.toInt ∨ hi.toInt < t.toInt)) := by
  by_cases h1 : t < lo
  · right
    have e : own_allows t lo hi = 0 := if_pos h1
    rw [e]; exact ⟨rfl, Or.inl (Int32.lt_iff_toInt_lt.mp h1)⟩
  · by_cases h2 : hi < t
    · right
      have e : own_allows t lo hi = 0 := (if_neg h1).trans (if_pos h2)
      rw [e]; exact ⟨rfl, Or.inr (Int32.lt_iff_toInt_lt.mp h2)⟩
    · left
      have e : own_allows t lo hi = 1 := (if_neg h1).trans (if_neg h2)
      have := mt Int32.lt_iff_toInt_lt.mpr h1
      have := mt Int32.lt_iff_toInt_lt.mpr h2
      rw [e]; exact ⟨rfl, by omega, by omega⟩
theorem pd_1 : parseMethodDescriptor "(II)I" = some ⟨[.int, .int], some .int⟩ := by decide +kernel
theorem pd_2 : parseMethodDescriptor "()V" = some ⟨[], none⟩ := by decide +kernel
theorem pd_3 : parseMethodDescriptor "(II)Lcom/example/mechelen/mechelen/group/GroupLimits;" = some ⟨[.int, .int], some (.object "com/example/mechelen/mechelen/group/GroupLimits")⟩ := by decide +kernel
theorem pd_4 : parseMethodDescriptor "(I)Z" = some ⟨[.int], some .boolean⟩ := by decide +kernel
def Q_rm0 (Z : State) (p0 : Int32) (p1 : Int32) (p2 : Int32) (p3 : Int32) (h0 : Heap) (n0 : Nat) (v : Option Value) (h : Heap) (L : List Loc) : Prop := v = some (.int 1) ∧ Fr n0 L
theorem pn_rm0 : plainName "com/example/mechelen/mechelen/group/GroupLimitsAllowsSessionTimeoutMsPinLaw" = true := by first | (simp [plainName, overriddenIn]; done) | decide +kernel
theorem ef_rm0 (m : MethodId) (x0 : Int32) (x1 : Int32) (x2 : Int32) (x3 : Int32) : entryFrame m #[(.int x0), (.int x1), (.int x2), (.int x3)] maxLocals = mkF m 0 #[.val (.int x0), .val (.int x1), .val (.int x2), .val (.int x3), .unset, .unset, .unset, .unset, .unset, .unset, .unset] [] := by first | (simp [entryFrame, mkF, argsToLocals, Value.category, maxLocals]; done) | rfl
set_option maxRecDepth 65536 in
set_option maxHeartbeats 40000000 in
theorem rm0 (l : Launch) (Z : State) (a0 : Array Value) (hw : ∀ d ∈ tables_1, d.before a0 Z = true) (ws : List Jvm.Cond) (p0 : Int32) (p1 : Int32) (p2 : Int32) (p3 : Int32) (h0 : Heap) (n0 : Nat) (Z0 : n0 ≤ h0.size) :
    MetFree l x (head1 (Jvm.Cond.code x code maxLocals ret :: ws) room_1) (fun a U => a = #[(.int p0), (.int p1), (.int p2), (.int p3)] ∧ Z.Warmed39 U.vm ∧ U.heap = h0) (fun _ _ _ _ _ => True) (fun _ U o U' => ∃ v L, o = .returned v ∧ (Q_rm0 Z p0 p1 p2 p3 h0 n0) v U'.heap L ∧ FrameEnd U o U' L room_1.cells room_1.slots) := by
  refine MetFree.of_bodySF (plainFor_of_name pn_rm0) hisR ?_
  intro p e s m args below meth c s₁ Bd hml0 hP hK
  obtain ⟨rfl, hZ, hh⟩ := hP
  have hx := Bd.exec
  have hby := Bd.bytes
  have hlk := BodyLoose.notSynchronized Bd
  have hret := Bd.returns
  have hml : c.maxLocals = 11 := hml0
  have hown : s.vm.findClass "com/example/mechelen/mechelen/group/GroupLimitsAllowsSessionTimeoutMsPinLaw" = some m.cls := findClass_of_methodNamed Bd.named
  have hnm := (name_of_methodNamed Bd.named Bd.method).1
  have X0 : Stand p l e room_1 s m #[(.int p0), (.int p1), (.int p2), (.int p3)] below meth c s₁ [] 0 0 := Stand.of_body Bd
  have e0 : s₁.heap = h0 := by rw [← hh, Bd.state]; rfl
  have Nf := Fr.nil n0
  have Zs := Z0
  have Kp : Keep h0 h0 [] := Keep.refl _ _
  show own_End p e below s (Q_rm0 Z p0 p1 p2 p3 h0 n0) room_1.cells room_1.slots (s₁.setTop (entryFrame m #[(.int p0), (.int p1), (.int p2), (.int p3)] maxLocals))
  refine own_go (x' := s₁.setTop (mkF m 0 #[.val (.int p0), .val (.int p1), .val (.int p2), .val (.int p3), .unset, .unset, .unset, .unset, .unset, .unset, .unset] [])) (fun t k => castTop (ef_rm0 m p0 p1 p2 p3) k) ?_
  refine own_go (x' := s₁.setTop (mkF m 2 #[.val (.int p0), .val (.int p1), .val (.int p2), .val (.int p3), .unset, .unset, .unset, .unset, .unset, .unset, .unset] [(.int p1), (.int p0)])) (fun _ k => XS.iloadN X0.here hx rfl (hb hby at_0) rfl (XS.iloadN X0.here hx rfl (hb hby at_1) rfl k)) ?_
  obtain ⟨_, _, ⟨T1, L1, k1, n1⟩, -, X1, ⟨Lc1, hQ1, l1, y1, z1⟩, st1⟩ := Jvm.LawKit.callS X0 hx (y := (⟨"java/lang/Math", "min", "(II)I"⟩ : MethodName)) hown (mvT hZ (own_w hw 0 rfl)) (mvT hZ (own_w hw 1 rfl)) (mvT hZ (own_w hw 2 rfl)) (mvT hZ (own_w hw 3 rfl)) (by decide) (backOf (W := 0) (rm1 l Z a0 hw [] p0 p1 h0 n0 Zs ) hZ (own_w hw 3 rfl) (own_w hw 2 rfl) (by decide) (by decide)) (g := (mkF m 2 #[.val (.int p0), .val (.int p1), .val (.int p2), .val (.int p3), .unset, .unset, .unset, .unset, .unset, .unset, .unset] [(.int p1), (.int p0)])) rfl (by rw [hml]; rfl) (argsL := [(.int p0), (.int p1)]) (rest := []) (lenOf pd_1 rfl) rfl (by show 2 * 0 + _ ≤ _; exact Nat.le_of_eq rfl) (hb hby at_2) (fun _ _ => ⟨rfl, e0, (by decide : 0 + 0 ≤ _), (by decide : 0 + 0 ≤ _)⟩)
  dsimp only [Pt.U, Pt.locs, Pt.cells, Pt.slots] at X1 l1 y1 z1 st1 hQ1
  subst l1 y1 z1
  obtain ⟨hv1, Nq1, eq1⟩ := hQ1
  subst hv1
  replace Nf := Fr.app Nf Nq1
  refine own_go (x' := T1.setTop (mkF m 5 #[.val (.int p0), .val (.int p1), .val (.int p2), .val (.int p3), .unset, .unset, .unset, .unset, .unset, .unset, .unset] [(.int (own_min p0 p1))])) st1 ?_
  refine own_go (x' := T1.setTop (mkF m 9 #[.val (.int p0), .val (.int p1), .val (.int p2), .val (.int p3), .val (.int (own_min p0 p1)), .unset, .unset, .unset, .unset, .unset, .unset] [(.int p1), (.int p0)])) (fun _ k => XS.istore X1.here hx rfl (hb hby at_5) rfl (l' := #[.val (.int p0), .val (.int p1), .val (.int p2), .val (.int p3), .val (.int (own_min p0 p1)), .unset, .unset, .unset, .unset, .unset, .unset]) rfl (XS.iloadN X1.here hx rfl (hb hby at_7) rfl (XS.iloadN X1.here hx rfl (hb hby at_8) rfl k))) ?_
  obtain ⟨_, _, ⟨T2, L2, k2, n2⟩, -, X2, ⟨Lc2, hQ2, l2, y2, z2⟩, st2⟩ := Jvm.LawKit.callS X1 hx (y := (⟨"java/lang/Math", "max", "(II)I"⟩ : MethodName)) hown (mvT hZ (own_w hw 4 rfl)) (mvT hZ (own_w hw 5 rfl)) (mvT hZ (own_w hw 2 rfl)) (mvT hZ (own_w hw 6 rfl)) (by decide) (backOf (W := 0) (rm2 l Z a0 hw [] p0 p1 h0 n0 Zs ) hZ (own_w hw 6 rfl) (own_w hw 2 rfl) (by decide) (by decide)) (g := (mkF m 9 #[.val (.int p0), .val (.int p1), .val (.int p2), .val (.int p3), .val (.int (own_min p0 p1)), .unset, .unset, .unset, .unset, .unset, .unset] [(.int p1), (.int p0)])) rfl (by rw [hml]; rfl) (argsL := [(.int p0), (.int p1)]) (rest := []) (lenOf pd_1 rfl) rfl (by show 2 * 0 + _ ≤ _; exact Nat.le_of_eq rfl) (hb hby at_9) (fun _ _ => ⟨rfl, eq1, (by decide : 0 + 0 ≤ _), (by decide : 0 + 0 ≤ _)⟩)
  dsimp only [Pt.U, Pt.locs, Pt.cells, Pt.slots] at X2 l2 y2 z2 st2 hQ2
  subst l2 y2 z2
  obtain ⟨hv2, Nq2, eq2⟩ := hQ2
  subst hv2
  replace Nf := Fr.app Nf Nq2
  refine own_go (x' := T2.setTop (mkF m 12 #[.val (.int p0), .val (.int p1), .val (.int p2), .val (.int p3), .val (.int (own_min p0 p1)), .unset, .unset, .unset, .unset, .unset, .unset] [(.int (own_max p0 p1))])) st2 ?_
  refine own_go (x' := T2.setTop (mkF m 22 #[.val (.int p0), .val (.int p1), .val (.int p2), .val (.int p3), .val (.int (own_min p0 p1)), .val (.int (own_max p0 p1)), .val (.int (p3 &&& (7 : Int32))), .unset, .unset, .unset, .unset] [(.int (p3 &&& (7 : Int32)))])) (fun _ k => XS.istore X2.here hx rfl (hb hby at_12) rfl (l' := #[.val (.int p0), .val (.int p1), .val (.int p2), .val (.int p3), .val (.int (own_min p0 p1)), .val (.int (own_max p0 p1)), .unset, .unset, .unset, .unset, .unset]) rfl (XS.iloadN X2.here hx rfl (hb hby at_14) rfl (XS.bipush X2.here hx rfl (hb hby at_15) (XS.iand X2.here hx rfl (hb hby at_17) rfl (XS.istore X2.here hx rfl (hb hby at_18) rfl (l' := #[.val (.int p0), .val (.int p1), .val (.int p2), .val (.int p3), .val (.int (own_min p0 p1)), .val (.int (own_max p0 p1)), .val (.int (p3 &&& (7 : Int32))), .unset, .unset, .unset, .unset]) rfl (XS.iload X2.here hx rfl (hb hby at_20) rfl k)))))) ?_
  have mg22_7 : ∀ t, Steps p.tables e below (T2.setTop (mkF m 78 #[.val (.int p0), .val (.int p1), .val (.int p2), .val (.int p3), .val (.int (own_min p0 p1)), .val (.int (own_max p0 p1)), .val (.int (p3 &&& (7 : Int32))), .val (.int (if (p3 &&& (7 : Int32)) = (0 : Int32) then (own_min p0 p1) else (if (p3 &&& (7 : Int32)) = (1 : Int32) then (own_max p0 p1) else (if (p3 &&& (7 : Int32)) = (2 : Int32) then ((own_min p0 p1) - (1 : Int32)) else (if (p3 &&& (7 : Int32)) = (3 : Int32) then ((own_max p0 p1) + (1 : Int32)) else p2))))), .unset, .unset, .unset] [])) t → Steps p.tables e below (T2.setTop (mkF m 22 #[.val (.int p0), .val (.int p1), .val (.int p2), .val (.int p3), .val (.int (own_min p0 p1)), .val (.int (own_max p0 p1)), .val (.int (p3 &&& (7 : Int32))), .unset, .unset, .unset, .unset] [(.int (p3 &&& (7 : Int32)))])) t := by
    intro t k
    by_cases hm22_3 : (p3 &&& (7 : Int32)) = (0 : Int32)
    · simp only [if_pos hm22_3] at k
      exact XS.ifNo X2.here hx rfl (hb hby at_22) rfl ((if0 _ _).trans (teq hm22_3).2) (XS.iload X2.here hx rfl (hb hby at_25) rfl (XS.istore X2.here hx rfl (hb hby at_27) rfl (l' := #[.val (.int p0), .val (.int p1), .val (.int p2), .val (.int p3), .val (.int (own_min p0 p1)), .val (.int (own_max p0 p1)), .val (.int (p3 &&& (7 : Int32))), .val (.int (own_min p0 p1)), .unset, .unset, .unset]) rfl (XS.goto X2.here hx rfl (pc0 := 29) (pc' := 78) rfl (hb hby at_29) (by decide) (by decide) k)))
    · by_cases hm35_4 : (p3 &&& (7 : Int32)) = (1 : Int32)
      · simp only [if_neg hm22_3, if_pos hm35_4] at k
        exact XS.ifYes X2.here hx rfl (pc0 := 22) (pc' := 32) rfl (hb hby at_22) rfl ((if0 _ _).trans (feq hm22_3).2) (by decide) (by decide) (XS.iload X2.here hx rfl (hb hby at_32) rfl (XS.iconst X2.here hx rfl (hb hby at_34) (XS.icmpNo X2.here hx rfl (hb hby at_35) rfl (teq hm35_4).2 (XS.iload X2.here hx rfl (hb hby at_38) rfl (XS.istore X2.here hx rfl (hb hby at_40) rfl (l' := #[.val (.int p0), .val (.int p1), .val (.int p2), .val (.int p3), .val (.int (own_min p0 p1)), .val (.int (own_max p0 p1)), .val (.int (p3 &&& (7 : Int32))), .val (.int (own_max p0 p1)), .unset, .unset, .unset]) rfl (XS.goto X2.here hx rfl (pc0 := 42) (pc' := 78) rfl (hb hby at_42) (by decide) (by decide) k))))))
      · by_cases hm48_5 : (p3 &&& (7 : Int32)) = (2 : Int32)
        · simp only [if_neg hm22_3, if_neg hm35_4, if_pos hm48_5] at k
          exact XS.ifYes X2.here hx rfl (pc0 := 22) (pc' := 32) rfl (hb hby at_22) rfl ((if0 _ _).trans (feq hm22_3).2) (by decide) (by decide) (XS.iload X2.here hx rfl (hb hby at_32) rfl (XS.iconst X2.here hx rfl (hb hby at_34) (XS.icmpYes X2.here hx rfl (pc0 := 35) (pc' := 45) rfl (hb hby at_35) rfl (feq hm35_4).2 (by decide) (by decide) (XS.iload X2.here hx rfl (hb hby at_45) rfl (XS.iconst X2.here hx rfl (hb hby at_47) (XS.icmpNo X2.here hx rfl (hb hby at_48) rfl (teq hm48_5).2 (XS.iload X2.here hx rfl (hb hby at_51) rfl (XS.iconst X2.here hx rfl (hb hby at_53) (XS.isub X2.here hx rfl (hb hby at_54) rfl (XS.istore X2.here hx rfl (hb hby at_55) rfl (l' := #[.val (.int p0), .val (.int p1), .val (.int p2), .val (.int p3), .val (.int (own_min p0 p1)), .val (.int (own_max p0 p1)), .val (.int (p3 &&& (7 : Int32))), .val (.int ((own_min p0 p1) - (1 : Int32))), .unset, .unset, .unset]) rfl (XS.goto X2.here hx rfl (pc0 := 57) (pc' := 78) rfl (hb hby at_57) (by decide) (by decide) k)))))))))))
        · by_cases hm63_6 : (p3 &&& (7 : Int32)) = (3 : Int32)
          · simp only [if_neg hm22_3, if_neg hm35_4, if_neg hm48_5, if_pos hm63_6] at k
            exact XS.ifYes X2.here hx rfl (pc0 := 22) (pc' := 32) rfl (hb hby at_22) rfl ((if0 _ _).trans (feq hm22_3).2) (by decide) (by decide) (XS.iload X2.here hx rfl (hb hby at_32) rfl (XS.iconst X2.here hx rfl (hb hby at_34) (XS.icmpYes X2.here hx rfl (pc0 := 35) (pc' := 45) rfl (hb hby at_35) rfl (feq hm35_4).2 (by decide) (by decide) (XS.iload X2.here hx rfl (hb hby at_45) rfl (XS.iconst X2.here hx rfl (hb hby at_47) (XS.icmpYes X2.here hx rfl (pc0 := 48) (pc' := 60) rfl (hb hby at_48) rfl (feq hm48_5).2 (by decide) (by decide) (XS.iload X2.here hx rfl (hb hby at_60) rfl (XS.iconst X2.here hx rfl (hb hby at_62) (XS.icmpNo X2.here hx rfl (hb hby at_63) rfl (teq hm63_6).2 (XS.iload X2.here hx rfl (hb hby at_66) rfl (XS.iconst X2.here hx rfl (hb hby at_68) (XS.iadd X2.here hx rfl (hb hby at_69) rfl (XS.istore X2.here hx rfl (hb hby at_70) rfl (l' := #[.val (.int p0), .val (.int p1), .val (.int p2), .val (.int p3), .val (.int (own_min p0 p1)), .val (.int (own_max p0 p1)), .val (.int (p3 &&& (7 : Int32))), .val (.int ((own_max p0 p1) + (1 : Int32))), .unset, .unset, .unset]) rfl (XS.goto X2.here hx rfl (pc0 := 72) (pc' := 78) rfl (hb hby at_72) (by decide) (by decide) k))))))))))))))
          · simp only [if_neg hm22_3, if_neg hm35_4, if_neg hm48_5, if_neg hm63_6] at k
            exact XS.ifYes X2.here hx rfl (pc0 := 22) (pc' := 32) rfl (hb hby at_22) rfl ((if0 _ _).trans (feq hm22_3).2) (by decide) (by decide) (XS.iload X2.here hx rfl (hb hby at_32) rfl (XS.iconst X2.here hx rfl (hb hby at_34) (XS.icmpYes X2.here hx rfl (pc0 := 35) (pc' := 45) rfl (hb hby at_35) rfl (feq hm35_4).2 (by decide) (by decide) (XS.iload X2.here hx rfl (hb hby at_45) rfl (XS.iconst X2.here hx rfl (hb hby at_47) (XS.icmpYes X2.here hx rfl (pc0 := 48) (pc' := 60) rfl (hb hby at_48) rfl (feq hm48_5).2 (by decide) (by decide) (XS.iload X2.here hx rfl (hb hby at_60) rfl (XS.iconst X2.here hx rfl (hb hby at_62) (XS.icmpYes X2.here hx rfl (pc0 := 63) (pc' := 75) rfl (hb hby at_63) rfl (feq hm63_6).2 (by decide) (by decide) (XS.iloadN X2.here hx rfl (hb hby at_75) rfl (XS.istore X2.here hx rfl (hb hby at_76) rfl (l' := #[.val (.int p0), .val (.int p1), .val (.int p2), .val (.int p3), .val (.int (own_min p0 p1)), .val (.int (own_max p0 p1)), .val (.int (p3 &&& (7 : Int32))), .val (.int p2), .unset, .unset, .unset]) rfl k)))))))))))
  refine own_go (x' := T2.setTop (mkF m 78 #[.val (.int p0), .val (.int p1), .val (.int p2), .val (.int p3), .val (.int (own_min p0 p1)), .val (.int (own_max p0 p1)), .val (.int (p3 &&& (7 : Int32))), .val (.int (if (p3 &&& (7 : Int32)) = (0 : Int32) then (own_min p0 p1) else (if (p3 &&& (7 : Int32)) = (1 : Int32) then (own_max p0 p1) else (if (p3 &&& (7 : Int32)) = (2 : Int32) then ((own_min p0 p1) - (1 : Int32)) else (if (p3 &&& (7 : Int32)) = (3 : Int32) then ((own_max p0 p1) + (1 : Int32)) else p2))))), .unset, .unset, .unset] [])) mg22_7 ?_
  generalize (if (p3 &&& (7 : Int32)) = (0 : Int32) then (own_min p0 p1) else (if (p3 &&& (7 : Int32)) = (1 : Int32) then (own_max p0 p1) else (if (p3 &&& (7 : Int32)) = (2 : Int32) then ((own_min p0 p1) - (1 : Int32)) else (if (p3 &&& (7 : Int32)) = (3 : Int32) then ((own_max p0 p1) + (1 : Int32)) else p2)))) = t7
  obtain ⟨T8, h8, X8, e8, E8, A8, D8, -, st8⟩ := newO X2 hx hZ hown (own_w hw 7 rfl) (own_w hw 8 rfl) (own_w hw 9 rfl) eq2 (g := (mkF m 78 #[.val (.int p0), .val (.int p1), .val (.int p2), .val (.int p3), .val (.int (own_min p0 p1)), .val (.int (own_max p0 p1)), .val (.int (p3 &&& (7 : Int32))), .val (.int t7), .unset, .unset, .unset] [])) rfl (hb hby at_78) (by decide) (by decide)
  obtain ⟨b8, g8⟩ : ∃ z, z = h0.size := ⟨_, rfl⟩
  rw [← g8] at A8 D8 st8
  have g_b8 : n0 ≤ b8 := Nat.le_trans Zs (Nat.le_of_eq g8.symm)
  replace Zs := Nat.le_trans Zs E8.1
  have E_b8 := A8
  have F_b8_minSessionTimeoutMs : Fld Z h8 b8 "com/example/mechelen/mechelen/group/GroupLimits" "minSessionTimeoutMs" "I" (.int (0 : Int32)) := D8 (Or.inr (own_w hw 23 rfl)) (ty := .int) (by decide)
  have F_b8_maxSessionTimeoutMs : Fld Z h8 b8 "com/example/mechelen/mechelen/group/GroupLimits" "maxSessionTimeoutMs" "I" (.int (0 : Int32)) := D8 (Or.inr (own_w hw 25 rfl)) (ty := .int) (by decide)
  have F_b8_membersMaxBytes : Fld Z h8 b8 "com/example/mechelen/mechelen/group/GroupLimits" "membersMaxBytes" "J" (.long (0 : Int64)) := D8 (Or.inr (own_w hw 27 rfl)) (ty := .long) (by decide)
  have F_b8_offsetsMaxBytes : Fld Z h8 b8 "com/example/mechelen/mechelen/group/GroupLimits" "offsetsMaxBytes" "J" (.long (0 : Int64)) := D8 (Or.inr (own_w hw 29 rfl)) (ty := .long) (by decide)
  have F_b8_offsetsRetentionMs : Fld Z h8 b8 "com/example/mechelen/mechelen/group/GroupLimits" "offsetsRetentionMs" "J" (.long (0 : Int64)) := D8 (Or.inr (own_w hw 31 rfl)) (ty := .long) (by decide)
  have F_b8_offsetsCheckIntervalMs : Fld Z h8 b8 "com/example/mechelen/mechelen/group/GroupLimits" "offsetsCheckIntervalMs" "J" (.long (0 : Int64)) := D8 (Or.inr (own_w hw 33 rfl)) (ty := .long) (by decide)
  refine own_go (x' := T8.setTop (mkF m 81 #[.val (.int p0), .val (.int p1), .val (.int p2), .val (.int p3), .val (.int (own_min p0 p1)), .val (.int (own_max p0 p1)), .val (.int (p3 &&& (7 : Int32))), .val (.int t7), .unset, .unset, .unset] [(.ref b8)])) st8 ?_
  refine own_go (x' := T8.setTop (mkF m 82 #[.val (.int p0), .val (.int p1), .val (.int p2), .val (.int p3), .val (.int (own_min p0 p1)), .val (.int (own_max p0 p1)), .val (.int (p3 &&& (7 : Int32))), .val (.int t7), .unset, .unset, .unset] [(.ref b8), (.ref b8)])) (fun _ k => XS.dup X8.here hx rfl (hb hby at_81) rfl rfl k) ?_
  obtain ⟨_, _, ⟨T9, L9, k9, n9⟩, -, X9, ⟨Lc9, hQ9, l9, y9, z9⟩, st9⟩ := X8.specialBack hx (y := (⟨"com/example/mechelen/mechelen/group/GroupLimits", "<init>", "()V"⟩ : MethodName)) rfl hown (mvT hZ (own_w hw 10 rfl)) (mvT hZ (own_w hw 11 rfl)) (mvT hZ (own_w hw 12 rfl)) (by decide) (backOf (W := 1) (rm3 l Z a0 hw [] b8 h8 n0 Zs E_b8 F_b8_minSessionTimeoutMs F_b8_maxSessionTimeoutMs F_b8_membersMaxBytes F_b8_offsetsMaxBytes F_b8_offsetsRetentionMs F_b8_offsetsCheckIntervalMs g_b8) hZ (own_w hw 12 rfl) (own_w hw 9 rfl) (by decide) (by decide)) (g := (mkF m 82 #[.val (.int p0), .val (.int p1), .val (.int p2), .val (.int p3), .val (.int (own_min p0 p1)), .val (.int (own_max p0 p1)), .val (.int (p3 &&& (7 : Int32))), .val (.int t7), .unset, .unset, .unset] [(.ref b8), (.ref b8)])) rfl (by rw [hml]; rfl) (Steps.refl _) (a := b8) (argsL := []) (rest := [(.ref b8)]) (lenOf pd_2 rfl) rfl (by show 2 * 0 + _ ≤ _; exact Nat.le_of_eq rfl) (hb hby at_82) (fun _ _ => ⟨rfl, e8, (by decide : 1 + 0 ≤ _), (by decide : 6 + 0 ≤ _)⟩)
  dsimp only [Pt.U, Pt.locs, Pt.cells, Pt.slots] at X9 l9 y9 z9 st9 hQ9
  subst l9 y9 z9
  obtain ⟨hv9, Nq9, K9, Eo9, Fo9_0, Fo9_1, Fo9_2, Fo9_3, Fo9_4, Fo9_5⟩ := hQ9
  subst hv9
  replace Nf := Fr.app Nf Nq9
  replace Zs := Nat.le_trans Zs K9.1
  replace E_b8 := Eo9
  replace F_b8_minSessionTimeoutMs := Fo9_0
  replace F_b8_maxSessionTimeoutMs := Fo9_1
  replace F_b8_membersMaxBytes := Fo9_2
  replace F_b8_offsetsMaxBytes := Fo9_3
  replace F_b8_offsetsRetentionMs := Fo9_4
  replace F_b8_offsetsCheckIntervalMs := Fo9_5
  refine own_go (x' := T9.setTop (mkF m 85 #[.val (.int p0), .val (.int p1), .val (.int p2), .val (.int p3), .val (.int (own_min p0 p1)), .val (.int (own_max p0 p1)), .val (.int (p3 &&& (7 : Int32))), .val (.int t7), .unset, .unset, .unset] [(.ref b8)])) (fun _ k => st9.trans k) ?_
  refine own_go (x' := T9.setTop (mkF m 93 #[.val (.int p0), .val (.int p1), .val (.int p2), .val (.int p3), .val (.int (own_min p0 p1)), .val (.int (own_max p0 p1)), .val (.int (p3 &&& (7 : Int32))), .val (.int t7), .val (.ref b8), .unset, .unset] [(.int (own_max p0 p1)), (.int (own_min p0 p1)), (.ref b8)])) (fun _ k => XS.astore X9.here hx rfl (hb hby at_85) rfl rfl (l' := #[.val (.int p0), .val (.int p1), .val (.int p2), .val (.int p3), .val (.int (own_min p0 p1)), .val (.int (own_max p0 p1)), .val (.int (p3 &&& (7 : Int32))), .val (.int t7), .val (.ref b8), .unset, .unset]) rfl (XS.aload X9.here hx rfl (hb hby at_87) rfl rfl (XS.iload X9.here hx rfl (hb hby at_89) rfl (XS.iload X9.here hx rfl (hb hby at_91) rfl k)))) ?_
  obtain ⟨cq10, kq10, q10a, q10b, q10c⟩ := isOf hZ rfl E_b8
  obtain ⟨_, _, ⟨T10, L10, k10, n10⟩, -, X10, ⟨Lc10, hQ10, l10, y10, z10⟩, st10⟩ := X9.virtualBack hx (y := (⟨"com/example/mechelen/mechelen/group/GroupLimits", "withSessionTimeoutMs", "(II)Lcom/example/mechelen/mechelen/group/GroupLimits;"⟩ : MethodName)) (z := (⟨"com/example/mechelen/mechelen/group/GroupLimits", "withSessionTimeoutMs", "(II)Lcom/example/mechelen/mechelen/group/GroupLimits;"⟩ : MethodName)) hown (mvT hZ (own_w hw 34 rfl)) (mvT hZ (own_w hw 35 rfl)) (notFace_of_selects (args := #[]) (mvT hZ (own_w hw 37 rfl))) (mvT hZ (own_w hw 37 rfl)) (mvT hZ (own_w hw 36 rfl)) (by decide) (backOf (W := 0) (rm6 l Z a0 hw [] b8 (own_min p0 p1) (own_max p0 p1) (9223372036854775807 : Int64) (9223372036854775807 : Int64) (9223372036854775807 : Int64) (9223372036854775807 : Int64) T9.heap n0 Zs F_b8_membersMaxBytes F_b8_offsetsMaxBytes F_b8_offsetsRetentionMs F_b8_offsetsCheckIntervalMs) hZ (own_w hw 38 rfl) (own_w hw 9 rfl) (by decide) (by decide)) q10a q10c (g := (mkF m 93 #[.val (.int p0), .val (.int p1), .val (.int p2), .val (.int p3), .val (.int (own_min p0 p1)), .val (.int (own_max p0 p1)), .val (.int (p3 &&& (7 : Int32))), .val (.int t7), .val (.ref b8), .unset, .unset] [(.int (own_max p0 p1)), (.int (own_min p0 p1)), (.ref b8)])) rfl (by rw [hml]; rfl) (Steps.refl _) (argsL := [(.int (own_min p0 p1)), (.int (own_max p0 p1))]) (rest := []) (lenOf pd_3 rfl) rfl (by show 2 * 0 + _ ≤ _; exact Nat.le_of_eq rfl) (hb hby at_93) (fun _ _ => ⟨rfl, rfl, (by decide : 1 + 1 ≤ _), (by decide : 6 + 6 ≤ _)⟩)
  dsimp only [Pt.U, Pt.locs, Pt.cells, Pt.slots] at X10 l10 y10 z10 st10 hQ10
  subst l10 y10 z10
  obtain ⟨b10, hv10, Nq10, K10, sq10, g_b10, E_b10, F_b10_minSessionTimeoutMs, F_b10_maxSessionTimeoutMs, F_b10_membersMaxBytes, F_b10_offsetsMaxBytes, F_b10_offsetsRetentionMs, F_b10_offsetsCheckIntervalMs⟩ := hQ10
  subst hv10
  replace Nf := Fr.app Nf Nq10
  have ne_b8_b10 : b8 ≠ b10 := Nat.ne_of_lt (Nat.lt_of_lt_of_le E_b8.lt sq10)
  replace E_b8 := E_b8.keep K10
  replace F_b8_minSessionTimeoutMs := F_b8_minSessionTimeoutMs.keep K10 nin0
  replace F_b8_maxSessionTimeoutMs := F_b8_maxSessionTimeoutMs.keep K10 nin0
  replace F_b8_membersMaxBytes := F_b8_membersMaxBytes.keep K10 nin0
  replace F_b8_offsetsMaxBytes := F_b8_offsetsMaxBytes.keep K10 nin0
  replace F_b8_offsetsRetentionMs := F_b8_offsetsRetentionMs.keep K10 nin0
  replace F_b8_offsetsCheckIntervalMs := F_b8_offsetsCheckIntervalMs.keep K10 nin0
  replace Zs := Nat.le_trans Zs K10.1
  refine own_go (x' := T10.setTop (mkF m 96 #[.val (.int p0), .val (.int p1), .val (.int p2), .val (.int p3), .val (.int (own_min p0 p1)), .val (.int (own_max p0 p1)), .val (.int (p3 &&& (7 : Int32))), .val (.int t7), .val (.ref b8), .unset, .unset] [(.ref b10)])) (fun _ k => st10.trans k) ?_
  refine own_go (x' := T10.setTop (mkF m 105 #[.val (.int p0), .val (.int p1), .val (.int p2), .val (.int p3), .val (.int (own_min p0 p1)), .val (.int (own_max p0 p1)), .val (.int (p3 &&& (7 : Int32))), .val (.int t7), .val (.ref b8), .val (.ref b10), .unset] [(.long ((t7.toInt64) - ((own_min p0 p1).toInt64)))])) (fun _ k => XS.astore X10.here hx rfl (hb hby at_96) rfl rfl (l' := #[.val (.int p0), .val (.int p1), .val (.int p2), .val (.int p3), .val (.int (own_min p0 p1)), .val (.int (own_max p0 p1)), .val (.int (p3 &&& (7 : Int32))), .val (.int t7), .val (.ref b8), .val (.ref b10), .unset]) rfl (XS.iload X10.here hx rfl (hb hby at_98) rfl (XS.i2l X10.here hx rfl (hb hby at_100) rfl (XS.iload X10.here hx rfl (hb hby at_101) rfl (XS.i2l X10.here hx rfl (hb hby at_103) rfl (XS.lsub X10.here hx rfl (hb hby at_104) rfl k)))))) ?_
  refine own_go (x' := T10.setTop (mkF m 107 #[.val (.int p0), .val (.int p1), .val (.int p2), .val (.int p3), .val (.int (own_min p0 p1)), .val (.int (own_max p0 p1)), .val (.int (p3 &&& (7 : Int32))), .val (.int t7), .val (.ref b8), .val (.ref b10), .unset] [(.int (lcmpW ((t7.toInt64) - ((own_min p0 p1).toInt64)) (0 : Int64)))])) (fun _ k => XS.lconst X10.here hx rfl (hb hby at_105) (XS.lcmp X10.here hx rfl (hb hby at_106) rfl k)) ?_
  by_cases hc107 : ((t7.toInt64) - ((own_min p0 p1).toInt64)) < (0 : Int64)
  · refine own_go (x' := T10.setTop (mkF m 133 #[.val (.int p0), .val (.int p1), .val (.int p2), .val (.int p3), .val (.int (own_min p0 p1)), .val (.int (own_max p0 p1)), .val (.int (p3 &&& (7 : Int32))), .val (.int t7), .val (.ref b8), .val (.ref b10), .val (.int (0 : Int32))] [(.int t7), (.ref b8)])) (fun _ k => XS.ifYes X10.here hx rfl (pc0 := 107) (pc' := 126) rfl (hb hby at_107) rfl ((if0 _ _).trans (tlt ((lw_lt ((t7.toInt64) - ((own_min p0 p1).toInt64)) (0 : Int64)).mpr hc107)).1) (by decide) (by decide) (XS.iconst X10.here hx rfl (hb hby at_126) (XS.istore X10.here hx rfl (hb hby at_127) rfl (l' := #[.val (.int p0), .val (.int p1), .val (.int p2), .val (.int p3), .val (.int (own_min p0 p1)), .val (.int (own_max p0 p1)), .val (.int (p3 &&& (7 : Int32))), .val (.int t7), .val (.ref b8), .val (.ref b10), .val (.int (0 : Int32))]) rfl (XS.aload X10.here hx rfl (hb hby at_129) rfl rfl (XS.iload X10.here hx rfl (hb hby at_131) rfl k))))) ?_
    obtain ⟨cq11, kq11, q11a, q11b, q11c⟩ := isOf hZ rfl E_b8
    obtain ⟨_, _, ⟨T11, L11, k11, n11⟩, -, X11, ⟨Lc11, hQ11, l11, y11, z11⟩, st11⟩ := X10.virtualBack hx (y := (⟨"com/example/mechelen/mechelen/group/GroupLimits", "allowsSessionTimeoutMs", "(I)Z"⟩ : MethodName)) (z := (⟨"com/example/mechelen/mechelen/group/GroupLimits", "allowsSessionTimeoutMs", "(I)Z"⟩ : MethodName)) hown (mvT hZ (own_w hw 40 rfl)) (mvT hZ (own_w hw 41 rfl)) (notFace_of_selects (args := #[]) (mvT hZ (own_w hw 43 rfl))) (mvT hZ (own_w hw 43 rfl)) (mvT hZ (own_w hw 42 rfl)) (by decide) (backOf (W := 0) (rm7 l Z a0 hw [] b8 t7 (-2147483648 : Int32) (2147483647 : Int32) T10.heap n0 Zs F_b8_minSessionTimeoutMs F_b8_maxSessionTimeoutMs) hZ (own_w hw 44 rfl) (own_w hw 9 rfl) (by decide) (by decide)) q11a q11c (g := (mkF m 133 #[.val (.int p0), .val (.int p1), .val (.int p2), .val (.int p3), .val (.int (own_min p0 p1)), .val (.int (own_max p0 p1)), .val (.int (p3 &&& (7 : Int32))), .val (.int t7), .val (.ref b8), .val (.ref b10), .val (.int (0 : Int32))] [(.int t7), (.ref b8)])) rfl (by rw [hml]; rfl) (Steps.refl _) (argsL := [(.int t7)]) (rest := []) (lenOf pd_4 rfl) rfl (by show 2 * 0 + _ ≤ _; exact Nat.le_of_eq rfl) (hb hby at_133) (fun _ _ => ⟨rfl, rfl, (by decide : 2 + 0 ≤ _), (by decide : 12 + 0 ≤ _)⟩)
    dsimp only [Pt.U, Pt.locs, Pt.cells, Pt.slots] at X11 l11 y11 z11 st11 hQ11
    subst l11 y11 z11
    obtain ⟨hv11, Nq11, eq11⟩ := hQ11
    subst hv11
    replace Nf := Fr.app Nf Nq11
    refine own_go (x' := T11.setTop (mkF m 136 #[.val (.int p0), .val (.int p1), .val (.int p2), .val (.int p3), .val (.int (own_min p0 p1)), .val (.int (own_max p0 p1)), .val (.int (p3 &&& (7 : Int32))), .val (.int t7), .val (.ref b8), .val (.ref b10), .val (.int (0 : Int32))] [(.int (own_allows t7 (-2147483648 : Int32) (2147483647 : Int32)))])) (fun _ k => st11.trans k) ?_
    by_cases hc136 : (own_allows t7 (-2147483648 : Int32) (2147483647 : Int32)) = (0 : Int32)
    · refine own_go (x' := T11.setTop (mkF m 156 #[.val (.int p0), .val (.int p1), .val (.int p2), .val (.int p3), .val (.int (own_min p0 p1)), .val (.int (own_max p0 p1)), .val (.int (p3 &&& (7 : Int32))), .val (.int t7), .val (.ref b8), .val (.ref b10), .val (.int (0 : Int32))] [(.int (0 : Int32))])) (fun _ k => XS.ifYes X11.here hx rfl (pc0 := 136) (pc' := 155) rfl (hb hby at_136) rfl ((if0 _ _).trans (teq hc136).1) (by decide) (by decide) (XS.iconst X11.here hx rfl (hb hby at_155) k)) ?_
      refine own_retN X11 hx hlk (t := .boolean) hret (by simp) (hb hby at_156) (w := (0 : Int32)) rfl ?_ (by decide) (by decide)
      rw [eq11]
      exfalso
      have t_hc107 := Int64.lt_iff_toInt_lt.mp hc107
      have t_hc136 := congrArg Int32.toInt hc136
      have l32_m2147483648 : (-2147483648 : Int32).toInt = -2147483648 := by decide
      have l32_0 : (0 : Int32).toInt = 0 := by decide
      have l64_0 : (0 : Int64).toInt = 0 := by decide
      have l32_2147483647 : (2147483647 : Int32).toInt = 2147483647 := by decide
      have ha1 := own_al t7 (-2147483648 : Int32) (2147483647 : Int32)
      have ha2 := own_al t7 (own_min p0 p1) (own_max p0 p1)
      have r1 := rng32 t7
      have r2 := rng32 (own_min p0 p1)
      have r3 := rng32 (own_max p0 p1)
      have s1 := c_lsub t7.toInt64 (own_min p0 p1).toInt64
      have s2 := c_lsub (own_max p0 p1).toInt64 t7.toInt64
      have q1 := c_i2l t7
      have q2 := c_i2l (own_min p0 p1)
      have q3 := c_i2l (own_max p0 p1)
      have v1 := rng64 (t7.toInt64 - (own_min p0 p1).toInt64)
      have v2 := rng64 ((own_max p0 p1).toInt64 - t7.toInt64)
      omega
    · refine own_go (x' := T11.setTop (mkF m 143 #[.val (.int p0), .val (.int p1), .val (.int p2), .val (.int p3), .val (.int (own_min p0 p1)), .val (.int (own_max p0 p1)), .val (.int (p3 &&& (7 : Int32))), .val (.int t7), .val (.ref b8), .val (.ref b10), .val (.int (0 : Int32))] [(.int t7), (.ref b10)])) (fun _ k => XS.ifNo X11.here hx rfl (hb hby at_136) rfl ((if0 _ _).trans (feq hc136).1) (XS.aload X11.here hx rfl (hb hby at_139) rfl rfl (XS.iload X11.here hx rfl (hb hby at_141) rfl k))) ?_
      obtain ⟨cq12, kq12, q12a, q12b, q12c⟩ := isOf hZ eq11 E_b10
      obtain ⟨_, _, ⟨T12, L12, k12, n12⟩, -, X12, ⟨Lc12, hQ12, l12, y12, z12⟩, st12⟩ := X11.virtualBack hx (y := (⟨"com/example/mechelen/mechelen/group/GroupLimits", "allowsSessionTimeoutMs", "(I)Z"⟩ : MethodName)) (z := (⟨"com/example/mechelen/mechelen/group/GroupLimits", "allowsSessionTimeoutMs", "(I)Z"⟩ : MethodName)) hown (mvT hZ (own_w hw 40 rfl)) (mvT hZ (own_w hw 41 rfl)) (notFace_of_selects (args := #[]) (mvT hZ (own_w hw 43 rfl))) (mvT hZ (own_w hw 43 rfl)) (mvT hZ (own_w hw 42 rfl)) (by decide) (backOf (W := 0) (rm7 l Z a0 hw [] b10 t7 (own_min p0 p1) (own_max p0 p1) T10.heap n0 Zs F_b10_minSessionTimeoutMs F_b10_maxSessionTimeoutMs) hZ (own_w hw 44 rfl) (own_w hw 9 rfl) (by decide) (by decide)) q12a q12c (g := (mkF m 143 #[.val (.int p0), .val (.int p1), .val (.int p2), .val (.int p3), .val (.int (own_min p0 p1)), .val (.int (own_max p0 p1)), .val (.int (p3 &&& (7 : Int32))), .val (.int t7), .val (.ref b8), .val (.ref b10), .val (.int (0 : Int32))] [(.int t7), (.ref b10)])) rfl (by rw [hml]; rfl) (Steps.refl _) (argsL := [(.int t7)]) (rest := []) (lenOf pd_4 rfl) rfl (by show 2 * 0 + _ ≤ _; exact Nat.le_of_eq rfl) (hb hby at_143) (fun _ _ => ⟨rfl, eq11, (by decide : 2 + 0 ≤ _), (by decide : 12 + 0 ≤ _)⟩)
      dsimp only [Pt.U, Pt.locs, Pt.cells, Pt.slots] at X12 l12 y12 z12 st12 hQ12
      subst l12 y12 z12
      obtain ⟨hv12, Nq12, eq12⟩ := hQ12
      subst hv12
      replace Nf := Fr.app Nf Nq12
      refine own_go (x' := T12.setTop (mkF m 146 #[.val (.int p0), .val (.int p1), .val (.int p2), .val (.int p3), .val (.int (own_min p0 p1)), .val (.int (own_max p0 p1)), .val (.int (p3 &&& (7 : Int32))), .val (.int t7), .val (.ref b8), .val (.ref b10), .val (.int (0 : Int32))] [(.int (own_allows t7 (own_min p0 p1) (own_max p0 p1)))])) (fun _ k => st12.trans k) ?_
      refine own_go (x' := T12.setTop (mkF m 148 #[.val (.int p0), .val (.int p1), .val (.int p2), .val (.int p3), .val (.int (own_min p0 p1)), .val (.int (own_max p0 p1)), .val (.int (p3 &&& (7 : Int32))), .val (.int t7), .val (.ref b8), .val (.ref b10), .val (.int (0 : Int32))] [(.int (0 : Int32)), (.int (own_allows t7 (own_min p0 p1) (own_max p0 p1)))])) (fun _ k => XS.iload X12.here hx rfl (hb hby at_146) rfl k) ?_
      by_cases hc148 : (own_allows t7 (own_min p0 p1) (own_max p0 p1)) = (0 : Int32)
      · refine own_go (x' := T12.setTop (mkF m 156 #[.val (.int p0), .val (.int p1), .val (.int p2), .val (.int p3), .val (.int (own_min p0 p1)), .val (.int (own_max p0 p1)), .val (.int (p3 &&& (7 : Int32))), .val (.int t7), .val (.ref b8), .val (.ref b10), .val (.int (0 : Int32))] [(.int (1 : Int32))])) (fun _ k => XS.icmpNo X12.here hx rfl (hb hby at_148) rfl (teq hc148).2 (XS.iconst X12.here hx rfl (hb hby at_151) (XS.goto X12.here hx rfl (pc0 := 152) (pc' := 156) rfl (hb hby at_152) (by decide) (by decide) k))) ?_
        refine own_retN X12 hx hlk (t := .boolean) hret (by simp) (hb hby at_156) (w := (1 : Int32)) rfl ?_ (by decide) (by decide)
        rw [eq12]
        exact ⟨rfl, Nf⟩
      · refine own_go (x' := T12.setTop (mkF m 156 #[.val (.int p0), .val (.int p1), .val (.int p2), .val (.int p3), .val (.int (own_min p0 p1)), .val (.int (own_max p0 p1)), .val (.int (p3 &&& (7 : Int32))), .val (.int t7), .val (.ref b8), .val (.ref b10), .val (.int (0 : Int32))] [(.int (0 : Int32))])) (fun _ k => XS.icmpYes X12.here hx rfl (pc0 := 148) (pc' := 155) rfl (hb hby at_148) rfl (feq hc148).2 (by decide) (by decide) (XS.iconst X12.here hx rfl (hb hby at_155) k)) ?_
        refine own_retN X12 hx hlk (t := .boolean) hret (by simp) (hb hby at_156) (w := (0 : Int32)) rfl ?_ (by decide) (by decide)
        rw [eq12]
        exfalso
        have t_hc107 := Int64.lt_iff_toInt_lt.mp hc107
        have t_hc136 := mt Int32.toInt_inj.mp hc136
        have t_hc148 := mt Int32.toInt_inj.mp hc148
        have l32_m2147483648 : (-2147483648 : Int32).toInt = -2147483648 := by decide
        have l32_0 : (0 : Int32).toInt = 0 := by decide
        have l64_0 : (0 : Int64).toInt = 0 := by decide
        have l32_2147483647 : (2147483647 : Int32).toInt = 2147483647 := by decide
        have ha1 := own_al t7 (-2147483648 : Int32) (2147483647 : Int32)
        have ha2 := own_al t7 (own_min p0 p1) (own_max p0 p1)
        have r1 := rng32 t7
        have r2 := rng32 (own_min p0 p1)
        have r3 := rng32 (own_max p0 p1)
        have s1 := c_lsub t7.toInt64 (own_min p0 p1).toInt64
        have s2 := c_lsub (own_max p0 p1).toInt64 t7.toInt64
        have q1 := c_i2l t7
        have q2 := c_i2l (own_min p0 p1)
        have q3 := c_i2l (own_max p0 p1)
        have v1 := rng64 (t7.toInt64 - (own_min p0 p1).toInt64)
        have v2 := rng64 ((own_max p0 p1).toInt64 - t7.toInt64)
        omega
  · refine own_go (x' := T10.setTop (mkF m 117 #[.val (.int p0), .val (.int p1), .val (.int p2), .val (.int p3), .val (.int (own_min p0 p1)), .val (.int (own_max p0 p1)), .val (.int (p3 &&& (7 : Int32))), .val (.int t7), .val (.ref b8), .val (.ref b10), .unset] [(.long (((own_max p0 p1).toInt64) - (t7.toInt64)))])) (fun _ k => XS.ifNo X10.here hx rfl (hb hby at_107) rfl ((if0 _ _).trans (flt (fun q_ => hc107 ((lw_lt ((t7.toInt64) - ((own_min p0 p1).toInt64)) (0 : Int64)).mp q_))).1) (XS.iload X10.here hx rfl (hb hby at_110) rfl (XS.i2l X10.here hx rfl (hb hby at_112) rfl (XS.iload X10.here hx rfl (hb hby at_113) rfl (XS.i2l X10.here hx rfl (hb hby at_115) rfl (XS.lsub X10.here hx rfl (hb hby at_116) rfl k)))))) ?_
    refine own_go (x' := T10.setTop (mkF m 119 #[.val (.int p0), .val (.int p1), .val (.int p2), .val (.int p3), .val (.int (own_min p0 p1)), .val (.int (own_max p0 p1)), .val (.int (p3 &&& (7 : Int32))), .val (.int t7), .val (.ref b8), .val (.ref b10), .unset] [(.int (lcmpW (((own_max p0 p1).toInt64) - (t7.toInt64)) (0 : Int64)))])) (fun _ k => XS.lconst X10.here hx rfl (hb hby at_117) (XS.lcmp X10.here hx rfl (hb hby at_118) rfl k)) ?_
    by_cases hc119 : (((own_max p0 p1).toInt64) - (t7.toInt64)) < (0 : Int64)
    · refine own_go (x' := T10.setTop (mkF m 133 #[.val (.int p0), .val (.int p1), .val (.int p2), .val (.int p3), .val (.int (own_min p0 p1)), .val (.int (own_max p0 p1)), .val (.int (p3 &&& (7 : Int32))), .val (.int t7), .val (.ref b8), .val (.ref b10), .val (.int (0 : Int32))] [(.int t7), (.ref b8)])) (fun _ k => XS.ifYes X10.here hx rfl (pc0 := 119) (pc' := 126) rfl (hb hby at_119) rfl ((if0 _ _).trans (tlt ((lw_lt (((own_max p0 p1).toInt64) - (t7.toInt64)) (0 : Int64)).mpr hc119)).1) (by decide) (by decide) (XS.iconst X10.here hx rfl (hb hby at_126) (XS.istore X10.here hx rfl (hb hby at_127) rfl (l' := #[.val (.int p0), .val (.int p1), .val (.int p2), .val (.int p3), .val (.int (own_min p0 p1)), .val (.int (own_max p0 p1)), .val (.int (p3 &&& (7 : Int32))), .val (.int t7), .val (.ref b8), .val (.ref b10), .val (.int (0 : Int32))]) rfl (XS.aload X10.here hx rfl (hb hby at_129) rfl rfl (XS.iload X10.here hx rfl (hb hby at_131) rfl k))))) ?_
      obtain ⟨cq13, kq13, q13a, q13b, q13c⟩ := isOf hZ rfl E_b8
      obtain ⟨_, _, ⟨T13, L13, k13, n13⟩, -, X13, ⟨Lc13, hQ13, l13, y13, z13⟩, st13⟩ := X10.virtualBack hx (y := (⟨"com/example/mechelen/mechelen/group/GroupLimits", "allowsSessionTimeoutMs", "(I)Z"⟩ : MethodName)) (z := (⟨"com/example/mechelen/mechelen/group/GroupLimits", "allowsSessionTimeoutMs", "(I)Z"⟩ : MethodName)) hown (mvT hZ (own_w hw 40 rfl)) (mvT hZ (own_w hw 41 rfl)) (notFace_of_selects (args := #[]) (mvT hZ (own_w hw 43 rfl))) (mvT hZ (own_w hw 43 rfl)) (mvT hZ (own_w hw 42 rfl)) (by decide) (backOf (W := 0) (rm7 l Z a0 hw [] b8 t7 (-2147483648 : Int32) (2147483647 : Int32) T10.heap n0 Zs F_b8_minSessionTimeoutMs F_b8_maxSessionTimeoutMs) hZ (own_w hw 44 rfl) (own_w hw 9 rfl) (by decide) (by decide)) q13a q13c (g := (mkF m 133 #[.val (.int p0), .val (.int p1), .val (.int p2), .val (.int p3), .val (.int (own_min p0 p1)), .val (.int (own_max p0 p1)), .val (.int (p3 &&& (7 : Int32))), .val (.int t7), .val (.ref b8), .val (.ref b10), .val (.int (0 : Int32))] [(.int t7), (.ref b8)])) rfl (by rw [hml]; rfl) (Steps.refl _) (argsL := [(.int t7)]) (rest := []) (lenOf pd_4 rfl) rfl (by show 2 * 0 + _ ≤ _; exact Nat.le_of_eq rfl) (hb hby at_133) (fun _ _ => ⟨rfl, rfl, (by decide : 2 + 0 ≤ _), (by decide : 12 + 0 ≤ _)⟩)
      dsimp only [Pt.U, Pt.locs, Pt.cells, Pt.slots] at X13 l13 y13 z13 st13 hQ13
      subst l13 y13 z13
      obtain ⟨hv13, Nq13, eq13⟩ := hQ13
      subst hv13
      replace Nf := Fr.app Nf Nq13
      refine own_go (x' := T13.setTop (mkF m 136 #[.val (.int p0), .val (.int p1), .val (.int p2), .val (.int p3), .val (.int (own_min p0 p1)), .val (.int (own_max p0 p1)), .val (.int (p3 &&& (7 : Int32))), .val (.int t7), .val (.ref b8), .val (.ref b10), .val (.int (0 : Int32))] [(.int (own_allows t7 (-2147483648 : Int32) (2147483647 : Int32)))])) (fun _ k => st13.trans k) ?_
      by_cases hc136 : (own_allows t7 (-2147483648 : Int32) (2147483647 : Int32)) = (0 : Int32)
      · refine own_go (x' := T13.setTop (mkF m 156 #[.val (.int p0), .val (.int p1), .val (.int p2), .val (.int p3), .val (.int (own_min p0 p1)), .val (.int (own_max p0 p1)), .val (.int (p3 &&& (7 : Int32))), .val (.int t7), .val (.ref b8), .val (.ref b10), .val (.int (0 : Int32))] [(.int (0 : Int32))])) (fun _ k => XS.ifYes X13.here hx rfl (pc0 := 136) (pc' := 155) rfl (hb hby at_136) rfl ((if0 _ _).trans (teq hc136).1) (by decide) (by decide) (XS.iconst X13.here hx rfl (hb hby at_155) k)) ?_
        refine own_retN X13 hx hlk (t := .boolean) hret (by simp) (hb hby at_156) (w := (0 : Int32)) rfl ?_ (by decide) (by decide)
        rw [eq13]
        exfalso
        have t_hc107 := mt Int64.lt_iff_toInt_lt.mpr hc107
        have t_hc119 := Int64.lt_iff_toInt_lt.mp hc119
        have t_hc136 := congrArg Int32.toInt hc136
        have l32_m2147483648 : (-2147483648 : Int32).toInt = -2147483648 := by decide
        have l32_0 : (0 : Int32).toInt = 0 := by decide
        have l64_0 : (0 : Int64).toInt = 0 := by decide
        have l32_2147483647 : (2147483647 : Int32).toInt = 2147483647 := by decide
        have ha1 := own_al t7 (-2147483648 : Int32) (2147483647 : Int32)
        have ha2 := own_al t7 (own_min p0 p1) (own_max p0 p1)
        have r1 := rng32 t7
        have r2 := rng32 (own_min p0 p1)
        have r3 := rng32 (own_max p0 p1)
        have s1 := c_lsub t7.toInt64 (own_min p0 p1).toInt64
        have s2 := c_lsub (own_max p0 p1).toInt64 t7.toInt64
        have q1 := c_i2l t7
        have q2 := c_i2l (own_min p0 p1)
        have q3 := c_i2l (own_max p0 p1)
        have v1 := rng64 (t7.toInt64 - (own_min p0 p1).toInt64)
        have v2 := rng64 ((own_max p0 p1).toInt64 - t7.toInt64)
        omega
      · refine own_go (x' := T13.setTop (mkF m 143 #[.val (.int p0), .val (.int p1), .val (.int p2), .val (.int p3), .val (.int (own_min p0 p1)), .val (.int (own_max p0 p1)), .val (.int (p3 &&& (7 : Int32))), .val (.int t7), .val (.ref b8), .val (.ref b10), .val (.int (0 : Int32))] [(.int t7), (.ref b10)])) (fun _ k => XS.ifNo X13.here hx rfl (hb hby at_136) rfl ((if0 _ _).trans (feq hc136).1) (XS.aload X13.here hx rfl (hb hby at_139) rfl rfl (XS.iload X13.here hx rfl (hb hby at_141) rfl k))) ?_
        obtain ⟨cq14, kq14, q14a, q14b, q14c⟩ := isOf hZ eq13 E_b10
        obtain ⟨_, _, ⟨T14, L14, k14, n14⟩, -, X14, ⟨Lc14, hQ14, l14, y14, z14⟩, st14⟩ := X13.virtualBack hx (y := (⟨"com/example/mechelen/mechelen/group/GroupLimits", "allowsSessionTimeoutMs", "(I)Z"⟩ : MethodName)) (z := (⟨"com/example/mechelen/mechelen/group/GroupLimits", "allowsSessionTimeoutMs", "(I)Z"⟩ : MethodName)) hown (mvT hZ (own_w hw 40 rfl)) (mvT hZ (own_w hw 41 rfl)) (notFace_of_selects (args := #[]) (mvT hZ (own_w hw 43 rfl))) (mvT hZ (own_w hw 43 rfl)) (mvT hZ (own_w hw 42 rfl)) (by decide) (backOf (W := 0) (rm7 l Z a0 hw [] b10 t7 (own_min p0 p1) (own_max p0 p1) T10.heap n0 Zs F_b10_minSessionTimeoutMs F_b10_maxSessionTimeoutMs) hZ (own_w hw 44 rfl) (own_w hw 9 rfl) (by decide) (by decide)) q14a q14c (g := (mkF m 143 #[.val (.int p0), .val (.int p1), .val (.int p2), .val (.int p3), .val (.int (own_min p0 p1)), .val (.int (own_max p0 p1)), .val (.int (p3 &&& (7 : Int32))), .val (.int t7), .val (.ref b8), .val (.ref b10), .val (.int (0 : Int32))] [(.int t7), (.ref b10)])) rfl (by rw [hml]; rfl) (Steps.refl _) (argsL := [(.int t7)]) (rest := []) (lenOf pd_4 rfl) rfl (by show 2 * 0 + _ ≤ _; exact Nat.le_of_eq rfl) (hb hby at_143) (fun _ _ => ⟨rfl, eq13, (by decide : 2 + 0 ≤ _), (by decide : 12 + 0 ≤ _)⟩)
        dsimp only [Pt.U, Pt.locs, Pt.cells, Pt.slots] at X14 l14 y14 z14 st14 hQ14
        subst l14 y14 z14
        obtain ⟨hv14, Nq14, eq14⟩ := hQ14
        subst hv14
        replace Nf := Fr.app Nf Nq14
        refine own_go (x' := T14.setTop (mkF m 146 #[.val (.int p0), .val (.int p1), .val (.int p2), .val (.int p3), .val (.int (own_min p0 p1)), .val (.int (own_max p0 p1)), .val (.int (p3 &&& (7 : Int32))), .val (.int t7), .val (.ref b8), .val (.ref b10), .val (.int (0 : Int32))] [(.int (own_allows t7 (own_min p0 p1) (own_max p0 p1)))])) (fun _ k => st14.trans k) ?_
        refine own_go (x' := T14.setTop (mkF m 148 #[.val (.int p0), .val (.int p1), .val (.int p2), .val (.int p3), .val (.int (own_min p0 p1)), .val (.int (own_max p0 p1)), .val (.int (p3 &&& (7 : Int32))), .val (.int t7), .val (.ref b8), .val (.ref b10), .val (.int (0 : Int32))] [(.int (0 : Int32)), (.int (own_allows t7 (own_min p0 p1) (own_max p0 p1)))])) (fun _ k => XS.iload X14.here hx rfl (hb hby at_146) rfl k) ?_
        by_cases hc148 : (own_allows t7 (own_min p0 p1) (own_max p0 p1)) = (0 : Int32)
        · refine own_go (x' := T14.setTop (mkF m 156 #[.val (.int p0), .val (.int p1), .val (.int p2), .val (.int p3), .val (.int (own_min p0 p1)), .val (.int (own_max p0 p1)), .val (.int (p3 &&& (7 : Int32))), .val (.int t7), .val (.ref b8), .val (.ref b10), .val (.int (0 : Int32))] [(.int (1 : Int32))])) (fun _ k => XS.icmpNo X14.here hx rfl (hb hby at_148) rfl (teq hc148).2 (XS.iconst X14.here hx rfl (hb hby at_151) (XS.goto X14.here hx rfl (pc0 := 152) (pc' := 156) rfl (hb hby at_152) (by decide) (by decide) k))) ?_
          refine own_retN X14 hx hlk (t := .boolean) hret (by simp) (hb hby at_156) (w := (1 : Int32)) rfl ?_ (by decide) (by decide)
          rw [eq14]
          exact ⟨rfl, Nf⟩
        · refine own_go (x' := T14.setTop (mkF m 156 #[.val (.int p0), .val (.int p1), .val (.int p2), .val (.int p3), .val (.int (own_min p0 p1)), .val (.int (own_max p0 p1)), .val (.int (p3 &&& (7 : Int32))), .val (.int t7), .val (.ref b8), .val (.ref b10), .val (.int (0 : Int32))] [(.int (0 : Int32))])) (fun _ k => XS.icmpYes X14.here hx rfl (pc0 := 148) (pc' := 155) rfl (hb hby at_148) rfl (feq hc148).2 (by decide) (by decide) (XS.iconst X14.here hx rfl (hb hby at_155) k)) ?_
          refine own_retN X14 hx hlk (t := .boolean) hret (by simp) (hb hby at_156) (w := (0 : Int32)) rfl ?_ (by decide) (by decide)
          rw [eq14]
          exfalso
          have t_hc107 := mt Int64.lt_iff_toInt_lt.mpr hc107
          have t_hc119 := Int64.lt_iff_toInt_lt.mp hc119
          have t_hc136 := mt Int32.toInt_inj.mp hc136
          have t_hc148 := mt Int32.toInt_inj.mp hc148
          have l32_m2147483648 : (-2147483648 : Int32).toInt = -2147483648 := by decide
          have l32_0 : (0 : Int32).toInt = 0 := by decide
          have l64_0 : (0 : Int64).toInt = 0 := by decide
          have l32_2147483647 : (2147483647 : Int32).toInt = 2147483647 := by decide
          have ha1 := own_al t7 (-2147483648 : Int32) (2147483647 : Int32)
          have ha2 := own_al t7 (own_min p0 p1) (own_max p0 p1)
          have r1 := rng32 t7
          have r2 := rng32 (own_min p0 p1)
          have r3 := rng32 (own_max p0 p1)
          have s1 := c_lsub t7.toInt64 (own_min p0 p1).toInt64
          have s2 := c_lsub (own_max p0 p1).toInt64 t7.toInt64
          have q1 := c_i2l t7
          have q2 := c_i2l (own_min p0 p1)
          have q3 := c_i2l (own_max p0 p1)
          have v1 := rng64 (t7.toInt64 - (own_min p0 p1).toInt64)
          have v2 := rng64 ((own_max p0 p1).toInt64 - t7.toInt64)
          omega
    · refine own_go (x' := T10.setTop (mkF m 133 #[.val (.int p0), .val (.int p1), .val (.int p2), .val (.int p3), .val (.int (own_min p0 p1)), .val (.int (own_max p0 p1)), .val (.int (p3 &&& (7 : Int32))), .val (.int t7), .val (.ref b8), .val (.ref b10), .val (.int (1 : Int32))] [(.int t7), (.ref b8)])) (fun _ k => XS.ifNo X10.here hx rfl (hb hby at_119) rfl ((if0 _ _).trans (flt (fun q_ => hc119 ((lw_lt (((own_max p0 p1).toInt64) - (t7.toInt64)) (0 : Int64)).mp q_))).1) (XS.iconst X10.here hx rfl (hb hby at_122) (XS.goto X10.here hx rfl (pc0 := 123) (pc' := 127) rfl (hb hby at_123) (by decide) (by decide) (XS.istore X10.here hx rfl (hb hby at_127) rfl (l' := #[.val (.int p0), .val (.int p1), .val (.int p2), .val (.int p3), .val (.int (own_min p0 p1)), .val (.int (own_max p0 p1)), .val (.int (p3 &&& (7 : Int32))), .val (.int t7), .val (.ref b8), .val (.ref b10), .val (.int (1 : Int32))]) rfl (XS.aload X10.here hx rfl (hb hby at_129) rfl rfl (XS.iload X10.here hx rfl (hb hby at_131) rfl k)))))) ?_
      obtain ⟨cq15, kq15, q15a, q15b, q15c⟩ := isOf hZ rfl E_b8
      obtain ⟨_, _, ⟨T15, L15, k15, n15⟩, -, X15, ⟨Lc15, hQ15, l15, y15, z15⟩, st15⟩ := X10.virtualBack hx (y := (⟨"com/example/mechelen/mechelen/group/GroupLimits", "allowsSessionTimeoutMs", "(I)Z"⟩ : MethodName)) (z := (⟨"com/example/mechelen/mechelen/group/GroupLimits", "allowsSessionTimeoutMs", "(I)Z"⟩ : MethodName)) hown (mvT hZ (own_w hw 40 rfl)) (mvT hZ (own_w hw 41 rfl)) (notFace_of_selects (args := #[]) (mvT hZ (own_w hw 43 rfl))) (mvT hZ (own_w hw 43 rfl)) (mvT hZ (own_w hw 42 rfl)) (by decide) (backOf (W := 0) (rm7 l Z a0 hw [] b8 t7 (-2147483648 : Int32) (2147483647 : Int32) T10.heap n0 Zs F_b8_minSessionTimeoutMs F_b8_maxSessionTimeoutMs) hZ (own_w hw 44 rfl) (own_w hw 9 rfl) (by decide) (by decide)) q15a q15c (g := (mkF m 133 #[.val (.int p0), .val (.int p1), .val (.int p2), .val (.int p3), .val (.int (own_min p0 p1)), .val (.int (own_max p0 p1)), .val (.int (p3 &&& (7 : Int32))), .val (.int t7), .val (.ref b8), .val (.ref b10), .val (.int (1 : Int32))] [(.int t7), (.ref b8)])) rfl (by rw [hml]; rfl) (Steps.refl _) (argsL := [(.int t7)]) (rest := []) (lenOf pd_4 rfl) rfl (by show 2 * 0 + _ ≤ _; exact Nat.le_of_eq rfl) (hb hby at_133) (fun _ _ => ⟨rfl, rfl, (by decide : 2 + 0 ≤ _), (by decide : 12 + 0 ≤ _)⟩)
      dsimp only [Pt.U, Pt.locs, Pt.cells, Pt.slots] at X15 l15 y15 z15 st15 hQ15
      subst l15 y15 z15
      obtain ⟨hv15, Nq15, eq15⟩ := hQ15
      subst hv15
      replace Nf := Fr.app Nf Nq15
      refine own_go (x' := T15.setTop (mkF m 136 #[.val (.int p0), .val (.int p1), .val (.int p2), .val (.int p3), .val (.int (own_min p0 p1)), .val (.int (own_max p0 p1)), .val (.int (p3 &&& (7 : Int32))), .val (.int t7), .val (.ref b8), .val (.ref b10), .val (.int (1 : Int32))] [(.int (own_allows t7 (-2147483648 : Int32) (2147483647 : Int32)))])) (fun _ k => st15.trans k) ?_
      by_cases hc136 : (own_allows t7 (-2147483648 : Int32) (2147483647 : Int32)) = (0 : Int32)
      · refine own_go (x' := T15.setTop (mkF m 156 #[.val (.int p0), .val (.int p1), .val (.int p2), .val (.int p3), .val (.int (own_min p0 p1)), .val (.int (own_max p0 p1)), .val (.int (p3 &&& (7 : Int32))), .val (.int t7), .val (.ref b8), .val (.ref b10), .val (.int (1 : Int32))] [(.int (0 : Int32))])) (fun _ k => XS.ifYes X15.here hx rfl (pc0 := 136) (pc' := 155) rfl (hb hby at_136) rfl ((if0 _ _).trans (teq hc136).1) (by decide) (by decide) (XS.iconst X15.here hx rfl (hb hby at_155) k)) ?_
        refine own_retN X15 hx hlk (t := .boolean) hret (by simp) (hb hby at_156) (w := (0 : Int32)) rfl ?_ (by decide) (by decide)
        rw [eq15]
        exfalso
        have t_hc107 := mt Int64.lt_iff_toInt_lt.mpr hc107
        have t_hc119 := mt Int64.lt_iff_toInt_lt.mpr hc119
        have t_hc136 := congrArg Int32.toInt hc136
        have l32_m2147483648 : (-2147483648 : Int32).toInt = -2147483648 := by decide
        have l32_0 : (0 : Int32).toInt = 0 := by decide
        have l64_0 : (0 : Int64).toInt = 0 := by decide
        have l32_2147483647 : (2147483647 : Int32).toInt = 2147483647 := by decide
        have ha1 := own_al t7 (-2147483648 : Int32) (2147483647 : Int32)
        have ha2 := own_al t7 (own_min p0 p1) (own_max p0 p1)
        have r1 := rng32 t7
        have r2 := rng32 (own_min p0 p1)
        have r3 := rng32 (own_max p0 p1)
        have s1 := c_lsub t7.toInt64 (own_min p0 p1).toInt64
        have s2 := c_lsub (own_max p0 p1).toInt64 t7.toInt64
        have q1 := c_i2l t7
        have q2 := c_i2l (own_min p0 p1)
        have q3 := c_i2l (own_max p0 p1)
        have v1 := rng64 (t7.toInt64 - (own_min p0 p1).toInt64)
        have v2 := rng64 ((own_max p0 p1).toInt64 - t7.toInt64)
        omega
      · refine own_go (x' := T15.setTop (mkF m 143 #[.val (.int p0), .val (.int p1), .val (.int p2), .val (.int p3), .val (.int (own_min p0 p1)), .val (.int (own_max p0 p1)), .val (.int (p3 &&& (7 : Int32))), .val (.int t7), .val (.ref b8), .val (.ref b10), .val (.int (1 : Int32))] [(.int t7), (.ref b10)])) (fun _ k => XS.ifNo X15.here hx rfl (hb hby at_136) rfl ((if0 _ _).trans (feq hc136).1) (XS.aload X15.here hx rfl (hb hby at_139) rfl rfl (XS.iload X15.here hx rfl (hb hby at_141) rfl k))) ?_
        obtain ⟨cq16, kq16, q16a, q16b, q16c⟩ := isOf hZ eq15 E_b10
        obtain ⟨_, _, ⟨T16, L16, k16, n16⟩, -, X16, ⟨Lc16, hQ16, l16, y16, z16⟩, st16⟩ := X15.virtualBack hx (y := (⟨"com/example/mechelen/mechelen/group/GroupLimits", "allowsSessionTimeoutMs", "(I)Z"⟩ : MethodName)) (z := (⟨"com/example/mechelen/mechelen/group/GroupLimits", "allowsSessionTimeoutMs", "(I)Z"⟩ : MethodName)) hown (mvT hZ (own_w hw 40 rfl)) (mvT hZ (own_w hw 41 rfl)) (notFace_of_selects (args := #[]) (mvT hZ (own_w hw 43 rfl))) (mvT hZ (own_w hw 43 rfl)) (mvT hZ (own_w hw 42 rfl)) (by decide) (backOf (W := 0) (rm7 l Z a0 hw [] b10 t7 (own_min p0 p1) (own_max p0 p1) T10.heap n0 Zs F_b10_minSessionTimeoutMs F_b10_maxSessionTimeoutMs) hZ (own_w hw 44 rfl) (own_w hw 9 rfl) (by decide) (by decide)) q16a q16c (g := (mkF m 143 #[.val (.int p0), .val (.int p1), .val (.int p2), .val (.int p3), .val (.int (own_min p0 p1)), .val (.int (own_max p0 p1)), .val (.int (p3 &&& (7 : Int32))), .val (.int t7), .val (.ref b8), .val (.ref b10), .val (.int (1 : Int32))] [(.int t7), (.ref b10)])) rfl (by rw [hml]; rfl) (Steps.refl _) (argsL := [(.int t7)]) (rest := []) (lenOf pd_4 rfl) rfl (by show 2 * 0 + _ ≤ _; exact Nat.le_of_eq rfl) (hb hby at_143) (fun _ _ => ⟨rfl, eq15, (by decide : 2 + 0 ≤ _), (by decide : 12 + 0 ≤ _)⟩)
        dsimp only [Pt.U, Pt.locs, Pt.cells, Pt.slots] at X16 l16 y16 z16 st16 hQ16
        subst l16 y16 z16
        obtain ⟨hv16, Nq16, eq16⟩ := hQ16
        subst hv16
        replace Nf := Fr.app Nf Nq16
        refine own_go (x' := T16.setTop (mkF m 146 #[.val (.int p0), .val (.int p1), .val (.int p2), .val (.int p3), .val (.int (own_min p0 p1)), .val (.int (own_max p0 p1)), .val (.int (p3 &&& (7 : Int32))), .val (.int t7), .val (.ref b8), .val (.ref b10), .val (.int (1 : Int32))] [(.int (own_allows t7 (own_min p0 p1) (own_max p0 p1)))])) (fun _ k => st16.trans k) ?_
        refine own_go (x' := T16.setTop (mkF m 148 #[.val (.int p0), .val (.int p1), .val (.int p2), .val (.int p3), .val (.int (own_min p0 p1)), .val (.int (own_max p0 p1)), .val (.int (p3 &&& (7 : Int32))), .val (.int t7), .val (.ref b8), .val (.ref b10), .val (.int (1 : Int32))] [(.int (1 : Int32)), (.int (own_allows t7 (own_min p0 p1) (own_max p0 p1)))])) (fun _ k => XS.iload X16.here hx rfl (hb hby at_146) rfl k) ?_
        by_cases hc148 : (own_allows t7 (own_min p0 p1) (own_max p0 p1)) = (1 : Int32)
        · refine own_go (x' := T16.setTop (mkF m 156 #[.val (.int p0), .val (.int p1), .val (.int p2), .val (.int p3), .val (.int (own_min p0 p1)), .val (.int (own_max p0 p1)), .val (.int (p3 &&& (7 : Int32))), .val (.int t7), .val (.ref b8), .val (.ref b10), .val (.int (1 : Int32))] [(.int (1 : Int32))])) (fun _ k => XS.icmpNo X16.here hx rfl (hb hby at_148) rfl (teq hc148).2 (XS.iconst X16.here hx rfl (hb hby at_151) (XS.goto X16.here hx rfl (pc0 := 152) (pc' := 156) rfl (hb hby at_152) (by decide) (by decide) k))) ?_
          refine own_retN X16 hx hlk (t := .boolean) hret (by simp) (hb hby at_156) (w := (1 : Int32)) rfl ?_ (by decide) (by decide)
          rw [eq16]
          exact ⟨rfl, Nf⟩
        · refine own_go (x' := T16.setTop (mkF m 156 #[.val (.int p0), .val (.int p1), .val (.int p2), .val (.int p3), .val (.int (own_min p0 p1)), .val (.int (own_max p0 p1)), .val (.int (p3 &&& (7 : Int32))), .val (.int t7), .val (.ref b8), .val (.ref b10), .val (.int (1 : Int32))] [(.int (0 : Int32))])) (fun _ k => XS.icmpYes X16.here hx rfl (pc0 := 148) (pc' := 155) rfl (hb hby at_148) rfl (feq hc148).2 (by decide) (by decide) (XS.iconst X16.here hx rfl (hb hby at_155) k)) ?_
          refine own_retN X16 hx hlk (t := .boolean) hret (by simp) (hb hby at_156) (w := (0 : Int32)) rfl ?_ (by decide) (by decide)
          rw [eq16]
          exfalso
          have t_hc107 := mt Int64.lt_iff_toInt_lt.mpr hc107
          have t_hc119 := mt Int64.lt_iff_toInt_lt.mpr hc119
          have t_hc136 := mt Int32.toInt_inj.mp hc136
          have t_hc148 := mt Int32.toInt_inj.mp hc148
          have l32_m2147483648 : (-2147483648 : Int32).toInt = -2147483648 := by decide
          have l32_0 : (0 : Int32).toInt = 0 := by decide
          have l64_0 : (0 : Int64).toInt = 0 := by decide
          have l32_1 : (1 : Int32).toInt = 1 := by decide
          have l32_2147483647 : (2147483647 : Int32).toInt = 2147483647 := by decide
          have ha1 := own_al t7 (-2147483648 : Int32) (2147483647 : Int32)
          have ha2 := own_al t7 (own_min p0 p1) (own_max p0 p1)
          have r1 := rng32 t7
          have r2 := rng32 (own_min p0 p1)
          have r3 := rng32 (own_max p0 p1)
          have s1 := c_lsub t7.toInt64 (own_min p0 p1).toInt64
          have s2 := c_lsub (own_max p0 p1).toInt64 t7.toInt64
          have q1 := c_i2l t7
          have q2 := c_i2l (own_min p0 p1)
          have q3 := c_i2l (own_max p0 p1)
          have v1 := rng64 (t7.toInt64 - (own_min p0 p1).toInt64)
          have v2 := rng64 ((own_max p0 p1).toInt64 - t7.toInt64)
          omega
set_option maxRecDepth 65536 in
set_option maxHeartbeats 40000000 in
theorem comes_1 {Post : Tables → Env → Array Value → State → Outcome → State → Prop} (hpost : ∀ tb e args s v u, (limb_1_1.after args s (.returned v) u = true ∧ limb_1_2.after args s (.returned v) u = true ∧ True) → FrameEnd s (.returned v) u (Jvm.fieldLocs frame_1_writes args s ++ Jvm.arrayLocs frame_1_arrays args s ++ Jvm.staticLocs frame_1_statics s) 16 128 → Post tb e args s (.returned v) u) :
    ArmFor flags0 classFile x code maxLocals ret World_1 tables_1 room_1 Calls_1 rest_1 Pre_1 Post := by
  intro l hfl _ _ p e ha hc hk s m args below hf hA hF happ hP
  obtain ⟨hcalls, hrest, hpre⟩ := hP
  obtain ⟨-, -, -, hnamed, -, -, -, hat⟩ := (Spec.applies_iff hf).mp happ
  obtain ⟨hg, hn⟩ := and_e (Cond.before_iff.mp (show (Jvm.Cond.and given_1 narrow_1).before args s = true from hpre))
  obtain ⟨gg1, gg2⟩ := and_e hg
  obtain ⟨gg3, gg4⟩ := and_e gg2
  obtain ⟨gg5, gg6⟩ := and_e gg4
  obtain ⟨gg7, gg8⟩ := and_e gg6
  obtain ⟨w0, w1, w2, w3, rfl⟩ : ∃ w0 w1 w2 w3 : Value, args = #[w0, w1, w2, w3] := by
    have hs : args.size = 4 := by simpa [Cond.value, given_1] using gg1
    obtain ⟨L⟩ := args
    match L, hs with
    | [w0, w1, w2, w3], _ => exact ⟨w0, w1, w2, w3, rfl⟩
  have hw := fun d (hd : d ∈ tables_1) => atoms_spec (ws := Jvm.Cond.code x code maxLocals ret :: tables_1) hat d (List.mem_cons_of_mem _ hd)
  have hfit : Fit s := fun {y c} hc i hi => by
    obtain ⟨ha, rfl⟩ := Array.getElem?_eq_some_iff.mp hc
    have q := List.all_eq_true.mp ((Array.all_eq_true_iff_forall_mem.mp hF) _ (Array.getElem_mem ha)) i (List.mem_range.mpr hi)
    simpa [Array.getElem?_eq_getElem hi] using q
  obtain ⟨i0, ei0⟩ := is_v gg3
  obtain rfl : w0 = (.int i0) := Option.some.inj ei0
  obtain ⟨i1, ei1⟩ := is_v gg5
  obtain rfl : w1 = (.int i1) := Option.some.inj ei1
  obtain ⟨i2, ei2⟩ := is_v gg7
  obtain rfl : w2 = (.int i2) := Option.some.inj ei2
  obtain ⟨i3, ei3⟩ := is_v gg8
  obtain rfl : w3 = (.int i3) := Option.some.inj ei3
  obtain ⟨n, o, h1, h2, h3, _, L, rfl, ⟨rfl, N⟩, hq⟩ := rm0 l s _ hw tables_1 i0 i1 i2 i3  s.heap s.heap.size (Nat.le_refl _)  p e ha hc hk s m _ below hf ((Spec.applies_iff_loose hf).mp happ).1 ⟨rfl, State.Warmed39.refl s, rfl⟩ trivial
  refine ⟨n, _, h1, h2, h3, hpost _ _ _ _ _ _ ⟨Cond.after_iff.mpr rfl, Cond.after_iff.mpr (eq_i res_at (Term.int_eval (1)) rfl), trivial⟩ ⟨hq.1, hq.2.1, (hq.2.2.sift fun y hy => Or.inr (N y hy)).mono (by decide) (by decide)⟩⟩
theorem main_1_1 : Claimed_1_1 := comes_1 fun _ _ _ _ _ _ h hF => ⟨h.1, hF⟩
theorem main_1_2 : Claimed_1_2 := comes_1 fun _ _ _ _ _ _ h hF => ⟨h.2.1, hF⟩
end Jvm.Pilot.@@N@@
namespace Jvm.Pilot.@@N@@
open Jvm Jvm.ClassFile Sem Op Lib Jvm.Free Jvm.Stand Jvm.Pilot.@@N@@.Jvm.D
/-! MADE BY PROGRAM (witnessworld.py) out of the Statement's table words and the real class files: 8 classes; the members and pool entries that the words name. The judged class is class 1, her method 1. -/
namespace start1
open Jvm.ClassFile
def u (s : String) : CpInfo := .utf8 (stringToUtf16 s)
/-- a pool by its gaps: so many unusable entries, then the entry; so many at the end -/
def gap : Nat → List CpInfo → List CpInfo
  | 0, r => r
  | n + 1, r => .unusable :: gap n r
def poolList (es : List (Nat × CpInfo)) (last : Nat) : List CpInfo := es.foldr (fun e r => gap e.1 (e.2 :: r)) (gap last [])
def pool (es : List (Nat × CpInfo)) (last : Nat) : Array CpInfo := ⟨poolList es last⟩
def fileOf (pool : Array CpInfo) (this : Nat) (attrs : Array Attribute := #[]) (ms : Array MethodInfo := #[]) (fl : Nat := 33) (sup : Nat := 0) (ifs : Array Nat := #[]) (fds : Array FieldInfo := #[]) : ClassFile where
  minorVersion := 0
  majorVersion := 65
  constantPool := pool
  accessFlags := fl
  thisClass := this
  superClass := sup
  interfaces := ifs
  fields := fds
  methods := ms
  attributes := attrs
def plain (name : String) (sup : Option ClassId) : Class where
  name := name
  kind := .ordinary
  loader := none
  accessFlags := 33
  super := sup
  interfaces := #[]
  cf := none
  fields := #[]
  methods := #[]
  instanceTypes := #[]
  staticTypes := #[]
  resolved := #[]
  callSites := []
  init := .initialized
  statics := none
  mirror := none

def pool0 : Array CpInfo := pool [(5, u "<init>"), (0, u "()V"), (1, .class_ 10), (1, u "java/lang/Object")] 113

def k0c0 : Code := { maxStack := 0, maxLocals := 1, code := object_method_1_code, exceptionTable := #[], attributes := #[] }
def k0m0 : Method := { name := "<init>", desc := "()V", sig := { parameters := [], returnType := none }, accessFlags := 1, code := some k0c0 }
/-- java/lang/Object -/
def k0 : Class := { plain "java/lang/Object" none with
  accessFlags := 33
  interfaces := #[]
  cf := some (fileOf pool0 8 #[] #[{ accessFlags := 1, nameIndex := 5, descriptorIndex := 6, attributes := #[] }] 33 0 #[] #[])
  fields := #[]
  methods := #[k0m0]
  instanceTypes := #[]
  staticTypes := #[]
  resolved := Array.replicate 124 none
  statics := none }

def pool1 : Array CpInfo := pool [(2, .class_ 4), (0, .nameAndType 5 6), (0, u "java/lang/Object"), (0, u "<init>"), (0, u "()V"), (0, .methodref 8 9), (0, .class_ 10), (0, .nameAndType 11 12), (0, u "java/lang/Math"), (0, u "min"), (0, u "(II)I"), (0, .methodref 8 14), (0, .nameAndType 15 12), (0, u "max"), (0, .class_ 17), (0, u "com/example/mechelen/mechelen/group/GroupLimits"), (0, .methodref 16 3), (0, .methodref 16 20), (0, .nameAndType 21 22), (0, u "withSessionTimeoutMs"), (0, u "(II)Lcom/example/mechelen/mechelen/group/GroupLimits;"), (0, .methodref 16 24), (0, .nameAndType 25 26), (0, u "allowsSessionTimeoutMs"), (0, u "(I)Z"), (0, .class_ 28), (0, u "com/example/mechelen/mechelen/group/GroupLimitsAllowsSessionTimeoutMsPinLaw"), (2, u "law"), (0, u "(IIII)Z")] 3

def k1m0 : Method := { name := "<init>", desc := "()V", sig := { parameters := [], returnType := none }, accessFlags := 1, code := none }
def k1c1 : Code := { maxStack := 4, maxLocals := 11, code := code, exceptionTable := #[], attributes := #[] }
def k1m1 : Method := { name := "law", desc := "(IIII)Z", sig := { parameters := [.int, .int, .int, .int], returnType := some .boolean }, accessFlags := 9, code := some k1c1 }
/-- com/example/mechelen/mechelen/group/GroupLimitsAllowsSessionTimeoutMsPinLaw -/
def k1 : Class := { plain "com/example/mechelen/mechelen/group/GroupLimitsAllowsSessionTimeoutMsPinLaw" (some 0) with
  accessFlags := 49
  interfaces := #[]
  cf := some (fileOf pool1 27 #[] #[{ accessFlags := 1, nameIndex := 5, descriptorIndex := 6, attributes := #[] }, { accessFlags := 9, nameIndex := 31, descriptorIndex := 32, attributes := #[] }] 49 2 #[] #[])
  fields := #[]
  methods := #[k1m0, k1m1]
  instanceTypes := #[]
  staticTypes := #[]
  resolved := Array.replicate 36 none
  statics := none }

def pool2 : Array CpInfo := pool [(1, .class_ 2), (0, u "java/lang/Math"), (1, .class_ 6), (1, u "java/lang/Object"), (0, u "<init>"), (0, u "()V"), (89, .class_ 100), (1, u "java/lang/Math$RandomNumberGeneratorHolder"), (71, u "negativeZeroFloatBits"), (0, u "J"), (2, u "negativeZeroDoubleBits"), (21, u "max"), (2, u "min"), (43, u "$assertionsDisabled"), (0, u "Z"), (88, u "(II)I"), (2, u "twoToTheDoubleScaleDown"), (0, u "D"), (4, u "twoToTheDoubleScaleUp"), (9, u "E"), (3, u "PI"), (2, u "TAU"), (2, u "DEGREES_TO_RADIANS"), (0, u "RADIANS_TO_DEGREES")] 94

def k2m0 : Method := { name := "<init>", desc := "()V", sig := { parameters := [], returnType := none }, accessFlags := 2, code := none }
def k2c1 : Code := { maxStack := 2, maxLocals := 2, code := jdk_29_method_65_code, exceptionTable := #[], attributes := #[] }
def k2m1 : Method := { name := "max", desc := "(II)I", sig := { parameters := [.int, .int], returnType := some .int }, accessFlags := 9, code := some k2c1 }
def k2c2 : Code := { maxStack := 2, maxLocals := 2, code := jdk_29_method_69_code, exceptionTable := #[], attributes := #[] }
def k2m2 : Method := { name := "min", desc := "(II)I", sig := { parameters := [.int, .int], returnType := some .int }, accessFlags := 9, code := some k2c2 }
/-- java/lang/Math -/
def k2 : Class := { plain "java/lang/Math" (some 0) with
  accessFlags := 49
  interfaces := #[]
  cf := some (fileOf pool2 1 #[.nestMembers #[98]] #[{ accessFlags := 2, nameIndex := 7, descriptorIndex := 8, attributes := #[] }, { accessFlags := 9, nameIndex := 198, descriptorIndex := 335, attributes := #[] }, { accessFlags := 9, nameIndex := 201, descriptorIndex := 335, attributes := #[] }] 49 4 #[] #[{ accessFlags := 25, nameIndex := 354, descriptorIndex := 339, attributes := #[] }, { accessFlags := 25, nameIndex := 358, descriptorIndex := 339, attributes := #[] }, { accessFlags := 25, nameIndex := 361, descriptorIndex := 339, attributes := #[] }, { accessFlags := 26, nameIndex := 364, descriptorIndex := 339, attributes := #[] }, { accessFlags := 26, nameIndex := 365, descriptorIndex := 339, attributes := #[] }, { accessFlags := 26, nameIndex := 172, descriptorIndex := 173, attributes := #[] }, { accessFlags := 26, nameIndex := 176, descriptorIndex := 173, attributes := #[] }, { accessFlags := 8, nameIndex := 344, descriptorIndex := 339, attributes := #[] }, { accessFlags := 8, nameIndex := 338, descriptorIndex := 339, attributes := #[] }, { accessFlags := 4120, nameIndex := 245, descriptorIndex := 246, attributes := #[] }])
  fields := #[{ name := "E", type := .double, accessFlags := 25, slot := 0, constantValue := 0 }, { name := "PI", type := .double, accessFlags := 25, slot := 1, constantValue := 0 }, { name := "TAU", type := .double, accessFlags := 25, slot := 2, constantValue := 0 }, { name := "DEGREES_TO_RADIANS", type := .double, accessFlags := 26, slot := 3, constantValue := 0 }, { name := "RADIANS_TO_DEGREES", type := .double, accessFlags := 26, slot := 4, constantValue := 0 }, { name := "negativeZeroFloatBits", type := .long, accessFlags := 26, slot := 5, constantValue := 0 }, { name := "negativeZeroDoubleBits", type := .long, accessFlags := 26, slot := 6, constantValue := 0 }, { name := "twoToTheDoubleScaleUp", type := .double, accessFlags := 8, slot := 7, constantValue := 0 }, { name := "twoToTheDoubleScaleDown", type := .double, accessFlags := 8, slot := 8, constantValue := 0 }, { name := "$assertionsDisabled", type := .boolean, accessFlags := 4120, slot := 9, constantValue := 0 }]
  methods := #[k2m0, k2m1, k2m2]
  instanceTypes := #[]
  staticTypes := #[.double, .double, .double, .double, .double, .long, .long, .double, .double, .boolean]
  resolved := Array.replicate 460 none
  statics := none }

def pool3 : Array CpInfo := pool [(3, .integer 2147483648), (0, .integer 2147483647), (2, .long 9223372036854775807), (1, .methodref 10 11), (0, .class_ 12), (0, .nameAndType 13 14), (0, u "com/example/mechelen/mechelen/group/GroupLimits"), (0, u "<init>"), (0, u "(IIJJJJ)V"), (0, .methodref 16 17), (0, .class_ 18), (0, .nameAndType 13 19), (0, u "java/lang/Object"), (0, u "()V"), (0, .fieldref 10 21), (0, .nameAndType 22 23), (0, u "minSessionTimeoutMs"), (0, u "I"), (0, .fieldref 10 25), (0, .nameAndType 26 23), (0, u "maxSessionTimeoutMs"), (0, .fieldref 10 28), (0, .nameAndType 29 30), (0, u "membersMaxBytes"), (0, u "J"), (0, .fieldref 10 32), (0, .nameAndType 33 30), (0, u "offsetsMaxBytes"), (0, .fieldref 10 35), (0, .nameAndType 36 30), (0, u "offsetsRetentionMs"), (0, .fieldref 10 38), (0, .nameAndType 39 30), (0, u "offsetsCheckIntervalMs"), (2, u "withSessionTimeoutMs"), (0, u "(II)Lcom/example/mechelen/mechelen/group/GroupLimits;"), (5, u "allowsSessionTimeoutMs"), (0, u "(I)Z")] 4

def k3c0 : Code := { maxStack := 11, maxLocals := 1, code := prog_13_method_1_code, exceptionTable := #[], attributes := #[] }
def k3m0 : Method := { name := "<init>", desc := "()V", sig := { parameters := [], returnType := none }, accessFlags := 1, code := some k3c0 }
def k3c1 : Code := { maxStack := 3, maxLocals := 11, code := prog_13_method_2_code, exceptionTable := #[], attributes := #[] }
def k3m1 : Method := { name := "<init>", desc := "(IIJJJJ)V", sig := { parameters := [.int, .int, .long, .long, .long, .long], returnType := none }, accessFlags := 2, code := some k3c1 }
def k3c2 : Code := { maxStack := 12, maxLocals := 3, code := prog_13_method_3_code, exceptionTable := #[], attributes := #[] }
def k3m2 : Method := { name := "withSessionTimeoutMs", desc := "(II)Lcom/example/mechelen/mechelen/group/GroupLimits;", sig := { parameters := [.int, .int], returnType := some (.object "com/example/mechelen/mechelen/group/GroupLimits") }, accessFlags := 1, code := some k3c2 }
def k3c3 : Code := { maxStack := 2, maxLocals := 2, code := prog_13_method_7_code, exceptionTable := #[], attributes := #[] }
def k3m3 : Method := { name := "allowsSessionTimeoutMs", desc := "(I)Z", sig := { parameters := [.int], returnType := some .boolean }, accessFlags := 0, code := some k3c3 }
/-- com/example/mechelen/mechelen/group/GroupLimits -/
def k3 : Class := { plain "com/example/mechelen/mechelen/group/GroupLimits" (some 0) with
  accessFlags := 49
  interfaces := #[]
  cf := some (fileOf pool3 10 #[] #[{ accessFlags := 1, nameIndex := 13, descriptorIndex := 19, attributes := #[] }, { accessFlags := 2, nameIndex := 13, descriptorIndex := 14, attributes := #[] }, { accessFlags := 1, nameIndex := 42, descriptorIndex := 43, attributes := #[] }, { accessFlags := 0, nameIndex := 49, descriptorIndex := 50, attributes := #[] }] 49 16 #[] #[{ accessFlags := 18, nameIndex := 22, descriptorIndex := 23, attributes := #[] }, { accessFlags := 18, nameIndex := 26, descriptorIndex := 23, attributes := #[] }, { accessFlags := 18, nameIndex := 29, descriptorIndex := 30, attributes := #[] }, { accessFlags := 18, nameIndex := 33, descriptorIndex := 30, attributes := #[] }, { accessFlags := 18, nameIndex := 36, descriptorIndex := 30, attributes := #[] }, { accessFlags := 18, nameIndex := 39, descriptorIndex := 30, attributes := #[] }])
  fields := #[{ name := "minSessionTimeoutMs", type := .int, accessFlags := 18, slot := 0, constantValue := 0 }, { name := "maxSessionTimeoutMs", type := .int, accessFlags := 18, slot := 1, constantValue := 0 }, { name := "membersMaxBytes", type := .long, accessFlags := 18, slot := 2, constantValue := 0 }, { name := "offsetsMaxBytes", type := .long, accessFlags := 18, slot := 3, constantValue := 0 }, { name := "offsetsRetentionMs", type := .long, accessFlags := 18, slot := 4, constantValue := 0 }, { name := "offsetsCheckIntervalMs", type := .long, accessFlags := 18, slot := 5, constantValue := 0 }]
  methods := #[k3m0, k3m1, k3m2, k3m3]
  instanceTypes := #[.int, .int, .long, .long, .long, .long]
  staticTypes := #[]
  resolved := Array.replicate 55 none
  statics := none }

def pool4 : Array CpInfo := pool [(1, u "java/lang/Cloneable"), (0, .class_ 1), (0, u "java/lang/Object"), (0, .class_ 3)] 3

/-- java/lang/Cloneable -/
def k4 : Class := { plain "java/lang/Cloneable" (some 0) with
  accessFlags := 1537
  interfaces := #[]
  cf := some (fileOf pool4 2 #[] #[] 1537 4 #[] #[])
  fields := #[]
  methods := #[]
  instanceTypes := #[]
  staticTypes := #[]
  resolved := Array.replicate 8 none
  statics := none }

def pool5 : Array CpInfo := pool [(1, u "java/io/Serializable"), (0, .class_ 1), (0, u "java/lang/Object"), (0, .class_ 3)] 3

/-- java/io/Serializable -/
def k5 : Class := { plain "java/io/Serializable" (some 0) with
  accessFlags := 1537
  interfaces := #[]
  cf := some (fileOf pool5 2 #[] #[] 1537 4 #[] #[])
  fields := #[]
  methods := #[]
  instanceTypes := #[]
  staticTypes := #[]
  resolved := Array.replicate 8 none
  statics := none }

/-- the primitive byte -/
def k6 : Class := { plain "byte" none with kind := .primitive 'B', accessFlags := 0x411 }
/-- [B -/
def k7 : Class := { plain "[B" (some 0) with kind := .array 6 .byte, interfaces := #[4, 5], accessFlags := 1041 }

def heap : Heap := #[]
def classes : Array Class := #[k0, k1, k2, k3, k4, k5, k6, k7]
def interned : List (Array UInt16 × Addr) := []
def slotsUsed : Nat := 0
def theMethod : MethodId := ⟨1, 1⟩
def args0 : Array Value := #[.int 1, .int 2, .int 3, .int 4]
def aboutOver (below : List Frame) : State where
  vm := { classes := classes, interned := interned.toArray }
  heap := heap
  slotsUsed := slotsUsed
  threads := #[{ frames := .invoking theMethod args0 :: below }]
def below0 : List Frame := [.native { method := ⟨0, 0⟩, args := #[] }]
def about1 : State := aboutOver below0
def p0 : Program := .bare "" "" ""
def e0 : Env := launch0.env 0 0 0
theorem w_frames : about1.frames = Frame.invoking theMethod args0 :: below0 := rfl
set_option maxRecDepth 65536 in
theorem w_args : argsFit about1.vm theMethod args0 = true := by decide +kernel
set_option maxRecDepth 65536 in
theorem w_heap : heapFits about1 = true := by decide +kernel
set_option maxRecDepth 65536 in
theorem w_runnable : about1.curStatus? = some .runnable := by decide +kernel
set_option maxRecDepth 65536 in
theorem w_alone : about1.alone = true := by decide +kernel
set_option maxRecDepth 65536 in
theorem w_named : about1.methodNamed? x = some theMethod := by decide +kernel
set_option maxRecDepth 65536 in
theorem w_hears : about1.hears theMethod below0 = true := by decide +kernel
set_option maxRecDepth 65536 in
theorem w_ripe : about1.ripe theMethod args0 below0 = true := by decide +kernel
theorem w_running : about1.status = .running := rfl
set_option maxRecDepth 65536 in
theorem w_room : about1.hasRoom e0.platform room_1 = true :=
  launch0.hasRoom_least _ room_1 (by decide +kernel) (by decide +kernel) (by decide +kernel) (by decide +kernel) (by decide +kernel) (by decide +kernel)
theorem allAtoms_all (ts : List Jvm.Cond) (a : Array Jvm.Value) (st : Jvm.State) : (allAtoms ts).before a st = ts.all (fun c => c.before a st) := by
  induction ts with
  | nil => rfl
  | cons c t ih =>
    show (Jvm.Cond.and c (allAtoms t)).before a st = _
    rw [Jvm.Cond.before_and, ih, List.all_cons]
def words1 : List Jvm.Cond := Jvm.Cond.code x code maxLocals ret :: tables_1
/-- a 'code' word, met by the world's own term for the bytes: nothing is compared byte by byte -/
theorem code_word {y : MethodName} {bytes : ByteArray} {mx : Nat} {rt : Option FieldType} {a : Array Value} {s : State} {m : MethodId} {meth : Method} {c : Code} (h1 : s.methodNamed? y = some m) (h2 : s.vm.method? m = some meth) (h3 : meth.code = some c) (h4 : c.code = bytes)
    (h5 : (c.maxLocals == mx && c.exceptionTable.isEmpty && decide (c.maxStack ≤ mostOperands) && decide (meth.sig.returnType = rt) && !meth.locks && decide (parseMethodDescriptor y.desc = some meth.sig)) = true) : (Jvm.Cond.code y bytes mx rt).before a s = true := by
  simp only [Bool.and_eq_true, beq_iff_eq, Bool.not_eq_true', decide_eq_true_eq] at h5
  obtain ⟨⟨⟨⟨⟨g1, g2⟩, g3⟩, g4⟩, g5⟩, g6⟩ := h5
  simp [Cond.before, Cond.holds, Cond.value, h1, h2, h3, h4, g1, g2, g3, g4, g5, g6]
def isCode : Jvm.Cond → Bool
  | .code _ _ _ _ => true
  | _ => false
theorem all_split {L : List Jvm.Cond} {P : Jvm.Cond → Bool} (h1 : L.all (fun c => isCode c || P c) = true) (h2 : ∀ c ∈ L.filter isCode, P c = true) : L.all P = true := by
  refine List.all_eq_true.mpr fun c hc => ?_
  have h := List.all_eq_true.mp h1 c hc
  rcases Bool.eq_false_or_eq_true (isCode c) with hi | hi
  · exact h2 c (List.mem_filter.mpr ⟨hc, hi⟩)
  · simpa [hi] using h
set_option maxRecDepth 65536 in
theorem w_c0 : (Jvm.Cond.code x code maxLocals ret).before args0 about1 = true := code_word (m := ⟨1, 1⟩) (meth := k1m1) (c := k1c1) (by decide +kernel) rfl rfl rfl (by decide +kernel)
set_option maxRecDepth 65536 in
theorem w_c1 : (Jvm.Cond.code ({ cls := "java/lang/Math", name := "min", desc := "(II)I" } : Jvm.MethodName) jdk_29_method_69_code (2 : Nat) (Option.some Jvm.ClassFile.FieldType.int)).before args0 about1 = true := code_word (m := ⟨2, 2⟩) (meth := k2m2) (c := k2c2) (by decide +kernel) rfl rfl rfl (by decide +kernel)
set_option maxRecDepth 65536 in
theorem w_c2 : (Jvm.Cond.code ({ cls := "java/lang/Math", name := "max", desc := "(II)I" } : Jvm.MethodName) jdk_29_method_65_code (2 : Nat) (Option.some Jvm.ClassFile.FieldType.int)).before args0 about1 = true := code_word (m := ⟨2, 1⟩) (meth := k2m1) (c := k2c1) (by decide +kernel) rfl rfl rfl (by decide +kernel)
set_option maxRecDepth 65536 in
theorem w_c3 : (Jvm.Cond.code ({ cls := "com/example/mechelen/mechelen/group/GroupLimits", name := "<init>", desc := "()V" } : Jvm.MethodName) prog_13_method_1_code (1 : Nat) (Option.none : Option Jvm.ClassFile.FieldType)).before args0 about1 = true := code_word (m := ⟨3, 0⟩) (meth := k3m0) (c := k3c0) (by decide +kernel) rfl rfl rfl (by decide +kernel)
set_option maxRecDepth 65536 in
theorem w_c4 : (Jvm.Cond.code ({ cls := "com/example/mechelen/mechelen/group/GroupLimits", name := "<init>", desc := "(IIJJJJ)V" } : Jvm.MethodName) prog_13_method_2_code (11 : Nat) (Option.none : Option Jvm.ClassFile.FieldType)).before args0 about1 = true := code_word (m := ⟨3, 1⟩) (meth := k3m1) (c := k3c1) (by decide +kernel) rfl rfl rfl (by decide +kernel)
set_option maxRecDepth 65536 in
theorem w_c5 : (Jvm.Cond.code ({ cls := "java/lang/Object", name := "<init>", desc := "()V" } : Jvm.MethodName) object_method_1_code (1 : Nat) (Option.none : Option Jvm.ClassFile.FieldType)).before args0 about1 = true := code_word (m := ⟨0, 0⟩) (meth := k0m0) (c := k0c0) (by decide +kernel) rfl rfl rfl (by decide +kernel)
set_option maxRecDepth 65536 in
theorem w_c6 : (Jvm.Cond.code ({ cls := "com/example/mechelen/mechelen/group/GroupLimits", name := "withSessionTimeoutMs", desc := "(II)Lcom/example/mechelen/mechelen/group/GroupLimits;" } : Jvm.MethodName) prog_13_method_3_code (3 : Nat) (Option.some (Jvm.ClassFile.FieldType.object "com/example/mechelen/mechelen/group/GroupLimits"))).before args0 about1 = true := code_word (m := ⟨3, 2⟩) (meth := k3m2) (c := k3c2) (by decide +kernel) rfl rfl rfl (by decide +kernel)
set_option maxRecDepth 65536 in
theorem w_c7 : (Jvm.Cond.code ({ cls := "com/example/mechelen/mechelen/group/GroupLimits", name := "allowsSessionTimeoutMs", desc := "(I)Z" } : Jvm.MethodName) prog_13_method_7_code (2 : Nat) (Option.some Jvm.ClassFile.FieldType.boolean)).before args0 about1 = true := code_word (m := ⟨3, 3⟩) (meth := k3m3) (c := k3c3) (by decide +kernel) rfl rfl rfl (by decide +kernel)
def codes1 : List Jvm.Cond := [Jvm.Cond.code x code maxLocals ret, Jvm.Cond.code ({ cls := "java/lang/Math", name := "min", desc := "(II)I" } : Jvm.MethodName) jdk_29_method_69_code (2 : Nat) (Option.some Jvm.ClassFile.FieldType.int), Jvm.Cond.code ({ cls := "java/lang/Math", name := "max", desc := "(II)I" } : Jvm.MethodName) jdk_29_method_65_code (2 : Nat) (Option.some Jvm.ClassFile.FieldType.int), Jvm.Cond.code ({ cls := "com/example/mechelen/mechelen/group/GroupLimits", name := "<init>", desc := "()V" } : Jvm.MethodName) prog_13_method_1_code (1 : Nat) (Option.none : Option Jvm.ClassFile.FieldType), Jvm.Cond.code ({ cls := "com/example/mechelen/mechelen/group/GroupLimits", name := "<init>", desc := "(IIJJJJ)V" } : Jvm.MethodName) prog_13_method_2_code (11 : Nat) (Option.none : Option Jvm.ClassFile.FieldType), Jvm.Cond.code ({ cls := "java/lang/Object", name := "<init>", desc := "()V" } : Jvm.MethodName) object_method_1_code (1 : Nat) (Option.none : Option Jvm.ClassFile.FieldType), Jvm.Cond.code ({ cls := "com/example/mechelen/mechelen/group/GroupLimits", name := "withSessionTimeoutMs", desc := "(II)Lcom/example/mechelen/mechelen/group/GroupLimits;" } : Jvm.MethodName) prog_13_method_3_code (3 : Nat) (Option.some (Jvm.ClassFile.FieldType.object "com/example/mechelen/mechelen/group/GroupLimits")), Jvm.Cond.code ({ cls := "com/example/mechelen/mechelen/group/GroupLimits", name := "allowsSessionTimeoutMs", desc := "(I)Z" } : Jvm.MethodName) prog_13_method_7_code (2 : Nat) (Option.some Jvm.ClassFile.FieldType.boolean)]
set_option maxRecDepth 65536 in
theorem codes_eq : words1.filter isCode = codes1 := rfl
theorem w_codes : ∀ c ∈ words1.filter isCode, c.before args0 about1 = true := by
  rw [codes_eq]
  intro c hc
  simp only [codes1, List.mem_cons, List.not_mem_nil, or_false] at hc
  rcases hc with rfl | rfl | rfl | rfl | rfl | rfl | rfl | rfl
  · exact w_c0
  · exact w_c1
  · exact w_c2
  · exact w_c3
  · exact w_c4
  · exact w_c5
  · exact w_c6
  · exact w_c7
set_option maxRecDepth 65536 in
theorem w_t1 : (words1.take 24).all (fun c => isCode c || c.before args0 about1) = true := by decide +kernel
set_option maxRecDepth 65536 in
theorem w_t2 : (words1.drop 24).all (fun c => isCode c || c.before args0 about1) = true := by decide +kernel
theorem w_tables : (allAtoms (Jvm.Cond.code x code maxLocals ret :: tables_1)).before args0 about1 = true := by
  rw [allAtoms_all]
  show words1.all (fun c => c.before args0 about1) = true
  refine all_split ?_ w_codes
  rw [← List.take_append_drop 24 words1, List.all_append, w_t1, w_t2]
  rfl
set_option maxRecDepth 65536 in
theorem w_case : (Jvm.Cond.and given_1 narrow_1).before args0 about1 = true := by decide +kernel
theorem w_applies : (headSpec (Jvm.Cond.code x code maxLocals ret :: tables_1) room_1).applies x e0.platform about1 = true :=
  (Spec.applies_iff w_frames).mpr ⟨w_running, w_runnable, w_alone, w_named, w_hears, w_ripe, w_room, w_tables⟩
theorem atStart : AtStart classFile x code maxLocals ret World_1 tables_1 room_1 Calls_1 rest_1 Pre_1 launch0 p0 e0 about1 theMethod args0 below0 :=
  ⟨lists_1, trivial, launch0.admits_env _ _ _, launch0.least_env, fairChoices_fair.cas, fairChoices_fair.clock, w_frames, w_args, w_heap, w_applies, trivial, trivial, w_case⟩
end start1
theorem witness_1 : WitnessClaimed_1 := ⟨start1.p0, start1.e0, start1.about1, start1.theMethod, start1.args0, start1.below0, start1.atStart⟩
end Jvm.Pilot.@@N@@
