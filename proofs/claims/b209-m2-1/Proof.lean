import JvmDerived
import JvmDerived.Pilot.@@N@@Statement
import JvmDerived.Pilot.@@N@@Code
set_option linter.unusedVariables false
set_option linter.unusedSimpArgs false
namespace Jvm.Pilot.@@N@@
open Jvm Jvm.ClassFile Sem Op Lib Jvm.Free Jvm.Stand Jvm.LawKit Jvm.RoadKit Bundle Jvm.Pilot.@@N@@.Jvm.D
section OwnKit
variable {p : Program} {l : Launch} {e : Env} {R : Room} {s : State} {m : MethodId} {args : Array Value} {below : List Frame} {meth : Method} {c : Code} {T : State} {locs : List Loc} {cells slots : Nat} {Q : Option Value → Heap → List Loc → Prop} {C S : Nat}
/-- from x the run ends, returning, with what Q says -/
def own_End (p : Program) (e : Env) (below : List Frame) (s : State) (Q : Option Value → Heap → List Loc → Prop) (C S : Nat) (x : State) : Prop :=
  ∃ t o, Steps p.tables e below x t ∧ t.status = .running ∧ Ended t below o ∧ ∃ v L, o = .returned v ∧ Q v t.heap L ∧ FrameEnd s o t L C S
theorem own_go {x x' : State} (h : ∀ t, Steps p.tables e below x' t → Steps p.tables e below x t) (k : own_End p e below s Q C S x') : own_End p e below s Q C S x := by
  obtain ⟨t, o, h1, h2⟩ := k
  exact ⟨t, o, h t h1, h2⟩
theorem own_mono {Q' : Option Value → Heap → List Loc → Prop} {x : State} (h : ∀ v h L, Q v h L → Q' v h L) (k : own_End p e below s Q C S x) : own_End p e below s Q' C S x := by
  obtain ⟨t, o, h1, h2, h3, v, L, h4, h5, h6⟩ := k
  exact ⟨t, o, h1, h2, h3, v, L, h4, h _ _ _ h5, h6⟩
theorem own_out (X : Stand p l e R s m args below meth c T locs cells slots) (hlk : meth.locks = false) {v : Option Value} (hv : meth.sig.returnType = none → v = none) {x : State}
    (h : ∀ fs, (∀ (f : JFrame) (acts : List Action), f.method = m → f.locked = none → f.entered = [] → (doReturn e (T.setTop f) acts v).1 = T.setFrames fs) → Steps p.tables e below x (T.setFrames fs))
    (hq : Q v T.heap locs) (hc : cells ≤ C) (hs : slots ≤ S) : own_End p e below s Q C S x := by
  obtain ⟨fs, hr, hrun, hended, hW, hsame⟩ := X.leave hv hlk
  exact ⟨_, _, h fs hr, hrun, hended, _, _, rfl, hq, ⟨_, rfl⟩, hW, hsame.mono hc hs⟩
theorem own_retV (X : Stand p l e R s m args below meth c T locs cells slots) (hx : p.tables.exec = Jvm.exec) (hlk : meth.locks = false) {pc : Nat} {Ls : Array Slot} (hret : meth.sig.returnType = none) (hd : decode c.code pc = .ok (.return_, 1))
    (hq : Q none T.heap locs) (hc : cells ≤ C) (hs : slots ≤ S) : own_End p e below s Q C S (T.setTop (mkF m pc Ls [])) :=
  own_out X hlk (fun _ => rfl) (fun fs hr => X.returnOut hx hret hd hr) hq hc hs
theorem own_retN (X : Stand p l e R s m args below meth c T locs cells slots) (hx : p.tables.exec = Jvm.exec) (hlk : meth.locks = false) {pc : Nat} {Ls : Array Slot} {z w : Int32} {t : FieldType} {rest : List Value} (hret : meth.sig.returnType = some t) (ht : t = .boolean ∨ t = .byte ∨ t = .char ∨ t = .short) (hd : decode c.code pc = .ok (.ireturn, 1))
    (hz : nar t z = w) (hq : Q (some (.int w)) T.heap locs) (hc : cells ≤ C) (hs : slots ≤ S) : own_End p e below s Q C S (T.setTop (mkF m pc Ls (.int z :: rest))) := by
  subst hz
  exact own_out X hlk (fun h => by rw [hret] at h; cases h) (fun fs hr => retN X hx hret ht hd hr) hq hc hs
theorem own_retI (X : Stand p l e R s m args below meth c T locs cells slots) (hx : p.tables.exec = Jvm.exec) (hlk : meth.locks = false) {pc : Nat} {Ls : Array Slot} {z : Int32} {rest : List Value} (hret : meth.sig.returnType = some .int) (hd : decode c.code pc = .ok (.ireturn, 1))
    (hq : Q (some (.int z)) T.heap locs) (hc : cells ≤ C) (hs : slots ≤ S) : own_End p e below s Q C S (T.setTop (mkF m pc Ls (.int z :: rest))) :=
  own_out X hlk (fun h => by rw [hret] at h; cases h) (fun fs hr => retOut X hx hret rfl (Or.inl ⟨rfl, Or.inl rfl, _, rfl⟩) hd hr) hq hc hs
theorem own_retJ (X : Stand p l e R s m args below meth c T locs cells slots) (hx : p.tables.exec = Jvm.exec) (hlk : meth.locks = false) {pc : Nat} {Ls : Array Slot} {z : Int64} {rest : List Value} (hret : meth.sig.returnType = some .long) (hd : decode c.code pc = .ok (.lreturn, 1))
    (hq : Q (some (.long z)) T.heap locs) (hc : cells ≤ C) (hs : slots ≤ S) : own_End p e below s Q C S (T.setTop (mkF m pc Ls (.long z :: rest))) :=
  own_out X hlk (fun h => by rw [hret] at h; cases h) (fun fs hr => retOut X hx hret rfl (Or.inr (Or.inl ⟨rfl, rfl, _, rfl⟩)) hd hr) hq hc hs
theorem own_retR (X : Stand p l e R s m args below meth c T locs cells slots) (hx : p.tables.exec = Jvm.exec) (hlk : meth.locks = false) {pc : Nat} {Ls : Array Slot} {z : Value} {t : FieldType} {rest : List Value} (hret : meth.sig.returnType = some t) (ht : t.isReference = true) (hv : z.isRef = true) (hd : decode c.code pc = .ok (.areturn, 1))
    (hq : Q (some z) T.heap locs) (hc : cells ≤ C) (hs : slots ≤ S) : own_End p e below s Q C S (T.setTop (mkF m pc Ls (z :: rest))) :=
  own_out X hlk (fun h => by rw [hret] at h; cases h) (fun fs hr => retOut X hx hret (by cases t <;> first | rfl | cases ht) (Or.inr (Or.inr (Or.inr (Or.inr ⟨rfl, ht, hv⟩)))) hd hr) hq hc hs
theorem own_w {a0 : Array Value} {Z : State} (hw : ∀ d ∈ tables_1, d.before a0 Z = true) (i : Nat) {d : Jvm.Cond} (h : tables_1[i]? = some d) : d.before a0 Z = true := hw _ (List.mem_of_getElem? h)
end OwnKit
theorem d1_0 : decode prog_33_method_1_code 0 = .ok (.aload_n 0, 1) := by decide +kernel
theorem d1_1 : decode prog_33_method_1_code 1 = .ok (.invokespecial 3, 3) := by decide +kernel
theorem d1_4 : decode prog_33_method_1_code 4 = .ok (.aload_n 0, 1) := by decide +kernel
theorem d1_5 : decode prog_33_method_1_code 5 = .ok (.iload_n 1, 1) := by decide +kernel
theorem d1_6 : decode prog_33_method_1_code 6 = .ok (.putfield 9, 3) := by decide +kernel
theorem d1_9 : decode prog_33_method_1_code 9 = .ok (.aload_n 0, 1) := by decide +kernel
theorem d1_10 : decode prog_33_method_1_code 10 = .ok (.lload_n 2, 1) := by decide +kernel
theorem d1_11 : decode prog_33_method_1_code 11 = .ok (.putfield 15, 3) := by decide +kernel
theorem d1_14 : decode prog_33_method_1_code 14 = .ok (.aload_n 0, 1) := by decide +kernel
theorem d1_15 : decode prog_33_method_1_code 15 = .ok (.iload 4, 2) := by decide +kernel
theorem d1_17 : decode prog_33_method_1_code 17 = .ok (.putfield 19, 3) := by decide +kernel
theorem d1_20 : decode prog_33_method_1_code 20 = .ok (.aload_n 0, 1) := by decide +kernel
theorem d1_21 : decode prog_33_method_1_code 21 = .ok (.lload 5, 2) := by decide +kernel
theorem d1_23 : decode prog_33_method_1_code 23 = .ok (.putfield 23, 3) := by decide +kernel
theorem d1_26 : decode prog_33_method_1_code 26 = .ok (.aload_n 0, 1) := by decide +kernel
theorem d1_27 : decode prog_33_method_1_code 27 = .ok (.lload 7, 2) := by decide +kernel
theorem d1_29 : decode prog_33_method_1_code 29 = .ok (.putfield 26, 3) := by decide +kernel
theorem d1_32 : decode prog_33_method_1_code 32 = .ok (.aload_n 0, 1) := by decide +kernel
theorem d1_33 : decode prog_33_method_1_code 33 = .ok (.iload 9, 2) := by decide +kernel
theorem d1_35 : decode prog_33_method_1_code 35 = .ok (.putfield 29, 3) := by decide +kernel
theorem d1_38 : decode prog_33_method_1_code 38 = .ok (.return_, 1) := by decide +kernel
def Q_rm1 (Z : State) (ao0 : Addr) (p1 : Int32) (q2 : Int64) (p3 : Int32) (q4 : Int64) (q5 : Int64) (p6 : Int32) (h0 : Heap) (n0 : Nat) (v : Option Value) (h : Heap) (L : List Loc) : Prop := v = none ∧ Fr n0 L ∧ Keep h0 h [ao0] ∧ Exa Z h ao0 "com/example/hale_log/halelog/raft/Messages$Vote" ∧ Fld Z h ao0 "com/example/hale_log/halelog/raft/Messages$Vote" "pre" "Z" (.int (nar .boolean p1)) ∧ Fld Z h ao0 "com/example/hale_log/halelog/raft/Messages$Vote" "term" "J" (.long q2) ∧ Fld Z h ao0 "com/example/hale_log/halelog/raft/Messages$Vote" "candidate" "I" (.int p3) ∧ Fld Z h ao0 "com/example/hale_log/halelog/raft/Messages$Vote" "lastIndex" "J" (.long q4) ∧ Fld Z h ao0 "com/example/hale_log/halelog/raft/Messages$Vote" "lastTerm" "J" (.long q5) ∧ Fld Z h ao0 "com/example/hale_log/halelog/raft/Messages$Vote" "askedBy" "I" (.int p6)
theorem pn_rm1 : plainName "com/example/hale_log/halelog/raft/Messages$Vote" = true := by first | (simp [plainName, overriddenIn]; done) | decide +kernel
theorem ef_rm1 (m : MethodId) (x0 : Addr) (x1 : Int32) (x2 : Int64) (x3 : Int32) (x4 : Int64) (x5 : Int64) (x6 : Int32) : entryFrame m #[(.ref x0), (.int x1), (.long x2), (.int x3), (.long x4), (.long x5), (.int x6)] 10 = mkF m 0 #[.val (.ref x0), .val (.int x1), .val (.long x2), .second, .val (.int x3), .val (.long x4), .second, .val (.long x5), .second, .val (.int x6)] [] := by first | (simp [entryFrame, mkF, argsToLocals, Value.category]; done) | rfl
set_option maxRecDepth 65536 in
set_option maxHeartbeats 40000000 in
theorem rm1 (l : Launch) (Z : State) (a0 : Array Value) (hw : ∀ d ∈ tables_1, d.before a0 Z = true) (ws : List Jvm.Cond) (ao0 : Addr) (p1 : Int32) (q2 : Int64) (p3 : Int32) (q4 : Int64) (q5 : Int64) (p6 : Int32) (h0 : Heap) (n0 : Nat) (Z0 : n0 ≤ h0.size) (E_ao0 : Exa Z h0 ao0 "com/example/hale_log/halelog/raft/Messages$Vote") (F_ao0_pre : Fld Z h0 ao0 "com/example/hale_log/halelog/raft/Messages$Vote" "pre" "Z" (.int (0 : Int32))) (F_ao0_term : Fld Z h0 ao0 "com/example/hale_log/halelog/raft/Messages$Vote" "term" "J" (.long (0 : Int64))) (F_ao0_candidate : Fld Z h0 ao0 "com/example/hale_log/halelog/raft/Messages$Vote" "candidate" "I" (.int (0 : Int32))) (F_ao0_lastIndex : Fld Z h0 ao0 "com/example/hale_log/halelog/raft/Messages$Vote" "lastIndex" "J" (.long (0 : Int64))) (F_ao0_lastTerm : Fld Z h0 ao0 "com/example/hale_log/halelog/raft/Messages$Vote" "lastTerm" "J" (.long (0 : Int64))) (F_ao0_askedBy : Fld Z h0 ao0 "com/example/hale_log/halelog/raft/Messages$Vote" "askedBy" "I" (.int (0 : Int32))) (g_ao0 : n0 ≤ ao0) :
    MetFree l (⟨"com/example/hale_log/halelog/raft/Messages$Vote", "<init>", "(ZJIJJI)V"⟩ : MethodName) (head1 (Jvm.Cond.code (⟨"com/example/hale_log/halelog/raft/Messages$Vote", "<init>", "(ZJIJJI)V"⟩ : MethodName) prog_33_method_1_code 10 none :: ws) ({ frames := 1, cells := 0, slots := 0, locals := 12 } : Room)) (fun a U => a = #[(.ref ao0), (.int p1), (.long q2), (.int p3), (.long q4), (.long q5), (.int p6)] ∧ Z.Warmed39 U.vm ∧ U.heap = h0) (fun _ _ _ _ _ => True) (fun _ U o U' => ∃ v L, o = .returned v ∧ (Q_rm1 Z ao0 p1 q2 p3 q4 q5 p6 h0 n0) v U'.heap L ∧ FrameEnd U o U' L ({ frames := 1, cells := 0, slots := 0, locals := 12 } : Room).cells ({ frames := 1, cells := 0, slots := 0, locals := 12 } : Room).slots) := by
  refine MetFree.of_bodySF (plainFor_of_name pn_rm1) hisR ?_
  intro p e s m args below meth c s₁ Bd hml0 hP hK
  obtain ⟨rfl, hZ, hh⟩ := hP
  have hx := Bd.exec
  have hby := Bd.bytes
  have hlk := BodyLoose.notSynchronized Bd
  have hret := Bd.returns
  have hml : c.maxLocals = 10 := hml0
  have hown : s.vm.findClass "com/example/hale_log/halelog/raft/Messages$Vote" = some m.cls := findClass_of_methodNamed Bd.named
  have hnm := (name_of_methodNamed Bd.named Bd.method).1
  have X0 : Stand p l e ({ frames := 1, cells := 0, slots := 0, locals := 12 } : Room) s m #[(.ref ao0), (.int p1), (.long q2), (.int p3), (.long q4), (.long q5), (.int p6)] below meth c s₁ [] 0 0 := Stand.of_body Bd
  have e0 : s₁.heap = h0 := by rw [← hh, Bd.state]; rfl
  have Nf := Fr.nil n0
  have Zs := Z0
  have Kp : Keep h0 h0 [ao0] := Keep.refl _ _
  show own_End p e below s (Q_rm1 Z ao0 p1 q2 p3 q4 q5 p6 h0 n0) ({ frames := 1, cells := 0, slots := 0, locals := 12 } : Room).cells ({ frames := 1, cells := 0, slots := 0, locals := 12 } : Room).slots (s₁.setTop (entryFrame m #[(.ref ao0), (.int p1), (.long q2), (.int p3), (.long q4), (.long q5), (.int p6)] 10))
  refine own_go (x' := s₁.setTop (mkF m 0 #[.val (.ref ao0), .val (.int p1), .val (.long q2), .second, .val (.int p3), .val (.long q4), .second, .val (.long q5), .second, .val (.int p6)] [])) (fun t k => castTop (ef_rm1 m ao0 p1 q2 p3 q4 q5 p6) k) ?_
  refine own_go (x' := s₁.setTop (mkF m 1 #[.val (.ref ao0), .val (.int p1), .val (.long q2), .second, .val (.int p3), .val (.long q4), .second, .val (.long q5), .second, .val (.int p6)] [(.ref ao0)])) (fun _ k => XS.aloadN X0.here hx rfl (hb hby d1_0) rfl rfl k) ?_
  obtain ⟨T1, X1, e1, st1⟩ := initO X0 hx hZ hown (own_w hw 6 rfl) (own_w hw 7 rfl) (own_w hw 8 rfl) e0 (g := (mkF m 1 #[.val (.ref ao0), .val (.int p1), .val (.long q2), .second, .val (.int p3), .val (.long q4), .second, .val (.long q5), .second, .val (.int p6)] [(.ref ao0)])) rfl (by rw [hml]; rfl) rfl (hb hby d1_1) (by decide) (W := 0) (by show 2 * 0 + _ ≤ _; exact Nat.le_of_eq rfl) (by decide)
  refine own_go (x' := T1.setTop (mkF m 4 #[.val (.ref ao0), .val (.int p1), .val (.long q2), .second, .val (.int p3), .val (.long q4), .second, .val (.long q5), .second, .val (.int p6)] [])) st1 ?_
  refine own_go (x' := T1.setTop (mkF m 6 #[.val (.ref ao0), .val (.int p1), .val (.long q2), .second, .val (.int p3), .val (.long q4), .second, .val (.long q5), .second, .val (.int p6)] [(.int p1), (.ref ao0)])) (fun _ k => XS.aloadN X1.here hx rfl (hb hby d1_4) rfl rfl (XS.iloadN X1.here hx rfl (hb hby d1_5) rfl k)) ?_
  obtain ⟨T2, h2, X2, e2, W2, st2⟩ := putFN X1 hx hZ hown (own_w hw 9 rfl) Via.refl e1 F_ao0_pre E_ao0 (Or.inr ⟨(own_w hw 10 rfl), rfl, hnm⟩) (own_w hw 1 rfl) (ty := .boolean) (v' := (.int (nar .boolean p1))) (by decide) rfl (fits_nar_bool _) (g := (mkF m 6 #[.val (.ref ao0), .val (.int p1), .val (.long q2), .second, .val (.int p3), .val (.long q4), .second, .val (.long q5), .second, .val (.int p6)] [(.int p1), (.ref ao0)])) rfl rfl (hb hby d1_6)
  refine own_go (x' := T2.setTop (mkF m 9 #[.val (.ref ao0), .val (.int p1), .val (.long q2), .second, .val (.int p3), .val (.long q4), .second, .val (.long q5), .second, .val (.int p6)] [])) st2 ?_
  replace E_ao0 := Exa.wr W2 E_ao0
  replace F_ao0_pre := Fld.same W2 F_ao0_pre
  replace F_ao0_term := Fld.other W2 F_ao0_term (Or.inr (slot_ne (Or.inr (own_w hw 12 rfl)) (Or.inr (own_w hw 10 rfl)) (by decide) (t := .long) (t' := .boolean) (by decide) (by decide)))
  replace F_ao0_candidate := Fld.other W2 F_ao0_candidate (Or.inr (slot_ne (Or.inr (own_w hw 14 rfl)) (Or.inr (own_w hw 10 rfl)) (by decide) (t := .int) (t' := .boolean) (by decide) (by decide)))
  replace F_ao0_lastIndex := Fld.other W2 F_ao0_lastIndex (Or.inr (slot_ne (Or.inr (own_w hw 16 rfl)) (Or.inr (own_w hw 10 rfl)) (by decide) (t := .long) (t' := .boolean) (by decide) (by decide)))
  replace F_ao0_lastTerm := Fld.other W2 F_ao0_lastTerm (Or.inr (slot_ne (Or.inr (own_w hw 18 rfl)) (Or.inr (own_w hw 10 rfl)) (by decide) (t := .long) (t' := .boolean) (by decide) (by decide)))
  replace F_ao0_askedBy := Fld.other W2 F_ao0_askedBy (Or.inr (slot_ne (Or.inr (own_w hw 20 rfl)) (Or.inr (own_w hw 10 rfl)) (by decide) (t := .int) (t' := .boolean) (by decide) (by decide)))
  replace Zs := Nat.le_trans Zs (Keep.of_wr W2).1
  replace Nf := Fr.snoc X2 Nf g_ao0
  replace Kp := Kp.wr W2 (Or.inl (by simp))
  refine own_go (x' := T2.setTop (mkF m 11 #[.val (.ref ao0), .val (.int p1), .val (.long q2), .second, .val (.int p3), .val (.long q4), .second, .val (.long q5), .second, .val (.int p6)] [(.long q2), (.ref ao0)])) (fun _ k => XS.aloadN X2.here hx rfl (hb hby d1_9) rfl rfl (XS.lloadN X2.here hx rfl (hb hby d1_10) rfl k)) ?_
  obtain ⟨T3, h3, X3, e3, W3, st3⟩ := putF X2 hx hZ hown (host := "") (Or.inl (own_w hw 11 rfl)) Via.refl e2 F_ao0_term E_ao0 (Or.inr ⟨(own_w hw 12 rfl), rfl, hnm⟩) (own_w hw 1 rfl) (ty := .long) (by decide) rfl rfl (g := (mkF m 11 #[.val (.ref ao0), .val (.int p1), .val (.long q2), .second, .val (.int p3), .val (.long q4), .second, .val (.long q5), .second, .val (.int p6)] [(.long q2), (.ref ao0)])) rfl rfl (hb hby d1_11)
  refine own_go (x' := T3.setTop (mkF m 14 #[.val (.ref ao0), .val (.int p1), .val (.long q2), .second, .val (.int p3), .val (.long q4), .second, .val (.long q5), .second, .val (.int p6)] [])) st3 ?_
  replace E_ao0 := Exa.wr W3 E_ao0
  replace F_ao0_pre := Fld.other W3 F_ao0_pre (Or.inr (slot_ne (Or.inr (own_w hw 10 rfl)) (Or.inr (own_w hw 12 rfl)) (by decide) (t := .boolean) (t' := .long) (by decide) (by decide)))
  replace F_ao0_term := Fld.same W3 F_ao0_term
  replace F_ao0_candidate := Fld.other W3 F_ao0_candidate (Or.inr (slot_ne (Or.inr (own_w hw 14 rfl)) (Or.inr (own_w hw 12 rfl)) (by decide) (t := .int) (t' := .long) (by decide) (by decide)))
  replace F_ao0_lastIndex := Fld.other W3 F_ao0_lastIndex (Or.inr (slot_ne (Or.inr (own_w hw 16 rfl)) (Or.inr (own_w hw 12 rfl)) (by decide) (t := .long) (t' := .long) (by decide) (by decide)))
  replace F_ao0_lastTerm := Fld.other W3 F_ao0_lastTerm (Or.inr (slot_ne (Or.inr (own_w hw 18 rfl)) (Or.inr (own_w hw 12 rfl)) (by decide) (t := .long) (t' := .long) (by decide) (by decide)))
  replace F_ao0_askedBy := Fld.other W3 F_ao0_askedBy (Or.inr (slot_ne (Or.inr (own_w hw 20 rfl)) (Or.inr (own_w hw 12 rfl)) (by decide) (t := .int) (t' := .long) (by decide) (by decide)))
  replace Zs := Nat.le_trans Zs (Keep.of_wr W3).1
  replace Nf := Fr.snoc X3 Nf g_ao0
  replace Kp := Kp.wr W3 (Or.inl (by simp))
  refine own_go (x' := T3.setTop (mkF m 17 #[.val (.ref ao0), .val (.int p1), .val (.long q2), .second, .val (.int p3), .val (.long q4), .second, .val (.long q5), .second, .val (.int p6)] [(.int p3), (.ref ao0)])) (fun _ k => XS.aloadN X3.here hx rfl (hb hby d1_14) rfl rfl (XS.iload X3.here hx rfl (hb hby d1_15) rfl k)) ?_
  obtain ⟨T4, h4, X4, e4, W4, st4⟩ := putF X3 hx hZ hown (host := "") (Or.inl (own_w hw 13 rfl)) Via.refl e3 F_ao0_candidate E_ao0 (Or.inr ⟨(own_w hw 14 rfl), rfl, hnm⟩) (own_w hw 1 rfl) (ty := .int) (by decide) rfl rfl (g := (mkF m 17 #[.val (.ref ao0), .val (.int p1), .val (.long q2), .second, .val (.int p3), .val (.long q4), .second, .val (.long q5), .second, .val (.int p6)] [(.int p3), (.ref ao0)])) rfl rfl (hb hby d1_17)
  refine own_go (x' := T4.setTop (mkF m 20 #[.val (.ref ao0), .val (.int p1), .val (.long q2), .second, .val (.int p3), .val (.long q4), .second, .val (.long q5), .second, .val (.int p6)] [])) st4 ?_
  replace E_ao0 := Exa.wr W4 E_ao0
  replace F_ao0_pre := Fld.other W4 F_ao0_pre (Or.inr (slot_ne (Or.inr (own_w hw 10 rfl)) (Or.inr (own_w hw 14 rfl)) (by decide) (t := .boolean) (t' := .int) (by decide) (by decide)))
  replace F_ao0_term := Fld.other W4 F_ao0_term (Or.inr (slot_ne (Or.inr (own_w hw 12 rfl)) (Or.inr (own_w hw 14 rfl)) (by decide) (t := .long) (t' := .int) (by decide) (by decide)))
  replace F_ao0_candidate := Fld.same W4 F_ao0_candidate
  replace F_ao0_lastIndex := Fld.other W4 F_ao0_lastIndex (Or.inr (slot_ne (Or.inr (own_w hw 16 rfl)) (Or.inr (own_w hw 14 rfl)) (by decide) (t := .long) (t' := .int) (by decide) (by decide)))
  replace F_ao0_lastTerm := Fld.other W4 F_ao0_lastTerm (Or.inr (slot_ne (Or.inr (own_w hw 18 rfl)) (Or.inr (own_w hw 14 rfl)) (by decide) (t := .long) (t' := .int) (by decide) (by decide)))
  replace F_ao0_askedBy := Fld.other W4 F_ao0_askedBy (Or.inr (slot_ne (Or.inr (own_w hw 20 rfl)) (Or.inr (own_w hw 14 rfl)) (by decide) (t := .int) (t' := .int) (by decide) (by decide)))
  replace Zs := Nat.le_trans Zs (Keep.of_wr W4).1
  replace Nf := Fr.snoc X4 Nf g_ao0
  replace Kp := Kp.wr W4 (Or.inl (by simp))
  refine own_go (x' := T4.setTop (mkF m 23 #[.val (.ref ao0), .val (.int p1), .val (.long q2), .second, .val (.int p3), .val (.long q4), .second, .val (.long q5), .second, .val (.int p6)] [(.long q4), (.ref ao0)])) (fun _ k => XS.aloadN X4.here hx rfl (hb hby d1_20) rfl rfl (XS.lload X4.here hx rfl (hb hby d1_21) rfl k)) ?_
  obtain ⟨T5, h5, X5, e5, W5, st5⟩ := putF X4 hx hZ hown (host := "") (Or.inl (own_w hw 15 rfl)) Via.refl e4 F_ao0_lastIndex E_ao0 (Or.inr ⟨(own_w hw 16 rfl), rfl, hnm⟩) (own_w hw 1 rfl) (ty := .long) (by decide) rfl rfl (g := (mkF m 23 #[.val (.ref ao0), .val (.int p1), .val (.long q2), .second, .val (.int p3), .val (.long q4), .second, .val (.long q5), .second, .val (.int p6)] [(.long q4), (.ref ao0)])) rfl rfl (hb hby d1_23)
  refine own_go (x' := T5.setTop (mkF m 26 #[.val (.ref ao0), .val (.int p1), .val (.long q2), .second, .val (.int p3), .val (.long q4), .second, .val (.long q5), .second, .val (.int p6)] [])) st5 ?_
  replace E_ao0 := Exa.wr W5 E_ao0
  replace F_ao0_pre := Fld.other W5 F_ao0_pre (Or.inr (slot_ne (Or.inr (own_w hw 10 rfl)) (Or.inr (own_w hw 16 rfl)) (by decide) (t := .boolean) (t' := .long) (by decide) (by decide)))
  replace F_ao0_term := Fld.other W5 F_ao0_term (Or.inr (slot_ne (Or.inr (own_w hw 12 rfl)) (Or.inr (own_w hw 16 rfl)) (by decide) (t := .long) (t' := .long) (by decide) (by decide)))
  replace F_ao0_candidate := Fld.other W5 F_ao0_candidate (Or.inr (slot_ne (Or.inr (own_w hw 14 rfl)) (Or.inr (own_w hw 16 rfl)) (by decide) (t := .int) (t' := .long) (by decide) (by decide)))
  replace F_ao0_lastIndex := Fld.same W5 F_ao0_lastIndex
  replace F_ao0_lastTerm := Fld.other W5 F_ao0_lastTerm (Or.inr (slot_ne (Or.inr (own_w hw 18 rfl)) (Or.inr (own_w hw 16 rfl)) (by decide) (t := .long) (t' := .long) (by decide) (by decide)))
  replace F_ao0_askedBy := Fld.other W5 F_ao0_askedBy (Or.inr (slot_ne (Or.inr (own_w hw 20 rfl)) (Or.inr (own_w hw 16 rfl)) (by decide) (t := .int) (t' := .long) (by decide) (by decide)))
  replace Zs := Nat.le_trans Zs (Keep.of_wr W5).1
  replace Nf := Fr.snoc X5 Nf g_ao0
  replace Kp := Kp.wr W5 (Or.inl (by simp))
  refine own_go (x' := T5.setTop (mkF m 29 #[.val (.ref ao0), .val (.int p1), .val (.long q2), .second, .val (.int p3), .val (.long q4), .second, .val (.long q5), .second, .val (.int p6)] [(.long q5), (.ref ao0)])) (fun _ k => XS.aloadN X5.here hx rfl (hb hby d1_26) rfl rfl (XS.lload X5.here hx rfl (hb hby d1_27) rfl k)) ?_
  obtain ⟨T6, h6, X6, e6, W6, st6⟩ := putF X5 hx hZ hown (host := "") (Or.inl (own_w hw 17 rfl)) Via.refl e5 F_ao0_lastTerm E_ao0 (Or.inr ⟨(own_w hw 18 rfl), rfl, hnm⟩) (own_w hw 1 rfl) (ty := .long) (by decide) rfl rfl (g := (mkF m 29 #[.val (.ref ao0), .val (.int p1), .val (.long q2), .second, .val (.int p3), .val (.long q4), .second, .val (.long q5), .second, .val (.int p6)] [(.long q5), (.ref ao0)])) rfl rfl (hb hby d1_29)
  refine own_go (x' := T6.setTop (mkF m 32 #[.val (.ref ao0), .val (.int p1), .val (.long q2), .second, .val (.int p3), .val (.long q4), .second, .val (.long q5), .second, .val (.int p6)] [])) st6 ?_
  replace E_ao0 := Exa.wr W6 E_ao0
  replace F_ao0_pre := Fld.other W6 F_ao0_pre (Or.inr (slot_ne (Or.inr (own_w hw 10 rfl)) (Or.inr (own_w hw 18 rfl)) (by decide) (t := .boolean) (t' := .long) (by decide) (by decide)))
  replace F_ao0_term := Fld.other W6 F_ao0_term (Or.inr (slot_ne (Or.inr (own_w hw 12 rfl)) (Or.inr (own_w hw 18 rfl)) (by decide) (t := .long) (t' := .long) (by decide) (by decide)))
  replace F_ao0_candidate := Fld.other W6 F_ao0_candidate (Or.inr (slot_ne (Or.inr (own_w hw 14 rfl)) (Or.inr (own_w hw 18 rfl)) (by decide) (t := .int) (t' := .long) (by decide) (by decide)))
  replace F_ao0_lastIndex := Fld.other W6 F_ao0_lastIndex (Or.inr (slot_ne (Or.inr (own_w hw 16 rfl)) (Or.inr (own_w hw 18 rfl)) (by decide) (t := .long) (t' := .long) (by decide) (by decide)))
  replace F_ao0_lastTerm := Fld.same W6 F_ao0_lastTerm
  replace F_ao0_askedBy := Fld.other W6 F_ao0_askedBy (Or.inr (slot_ne (Or.inr (own_w hw 20 rfl)) (Or.inr (own_w hw 18 rfl)) (by decide) (t := .int) (t' := .long) (by decide) (by decide)))
  replace Zs := Nat.le_trans Zs (Keep.of_wr W6).1
  replace Nf := Fr.snoc X6 Nf g_ao0
  replace Kp := Kp.wr W6 (Or.inl (by simp))
  refine own_go (x' := T6.setTop (mkF m 35 #[.val (.ref ao0), .val (.int p1), .val (.long q2), .second, .val (.int p3), .val (.long q4), .second, .val (.long q5), .second, .val (.int p6)] [(.int p6), (.ref ao0)])) (fun _ k => XS.aloadN X6.here hx rfl (hb hby d1_32) rfl rfl (XS.iload X6.here hx rfl (hb hby d1_33) rfl k)) ?_
  obtain ⟨T7, h7, X7, e7, W7, st7⟩ := putF X6 hx hZ hown (host := "") (Or.inl (own_w hw 19 rfl)) Via.refl e6 F_ao0_askedBy E_ao0 (Or.inr ⟨(own_w hw 20 rfl), rfl, hnm⟩) (own_w hw 1 rfl) (ty := .int) (by decide) rfl rfl (g := (mkF m 35 #[.val (.ref ao0), .val (.int p1), .val (.long q2), .second, .val (.int p3), .val (.long q4), .second, .val (.long q5), .second, .val (.int p6)] [(.int p6), (.ref ao0)])) rfl rfl (hb hby d1_35)
  refine own_go (x' := T7.setTop (mkF m 38 #[.val (.ref ao0), .val (.int p1), .val (.long q2), .second, .val (.int p3), .val (.long q4), .second, .val (.long q5), .second, .val (.int p6)] [])) st7 ?_
  replace E_ao0 := Exa.wr W7 E_ao0
  replace F_ao0_pre := Fld.other W7 F_ao0_pre (Or.inr (slot_ne (Or.inr (own_w hw 10 rfl)) (Or.inr (own_w hw 20 rfl)) (by decide) (t := .boolean) (t' := .int) (by decide) (by decide)))
  replace F_ao0_term := Fld.other W7 F_ao0_term (Or.inr (slot_ne (Or.inr (own_w hw 12 rfl)) (Or.inr (own_w hw 20 rfl)) (by decide) (t := .long) (t' := .int) (by decide) (by decide)))
  replace F_ao0_candidate := Fld.other W7 F_ao0_candidate (Or.inr (slot_ne (Or.inr (own_w hw 14 rfl)) (Or.inr (own_w hw 20 rfl)) (by decide) (t := .int) (t' := .int) (by decide) (by decide)))
  replace F_ao0_lastIndex := Fld.other W7 F_ao0_lastIndex (Or.inr (slot_ne (Or.inr (own_w hw 16 rfl)) (Or.inr (own_w hw 20 rfl)) (by decide) (t := .long) (t' := .int) (by decide) (by decide)))
  replace F_ao0_lastTerm := Fld.other W7 F_ao0_lastTerm (Or.inr (slot_ne (Or.inr (own_w hw 18 rfl)) (Or.inr (own_w hw 20 rfl)) (by decide) (t := .long) (t' := .int) (by decide) (by decide)))
  replace F_ao0_askedBy := Fld.same W7 F_ao0_askedBy
  replace Zs := Nat.le_trans Zs (Keep.of_wr W7).1
  replace Nf := Fr.snoc X7 Nf g_ao0
  replace Kp := Kp.wr W7 (Or.inl (by simp))
  refine own_retV X7 hx hlk hret (hb hby d1_38) ?_ (by decide) (by decide)
  rw [e7]
  exact ⟨rfl, Nf, Kp, E_ao0, F_ao0_pre, F_ao0_term, F_ao0_candidate, F_ao0_lastIndex, F_ao0_lastTerm, F_ao0_askedBy⟩
def own_kind (p a : Int32) : Int32 := if p = 0 then 1 else if a = -1 then 5 else 7
theorem d3_0 : decode prog_33_method_4_code 0 = .ok (.aload_n 0, 1) := by decide +kernel
theorem d3_1 : decode prog_33_method_4_code 1 = .ok (.getfield 9, 3) := by decide +kernel
theorem d3_4 : decode prog_33_method_4_code 4 = .ok (.ifCond .ne 5, 3) := by decide +kernel
theorem d3_7 : decode prog_33_method_4_code 7 = .ok (.iconst 1, 1) := by decide +kernel
theorem d3_8 : decode prog_33_method_4_code 8 = .ok (.ireturn, 1) := by decide +kernel
theorem d3_9 : decode prog_33_method_4_code 9 = .ok (.aload_n 0, 1) := by decide +kernel
theorem d3_10 : decode prog_33_method_4_code 10 = .ok (.getfield 29, 3) := by decide +kernel
theorem d3_13 : decode prog_33_method_4_code 13 = .ok (.iconst (-1), 1) := by decide +kernel
theorem d3_14 : decode prog_33_method_4_code 14 = .ok (.if_icmp .ne 7, 3) := by decide +kernel
theorem d3_17 : decode prog_33_method_4_code 17 = .ok (.iconst 5, 1) := by decide +kernel
theorem d3_18 : decode prog_33_method_4_code 18 = .ok (.goto 5, 3) := by decide +kernel
theorem d3_21 : decode prog_33_method_4_code 21 = .ok (.bipush 7, 2) := by decide +kernel
theorem d3_23 : decode prog_33_method_4_code 23 = .ok (.ireturn, 1) := by decide +kernel
def Q_rm3 (Z : State) (ao0 : Addr) (u : Int32) (r : Int32) (h0 : Heap) (n0 : Nat) (v : Option Value) (h : Heap) (L : List Loc) : Prop := v = some (.int (own_kind u r)) ∧ Fr n0 L ∧ h = h0
theorem pn_rm3 : plainName "com/example/hale_log/halelog/raft/Messages$Vote" = true := by first | (simp [plainName, overriddenIn]; done) | decide +kernel
theorem ef_rm3 (m : MethodId) (x0 : Addr) : entryFrame m #[(.ref x0)] 1 = mkF m 0 #[.val (.ref x0)] [] := by first | (simp [entryFrame, mkF, argsToLocals, Value.category]; done) | rfl
set_option maxRecDepth 65536 in
set_option maxHeartbeats 40000000 in
theorem rm3 (l : Launch) (Z : State) (a0 : Array Value) (hw : ∀ d ∈ tables_1, d.before a0 Z = true) (ws : List Jvm.Cond) (ao0 : Addr) (u : Int32) (r : Int32) (h0 : Heap) (n0 : Nat) (Z0 : n0 ≤ h0.size) (F_ao0_pre : Fld Z h0 ao0 "com/example/hale_log/halelog/raft/Messages$Vote" "pre" "Z" (.int u)) (F_ao0_askedBy : Fld Z h0 ao0 "com/example/hale_log/halelog/raft/Messages$Vote" "askedBy" "I" (.int r)) :
    MetFree l (⟨"com/example/hale_log/halelog/raft/Messages$Vote", "kind", "()B"⟩ : MethodName) (head1 (Jvm.Cond.code (⟨"com/example/hale_log/halelog/raft/Messages$Vote", "kind", "()B"⟩ : MethodName) prog_33_method_4_code 1 (some .byte) :: ws) ({ frames := 0, cells := 0, slots := 0, locals := 0 } : Room)) (fun a U => a = #[(.ref ao0)] ∧ Z.Warmed39 U.vm ∧ U.heap = h0) (fun _ _ _ _ _ => True) (fun _ U o U' => ∃ v L, o = .returned v ∧ (Q_rm3 Z ao0 u r h0 n0) v U'.heap L ∧ FrameEnd U o U' L ({ frames := 0, cells := 0, slots := 0, locals := 0 } : Room).cells ({ frames := 0, cells := 0, slots := 0, locals := 0 } : Room).slots) := by
  refine MetFree.of_bodySF (plainFor_of_name pn_rm3) hisR ?_
  intro p e s m args below meth c s₁ Bd hml0 hP hK
  obtain ⟨rfl, hZ, hh⟩ := hP
  have hx := Bd.exec
  have hby := Bd.bytes
  have hlk := BodyLoose.notSynchronized Bd
  have hret := Bd.returns
  have hml : c.maxLocals = 1 := hml0
  have hown : s.vm.findClass "com/example/hale_log/halelog/raft/Messages$Vote" = some m.cls := findClass_of_methodNamed Bd.named
  have hnm := (name_of_methodNamed Bd.named Bd.method).1
  have X0 : Stand p l e ({ frames := 0, cells := 0, slots := 0, locals := 0 } : Room) s m #[(.ref ao0)] below meth c s₁ [] 0 0 := Stand.of_body Bd
  have e0 : s₁.heap = h0 := by rw [← hh, Bd.state]; rfl
  have Nf := Fr.nil n0
  have Zs := Z0
  have Kp : Keep h0 h0 [] := Keep.refl _ _
  show own_End p e below s (Q_rm3 Z ao0 u r h0 n0) ({ frames := 0, cells := 0, slots := 0, locals := 0 } : Room).cells ({ frames := 0, cells := 0, slots := 0, locals := 0 } : Room).slots (s₁.setTop (entryFrame m #[(.ref ao0)] 1))
  refine own_go (x' := s₁.setTop (mkF m 0 #[.val (.ref ao0)] [])) (fun t k => castTop (ef_rm3 m ao0) k) ?_
  refine own_go (x' := s₁.setTop (mkF m 1 #[.val (.ref ao0)] [(.ref ao0)])) (fun _ k => XS.aloadN X0.here hx rfl (hb hby d3_0) rfl rfl k) ?_
  obtain ⟨T1, X1, e1, st1⟩ := getF X0 hx hZ hown (host := "") (Or.inl (own_w hw 9 rfl)) Via.refl e0 F_ao0_pre (g := (mkF m 1 #[.val (.ref ao0)] [(.ref ao0)])) rfl rfl (hb hby d3_1)
  refine own_go (x' := T1.setTop (mkF m 4 #[.val (.ref ao0)] [(.int u)])) st1 ?_
  by_cases hc4 : u = (0 : Int32)
  · refine own_go (x' := T1.setTop (mkF m 8 #[.val (.ref ao0)] [(.int (1 : Int32))])) (fun _ k => XS.ifNo X1.here hx rfl (hb hby d3_4) rfl ((if0 _ _).trans (teq hc4).2) (XS.iconst X1.here hx rfl (hb hby d3_7) k)) ?_
    refine own_retN X1 hx hlk (t := .byte) hret (by simp) (hb hby d3_8) (w := (1 : Int32)) rfl ?_ (by decide) (by decide)
    rw [e1]
    exact ⟨by simp only [own_kind, if_pos hc4], Nf, rfl⟩
  · refine own_go (x' := T1.setTop (mkF m 10 #[.val (.ref ao0)] [(.ref ao0)])) (fun _ k => XS.ifYes X1.here hx rfl (pc0 := 4) (pc' := 9) rfl (hb hby d3_4) rfl ((if0 _ _).trans (feq hc4).2) (by decide) (by decide) (XS.aloadN X1.here hx rfl (hb hby d3_9) rfl rfl k)) ?_
    obtain ⟨T2, X2, e2, st2⟩ := getF X1 hx hZ hown (host := "") (Or.inl (own_w hw 19 rfl)) Via.refl e1 F_ao0_askedBy (g := (mkF m 10 #[.val (.ref ao0)] [(.ref ao0)])) rfl rfl (hb hby d3_10)
    refine own_go (x' := T2.setTop (mkF m 13 #[.val (.ref ao0)] [(.int r)])) st2 ?_
    refine own_go (x' := T2.setTop (mkF m 14 #[.val (.ref ao0)] [(.int (-1 : Int32)), (.int r)])) (fun _ k => XS.iconst X2.here hx rfl (hb hby d3_13) k) ?_
    by_cases hc14 : r = (-1 : Int32)
    · refine own_go (x' := T2.setTop (mkF m 23 #[.val (.ref ao0)] [(.int (5 : Int32))])) (fun _ k => XS.icmpNo X2.here hx rfl (hb hby d3_14) rfl (teq hc14).2 (XS.iconst X2.here hx rfl (hb hby d3_17) (XS.goto X2.here hx rfl (pc0 := 18) (pc' := 23) rfl (hb hby d3_18) (by decide) (by decide) k))) ?_
      refine own_retN X2 hx hlk (t := .byte) hret (by simp) (hb hby d3_23) (w := (5 : Int32)) rfl ?_ (by decide) (by decide)
      rw [e2]
      exact ⟨by simp only [own_kind, if_neg hc4, if_pos hc14], Nf, rfl⟩
    · refine own_go (x' := T2.setTop (mkF m 23 #[.val (.ref ao0)] [(.int (7 : Int32))])) (fun _ k => XS.icmpYes X2.here hx rfl (pc0 := 14) (pc' := 21) rfl (hb hby d3_14) rfl (feq hc14).2 (by decide) (by decide) (XS.bipush X2.here hx rfl (hb hby d3_21) k)) ?_
      refine own_retN X2 hx hlk (t := .byte) hret (by simp) (hb hby d3_23) (w := (7 : Int32)) rfl ?_ (by decide) (by decide)
      rw [e2]
      exact ⟨by simp only [own_kind, if_neg hc4, if_neg hc14], Nf, rfl⟩
theorem pd_0 : parseMethodDescriptor "(ZJIJJI)V" = some ⟨[.boolean, .long, .int, .long, .long, .int], none⟩ := by decide +kernel
theorem pd_1 : parseMethodDescriptor "()B" = some ⟨[], some .byte⟩ := by decide +kernel
def Q_rm0 (Z : State) (p0 : Int32) (q1 : Int64) (p2 : Int32) (q3 : Int64) (q4 : Int64) (p5 : Int32) (h0 : Heap) (n0 : Nat) (v : Option Value) (h : Heap) (L : List Loc) : Prop := v = some (.int 1) ∧ Fr n0 L
theorem pn_rm0 : plainName "com/example/hale_log/halelog/raft/VoteKindPinLaw" = true := by first | (simp [plainName, overriddenIn]; done) | decide +kernel
theorem ef_rm0 (m : MethodId) (x0 : Int32) (x1 : Int64) (x2 : Int32) (x3 : Int64) (x4 : Int64) (x5 : Int32) : entryFrame m #[(.int x0), (.long x1), (.int x2), (.long x3), (.long x4), (.int x5)] maxLocals = mkF m 0 #[.val (.int x0), .val (.long x1), .second, .val (.int x2), .val (.long x3), .second, .val (.long x4), .second, .val (.int x5), .unset, .unset, .unset, .unset, .unset, .unset] [] := by first | (simp [entryFrame, mkF, argsToLocals, Value.category, maxLocals]; done) | rfl
set_option maxRecDepth 65536 in
set_option maxHeartbeats 40000000 in
theorem rm0 (l : Launch) (Z : State) (a0 : Array Value) (hw : ∀ d ∈ tables_1, d.before a0 Z = true) (ws : List Jvm.Cond) (p0 : Int32) (q1 : Int64) (p2 : Int32) (q3 : Int64) (q4 : Int64) (p5 : Int32) (h0 : Heap) (n0 : Nat) (Z0 : n0 ≤ h0.size) :
    MetFree l x (head1 (Jvm.Cond.code x code maxLocals ret :: ws) room_1) (fun a U => a = #[(.int p0), (.long q1), (.int p2), (.long q3), (.long q4), (.int p5)] ∧ Z.Warmed39 U.vm ∧ U.heap = h0) (fun _ _ _ _ _ => True) (fun _ U o U' => ∃ v L, o = .returned v ∧ (Q_rm0 Z p0 q1 p2 q3 q4 p5 h0 n0) v U'.heap L ∧ FrameEnd U o U' L room_1.cells room_1.slots) := by
  refine MetFree.of_bodySF (plainFor_of_name pn_rm0) hisR ?_
  intro p e s m args below meth c s₁ Bd hml0 hP hK
  obtain ⟨rfl, hZ, hh⟩ := hP
  have hx := Bd.exec
  have hby := Bd.bytes
  have hlk := BodyLoose.notSynchronized Bd
  have hret := Bd.returns
  have hml : c.maxLocals = 15 := hml0
  have hown : s.vm.findClass "com/example/hale_log/halelog/raft/VoteKindPinLaw" = some m.cls := findClass_of_methodNamed Bd.named
  have hnm := (name_of_methodNamed Bd.named Bd.method).1
  have X0 : Stand p l e room_1 s m #[(.int p0), (.long q1), (.int p2), (.long q3), (.long q4), (.int p5)] below meth c s₁ [] 0 0 := Stand.of_body Bd
  have e0 : s₁.heap = h0 := by rw [← hh, Bd.state]; rfl
  have Nf := Fr.nil n0
  have Zs := Z0
  have Kp : Keep h0 h0 [] := Keep.refl _ _
  show own_End p e below s (Q_rm0 Z p0 q1 p2 q3 q4 p5 h0 n0) room_1.cells room_1.slots (s₁.setTop (entryFrame m #[(.int p0), (.long q1), (.int p2), (.long q3), (.long q4), (.int p5)] maxLocals))
  refine own_go (x' := s₁.setTop (mkF m 0 #[.val (.int p0), .val (.long q1), .second, .val (.int p2), .val (.long q3), .second, .val (.long q4), .second, .val (.int p5), .unset, .unset, .unset, .unset, .unset, .unset] [])) (fun t k => castTop (ef_rm0 m p0 q1 p2 q3 q4 p5) k) ?_
  refine own_go (x' := s₁.setTop (mkF m 3 #[.val (.int p0), .val (.long q1), .second, .val (.int p2), .val (.long q3), .second, .val (.long q4), .second, .val (.int p5), .unset, .unset, .unset, .unset, .unset, .unset] [(.int (p0 &&& (1 : Int32)))])) (fun _ k => XS.iloadN X0.here hx rfl (hb hby at_0) rfl (XS.iconst X0.here hx rfl (hb hby at_1) (XS.iand X0.here hx rfl (hb hby at_2) rfl k))) ?_
  by_cases hc3 : (p0 &&& (1 : Int32)) = (0 : Int32)
  · refine own_go (x' := s₁.setTop (mkF m 16 #[.val (.int p0), .val (.long q1), .second, .val (.int p2), .val (.long q3), .second, .val (.long q4), .second, .val (.int p5), .val (.int (0 : Int32)), .unset, .unset, .unset, .unset, .unset] [(.int (p0 &&& (2 : Int32)))])) (fun _ k => XS.ifYes X0.here hx rfl (pc0 := 3) (pc' := 10) rfl (hb hby at_3) rfl ((if0 _ _).trans (teq hc3).1) (by decide) (by decide) (XS.iconst X0.here hx rfl (hb hby at_10) (XS.istore X0.here hx rfl (hb hby at_11) rfl (l' := #[.val (.int p0), .val (.long q1), .second, .val (.int p2), .val (.long q3), .second, .val (.long q4), .second, .val (.int p5), .val (.int (0 : Int32)), .unset, .unset, .unset, .unset, .unset]) rfl (XS.iloadN X0.here hx rfl (hb hby at_13) rfl (XS.iconst X0.here hx rfl (hb hby at_14) (XS.iand X0.here hx rfl (hb hby at_15) rfl k)))))) ?_
    by_cases hc16 : (p0 &&& (2 : Int32)) = (0 : Int32)
    · refine own_go (x' := s₁.setTop (mkF m 27 #[.val (.int p0), .val (.long q1), .second, .val (.int p2), .val (.long q3), .second, .val (.long q4), .second, .val (.int p5), .val (.int (0 : Int32)), .val (.int p5), .unset, .unset, .unset, .unset] [])) (fun _ k => XS.ifYes X0.here hx rfl (pc0 := 16) (pc' := 23) rfl (hb hby at_16) rfl ((if0 _ _).trans (teq hc16).1) (by decide) (by decide) (XS.iload X0.here hx rfl (hb hby at_23) rfl (XS.istore X0.here hx rfl (hb hby at_25) rfl (l' := #[.val (.int p0), .val (.long q1), .second, .val (.int p2), .val (.long q3), .second, .val (.long q4), .second, .val (.int p5), .val (.int (0 : Int32)), .val (.int p5), .unset, .unset, .unset, .unset]) rfl k))) ?_
      obtain ⟨T1, h1, X1, e1, E1, A1, D1, -, st1⟩ := newO X0 hx hZ hown (own_w hw 0 rfl) (own_w hw 1 rfl) (own_w hw 2 rfl) e0 (g := (mkF m 27 #[.val (.int p0), .val (.long q1), .second, .val (.int p2), .val (.long q3), .second, .val (.long q4), .second, .val (.int p5), .val (.int (0 : Int32)), .val (.int p5), .unset, .unset, .unset, .unset] [])) rfl (hb hby at_27) (by decide) (by decide)
      obtain ⟨b1, g1⟩ : ∃ z, z = h0.size := ⟨_, rfl⟩
      rw [← g1] at A1 D1 st1
      have g_b1 : n0 ≤ b1 := Nat.le_trans Zs (Nat.le_of_eq g1.symm)
      replace Zs := Nat.le_trans Zs E1.1
      have E_b1 := A1
      have F_b1_pre : Fld Z h1 b1 "com/example/hale_log/halelog/raft/Messages$Vote" "pre" "Z" (.int (0 : Int32)) := D1 (Or.inr (own_w hw 10 rfl)) (ty := .boolean) (by decide)
      have F_b1_term : Fld Z h1 b1 "com/example/hale_log/halelog/raft/Messages$Vote" "term" "J" (.long (0 : Int64)) := D1 (Or.inr (own_w hw 12 rfl)) (ty := .long) (by decide)
      have F_b1_candidate : Fld Z h1 b1 "com/example/hale_log/halelog/raft/Messages$Vote" "candidate" "I" (.int (0 : Int32)) := D1 (Or.inr (own_w hw 14 rfl)) (ty := .int) (by decide)
      have F_b1_lastIndex : Fld Z h1 b1 "com/example/hale_log/halelog/raft/Messages$Vote" "lastIndex" "J" (.long (0 : Int64)) := D1 (Or.inr (own_w hw 16 rfl)) (ty := .long) (by decide)
      have F_b1_lastTerm : Fld Z h1 b1 "com/example/hale_log/halelog/raft/Messages$Vote" "lastTerm" "J" (.long (0 : Int64)) := D1 (Or.inr (own_w hw 18 rfl)) (ty := .long) (by decide)
      have F_b1_askedBy : Fld Z h1 b1 "com/example/hale_log/halelog/raft/Messages$Vote" "askedBy" "I" (.int (0 : Int32)) := D1 (Or.inr (own_w hw 20 rfl)) (ty := .int) (by decide)
      refine own_go (x' := T1.setTop (mkF m 30 #[.val (.int p0), .val (.long q1), .second, .val (.int p2), .val (.long q3), .second, .val (.long q4), .second, .val (.int p5), .val (.int (0 : Int32)), .val (.int p5), .unset, .unset, .unset, .unset] [(.ref b1)])) st1 ?_
      refine own_go (x' := T1.setTop (mkF m 39 #[.val (.int p0), .val (.long q1), .second, .val (.int p2), .val (.long q3), .second, .val (.long q4), .second, .val (.int p5), .val (.int (0 : Int32)), .val (.int p5), .unset, .unset, .unset, .unset] [(.long q4), (.long q3), (.int p2), (.long q1), (.int (0 : Int32)), (.ref b1), (.ref b1)])) (fun _ k => XS.dup X1.here hx rfl (hb hby at_30) rfl rfl (XS.iload X1.here hx rfl (hb hby at_31) rfl (XS.lloadN X1.here hx rfl (hb hby at_33) rfl (XS.iloadN X1.here hx rfl (hb hby at_34) rfl (XS.lload X1.here hx rfl (hb hby at_35) rfl (XS.lload X1.here hx rfl (hb hby at_37) rfl k)))))) ?_
      refine own_go (x' := T1.setTop (mkF m 41 #[.val (.int p0), .val (.long q1), .second, .val (.int p2), .val (.long q3), .second, .val (.long q4), .second, .val (.int p5), .val (.int (0 : Int32)), .val (.int p5), .unset, .unset, .unset, .unset] [(.int p5), (.long q4), (.long q3), (.int p2), (.long q1), (.int (0 : Int32)), (.ref b1), (.ref b1)])) (fun _ k => XS.iload X1.here hx rfl (hb hby at_39) rfl k) ?_
      obtain ⟨_, _, ⟨T2, L2, k2, n2⟩, -, X2, ⟨Lc2, hQ2, l2, y2, z2⟩, st2⟩ := X1.specialBack hx (y := (⟨"com/example/hale_log/halelog/raft/Messages$Vote", "<init>", "(ZJIJJI)V"⟩ : MethodName)) rfl hown (mvT hZ (own_w hw 3 rfl)) (mvT hZ (own_w hw 4 rfl)) (mvT hZ (own_w hw 5 rfl)) (by decide) (backOf (W := 1) (rm1 l Z a0 hw [] b1 (0 : Int32) q1 p2 q3 q4 p5 h1 n0 Zs E_b1 F_b1_pre F_b1_term F_b1_candidate F_b1_lastIndex F_b1_lastTerm F_b1_askedBy g_b1) hZ (own_w hw 5 rfl) (own_w hw 2 rfl) (by decide) (by decide)) (g := (mkF m 41 #[.val (.int p0), .val (.long q1), .second, .val (.int p2), .val (.long q3), .second, .val (.long q4), .second, .val (.int p5), .val (.int (0 : Int32)), .val (.int p5), .unset, .unset, .unset, .unset] [(.int p5), (.long q4), (.long q3), (.int p2), (.long q1), (.int (0 : Int32)), (.ref b1), (.ref b1)])) rfl (by rw [hml]; rfl) (Steps.refl _) (a := b1) (argsL := [(.int (0 : Int32)), (.long q1), (.int p2), (.long q3), (.long q4), (.int p5)]) (rest := [(.ref b1)]) (lenOf pd_0 rfl) rfl (by show 2 * 0 + _ ≤ _; exact Nat.le_of_eq rfl) (hb hby at_41) (fun _ _ => ⟨rfl, e1, (by decide : 1 + 0 ≤ _), (by decide : 6 + 0 ≤ _)⟩)
      dsimp only [Pt.U, Pt.locs, Pt.cells, Pt.slots] at X2 l2 y2 z2 st2 hQ2
      subst l2 y2 z2
      obtain ⟨hv2, Nq2, K2, Eo2, Fo2_0, Fo2_1, Fo2_2, Fo2_3, Fo2_4, Fo2_5⟩ := hQ2
      subst hv2
      replace Nf := Fr.app Nf Nq2
      replace Zs := Nat.le_trans Zs K2.1
      replace E_b1 := Eo2
      replace F_b1_pre := Fo2_0
      replace F_b1_term := Fo2_1
      replace F_b1_candidate := Fo2_2
      replace F_b1_lastIndex := Fo2_3
      replace F_b1_lastTerm := Fo2_4
      replace F_b1_askedBy := Fo2_5
      refine own_go (x' := T2.setTop (mkF m 44 #[.val (.int p0), .val (.long q1), .second, .val (.int p2), .val (.long q3), .second, .val (.long q4), .second, .val (.int p5), .val (.int (0 : Int32)), .val (.int p5), .unset, .unset, .unset, .unset] [(.ref b1)])) (fun _ k => st2.trans k) ?_
      refine own_go (x' := T2.setTop (mkF m 48 #[.val (.int p0), .val (.long q1), .second, .val (.int p2), .val (.long q3), .second, .val (.long q4), .second, .val (.int p5), .val (.int (0 : Int32)), .val (.int p5), .val (.ref b1), .unset, .unset, .unset] [(.ref b1)])) (fun _ k => XS.astore X2.here hx rfl (hb hby at_44) rfl rfl (l' := #[.val (.int p0), .val (.long q1), .second, .val (.int p2), .val (.long q3), .second, .val (.long q4), .second, .val (.int p5), .val (.int (0 : Int32)), .val (.int p5), .val (.ref b1), .unset, .unset, .unset]) rfl (XS.aload X2.here hx rfl (hb hby at_46) rfl rfl k)) ?_
      obtain ⟨cq3, kq3, q3a, q3b, q3c⟩ := isOf hZ rfl E_b1
      obtain ⟨_, _, ⟨T3, L3, k3, n3⟩, -, X3, ⟨Lc3, hQ3, l3, y3, z3⟩, st3⟩ := X2.virtualBack hx (y := (⟨"com/example/hale_log/halelog/raft/Messages$Vote", "kind", "()B"⟩ : MethodName)) (z := (⟨"com/example/hale_log/halelog/raft/Messages$Vote", "kind", "()B"⟩ : MethodName)) hown (mvT hZ (own_w hw 21 rfl)) (mvT hZ (own_w hw 22 rfl)) (notFace_of_selects (args := #[]) (mvT hZ (own_w hw 24 rfl))) (mvT hZ (own_w hw 24 rfl)) (mvT hZ (own_w hw 23 rfl)) (by decide) (backOf (W := 0) (rm3 l Z a0 hw [] b1 (nar .boolean (0 : Int32)) p5 T2.heap n0 Zs F_b1_pre F_b1_askedBy) hZ (own_w hw 25 rfl) (own_w hw 2 rfl) (by decide) (by decide)) q3a q3c (g := (mkF m 48 #[.val (.int p0), .val (.long q1), .second, .val (.int p2), .val (.long q3), .second, .val (.long q4), .second, .val (.int p5), .val (.int (0 : Int32)), .val (.int p5), .val (.ref b1), .unset, .unset, .unset] [(.ref b1)])) rfl (by rw [hml]; rfl) (Steps.refl _) (argsL := []) (rest := []) (lenOf pd_1 rfl) rfl (by show 2 * 0 + _ ≤ _; exact Nat.le_of_eq rfl) (hb hby at_48) (fun _ _ => ⟨rfl, rfl, (by decide : 1 + 0 ≤ _), (by decide : 6 + 0 ≤ _)⟩)
      dsimp only [Pt.U, Pt.locs, Pt.cells, Pt.slots] at X3 l3 y3 z3 st3 hQ3
      subst l3 y3 z3
      obtain ⟨hv3, Nq3, eq3⟩ := hQ3
      have hk3 : own_kind (nar .boolean (0 : Int32)) p5 = 1 := by rfl
      rw [hk3] at hv3
      subst hv3
      replace Nf := Fr.app Nf Nq3
      refine own_go (x' := T3.setTop (mkF m 51 #[.val (.int p0), .val (.long q1), .second, .val (.int p2), .val (.long q3), .second, .val (.long q4), .second, .val (.int p5), .val (.int (0 : Int32)), .val (.int p5), .val (.ref b1), .unset, .unset, .unset] [(.int (1 : Int32))])) (fun _ k => st3.trans k) ?_
      refine own_go (x' := T3.setTop (mkF m 80 #[.val (.int p0), .val (.long q1), .second, .val (.int p2), .val (.long q3), .second, .val (.long q4), .second, .val (.int p5), .val (.int (0 : Int32)), .val (.int p5), .val (.ref b1), .val (.int (1 : Int32)), .val (.int (1 : Int32)), .unset] [])) (fun _ k => XS.istore X3.here hx rfl (hb hby at_51) rfl (l' := #[.val (.int p0), .val (.long q1), .second, .val (.int p2), .val (.long q3), .second, .val (.long q4), .second, .val (.int p5), .val (.int (0 : Int32)), .val (.int p5), .val (.ref b1), .val (.int (1 : Int32)), .unset, .unset]) rfl (XS.iload X3.here hx rfl (hb hby at_53) rfl (XS.ifNo X3.here hx rfl (hb hby at_55) rfl ((if0 _ _).trans (teq rfl).2) (XS.iconst X3.here hx rfl (hb hby at_58) (XS.istore X3.here hx rfl (hb hby at_59) rfl (l' := #[.val (.int p0), .val (.long q1), .second, .val (.int p2), .val (.long q3), .second, .val (.long q4), .second, .val (.int p5), .val (.int (0 : Int32)), .val (.int p5), .val (.ref b1), .val (.int (1 : Int32)), .val (.int (1 : Int32)), .unset]) rfl (XS.goto X3.here hx rfl (pc0 := 61) (pc' := 80) rfl (hb hby at_61) (by decide) (by decide) k)))))) ?_
      refine own_go (x' := T3.setTop (mkF m 89 #[.val (.int p0), .val (.long q1), .second, .val (.int p2), .val (.long q3), .second, .val (.long q4), .second, .val (.int p5), .val (.int (0 : Int32)), .val (.int p5), .val (.ref b1), .val (.int (1 : Int32)), .val (.int (1 : Int32)), .unset] [])) (fun _ k => XS.iload X3.here hx rfl (hb hby at_80) rfl (XS.iload X3.here hx rfl (hb hby at_82) rfl (XS.icmpYes X3.here hx rfl (pc0 := 84) (pc' := 89) rfl (hb hby at_84) rfl (teq rfl).1 (by decide) (by decide) k))) ?_
      obtain ⟨T4, h4, X4, e4, E4, A4, D4, -, st4⟩ := newO X3 hx hZ hown (own_w hw 0 rfl) (own_w hw 1 rfl) (own_w hw 2 rfl) eq3 (g := (mkF m 89 #[.val (.int p0), .val (.long q1), .second, .val (.int p2), .val (.long q3), .second, .val (.long q4), .second, .val (.int p5), .val (.int (0 : Int32)), .val (.int p5), .val (.ref b1), .val (.int (1 : Int32)), .val (.int (1 : Int32)), .unset] [])) rfl (hb hby at_89) (by decide) (by decide)
      obtain ⟨b4, g4⟩ : ∃ z, z = T2.heap.size := ⟨_, rfl⟩
      rw [← g4] at A4 D4 st4
      have ne_b1_b4 : b1 ≠ b4 := Nat.ne_of_lt (Nat.lt_of_lt_of_le E_b1.lt (Nat.le_of_eq g4.symm))
      have g_b4 : n0 ≤ b4 := Nat.le_trans Zs (Nat.le_of_eq g4.symm)
      replace E_b1 := Exa.ext E4 E_b1
      replace F_b1_pre := Fld.ext E4 F_b1_pre
      replace F_b1_term := Fld.ext E4 F_b1_term
      replace F_b1_candidate := Fld.ext E4 F_b1_candidate
      replace F_b1_lastIndex := Fld.ext E4 F_b1_lastIndex
      replace F_b1_lastTerm := Fld.ext E4 F_b1_lastTerm
      replace F_b1_askedBy := Fld.ext E4 F_b1_askedBy
      replace Zs := Nat.le_trans Zs E4.1
      have E_b4 := A4
      have F_b4_pre : Fld Z h4 b4 "com/example/hale_log/halelog/raft/Messages$Vote" "pre" "Z" (.int (0 : Int32)) := D4 (Or.inr (own_w hw 10 rfl)) (ty := .boolean) (by decide)
      have F_b4_term : Fld Z h4 b4 "com/example/hale_log/halelog/raft/Messages$Vote" "term" "J" (.long (0 : Int64)) := D4 (Or.inr (own_w hw 12 rfl)) (ty := .long) (by decide)
      have F_b4_candidate : Fld Z h4 b4 "com/example/hale_log/halelog/raft/Messages$Vote" "candidate" "I" (.int (0 : Int32)) := D4 (Or.inr (own_w hw 14 rfl)) (ty := .int) (by decide)
      have F_b4_lastIndex : Fld Z h4 b4 "com/example/hale_log/halelog/raft/Messages$Vote" "lastIndex" "J" (.long (0 : Int64)) := D4 (Or.inr (own_w hw 16 rfl)) (ty := .long) (by decide)
      have F_b4_lastTerm : Fld Z h4 b4 "com/example/hale_log/halelog/raft/Messages$Vote" "lastTerm" "J" (.long (0 : Int64)) := D4 (Or.inr (own_w hw 18 rfl)) (ty := .long) (by decide)
      have F_b4_askedBy : Fld Z h4 b4 "com/example/hale_log/halelog/raft/Messages$Vote" "askedBy" "I" (.int (0 : Int32)) := D4 (Or.inr (own_w hw 20 rfl)) (ty := .int) (by decide)
      refine own_go (x' := T4.setTop (mkF m 92 #[.val (.int p0), .val (.long q1), .second, .val (.int p2), .val (.long q3), .second, .val (.long q4), .second, .val (.int p5), .val (.int (0 : Int32)), .val (.int p5), .val (.ref b1), .val (.int (1 : Int32)), .val (.int (1 : Int32)), .unset] [(.ref b4)])) st4 ?_
      refine own_go (x' := T4.setTop (mkF m 105 #[.val (.int p0), .val (.long q1), .second, .val (.int p2), .val (.long q3), .second, .val (.long q4), .second, .val (.int p5), .val (.int (0 : Int32)), .val (.int p5), .val (.ref b1), .val (.int (1 : Int32)), .val (.int (1 : Int32)), .unset] [(.long q1), (.int (0 : Int32)), (.ref b4), (.ref b4)])) (fun _ k => XS.dup X4.here hx rfl (hb hby at_92) rfl rfl (XS.iload X4.here hx rfl (hb hby at_93) rfl (XS.iconst X4.here hx rfl (hb hby at_95) (XS.icmpYes X4.here hx rfl (pc0 := 96) (pc' := 103) rfl (hb hby at_96) rfl (teq rfl).1 (by decide) (by decide) (XS.iconst X4.here hx rfl (hb hby at_103) (XS.lloadN X4.here hx rfl (hb hby at_104) rfl k)))))) ?_
      refine own_go (x' := T4.setTop (mkF m 122 #[.val (.int p0), .val (.long q1), .second, .val (.int p2), .val (.long q3), .second, .val (.long q4), .second, .val (.int p5), .val (.int (0 : Int32)), .val (.int p5), .val (.ref b1), .val (.int (1 : Int32)), .val (.int (1 : Int32)), .unset] [(.long q4), (.long q3), (.int p2), (.long q1), (.int (0 : Int32)), (.ref b4), (.ref b4)])) (fun _ k => XS.iloadN X4.here hx rfl (hb hby at_105) rfl (XS.lload X4.here hx rfl (hb hby at_106) rfl (XS.lload X4.here hx rfl (hb hby at_108) rfl (XS.iload X4.here hx rfl (hb hby at_110) rfl (XS.bipush X4.here hx rfl (hb hby at_112) (XS.icmpYes X4.here hx rfl (pc0 := 114) (pc' := 122) rfl (hb hby at_114) rfl (feq (by decide +kernel : ¬ ((1 : Int32) = (7 : Int32)))).2 (by decide) (by decide) k)))))) ?_
      refine own_go (x' := T4.setTop (mkF m 123 #[.val (.int p0), .val (.long q1), .second, .val (.int p2), .val (.long q3), .second, .val (.long q4), .second, .val (.int p5), .val (.int (0 : Int32)), .val (.int p5), .val (.ref b1), .val (.int (1 : Int32)), .val (.int (1 : Int32)), .unset] [(.int (-1 : Int32)), (.long q4), (.long q3), (.int p2), (.long q1), (.int (0 : Int32)), (.ref b4), (.ref b4)])) (fun _ k => XS.iconst X4.here hx rfl (hb hby at_122) k) ?_
      obtain ⟨_, _, ⟨T5, L5, k5, n5⟩, -, X5, ⟨Lc5, hQ5, l5, y5, z5⟩, st5⟩ := X4.specialBack hx (y := (⟨"com/example/hale_log/halelog/raft/Messages$Vote", "<init>", "(ZJIJJI)V"⟩ : MethodName)) rfl hown (mvT hZ (own_w hw 3 rfl)) (mvT hZ (own_w hw 4 rfl)) (mvT hZ (own_w hw 5 rfl)) (by decide) (backOf (W := 1) (rm1 l Z a0 hw [] b4 (0 : Int32) q1 p2 q3 q4 (-1 : Int32) h4 n0 Zs E_b4 F_b4_pre F_b4_term F_b4_candidate F_b4_lastIndex F_b4_lastTerm F_b4_askedBy g_b4) hZ (own_w hw 5 rfl) (own_w hw 2 rfl) (by decide) (by decide)) (g := (mkF m 123 #[.val (.int p0), .val (.long q1), .second, .val (.int p2), .val (.long q3), .second, .val (.long q4), .second, .val (.int p5), .val (.int (0 : Int32)), .val (.int p5), .val (.ref b1), .val (.int (1 : Int32)), .val (.int (1 : Int32)), .unset] [(.int (-1 : Int32)), (.long q4), (.long q3), (.int p2), (.long q1), (.int (0 : Int32)), (.ref b4), (.ref b4)])) rfl (by rw [hml]; rfl) (Steps.refl _) (a := b4) (argsL := [(.int (0 : Int32)), (.long q1), (.int p2), (.long q3), (.long q4), (.int (-1 : Int32))]) (rest := [(.ref b4)]) (lenOf pd_0 rfl) rfl (by show 2 * 0 + _ ≤ _; exact Nat.le_of_eq rfl) (hb hby at_123) (fun _ _ => ⟨rfl, e4, (by decide : 2 + 0 ≤ _), (by decide : 12 + 0 ≤ _)⟩)
      dsimp only [Pt.U, Pt.locs, Pt.cells, Pt.slots] at X5 l5 y5 z5 st5 hQ5
      subst l5 y5 z5
      obtain ⟨hv5, Nq5, K5, Eo5, Fo5_0, Fo5_1, Fo5_2, Fo5_3, Fo5_4, Fo5_5⟩ := hQ5
      subst hv5
      replace Nf := Fr.app Nf Nq5
      replace E_b1 := E_b1.keep K5
      replace F_b1_pre := F_b1_pre.keep K5 (ninS ne_b1_b4 nin0)
      replace F_b1_term := F_b1_term.keep K5 (ninS ne_b1_b4 nin0)
      replace F_b1_candidate := F_b1_candidate.keep K5 (ninS ne_b1_b4 nin0)
      replace F_b1_lastIndex := F_b1_lastIndex.keep K5 (ninS ne_b1_b4 nin0)
      replace F_b1_lastTerm := F_b1_lastTerm.keep K5 (ninS ne_b1_b4 nin0)
      replace F_b1_askedBy := F_b1_askedBy.keep K5 (ninS ne_b1_b4 nin0)
      replace Zs := Nat.le_trans Zs K5.1
      replace E_b4 := Eo5
      replace F_b4_pre := Fo5_0
      replace F_b4_term := Fo5_1
      replace F_b4_candidate := Fo5_2
      replace F_b4_lastIndex := Fo5_3
      replace F_b4_lastTerm := Fo5_4
      replace F_b4_askedBy := Fo5_5
      refine own_go (x' := T5.setTop (mkF m 126 #[.val (.int p0), .val (.long q1), .second, .val (.int p2), .val (.long q3), .second, .val (.long q4), .second, .val (.int p5), .val (.int (0 : Int32)), .val (.int p5), .val (.ref b1), .val (.int (1 : Int32)), .val (.int (1 : Int32)), .unset] [(.ref b4)])) (fun _ k => st5.trans k) ?_
      refine own_go (x' := T5.setTop (mkF m 130 #[.val (.int p0), .val (.long q1), .second, .val (.int p2), .val (.long q3), .second, .val (.long q4), .second, .val (.int p5), .val (.int (0 : Int32)), .val (.int p5), .val (.ref b1), .val (.int (1 : Int32)), .val (.int (1 : Int32)), .val (.ref b4)] [(.ref b4)])) (fun _ k => XS.astore X5.here hx rfl (hb hby at_126) rfl rfl (l' := #[.val (.int p0), .val (.long q1), .second, .val (.int p2), .val (.long q3), .second, .val (.long q4), .second, .val (.int p5), .val (.int (0 : Int32)), .val (.int p5), .val (.ref b1), .val (.int (1 : Int32)), .val (.int (1 : Int32)), .val (.ref b4)]) rfl (XS.aload X5.here hx rfl (hb hby at_128) rfl rfl k)) ?_
      obtain ⟨cq6, kq6, q6a, q6b, q6c⟩ := isOf hZ rfl E_b4
      obtain ⟨_, _, ⟨T6, L6, k6, n6⟩, -, X6, ⟨Lc6, hQ6, l6, y6, z6⟩, st6⟩ := X5.virtualBack hx (y := (⟨"com/example/hale_log/halelog/raft/Messages$Vote", "kind", "()B"⟩ : MethodName)) (z := (⟨"com/example/hale_log/halelog/raft/Messages$Vote", "kind", "()B"⟩ : MethodName)) hown (mvT hZ (own_w hw 21 rfl)) (mvT hZ (own_w hw 22 rfl)) (notFace_of_selects (args := #[]) (mvT hZ (own_w hw 24 rfl))) (mvT hZ (own_w hw 24 rfl)) (mvT hZ (own_w hw 23 rfl)) (by decide) (backOf (W := 0) (rm3 l Z a0 hw [] b4 (nar .boolean (0 : Int32)) (-1 : Int32) T5.heap n0 Zs F_b4_pre F_b4_askedBy) hZ (own_w hw 25 rfl) (own_w hw 2 rfl) (by decide) (by decide)) q6a q6c (g := (mkF m 130 #[.val (.int p0), .val (.long q1), .second, .val (.int p2), .val (.long q3), .second, .val (.long q4), .second, .val (.int p5), .val (.int (0 : Int32)), .val (.int p5), .val (.ref b1), .val (.int (1 : Int32)), .val (.int (1 : Int32)), .val (.ref b4)] [(.ref b4)])) rfl (by rw [hml]; rfl) (Steps.refl _) (argsL := []) (rest := []) (lenOf pd_1 rfl) rfl (by show 2 * 0 + _ ≤ _; exact Nat.le_of_eq rfl) (hb hby at_130) (fun _ _ => ⟨rfl, rfl, (by decide : 2 + 0 ≤ _), (by decide : 12 + 0 ≤ _)⟩)
      dsimp only [Pt.U, Pt.locs, Pt.cells, Pt.slots] at X6 l6 y6 z6 st6 hQ6
      subst l6 y6 z6
      obtain ⟨hv6, Nq6, eq6⟩ := hQ6
      have hk6 : own_kind (nar .boolean (0 : Int32)) (-1 : Int32) = 1 := by rfl
      rw [hk6] at hv6
      subst hv6
      replace Nf := Fr.app Nf Nq6
      refine own_go (x' := T6.setTop (mkF m 133 #[.val (.int p0), .val (.long q1), .second, .val (.int p2), .val (.long q3), .second, .val (.long q4), .second, .val (.int p5), .val (.int (0 : Int32)), .val (.int p5), .val (.ref b1), .val (.int (1 : Int32)), .val (.int (1 : Int32)), .val (.ref b4)] [(.int (1 : Int32))])) (fun _ k => st6.trans k) ?_
      refine own_go (x' := T6.setTop (mkF m 143 #[.val (.int p0), .val (.long q1), .second, .val (.int p2), .val (.long q3), .second, .val (.long q4), .second, .val (.int p5), .val (.int (0 : Int32)), .val (.int p5), .val (.ref b1), .val (.int (1 : Int32)), .val (.int (1 : Int32)), .val (.ref b4)] [(.int (1 : Int32))])) (fun _ k => XS.iload X6.here hx rfl (hb hby at_133) rfl (XS.icmpNo X6.here hx rfl (hb hby at_135) rfl (teq rfl).2 (XS.iconst X6.here hx rfl (hb hby at_138) (XS.goto X6.here hx rfl (pc0 := 139) (pc' := 143) rfl (hb hby at_139) (by decide) (by decide) k)))) ?_
      refine own_retN X6 hx hlk (t := .boolean) hret (by simp) (hb hby at_143) (w := (1 : Int32)) rfl ?_ (by decide) (by decide)
      rw [eq6]
      exact ⟨rfl, Nf⟩
    · refine own_go (x' := s₁.setTop (mkF m 27 #[.val (.int p0), .val (.long q1), .second, .val (.int p2), .val (.long q3), .second, .val (.long q4), .second, .val (.int p5), .val (.int (0 : Int32)), .val (.int (-1 : Int32)), .unset, .unset, .unset, .unset] [])) (fun _ k => XS.ifNo X0.here hx rfl (hb hby at_16) rfl ((if0 _ _).trans (feq hc16).1) (XS.iconst X0.here hx rfl (hb hby at_19) (XS.goto X0.here hx rfl (pc0 := 20) (pc' := 25) rfl (hb hby at_20) (by decide) (by decide) (XS.istore X0.here hx rfl (hb hby at_25) rfl (l' := #[.val (.int p0), .val (.long q1), .second, .val (.int p2), .val (.long q3), .second, .val (.long q4), .second, .val (.int p5), .val (.int (0 : Int32)), .val (.int (-1 : Int32)), .unset, .unset, .unset, .unset]) rfl k)))) ?_
      obtain ⟨T7, h7, X7, e7, E7, A7, D7, -, st7⟩ := newO X0 hx hZ hown (own_w hw 0 rfl) (own_w hw 1 rfl) (own_w hw 2 rfl) e0 (g := (mkF m 27 #[.val (.int p0), .val (.long q1), .second, .val (.int p2), .val (.long q3), .second, .val (.long q4), .second, .val (.int p5), .val (.int (0 : Int32)), .val (.int (-1 : Int32)), .unset, .unset, .unset, .unset] [])) rfl (hb hby at_27) (by decide) (by decide)
      obtain ⟨b7, g7⟩ : ∃ z, z = h0.size := ⟨_, rfl⟩
      rw [← g7] at A7 D7 st7
      have g_b7 : n0 ≤ b7 := Nat.le_trans Zs (Nat.le_of_eq g7.symm)
      replace Zs := Nat.le_trans Zs E7.1
      have E_b7 := A7
      have F_b7_pre : Fld Z h7 b7 "com/example/hale_log/halelog/raft/Messages$Vote" "pre" "Z" (.int (0 : Int32)) := D7 (Or.inr (own_w hw 10 rfl)) (ty := .boolean) (by decide)
      have F_b7_term : Fld Z h7 b7 "com/example/hale_log/halelog/raft/Messages$Vote" "term" "J" (.long (0 : Int64)) := D7 (Or.inr (own_w hw 12 rfl)) (ty := .long) (by decide)
      have F_b7_candidate : Fld Z h7 b7 "com/example/hale_log/halelog/raft/Messages$Vote" "candidate" "I" (.int (0 : Int32)) := D7 (Or.inr (own_w hw 14 rfl)) (ty := .int) (by decide)
      have F_b7_lastIndex : Fld Z h7 b7 "com/example/hale_log/halelog/raft/Messages$Vote" "lastIndex" "J" (.long (0 : Int64)) := D7 (Or.inr (own_w hw 16 rfl)) (ty := .long) (by decide)
      have F_b7_lastTerm : Fld Z h7 b7 "com/example/hale_log/halelog/raft/Messages$Vote" "lastTerm" "J" (.long (0 : Int64)) := D7 (Or.inr (own_w hw 18 rfl)) (ty := .long) (by decide)
      have F_b7_askedBy : Fld Z h7 b7 "com/example/hale_log/halelog/raft/Messages$Vote" "askedBy" "I" (.int (0 : Int32)) := D7 (Or.inr (own_w hw 20 rfl)) (ty := .int) (by decide)
      refine own_go (x' := T7.setTop (mkF m 30 #[.val (.int p0), .val (.long q1), .second, .val (.int p2), .val (.long q3), .second, .val (.long q4), .second, .val (.int p5), .val (.int (0 : Int32)), .val (.int (-1 : Int32)), .unset, .unset, .unset, .unset] [(.ref b7)])) st7 ?_
      refine own_go (x' := T7.setTop (mkF m 39 #[.val (.int p0), .val (.long q1), .second, .val (.int p2), .val (.long q3), .second, .val (.long q4), .second, .val (.int p5), .val (.int (0 : Int32)), .val (.int (-1 : Int32)), .unset, .unset, .unset, .unset] [(.long q4), (.long q3), (.int p2), (.long q1), (.int (0 : Int32)), (.ref b7), (.ref b7)])) (fun _ k => XS.dup X7.here hx rfl (hb hby at_30) rfl rfl (XS.iload X7.here hx rfl (hb hby at_31) rfl (XS.lloadN X7.here hx rfl (hb hby at_33) rfl (XS.iloadN X7.here hx rfl (hb hby at_34) rfl (XS.lload X7.here hx rfl (hb hby at_35) rfl (XS.lload X7.here hx rfl (hb hby at_37) rfl k)))))) ?_
      refine own_go (x' := T7.setTop (mkF m 41 #[.val (.int p0), .val (.long q1), .second, .val (.int p2), .val (.long q3), .second, .val (.long q4), .second, .val (.int p5), .val (.int (0 : Int32)), .val (.int (-1 : Int32)), .unset, .unset, .unset, .unset] [(.int (-1 : Int32)), (.long q4), (.long q3), (.int p2), (.long q1), (.int (0 : Int32)), (.ref b7), (.ref b7)])) (fun _ k => XS.iload X7.here hx rfl (hb hby at_39) rfl k) ?_
      obtain ⟨_, _, ⟨T8, L8, k8, n8⟩, -, X8, ⟨Lc8, hQ8, l8, y8, z8⟩, st8⟩ := X7.specialBack hx (y := (⟨"com/example/hale_log/halelog/raft/Messages$Vote", "<init>", "(ZJIJJI)V"⟩ : MethodName)) rfl hown (mvT hZ (own_w hw 3 rfl)) (mvT hZ (own_w hw 4 rfl)) (mvT hZ (own_w hw 5 rfl)) (by decide) (backOf (W := 1) (rm1 l Z a0 hw [] b7 (0 : Int32) q1 p2 q3 q4 (-1 : Int32) h7 n0 Zs E_b7 F_b7_pre F_b7_term F_b7_candidate F_b7_lastIndex F_b7_lastTerm F_b7_askedBy g_b7) hZ (own_w hw 5 rfl) (own_w hw 2 rfl) (by decide) (by decide)) (g := (mkF m 41 #[.val (.int p0), .val (.long q1), .second, .val (.int p2), .val (.long q3), .second, .val (.long q4), .second, .val (.int p5), .val (.int (0 : Int32)), .val (.int (-1 : Int32)), .unset, .unset, .unset, .unset] [(.int (-1 : Int32)), (.long q4), (.long q3), (.int p2), (.long q1), (.int (0 : Int32)), (.ref b7), (.ref b7)])) rfl (by rw [hml]; rfl) (Steps.refl _) (a := b7) (argsL := [(.int (0 : Int32)), (.long q1), (.int p2), (.long q3), (.long q4), (.int (-1 : Int32))]) (rest := [(.ref b7)]) (lenOf pd_0 rfl) rfl (by show 2 * 0 + _ ≤ _; exact Nat.le_of_eq rfl) (hb hby at_41) (fun _ _ => ⟨rfl, e7, (by decide : 1 + 0 ≤ _), (by decide : 6 + 0 ≤ _)⟩)
      dsimp only [Pt.U, Pt.locs, Pt.cells, Pt.slots] at X8 l8 y8 z8 st8 hQ8
      subst l8 y8 z8
      obtain ⟨hv8, Nq8, K8, Eo8, Fo8_0, Fo8_1, Fo8_2, Fo8_3, Fo8_4, Fo8_5⟩ := hQ8
      subst hv8
      replace Nf := Fr.app Nf Nq8
      replace Zs := Nat.le_trans Zs K8.1
      replace E_b7 := Eo8
      replace F_b7_pre := Fo8_0
      replace F_b7_term := Fo8_1
      replace F_b7_candidate := Fo8_2
      replace F_b7_lastIndex := Fo8_3
      replace F_b7_lastTerm := Fo8_4
      replace F_b7_askedBy := Fo8_5
      refine own_go (x' := T8.setTop (mkF m 44 #[.val (.int p0), .val (.long q1), .second, .val (.int p2), .val (.long q3), .second, .val (.long q4), .second, .val (.int p5), .val (.int (0 : Int32)), .val (.int (-1 : Int32)), .unset, .unset, .unset, .unset] [(.ref b7)])) (fun _ k => st8.trans k) ?_
      refine own_go (x' := T8.setTop (mkF m 48 #[.val (.int p0), .val (.long q1), .second, .val (.int p2), .val (.long q3), .second, .val (.long q4), .second, .val (.int p5), .val (.int (0 : Int32)), .val (.int (-1 : Int32)), .val (.ref b7), .unset, .unset, .unset] [(.ref b7)])) (fun _ k => XS.astore X8.here hx rfl (hb hby at_44) rfl rfl (l' := #[.val (.int p0), .val (.long q1), .second, .val (.int p2), .val (.long q3), .second, .val (.long q4), .second, .val (.int p5), .val (.int (0 : Int32)), .val (.int (-1 : Int32)), .val (.ref b7), .unset, .unset, .unset]) rfl (XS.aload X8.here hx rfl (hb hby at_46) rfl rfl k)) ?_
      obtain ⟨cq9, kq9, q9a, q9b, q9c⟩ := isOf hZ rfl E_b7
      obtain ⟨_, _, ⟨T9, L9, k9, n9⟩, -, X9, ⟨Lc9, hQ9, l9, y9, z9⟩, st9⟩ := X8.virtualBack hx (y := (⟨"com/example/hale_log/halelog/raft/Messages$Vote", "kind", "()B"⟩ : MethodName)) (z := (⟨"com/example/hale_log/halelog/raft/Messages$Vote", "kind", "()B"⟩ : MethodName)) hown (mvT hZ (own_w hw 21 rfl)) (mvT hZ (own_w hw 22 rfl)) (notFace_of_selects (args := #[]) (mvT hZ (own_w hw 24 rfl))) (mvT hZ (own_w hw 24 rfl)) (mvT hZ (own_w hw 23 rfl)) (by decide) (backOf (W := 0) (rm3 l Z a0 hw [] b7 (nar .boolean (0 : Int32)) (-1 : Int32) T8.heap n0 Zs F_b7_pre F_b7_askedBy) hZ (own_w hw 25 rfl) (own_w hw 2 rfl) (by decide) (by decide)) q9a q9c (g := (mkF m 48 #[.val (.int p0), .val (.long q1), .second, .val (.int p2), .val (.long q3), .second, .val (.long q4), .second, .val (.int p5), .val (.int (0 : Int32)), .val (.int (-1 : Int32)), .val (.ref b7), .unset, .unset, .unset] [(.ref b7)])) rfl (by rw [hml]; rfl) (Steps.refl _) (argsL := []) (rest := []) (lenOf pd_1 rfl) rfl (by show 2 * 0 + _ ≤ _; exact Nat.le_of_eq rfl) (hb hby at_48) (fun _ _ => ⟨rfl, rfl, (by decide : 1 + 0 ≤ _), (by decide : 6 + 0 ≤ _)⟩)
      dsimp only [Pt.U, Pt.locs, Pt.cells, Pt.slots] at X9 l9 y9 z9 st9 hQ9
      subst l9 y9 z9
      obtain ⟨hv9, Nq9, eq9⟩ := hQ9
      have hk9 : own_kind (nar .boolean (0 : Int32)) (-1 : Int32) = 1 := by rfl
      rw [hk9] at hv9
      subst hv9
      replace Nf := Fr.app Nf Nq9
      refine own_go (x' := T9.setTop (mkF m 51 #[.val (.int p0), .val (.long q1), .second, .val (.int p2), .val (.long q3), .second, .val (.long q4), .second, .val (.int p5), .val (.int (0 : Int32)), .val (.int (-1 : Int32)), .val (.ref b7), .unset, .unset, .unset] [(.int (1 : Int32))])) (fun _ k => st9.trans k) ?_
      refine own_go (x' := T9.setTop (mkF m 80 #[.val (.int p0), .val (.long q1), .second, .val (.int p2), .val (.long q3), .second, .val (.long q4), .second, .val (.int p5), .val (.int (0 : Int32)), .val (.int (-1 : Int32)), .val (.ref b7), .val (.int (1 : Int32)), .val (.int (1 : Int32)), .unset] [])) (fun _ k => XS.istore X9.here hx rfl (hb hby at_51) rfl (l' := #[.val (.int p0), .val (.long q1), .second, .val (.int p2), .val (.long q3), .second, .val (.long q4), .second, .val (.int p5), .val (.int (0 : Int32)), .val (.int (-1 : Int32)), .val (.ref b7), .val (.int (1 : Int32)), .unset, .unset]) rfl (XS.iload X9.here hx rfl (hb hby at_53) rfl (XS.ifNo X9.here hx rfl (hb hby at_55) rfl ((if0 _ _).trans (teq rfl).2) (XS.iconst X9.here hx rfl (hb hby at_58) (XS.istore X9.here hx rfl (hb hby at_59) rfl (l' := #[.val (.int p0), .val (.long q1), .second, .val (.int p2), .val (.long q3), .second, .val (.long q4), .second, .val (.int p5), .val (.int (0 : Int32)), .val (.int (-1 : Int32)), .val (.ref b7), .val (.int (1 : Int32)), .val (.int (1 : Int32)), .unset]) rfl (XS.goto X9.here hx rfl (pc0 := 61) (pc' := 80) rfl (hb hby at_61) (by decide) (by decide) k)))))) ?_
      refine own_go (x' := T9.setTop (mkF m 89 #[.val (.int p0), .val (.long q1), .second, .val (.int p2), .val (.long q3), .second, .val (.long q4), .second, .val (.int p5), .val (.int (0 : Int32)), .val (.int (-1 : Int32)), .val (.ref b7), .val (.int (1 : Int32)), .val (.int (1 : Int32)), .unset] [])) (fun _ k => XS.iload X9.here hx rfl (hb hby at_80) rfl (XS.iload X9.here hx rfl (hb hby at_82) rfl (XS.icmpYes X9.here hx rfl (pc0 := 84) (pc' := 89) rfl (hb hby at_84) rfl (teq rfl).1 (by decide) (by decide) k))) ?_
      obtain ⟨T10, h10, X10, e10, E10, A10, D10, -, st10⟩ := newO X9 hx hZ hown (own_w hw 0 rfl) (own_w hw 1 rfl) (own_w hw 2 rfl) eq9 (g := (mkF m 89 #[.val (.int p0), .val (.long q1), .second, .val (.int p2), .val (.long q3), .second, .val (.long q4), .second, .val (.int p5), .val (.int (0 : Int32)), .val (.int (-1 : Int32)), .val (.ref b7), .val (.int (1 : Int32)), .val (.int (1 : Int32)), .unset] [])) rfl (hb hby at_89) (by decide) (by decide)
      obtain ⟨b10, g10⟩ : ∃ z, z = T8.heap.size := ⟨_, rfl⟩
      rw [← g10] at A10 D10 st10
      have ne_b7_b10 : b7 ≠ b10 := Nat.ne_of_lt (Nat.lt_of_lt_of_le E_b7.lt (Nat.le_of_eq g10.symm))
      have g_b10 : n0 ≤ b10 := Nat.le_trans Zs (Nat.le_of_eq g10.symm)
      replace E_b7 := Exa.ext E10 E_b7
      replace F_b7_pre := Fld.ext E10 F_b7_pre
      replace F_b7_term := Fld.ext E10 F_b7_term
      replace F_b7_candidate := Fld.ext E10 F_b7_candidate
      replace F_b7_lastIndex := Fld.ext E10 F_b7_lastIndex
      replace F_b7_lastTerm := Fld.ext E10 F_b7_lastTerm
      replace F_b7_askedBy := Fld.ext E10 F_b7_askedBy
      replace Zs := Nat.le_trans Zs E10.1
      have E_b10 := A10
      have F_b10_pre : Fld Z h10 b10 "com/example/hale_log/halelog/raft/Messages$Vote" "pre" "Z" (.int (0 : Int32)) := D10 (Or.inr (own_w hw 10 rfl)) (ty := .boolean) (by decide)
      have F_b10_term : Fld Z h10 b10 "com/example/hale_log/halelog/raft/Messages$Vote" "term" "J" (.long (0 : Int64)) := D10 (Or.inr (own_w hw 12 rfl)) (ty := .long) (by decide)
      have F_b10_candidate : Fld Z h10 b10 "com/example/hale_log/halelog/raft/Messages$Vote" "candidate" "I" (.int (0 : Int32)) := D10 (Or.inr (own_w hw 14 rfl)) (ty := .int) (by decide)
      have F_b10_lastIndex : Fld Z h10 b10 "com/example/hale_log/halelog/raft/Messages$Vote" "lastIndex" "J" (.long (0 : Int64)) := D10 (Or.inr (own_w hw 16 rfl)) (ty := .long) (by decide)
      have F_b10_lastTerm : Fld Z h10 b10 "com/example/hale_log/halelog/raft/Messages$Vote" "lastTerm" "J" (.long (0 : Int64)) := D10 (Or.inr (own_w hw 18 rfl)) (ty := .long) (by decide)
      have F_b10_askedBy : Fld Z h10 b10 "com/example/hale_log/halelog/raft/Messages$Vote" "askedBy" "I" (.int (0 : Int32)) := D10 (Or.inr (own_w hw 20 rfl)) (ty := .int) (by decide)
      refine own_go (x' := T10.setTop (mkF m 92 #[.val (.int p0), .val (.long q1), .second, .val (.int p2), .val (.long q3), .second, .val (.long q4), .second, .val (.int p5), .val (.int (0 : Int32)), .val (.int (-1 : Int32)), .val (.ref b7), .val (.int (1 : Int32)), .val (.int (1 : Int32)), .unset] [(.ref b10)])) st10 ?_
      refine own_go (x' := T10.setTop (mkF m 105 #[.val (.int p0), .val (.long q1), .second, .val (.int p2), .val (.long q3), .second, .val (.long q4), .second, .val (.int p5), .val (.int (0 : Int32)), .val (.int (-1 : Int32)), .val (.ref b7), .val (.int (1 : Int32)), .val (.int (1 : Int32)), .unset] [(.long q1), (.int (0 : Int32)), (.ref b10), (.ref b10)])) (fun _ k => XS.dup X10.here hx rfl (hb hby at_92) rfl rfl (XS.iload X10.here hx rfl (hb hby at_93) rfl (XS.iconst X10.here hx rfl (hb hby at_95) (XS.icmpYes X10.here hx rfl (pc0 := 96) (pc' := 103) rfl (hb hby at_96) rfl (teq rfl).1 (by decide) (by decide) (XS.iconst X10.here hx rfl (hb hby at_103) (XS.lloadN X10.here hx rfl (hb hby at_104) rfl k)))))) ?_
      refine own_go (x' := T10.setTop (mkF m 122 #[.val (.int p0), .val (.long q1), .second, .val (.int p2), .val (.long q3), .second, .val (.long q4), .second, .val (.int p5), .val (.int (0 : Int32)), .val (.int (-1 : Int32)), .val (.ref b7), .val (.int (1 : Int32)), .val (.int (1 : Int32)), .unset] [(.long q4), (.long q3), (.int p2), (.long q1), (.int (0 : Int32)), (.ref b10), (.ref b10)])) (fun _ k => XS.iloadN X10.here hx rfl (hb hby at_105) rfl (XS.lload X10.here hx rfl (hb hby at_106) rfl (XS.lload X10.here hx rfl (hb hby at_108) rfl (XS.iload X10.here hx rfl (hb hby at_110) rfl (XS.bipush X10.here hx rfl (hb hby at_112) (XS.icmpYes X10.here hx rfl (pc0 := 114) (pc' := 122) rfl (hb hby at_114) rfl (feq (by decide +kernel : ¬ ((1 : Int32) = (7 : Int32)))).2 (by decide) (by decide) k)))))) ?_
      refine own_go (x' := T10.setTop (mkF m 123 #[.val (.int p0), .val (.long q1), .second, .val (.int p2), .val (.long q3), .second, .val (.long q4), .second, .val (.int p5), .val (.int (0 : Int32)), .val (.int (-1 : Int32)), .val (.ref b7), .val (.int (1 : Int32)), .val (.int (1 : Int32)), .unset] [(.int (-1 : Int32)), (.long q4), (.long q3), (.int p2), (.long q1), (.int (0 : Int32)), (.ref b10), (.ref b10)])) (fun _ k => XS.iconst X10.here hx rfl (hb hby at_122) k) ?_
      obtain ⟨_, _, ⟨T11, L11, k11, n11⟩, -, X11, ⟨Lc11, hQ11, l11, y11, z11⟩, st11⟩ := X10.specialBack hx (y := (⟨"com/example/hale_log/halelog/raft/Messages$Vote", "<init>", "(ZJIJJI)V"⟩ : MethodName)) rfl hown (mvT hZ (own_w hw 3 rfl)) (mvT hZ (own_w hw 4 rfl)) (mvT hZ (own_w hw 5 rfl)) (by decide) (backOf (W := 1) (rm1 l Z a0 hw [] b10 (0 : Int32) q1 p2 q3 q4 (-1 : Int32) h10 n0 Zs E_b10 F_b10_pre F_b10_term F_b10_candidate F_b10_lastIndex F_b10_lastTerm F_b10_askedBy g_b10) hZ (own_w hw 5 rfl) (own_w hw 2 rfl) (by decide) (by decide)) (g := (mkF m 123 #[.val (.int p0), .val (.long q1), .second, .val (.int p2), .val (.long q3), .second, .val (.long q4), .second, .val (.int p5), .val (.int (0 : Int32)), .val (.int (-1 : Int32)), .val (.ref b7), .val (.int (1 : Int32)), .val (.int (1 : Int32)), .unset] [(.int (-1 : Int32)), (.long q4), (.long q3), (.int p2), (.long q1), (.int (0 : Int32)), (.ref b10), (.ref b10)])) rfl (by rw [hml]; rfl) (Steps.refl _) (a := b10) (argsL := [(.int (0 : Int32)), (.long q1), (.int p2), (.long q3), (.long q4), (.int (-1 : Int32))]) (rest := [(.ref b10)]) (lenOf pd_0 rfl) rfl (by show 2 * 0 + _ ≤ _; exact Nat.le_of_eq rfl) (hb hby at_123) (fun _ _ => ⟨rfl, e10, (by decide : 2 + 0 ≤ _), (by decide : 12 + 0 ≤ _)⟩)
      dsimp only [Pt.U, Pt.locs, Pt.cells, Pt.slots] at X11 l11 y11 z11 st11 hQ11
      subst l11 y11 z11
      obtain ⟨hv11, Nq11, K11, Eo11, Fo11_0, Fo11_1, Fo11_2, Fo11_3, Fo11_4, Fo11_5⟩ := hQ11
      subst hv11
      replace Nf := Fr.app Nf Nq11
      replace E_b7 := E_b7.keep K11
      replace F_b7_pre := F_b7_pre.keep K11 (ninS ne_b7_b10 nin0)
      replace F_b7_term := F_b7_term.keep K11 (ninS ne_b7_b10 nin0)
      replace F_b7_candidate := F_b7_candidate.keep K11 (ninS ne_b7_b10 nin0)
      replace F_b7_lastIndex := F_b7_lastIndex.keep K11 (ninS ne_b7_b10 nin0)
      replace F_b7_lastTerm := F_b7_lastTerm.keep K11 (ninS ne_b7_b10 nin0)
      replace F_b7_askedBy := F_b7_askedBy.keep K11 (ninS ne_b7_b10 nin0)
      replace Zs := Nat.le_trans Zs K11.1
      replace E_b10 := Eo11
      replace F_b10_pre := Fo11_0
      replace F_b10_term := Fo11_1
      replace F_b10_candidate := Fo11_2
      replace F_b10_lastIndex := Fo11_3
      replace F_b10_lastTerm := Fo11_4
      replace F_b10_askedBy := Fo11_5
      refine own_go (x' := T11.setTop (mkF m 126 #[.val (.int p0), .val (.long q1), .second, .val (.int p2), .val (.long q3), .second, .val (.long q4), .second, .val (.int p5), .val (.int (0 : Int32)), .val (.int (-1 : Int32)), .val (.ref b7), .val (.int (1 : Int32)), .val (.int (1 : Int32)), .unset] [(.ref b10)])) (fun _ k => st11.trans k) ?_
      refine own_go (x' := T11.setTop (mkF m 130 #[.val (.int p0), .val (.long q1), .second, .val (.int p2), .val (.long q3), .second, .val (.long q4), .second, .val (.int p5), .val (.int (0 : Int32)), .val (.int (-1 : Int32)), .val (.ref b7), .val (.int (1 : Int32)), .val (.int (1 : Int32)), .val (.ref b10)] [(.ref b10)])) (fun _ k => XS.astore X11.here hx rfl (hb hby at_126) rfl rfl (l' := #[.val (.int p0), .val (.long q1), .second, .val (.int p2), .val (.long q3), .second, .val (.long q4), .second, .val (.int p5), .val (.int (0 : Int32)), .val (.int (-1 : Int32)), .val (.ref b7), .val (.int (1 : Int32)), .val (.int (1 : Int32)), .val (.ref b10)]) rfl (XS.aload X11.here hx rfl (hb hby at_128) rfl rfl k)) ?_
      obtain ⟨cq12, kq12, q12a, q12b, q12c⟩ := isOf hZ rfl E_b10
      obtain ⟨_, _, ⟨T12, L12, k12, n12⟩, -, X12, ⟨Lc12, hQ12, l12, y12, z12⟩, st12⟩ := X11.virtualBack hx (y := (⟨"com/example/hale_log/halelog/raft/Messages$Vote", "kind", "()B"⟩ : MethodName)) (z := (⟨"com/example/hale_log/halelog/raft/Messages$Vote", "kind", "()B"⟩ : MethodName)) hown (mvT hZ (own_w hw 21 rfl)) (mvT hZ (own_w hw 22 rfl)) (notFace_of_selects (args := #[]) (mvT hZ (own_w hw 24 rfl))) (mvT hZ (own_w hw 24 rfl)) (mvT hZ (own_w hw 23 rfl)) (by decide) (backOf (W := 0) (rm3 l Z a0 hw [] b10 (nar .boolean (0 : Int32)) (-1 : Int32) T11.heap n0 Zs F_b10_pre F_b10_askedBy) hZ (own_w hw 25 rfl) (own_w hw 2 rfl) (by decide) (by decide)) q12a q12c (g := (mkF m 130 #[.val (.int p0), .val (.long q1), .second, .val (.int p2), .val (.long q3), .second, .val (.long q4), .second, .val (.int p5), .val (.int (0 : Int32)), .val (.int (-1 : Int32)), .val (.ref b7), .val (.int (1 : Int32)), .val (.int (1 : Int32)), .val (.ref b10)] [(.ref b10)])) rfl (by rw [hml]; rfl) (Steps.refl _) (argsL := []) (rest := []) (lenOf pd_1 rfl) rfl (by show 2 * 0 + _ ≤ _; exact Nat.le_of_eq rfl) (hb hby at_130) (fun _ _ => ⟨rfl, rfl, (by decide : 2 + 0 ≤ _), (by decide : 12 + 0 ≤ _)⟩)
      dsimp only [Pt.U, Pt.locs, Pt.cells, Pt.slots] at X12 l12 y12 z12 st12 hQ12
      subst l12 y12 z12
      obtain ⟨hv12, Nq12, eq12⟩ := hQ12
      have hk12 : own_kind (nar .boolean (0 : Int32)) (-1 : Int32) = 1 := by rfl
      rw [hk12] at hv12
      subst hv12
      replace Nf := Fr.app Nf Nq12
      refine own_go (x' := T12.setTop (mkF m 133 #[.val (.int p0), .val (.long q1), .second, .val (.int p2), .val (.long q3), .second, .val (.long q4), .second, .val (.int p5), .val (.int (0 : Int32)), .val (.int (-1 : Int32)), .val (.ref b7), .val (.int (1 : Int32)), .val (.int (1 : Int32)), .val (.ref b10)] [(.int (1 : Int32))])) (fun _ k => st12.trans k) ?_
      refine own_go (x' := T12.setTop (mkF m 143 #[.val (.int p0), .val (.long q1), .second, .val (.int p2), .val (.long q3), .second, .val (.long q4), .second, .val (.int p5), .val (.int (0 : Int32)), .val (.int (-1 : Int32)), .val (.ref b7), .val (.int (1 : Int32)), .val (.int (1 : Int32)), .val (.ref b10)] [(.int (1 : Int32))])) (fun _ k => XS.iload X12.here hx rfl (hb hby at_133) rfl (XS.icmpNo X12.here hx rfl (hb hby at_135) rfl (teq rfl).2 (XS.iconst X12.here hx rfl (hb hby at_138) (XS.goto X12.here hx rfl (pc0 := 139) (pc' := 143) rfl (hb hby at_139) (by decide) (by decide) k)))) ?_
      refine own_retN X12 hx hlk (t := .boolean) hret (by simp) (hb hby at_143) (w := (1 : Int32)) rfl ?_ (by decide) (by decide)
      rw [eq12]
      exact ⟨rfl, Nf⟩
  · refine own_go (x' := s₁.setTop (mkF m 15 #[.val (.int p0), .val (.long q1), .second, .val (.int p2), .val (.long q3), .second, .val (.long q4), .second, .val (.int p5), .val (.int (1 : Int32)), .unset, .unset, .unset, .unset, .unset] [(.int (2 : Int32)), (.int p0)])) (fun _ k => XS.ifNo X0.here hx rfl (hb hby at_3) rfl ((if0 _ _).trans (feq hc3).1) (XS.iconst X0.here hx rfl (hb hby at_6) (XS.goto X0.here hx rfl (pc0 := 7) (pc' := 11) rfl (hb hby at_7) (by decide) (by decide) (XS.istore X0.here hx rfl (hb hby at_11) rfl (l' := #[.val (.int p0), .val (.long q1), .second, .val (.int p2), .val (.long q3), .second, .val (.long q4), .second, .val (.int p5), .val (.int (1 : Int32)), .unset, .unset, .unset, .unset, .unset]) rfl (XS.iloadN X0.here hx rfl (hb hby at_13) rfl (XS.iconst X0.here hx rfl (hb hby at_14) k)))))) ?_
    refine own_go (x' := s₁.setTop (mkF m 16 #[.val (.int p0), .val (.long q1), .second, .val (.int p2), .val (.long q3), .second, .val (.long q4), .second, .val (.int p5), .val (.int (1 : Int32)), .unset, .unset, .unset, .unset, .unset] [(.int (p0 &&& (2 : Int32)))])) (fun _ k => XS.iand X0.here hx rfl (hb hby at_15) rfl k) ?_
    by_cases hc16 : (p0 &&& (2 : Int32)) = (0 : Int32)
    · refine own_go (x' := s₁.setTop (mkF m 27 #[.val (.int p0), .val (.long q1), .second, .val (.int p2), .val (.long q3), .second, .val (.long q4), .second, .val (.int p5), .val (.int (1 : Int32)), .val (.int p5), .unset, .unset, .unset, .unset] [])) (fun _ k => XS.ifYes X0.here hx rfl (pc0 := 16) (pc' := 23) rfl (hb hby at_16) rfl ((if0 _ _).trans (teq hc16).1) (by decide) (by decide) (XS.iload X0.here hx rfl (hb hby at_23) rfl (XS.istore X0.here hx rfl (hb hby at_25) rfl (l' := #[.val (.int p0), .val (.long q1), .second, .val (.int p2), .val (.long q3), .second, .val (.long q4), .second, .val (.int p5), .val (.int (1 : Int32)), .val (.int p5), .unset, .unset, .unset, .unset]) rfl k))) ?_
      by_cases ha : p5 = (-1 : Int32)
      · obtain ⟨T13, h13, X13, e13, E13, A13, D13, -, st13⟩ := newO X0 hx hZ hown (own_w hw 0 rfl) (own_w hw 1 rfl) (own_w hw 2 rfl) e0 (g := (mkF m 27 #[.val (.int p0), .val (.long q1), .second, .val (.int p2), .val (.long q3), .second, .val (.long q4), .second, .val (.int p5), .val (.int (1 : Int32)), .val (.int p5), .unset, .unset, .unset, .unset] [])) rfl (hb hby at_27) (by decide) (by decide)
        obtain ⟨b13, g13⟩ : ∃ z, z = h0.size := ⟨_, rfl⟩
        rw [← g13] at A13 D13 st13
        have g_b13 : n0 ≤ b13 := Nat.le_trans Zs (Nat.le_of_eq g13.symm)
        replace Zs := Nat.le_trans Zs E13.1
        have E_b13 := A13
        have F_b13_pre : Fld Z h13 b13 "com/example/hale_log/halelog/raft/Messages$Vote" "pre" "Z" (.int (0 : Int32)) := D13 (Or.inr (own_w hw 10 rfl)) (ty := .boolean) (by decide)
        have F_b13_term : Fld Z h13 b13 "com/example/hale_log/halelog/raft/Messages$Vote" "term" "J" (.long (0 : Int64)) := D13 (Or.inr (own_w hw 12 rfl)) (ty := .long) (by decide)
        have F_b13_candidate : Fld Z h13 b13 "com/example/hale_log/halelog/raft/Messages$Vote" "candidate" "I" (.int (0 : Int32)) := D13 (Or.inr (own_w hw 14 rfl)) (ty := .int) (by decide)
        have F_b13_lastIndex : Fld Z h13 b13 "com/example/hale_log/halelog/raft/Messages$Vote" "lastIndex" "J" (.long (0 : Int64)) := D13 (Or.inr (own_w hw 16 rfl)) (ty := .long) (by decide)
        have F_b13_lastTerm : Fld Z h13 b13 "com/example/hale_log/halelog/raft/Messages$Vote" "lastTerm" "J" (.long (0 : Int64)) := D13 (Or.inr (own_w hw 18 rfl)) (ty := .long) (by decide)
        have F_b13_askedBy : Fld Z h13 b13 "com/example/hale_log/halelog/raft/Messages$Vote" "askedBy" "I" (.int (0 : Int32)) := D13 (Or.inr (own_w hw 20 rfl)) (ty := .int) (by decide)
        refine own_go (x' := T13.setTop (mkF m 30 #[.val (.int p0), .val (.long q1), .second, .val (.int p2), .val (.long q3), .second, .val (.long q4), .second, .val (.int p5), .val (.int (1 : Int32)), .val (.int p5), .unset, .unset, .unset, .unset] [(.ref b13)])) st13 ?_
        refine own_go (x' := T13.setTop (mkF m 39 #[.val (.int p0), .val (.long q1), .second, .val (.int p2), .val (.long q3), .second, .val (.long q4), .second, .val (.int p5), .val (.int (1 : Int32)), .val (.int p5), .unset, .unset, .unset, .unset] [(.long q4), (.long q3), (.int p2), (.long q1), (.int (1 : Int32)), (.ref b13), (.ref b13)])) (fun _ k => XS.dup X13.here hx rfl (hb hby at_30) rfl rfl (XS.iload X13.here hx rfl (hb hby at_31) rfl (XS.lloadN X13.here hx rfl (hb hby at_33) rfl (XS.iloadN X13.here hx rfl (hb hby at_34) rfl (XS.lload X13.here hx rfl (hb hby at_35) rfl (XS.lload X13.here hx rfl (hb hby at_37) rfl k)))))) ?_
        refine own_go (x' := T13.setTop (mkF m 41 #[.val (.int p0), .val (.long q1), .second, .val (.int p2), .val (.long q3), .second, .val (.long q4), .second, .val (.int p5), .val (.int (1 : Int32)), .val (.int p5), .unset, .unset, .unset, .unset] [(.int p5), (.long q4), (.long q3), (.int p2), (.long q1), (.int (1 : Int32)), (.ref b13), (.ref b13)])) (fun _ k => XS.iload X13.here hx rfl (hb hby at_39) rfl k) ?_
        obtain ⟨_, _, ⟨T14, L14, k14, n14⟩, -, X14, ⟨Lc14, hQ14, l14, y14, z14⟩, st14⟩ := X13.specialBack hx (y := (⟨"com/example/hale_log/halelog/raft/Messages$Vote", "<init>", "(ZJIJJI)V"⟩ : MethodName)) rfl hown (mvT hZ (own_w hw 3 rfl)) (mvT hZ (own_w hw 4 rfl)) (mvT hZ (own_w hw 5 rfl)) (by decide) (backOf (W := 1) (rm1 l Z a0 hw [] b13 (1 : Int32) q1 p2 q3 q4 p5 h13 n0 Zs E_b13 F_b13_pre F_b13_term F_b13_candidate F_b13_lastIndex F_b13_lastTerm F_b13_askedBy g_b13) hZ (own_w hw 5 rfl) (own_w hw 2 rfl) (by decide) (by decide)) (g := (mkF m 41 #[.val (.int p0), .val (.long q1), .second, .val (.int p2), .val (.long q3), .second, .val (.long q4), .second, .val (.int p5), .val (.int (1 : Int32)), .val (.int p5), .unset, .unset, .unset, .unset] [(.int p5), (.long q4), (.long q3), (.int p2), (.long q1), (.int (1 : Int32)), (.ref b13), (.ref b13)])) rfl (by rw [hml]; rfl) (Steps.refl _) (a := b13) (argsL := [(.int (1 : Int32)), (.long q1), (.int p2), (.long q3), (.long q4), (.int p5)]) (rest := [(.ref b13)]) (lenOf pd_0 rfl) rfl (by show 2 * 0 + _ ≤ _; exact Nat.le_of_eq rfl) (hb hby at_41) (fun _ _ => ⟨rfl, e13, (by decide : 1 + 0 ≤ _), (by decide : 6 + 0 ≤ _)⟩)
        dsimp only [Pt.U, Pt.locs, Pt.cells, Pt.slots] at X14 l14 y14 z14 st14 hQ14
        subst l14 y14 z14
        obtain ⟨hv14, Nq14, K14, Eo14, Fo14_0, Fo14_1, Fo14_2, Fo14_3, Fo14_4, Fo14_5⟩ := hQ14
        subst hv14
        replace Nf := Fr.app Nf Nq14
        replace Zs := Nat.le_trans Zs K14.1
        replace E_b13 := Eo14
        replace F_b13_pre := Fo14_0
        replace F_b13_term := Fo14_1
        replace F_b13_candidate := Fo14_2
        replace F_b13_lastIndex := Fo14_3
        replace F_b13_lastTerm := Fo14_4
        replace F_b13_askedBy := Fo14_5
        refine own_go (x' := T14.setTop (mkF m 44 #[.val (.int p0), .val (.long q1), .second, .val (.int p2), .val (.long q3), .second, .val (.long q4), .second, .val (.int p5), .val (.int (1 : Int32)), .val (.int p5), .unset, .unset, .unset, .unset] [(.ref b13)])) (fun _ k => st14.trans k) ?_
        refine own_go (x' := T14.setTop (mkF m 48 #[.val (.int p0), .val (.long q1), .second, .val (.int p2), .val (.long q3), .second, .val (.long q4), .second, .val (.int p5), .val (.int (1 : Int32)), .val (.int p5), .val (.ref b13), .unset, .unset, .unset] [(.ref b13)])) (fun _ k => XS.astore X14.here hx rfl (hb hby at_44) rfl rfl (l' := #[.val (.int p0), .val (.long q1), .second, .val (.int p2), .val (.long q3), .second, .val (.long q4), .second, .val (.int p5), .val (.int (1 : Int32)), .val (.int p5), .val (.ref b13), .unset, .unset, .unset]) rfl (XS.aload X14.here hx rfl (hb hby at_46) rfl rfl k)) ?_
        obtain ⟨cq15, kq15, q15a, q15b, q15c⟩ := isOf hZ rfl E_b13
        obtain ⟨_, _, ⟨T15, L15, k15, n15⟩, -, X15, ⟨Lc15, hQ15, l15, y15, z15⟩, st15⟩ := X14.virtualBack hx (y := (⟨"com/example/hale_log/halelog/raft/Messages$Vote", "kind", "()B"⟩ : MethodName)) (z := (⟨"com/example/hale_log/halelog/raft/Messages$Vote", "kind", "()B"⟩ : MethodName)) hown (mvT hZ (own_w hw 21 rfl)) (mvT hZ (own_w hw 22 rfl)) (notFace_of_selects (args := #[]) (mvT hZ (own_w hw 24 rfl))) (mvT hZ (own_w hw 24 rfl)) (mvT hZ (own_w hw 23 rfl)) (by decide) (backOf (W := 0) (rm3 l Z a0 hw [] b13 (nar .boolean (1 : Int32)) p5 T14.heap n0 Zs F_b13_pre F_b13_askedBy) hZ (own_w hw 25 rfl) (own_w hw 2 rfl) (by decide) (by decide)) q15a q15c (g := (mkF m 48 #[.val (.int p0), .val (.long q1), .second, .val (.int p2), .val (.long q3), .second, .val (.long q4), .second, .val (.int p5), .val (.int (1 : Int32)), .val (.int p5), .val (.ref b13), .unset, .unset, .unset] [(.ref b13)])) rfl (by rw [hml]; rfl) (Steps.refl _) (argsL := []) (rest := []) (lenOf pd_1 rfl) rfl (by show 2 * 0 + _ ≤ _; exact Nat.le_of_eq rfl) (hb hby at_48) (fun _ _ => ⟨rfl, rfl, (by decide : 1 + 0 ≤ _), (by decide : 6 + 0 ≤ _)⟩)
        dsimp only [Pt.U, Pt.locs, Pt.cells, Pt.slots] at X15 l15 y15 z15 st15 hQ15
        subst l15 y15 z15
        obtain ⟨hv15, Nq15, eq15⟩ := hQ15
        have hk15 : own_kind (nar .boolean (1 : Int32)) p5 = 5 := by simp only [own_kind, if_pos ha]; rfl
        rw [hk15] at hv15
        subst hv15
        replace Nf := Fr.app Nf Nq15
        refine own_go (x' := T15.setTop (mkF m 51 #[.val (.int p0), .val (.long q1), .second, .val (.int p2), .val (.long q3), .second, .val (.long q4), .second, .val (.int p5), .val (.int (1 : Int32)), .val (.int p5), .val (.ref b13), .unset, .unset, .unset] [(.int (5 : Int32))])) (fun _ k => st15.trans k) ?_
        refine own_go (x' := T15.setTop (mkF m 70 #[.val (.int p0), .val (.long q1), .second, .val (.int p2), .val (.long q3), .second, .val (.long q4), .second, .val (.int p5), .val (.int (1 : Int32)), .val (.int p5), .val (.ref b13), .val (.int (5 : Int32)), .unset, .unset] [])) (fun _ k => XS.istore X15.here hx rfl (hb hby at_51) rfl (l' := #[.val (.int p0), .val (.long q1), .second, .val (.int p2), .val (.long q3), .second, .val (.long q4), .second, .val (.int p5), .val (.int (1 : Int32)), .val (.int p5), .val (.ref b13), .val (.int (5 : Int32)), .unset, .unset]) rfl (XS.iload X15.here hx rfl (hb hby at_53) rfl (XS.ifYes X15.here hx rfl (pc0 := 55) (pc' := 64) rfl (hb hby at_55) rfl ((if0 _ _).trans (feq (by decide +kernel : ¬ ((1 : Int32) = (0 : Int32)))).2) (by decide) (by decide) (XS.iload X15.here hx rfl (hb hby at_64) rfl (XS.iconst X15.here hx rfl (hb hby at_66) (XS.icmpNo X15.here hx rfl (hb hby at_67) rfl (teq ha).2 k)))))) ?_
        refine own_go (x' := T15.setTop (mkF m 89 #[.val (.int p0), .val (.long q1), .second, .val (.int p2), .val (.long q3), .second, .val (.long q4), .second, .val (.int p5), .val (.int (1 : Int32)), .val (.int p5), .val (.ref b13), .val (.int (5 : Int32)), .val (.int (5 : Int32)), .unset] [])) (fun _ k => XS.iconst X15.here hx rfl (hb hby at_70) (XS.istore X15.here hx rfl (hb hby at_71) rfl (l' := #[.val (.int p0), .val (.long q1), .second, .val (.int p2), .val (.long q3), .second, .val (.long q4), .second, .val (.int p5), .val (.int (1 : Int32)), .val (.int p5), .val (.ref b13), .val (.int (5 : Int32)), .val (.int (5 : Int32)), .unset]) rfl (XS.goto X15.here hx rfl (pc0 := 73) (pc' := 80) rfl (hb hby at_73) (by decide) (by decide) (XS.iload X15.here hx rfl (hb hby at_80) rfl (XS.iload X15.here hx rfl (hb hby at_82) rfl (XS.icmpYes X15.here hx rfl (pc0 := 84) (pc' := 89) rfl (hb hby at_84) rfl (teq rfl).1 (by decide) (by decide) k)))))) ?_
        obtain ⟨T16, h16, X16, e16, E16, A16, D16, -, st16⟩ := newO X15 hx hZ hown (own_w hw 0 rfl) (own_w hw 1 rfl) (own_w hw 2 rfl) eq15 (g := (mkF m 89 #[.val (.int p0), .val (.long q1), .second, .val (.int p2), .val (.long q3), .second, .val (.long q4), .second, .val (.int p5), .val (.int (1 : Int32)), .val (.int p5), .val (.ref b13), .val (.int (5 : Int32)), .val (.int (5 : Int32)), .unset] [])) rfl (hb hby at_89) (by decide) (by decide)
        obtain ⟨b16, g16⟩ : ∃ z, z = T14.heap.size := ⟨_, rfl⟩
        rw [← g16] at A16 D16 st16
        have ne_b13_b16 : b13 ≠ b16 := Nat.ne_of_lt (Nat.lt_of_lt_of_le E_b13.lt (Nat.le_of_eq g16.symm))
        have g_b16 : n0 ≤ b16 := Nat.le_trans Zs (Nat.le_of_eq g16.symm)
        replace E_b13 := Exa.ext E16 E_b13
        replace F_b13_pre := Fld.ext E16 F_b13_pre
        replace F_b13_term := Fld.ext E16 F_b13_term
        replace F_b13_candidate := Fld.ext E16 F_b13_candidate
        replace F_b13_lastIndex := Fld.ext E16 F_b13_lastIndex
        replace F_b13_lastTerm := Fld.ext E16 F_b13_lastTerm
        replace F_b13_askedBy := Fld.ext E16 F_b13_askedBy
        replace Zs := Nat.le_trans Zs E16.1
        have E_b16 := A16
        have F_b16_pre : Fld Z h16 b16 "com/example/hale_log/halelog/raft/Messages$Vote" "pre" "Z" (.int (0 : Int32)) := D16 (Or.inr (own_w hw 10 rfl)) (ty := .boolean) (by decide)
        have F_b16_term : Fld Z h16 b16 "com/example/hale_log/halelog/raft/Messages$Vote" "term" "J" (.long (0 : Int64)) := D16 (Or.inr (own_w hw 12 rfl)) (ty := .long) (by decide)
        have F_b16_candidate : Fld Z h16 b16 "com/example/hale_log/halelog/raft/Messages$Vote" "candidate" "I" (.int (0 : Int32)) := D16 (Or.inr (own_w hw 14 rfl)) (ty := .int) (by decide)
        have F_b16_lastIndex : Fld Z h16 b16 "com/example/hale_log/halelog/raft/Messages$Vote" "lastIndex" "J" (.long (0 : Int64)) := D16 (Or.inr (own_w hw 16 rfl)) (ty := .long) (by decide)
        have F_b16_lastTerm : Fld Z h16 b16 "com/example/hale_log/halelog/raft/Messages$Vote" "lastTerm" "J" (.long (0 : Int64)) := D16 (Or.inr (own_w hw 18 rfl)) (ty := .long) (by decide)
        have F_b16_askedBy : Fld Z h16 b16 "com/example/hale_log/halelog/raft/Messages$Vote" "askedBy" "I" (.int (0 : Int32)) := D16 (Or.inr (own_w hw 20 rfl)) (ty := .int) (by decide)
        refine own_go (x' := T16.setTop (mkF m 92 #[.val (.int p0), .val (.long q1), .second, .val (.int p2), .val (.long q3), .second, .val (.long q4), .second, .val (.int p5), .val (.int (1 : Int32)), .val (.int p5), .val (.ref b13), .val (.int (5 : Int32)), .val (.int (5 : Int32)), .unset] [(.ref b16)])) st16 ?_
        refine own_go (x' := T16.setTop (mkF m 104 #[.val (.int p0), .val (.long q1), .second, .val (.int p2), .val (.long q3), .second, .val (.long q4), .second, .val (.int p5), .val (.int (1 : Int32)), .val (.int p5), .val (.ref b13), .val (.int (5 : Int32)), .val (.int (5 : Int32)), .unset] [(.int (1 : Int32)), (.ref b16), (.ref b16)])) (fun _ k => XS.dup X16.here hx rfl (hb hby at_92) rfl rfl (XS.iload X16.here hx rfl (hb hby at_93) rfl (XS.iconst X16.here hx rfl (hb hby at_95) (XS.icmpNo X16.here hx rfl (hb hby at_96) rfl (feq (by decide +kernel : ¬ ((5 : Int32) = (1 : Int32)))).1 (XS.iconst X16.here hx rfl (hb hby at_99) (XS.goto X16.here hx rfl (pc0 := 100) (pc' := 104) rfl (hb hby at_100) (by decide) (by decide) k)))))) ?_
        refine own_go (x' := T16.setTop (mkF m 114 #[.val (.int p0), .val (.long q1), .second, .val (.int p2), .val (.long q3), .second, .val (.long q4), .second, .val (.int p5), .val (.int (1 : Int32)), .val (.int p5), .val (.ref b13), .val (.int (5 : Int32)), .val (.int (5 : Int32)), .unset] [(.int (7 : Int32)), (.int (5 : Int32)), (.long q4), (.long q3), (.int p2), (.long q1), (.int (1 : Int32)), (.ref b16), (.ref b16)])) (fun _ k => XS.lloadN X16.here hx rfl (hb hby at_104) rfl (XS.iloadN X16.here hx rfl (hb hby at_105) rfl (XS.lload X16.here hx rfl (hb hby at_106) rfl (XS.lload X16.here hx rfl (hb hby at_108) rfl (XS.iload X16.here hx rfl (hb hby at_110) rfl (XS.bipush X16.here hx rfl (hb hby at_112) k)))))) ?_
        refine own_go (x' := T16.setTop (mkF m 123 #[.val (.int p0), .val (.long q1), .second, .val (.int p2), .val (.long q3), .second, .val (.long q4), .second, .val (.int p5), .val (.int (1 : Int32)), .val (.int p5), .val (.ref b13), .val (.int (5 : Int32)), .val (.int (5 : Int32)), .unset] [(.int (-1 : Int32)), (.long q4), (.long q3), (.int p2), (.long q1), (.int (1 : Int32)), (.ref b16), (.ref b16)])) (fun _ k => XS.icmpYes X16.here hx rfl (pc0 := 114) (pc' := 122) rfl (hb hby at_114) rfl (feq (by decide +kernel : ¬ ((5 : Int32) = (7 : Int32)))).2 (by decide) (by decide) (XS.iconst X16.here hx rfl (hb hby at_122) k)) ?_
        obtain ⟨_, _, ⟨T17, L17, k17, n17⟩, -, X17, ⟨Lc17, hQ17, l17, y17, z17⟩, st17⟩ := X16.specialBack hx (y := (⟨"com/example/hale_log/halelog/raft/Messages$Vote", "<init>", "(ZJIJJI)V"⟩ : MethodName)) rfl hown (mvT hZ (own_w hw 3 rfl)) (mvT hZ (own_w hw 4 rfl)) (mvT hZ (own_w hw 5 rfl)) (by decide) (backOf (W := 1) (rm1 l Z a0 hw [] b16 (1 : Int32) q1 p2 q3 q4 (-1 : Int32) h16 n0 Zs E_b16 F_b16_pre F_b16_term F_b16_candidate F_b16_lastIndex F_b16_lastTerm F_b16_askedBy g_b16) hZ (own_w hw 5 rfl) (own_w hw 2 rfl) (by decide) (by decide)) (g := (mkF m 123 #[.val (.int p0), .val (.long q1), .second, .val (.int p2), .val (.long q3), .second, .val (.long q4), .second, .val (.int p5), .val (.int (1 : Int32)), .val (.int p5), .val (.ref b13), .val (.int (5 : Int32)), .val (.int (5 : Int32)), .unset] [(.int (-1 : Int32)), (.long q4), (.long q3), (.int p2), (.long q1), (.int (1 : Int32)), (.ref b16), (.ref b16)])) rfl (by rw [hml]; rfl) (Steps.refl _) (a := b16) (argsL := [(.int (1 : Int32)), (.long q1), (.int p2), (.long q3), (.long q4), (.int (-1 : Int32))]) (rest := [(.ref b16)]) (lenOf pd_0 rfl) rfl (by show 2 * 0 + _ ≤ _; exact Nat.le_of_eq rfl) (hb hby at_123) (fun _ _ => ⟨rfl, e16, (by decide : 2 + 0 ≤ _), (by decide : 12 + 0 ≤ _)⟩)
        dsimp only [Pt.U, Pt.locs, Pt.cells, Pt.slots] at X17 l17 y17 z17 st17 hQ17
        subst l17 y17 z17
        obtain ⟨hv17, Nq17, K17, Eo17, Fo17_0, Fo17_1, Fo17_2, Fo17_3, Fo17_4, Fo17_5⟩ := hQ17
        subst hv17
        replace Nf := Fr.app Nf Nq17
        replace E_b13 := E_b13.keep K17
        replace F_b13_pre := F_b13_pre.keep K17 (ninS ne_b13_b16 nin0)
        replace F_b13_term := F_b13_term.keep K17 (ninS ne_b13_b16 nin0)
        replace F_b13_candidate := F_b13_candidate.keep K17 (ninS ne_b13_b16 nin0)
        replace F_b13_lastIndex := F_b13_lastIndex.keep K17 (ninS ne_b13_b16 nin0)
        replace F_b13_lastTerm := F_b13_lastTerm.keep K17 (ninS ne_b13_b16 nin0)
        replace F_b13_askedBy := F_b13_askedBy.keep K17 (ninS ne_b13_b16 nin0)
        replace Zs := Nat.le_trans Zs K17.1
        replace E_b16 := Eo17
        replace F_b16_pre := Fo17_0
        replace F_b16_term := Fo17_1
        replace F_b16_candidate := Fo17_2
        replace F_b16_lastIndex := Fo17_3
        replace F_b16_lastTerm := Fo17_4
        replace F_b16_askedBy := Fo17_5
        refine own_go (x' := T17.setTop (mkF m 126 #[.val (.int p0), .val (.long q1), .second, .val (.int p2), .val (.long q3), .second, .val (.long q4), .second, .val (.int p5), .val (.int (1 : Int32)), .val (.int p5), .val (.ref b13), .val (.int (5 : Int32)), .val (.int (5 : Int32)), .unset] [(.ref b16)])) (fun _ k => st17.trans k) ?_
        refine own_go (x' := T17.setTop (mkF m 130 #[.val (.int p0), .val (.long q1), .second, .val (.int p2), .val (.long q3), .second, .val (.long q4), .second, .val (.int p5), .val (.int (1 : Int32)), .val (.int p5), .val (.ref b13), .val (.int (5 : Int32)), .val (.int (5 : Int32)), .val (.ref b16)] [(.ref b16)])) (fun _ k => XS.astore X17.here hx rfl (hb hby at_126) rfl rfl (l' := #[.val (.int p0), .val (.long q1), .second, .val (.int p2), .val (.long q3), .second, .val (.long q4), .second, .val (.int p5), .val (.int (1 : Int32)), .val (.int p5), .val (.ref b13), .val (.int (5 : Int32)), .val (.int (5 : Int32)), .val (.ref b16)]) rfl (XS.aload X17.here hx rfl (hb hby at_128) rfl rfl k)) ?_
        obtain ⟨cq18, kq18, q18a, q18b, q18c⟩ := isOf hZ rfl E_b16
        obtain ⟨_, _, ⟨T18, L18, k18, n18⟩, -, X18, ⟨Lc18, hQ18, l18, y18, z18⟩, st18⟩ := X17.virtualBack hx (y := (⟨"com/example/hale_log/halelog/raft/Messages$Vote", "kind", "()B"⟩ : MethodName)) (z := (⟨"com/example/hale_log/halelog/raft/Messages$Vote", "kind", "()B"⟩ : MethodName)) hown (mvT hZ (own_w hw 21 rfl)) (mvT hZ (own_w hw 22 rfl)) (notFace_of_selects (args := #[]) (mvT hZ (own_w hw 24 rfl))) (mvT hZ (own_w hw 24 rfl)) (mvT hZ (own_w hw 23 rfl)) (by decide) (backOf (W := 0) (rm3 l Z a0 hw [] b16 (nar .boolean (1 : Int32)) (-1 : Int32) T17.heap n0 Zs F_b16_pre F_b16_askedBy) hZ (own_w hw 25 rfl) (own_w hw 2 rfl) (by decide) (by decide)) q18a q18c (g := (mkF m 130 #[.val (.int p0), .val (.long q1), .second, .val (.int p2), .val (.long q3), .second, .val (.long q4), .second, .val (.int p5), .val (.int (1 : Int32)), .val (.int p5), .val (.ref b13), .val (.int (5 : Int32)), .val (.int (5 : Int32)), .val (.ref b16)] [(.ref b16)])) rfl (by rw [hml]; rfl) (Steps.refl _) (argsL := []) (rest := []) (lenOf pd_1 rfl) rfl (by show 2 * 0 + _ ≤ _; exact Nat.le_of_eq rfl) (hb hby at_130) (fun _ _ => ⟨rfl, rfl, (by decide : 2 + 0 ≤ _), (by decide : 12 + 0 ≤ _)⟩)
        dsimp only [Pt.U, Pt.locs, Pt.cells, Pt.slots] at X18 l18 y18 z18 st18 hQ18
        subst l18 y18 z18
        obtain ⟨hv18, Nq18, eq18⟩ := hQ18
        have hk18 : own_kind (nar .boolean (1 : Int32)) (-1 : Int32) = 5 := by simp only [own_kind, if_pos ha]; rfl
        rw [hk18] at hv18
        subst hv18
        replace Nf := Fr.app Nf Nq18
        refine own_go (x' := T18.setTop (mkF m 133 #[.val (.int p0), .val (.long q1), .second, .val (.int p2), .val (.long q3), .second, .val (.long q4), .second, .val (.int p5), .val (.int (1 : Int32)), .val (.int p5), .val (.ref b13), .val (.int (5 : Int32)), .val (.int (5 : Int32)), .val (.ref b16)] [(.int (5 : Int32))])) (fun _ k => st18.trans k) ?_
        refine own_go (x' := T18.setTop (mkF m 143 #[.val (.int p0), .val (.long q1), .second, .val (.int p2), .val (.long q3), .second, .val (.long q4), .second, .val (.int p5), .val (.int (1 : Int32)), .val (.int p5), .val (.ref b13), .val (.int (5 : Int32)), .val (.int (5 : Int32)), .val (.ref b16)] [(.int (1 : Int32))])) (fun _ k => XS.iload X18.here hx rfl (hb hby at_133) rfl (XS.icmpNo X18.here hx rfl (hb hby at_135) rfl (teq rfl).2 (XS.iconst X18.here hx rfl (hb hby at_138) (XS.goto X18.here hx rfl (pc0 := 139) (pc' := 143) rfl (hb hby at_139) (by decide) (by decide) k)))) ?_
        refine own_retN X18 hx hlk (t := .boolean) hret (by simp) (hb hby at_143) (w := (1 : Int32)) rfl ?_ (by decide) (by decide)
        rw [eq18]
        exact ⟨rfl, Nf⟩
      · obtain ⟨T19, h19, X19, e19, E19, A19, D19, -, st19⟩ := newO X0 hx hZ hown (own_w hw 0 rfl) (own_w hw 1 rfl) (own_w hw 2 rfl) e0 (g := (mkF m 27 #[.val (.int p0), .val (.long q1), .second, .val (.int p2), .val (.long q3), .second, .val (.long q4), .second, .val (.int p5), .val (.int (1 : Int32)), .val (.int p5), .unset, .unset, .unset, .unset] [])) rfl (hb hby at_27) (by decide) (by decide)
        obtain ⟨b19, g19⟩ : ∃ z, z = h0.size := ⟨_, rfl⟩
        rw [← g19] at A19 D19 st19
        have g_b19 : n0 ≤ b19 := Nat.le_trans Zs (Nat.le_of_eq g19.symm)
        replace Zs := Nat.le_trans Zs E19.1
        have E_b19 := A19
        have F_b19_pre : Fld Z h19 b19 "com/example/hale_log/halelog/raft/Messages$Vote" "pre" "Z" (.int (0 : Int32)) := D19 (Or.inr (own_w hw 10 rfl)) (ty := .boolean) (by decide)
        have F_b19_term : Fld Z h19 b19 "com/example/hale_log/halelog/raft/Messages$Vote" "term" "J" (.long (0 : Int64)) := D19 (Or.inr (own_w hw 12 rfl)) (ty := .long) (by decide)
        have F_b19_candidate : Fld Z h19 b19 "com/example/hale_log/halelog/raft/Messages$Vote" "candidate" "I" (.int (0 : Int32)) := D19 (Or.inr (own_w hw 14 rfl)) (ty := .int) (by decide)
        have F_b19_lastIndex : Fld Z h19 b19 "com/example/hale_log/halelog/raft/Messages$Vote" "lastIndex" "J" (.long (0 : Int64)) := D19 (Or.inr (own_w hw 16 rfl)) (ty := .long) (by decide)
        have F_b19_lastTerm : Fld Z h19 b19 "com/example/hale_log/halelog/raft/Messages$Vote" "lastTerm" "J" (.long (0 : Int64)) := D19 (Or.inr (own_w hw 18 rfl)) (ty := .long) (by decide)
        have F_b19_askedBy : Fld Z h19 b19 "com/example/hale_log/halelog/raft/Messages$Vote" "askedBy" "I" (.int (0 : Int32)) := D19 (Or.inr (own_w hw 20 rfl)) (ty := .int) (by decide)
        refine own_go (x' := T19.setTop (mkF m 30 #[.val (.int p0), .val (.long q1), .second, .val (.int p2), .val (.long q3), .second, .val (.long q4), .second, .val (.int p5), .val (.int (1 : Int32)), .val (.int p5), .unset, .unset, .unset, .unset] [(.ref b19)])) st19 ?_
        refine own_go (x' := T19.setTop (mkF m 39 #[.val (.int p0), .val (.long q1), .second, .val (.int p2), .val (.long q3), .second, .val (.long q4), .second, .val (.int p5), .val (.int (1 : Int32)), .val (.int p5), .unset, .unset, .unset, .unset] [(.long q4), (.long q3), (.int p2), (.long q1), (.int (1 : Int32)), (.ref b19), (.ref b19)])) (fun _ k => XS.dup X19.here hx rfl (hb hby at_30) rfl rfl (XS.iload X19.here hx rfl (hb hby at_31) rfl (XS.lloadN X19.here hx rfl (hb hby at_33) rfl (XS.iloadN X19.here hx rfl (hb hby at_34) rfl (XS.lload X19.here hx rfl (hb hby at_35) rfl (XS.lload X19.here hx rfl (hb hby at_37) rfl k)))))) ?_
        refine own_go (x' := T19.setTop (mkF m 41 #[.val (.int p0), .val (.long q1), .second, .val (.int p2), .val (.long q3), .second, .val (.long q4), .second, .val (.int p5), .val (.int (1 : Int32)), .val (.int p5), .unset, .unset, .unset, .unset] [(.int p5), (.long q4), (.long q3), (.int p2), (.long q1), (.int (1 : Int32)), (.ref b19), (.ref b19)])) (fun _ k => XS.iload X19.here hx rfl (hb hby at_39) rfl k) ?_
        obtain ⟨_, _, ⟨T20, L20, k20, n20⟩, -, X20, ⟨Lc20, hQ20, l20, y20, z20⟩, st20⟩ := X19.specialBack hx (y := (⟨"com/example/hale_log/halelog/raft/Messages$Vote", "<init>", "(ZJIJJI)V"⟩ : MethodName)) rfl hown (mvT hZ (own_w hw 3 rfl)) (mvT hZ (own_w hw 4 rfl)) (mvT hZ (own_w hw 5 rfl)) (by decide) (backOf (W := 1) (rm1 l Z a0 hw [] b19 (1 : Int32) q1 p2 q3 q4 p5 h19 n0 Zs E_b19 F_b19_pre F_b19_term F_b19_candidate F_b19_lastIndex F_b19_lastTerm F_b19_askedBy g_b19) hZ (own_w hw 5 rfl) (own_w hw 2 rfl) (by decide) (by decide)) (g := (mkF m 41 #[.val (.int p0), .val (.long q1), .second, .val (.int p2), .val (.long q3), .second, .val (.long q4), .second, .val (.int p5), .val (.int (1 : Int32)), .val (.int p5), .unset, .unset, .unset, .unset] [(.int p5), (.long q4), (.long q3), (.int p2), (.long q1), (.int (1 : Int32)), (.ref b19), (.ref b19)])) rfl (by rw [hml]; rfl) (Steps.refl _) (a := b19) (argsL := [(.int (1 : Int32)), (.long q1), (.int p2), (.long q3), (.long q4), (.int p5)]) (rest := [(.ref b19)]) (lenOf pd_0 rfl) rfl (by show 2 * 0 + _ ≤ _; exact Nat.le_of_eq rfl) (hb hby at_41) (fun _ _ => ⟨rfl, e19, (by decide : 1 + 0 ≤ _), (by decide : 6 + 0 ≤ _)⟩)
        dsimp only [Pt.U, Pt.locs, Pt.cells, Pt.slots] at X20 l20 y20 z20 st20 hQ20
        subst l20 y20 z20
        obtain ⟨hv20, Nq20, K20, Eo20, Fo20_0, Fo20_1, Fo20_2, Fo20_3, Fo20_4, Fo20_5⟩ := hQ20
        subst hv20
        replace Nf := Fr.app Nf Nq20
        replace Zs := Nat.le_trans Zs K20.1
        replace E_b19 := Eo20
        replace F_b19_pre := Fo20_0
        replace F_b19_term := Fo20_1
        replace F_b19_candidate := Fo20_2
        replace F_b19_lastIndex := Fo20_3
        replace F_b19_lastTerm := Fo20_4
        replace F_b19_askedBy := Fo20_5
        refine own_go (x' := T20.setTop (mkF m 44 #[.val (.int p0), .val (.long q1), .second, .val (.int p2), .val (.long q3), .second, .val (.long q4), .second, .val (.int p5), .val (.int (1 : Int32)), .val (.int p5), .unset, .unset, .unset, .unset] [(.ref b19)])) (fun _ k => st20.trans k) ?_
        refine own_go (x' := T20.setTop (mkF m 48 #[.val (.int p0), .val (.long q1), .second, .val (.int p2), .val (.long q3), .second, .val (.long q4), .second, .val (.int p5), .val (.int (1 : Int32)), .val (.int p5), .val (.ref b19), .unset, .unset, .unset] [(.ref b19)])) (fun _ k => XS.astore X20.here hx rfl (hb hby at_44) rfl rfl (l' := #[.val (.int p0), .val (.long q1), .second, .val (.int p2), .val (.long q3), .second, .val (.long q4), .second, .val (.int p5), .val (.int (1 : Int32)), .val (.int p5), .val (.ref b19), .unset, .unset, .unset]) rfl (XS.aload X20.here hx rfl (hb hby at_46) rfl rfl k)) ?_
        obtain ⟨cq21, kq21, q21a, q21b, q21c⟩ := isOf hZ rfl E_b19
        obtain ⟨_, _, ⟨T21, L21, k21, n21⟩, -, X21, ⟨Lc21, hQ21, l21, y21, z21⟩, st21⟩ := X20.virtualBack hx (y := (⟨"com/example/hale_log/halelog/raft/Messages$Vote", "kind", "()B"⟩ : MethodName)) (z := (⟨"com/example/hale_log/halelog/raft/Messages$Vote", "kind", "()B"⟩ : MethodName)) hown (mvT hZ (own_w hw 21 rfl)) (mvT hZ (own_w hw 22 rfl)) (notFace_of_selects (args := #[]) (mvT hZ (own_w hw 24 rfl))) (mvT hZ (own_w hw 24 rfl)) (mvT hZ (own_w hw 23 rfl)) (by decide) (backOf (W := 0) (rm3 l Z a0 hw [] b19 (nar .boolean (1 : Int32)) p5 T20.heap n0 Zs F_b19_pre F_b19_askedBy) hZ (own_w hw 25 rfl) (own_w hw 2 rfl) (by decide) (by decide)) q21a q21c (g := (mkF m 48 #[.val (.int p0), .val (.long q1), .second, .val (.int p2), .val (.long q3), .second, .val (.long q4), .second, .val (.int p5), .val (.int (1 : Int32)), .val (.int p5), .val (.ref b19), .unset, .unset, .unset] [(.ref b19)])) rfl (by rw [hml]; rfl) (Steps.refl _) (argsL := []) (rest := []) (lenOf pd_1 rfl) rfl (by show 2 * 0 + _ ≤ _; exact Nat.le_of_eq rfl) (hb hby at_48) (fun _ _ => ⟨rfl, rfl, (by decide : 1 + 0 ≤ _), (by decide : 6 + 0 ≤ _)⟩)
        dsimp only [Pt.U, Pt.locs, Pt.cells, Pt.slots] at X21 l21 y21 z21 st21 hQ21
        subst l21 y21 z21
        obtain ⟨hv21, Nq21, eq21⟩ := hQ21
        have hk21 : own_kind (nar .boolean (1 : Int32)) p5 = 7 := by simp only [own_kind, if_neg ha]; rfl
        rw [hk21] at hv21
        subst hv21
        replace Nf := Fr.app Nf Nq21
        refine own_go (x' := T21.setTop (mkF m 51 #[.val (.int p0), .val (.long q1), .second, .val (.int p2), .val (.long q3), .second, .val (.long q4), .second, .val (.int p5), .val (.int (1 : Int32)), .val (.int p5), .val (.ref b19), .unset, .unset, .unset] [(.int (7 : Int32))])) (fun _ k => st21.trans k) ?_
        refine own_go (x' := T21.setTop (mkF m 76 #[.val (.int p0), .val (.long q1), .second, .val (.int p2), .val (.long q3), .second, .val (.long q4), .second, .val (.int p5), .val (.int (1 : Int32)), .val (.int p5), .val (.ref b19), .val (.int (7 : Int32)), .unset, .unset] [])) (fun _ k => XS.istore X21.here hx rfl (hb hby at_51) rfl (l' := #[.val (.int p0), .val (.long q1), .second, .val (.int p2), .val (.long q3), .second, .val (.long q4), .second, .val (.int p5), .val (.int (1 : Int32)), .val (.int p5), .val (.ref b19), .val (.int (7 : Int32)), .unset, .unset]) rfl (XS.iload X21.here hx rfl (hb hby at_53) rfl (XS.ifYes X21.here hx rfl (pc0 := 55) (pc' := 64) rfl (hb hby at_55) rfl ((if0 _ _).trans (feq (by decide +kernel : ¬ ((1 : Int32) = (0 : Int32)))).2) (by decide) (by decide) (XS.iload X21.here hx rfl (hb hby at_64) rfl (XS.iconst X21.here hx rfl (hb hby at_66) (XS.icmpYes X21.here hx rfl (pc0 := 67) (pc' := 76) rfl (hb hby at_67) rfl (feq ha).2 (by decide) (by decide) k)))))) ?_
        refine own_go (x' := T21.setTop (mkF m 89 #[.val (.int p0), .val (.long q1), .second, .val (.int p2), .val (.long q3), .second, .val (.long q4), .second, .val (.int p5), .val (.int (1 : Int32)), .val (.int p5), .val (.ref b19), .val (.int (7 : Int32)), .val (.int (7 : Int32)), .unset] [])) (fun _ k => XS.bipush X21.here hx rfl (hb hby at_76) (XS.istore X21.here hx rfl (hb hby at_78) rfl (l' := #[.val (.int p0), .val (.long q1), .second, .val (.int p2), .val (.long q3), .second, .val (.long q4), .second, .val (.int p5), .val (.int (1 : Int32)), .val (.int p5), .val (.ref b19), .val (.int (7 : Int32)), .val (.int (7 : Int32)), .unset]) rfl (XS.iload X21.here hx rfl (hb hby at_80) rfl (XS.iload X21.here hx rfl (hb hby at_82) rfl (XS.icmpYes X21.here hx rfl (pc0 := 84) (pc' := 89) rfl (hb hby at_84) rfl (teq rfl).1 (by decide) (by decide) k))))) ?_
        obtain ⟨T22, h22, X22, e22, E22, A22, D22, -, st22⟩ := newO X21 hx hZ hown (own_w hw 0 rfl) (own_w hw 1 rfl) (own_w hw 2 rfl) eq21 (g := (mkF m 89 #[.val (.int p0), .val (.long q1), .second, .val (.int p2), .val (.long q3), .second, .val (.long q4), .second, .val (.int p5), .val (.int (1 : Int32)), .val (.int p5), .val (.ref b19), .val (.int (7 : Int32)), .val (.int (7 : Int32)), .unset] [])) rfl (hb hby at_89) (by decide) (by decide)
        obtain ⟨b22, g22⟩ : ∃ z, z = T20.heap.size := ⟨_, rfl⟩
        rw [← g22] at A22 D22 st22
        have ne_b19_b22 : b19 ≠ b22 := Nat.ne_of_lt (Nat.lt_of_lt_of_le E_b19.lt (Nat.le_of_eq g22.symm))
        have g_b22 : n0 ≤ b22 := Nat.le_trans Zs (Nat.le_of_eq g22.symm)
        replace E_b19 := Exa.ext E22 E_b19
        replace F_b19_pre := Fld.ext E22 F_b19_pre
        replace F_b19_term := Fld.ext E22 F_b19_term
        replace F_b19_candidate := Fld.ext E22 F_b19_candidate
        replace F_b19_lastIndex := Fld.ext E22 F_b19_lastIndex
        replace F_b19_lastTerm := Fld.ext E22 F_b19_lastTerm
        replace F_b19_askedBy := Fld.ext E22 F_b19_askedBy
        replace Zs := Nat.le_trans Zs E22.1
        have E_b22 := A22
        have F_b22_pre : Fld Z h22 b22 "com/example/hale_log/halelog/raft/Messages$Vote" "pre" "Z" (.int (0 : Int32)) := D22 (Or.inr (own_w hw 10 rfl)) (ty := .boolean) (by decide)
        have F_b22_term : Fld Z h22 b22 "com/example/hale_log/halelog/raft/Messages$Vote" "term" "J" (.long (0 : Int64)) := D22 (Or.inr (own_w hw 12 rfl)) (ty := .long) (by decide)
        have F_b22_candidate : Fld Z h22 b22 "com/example/hale_log/halelog/raft/Messages$Vote" "candidate" "I" (.int (0 : Int32)) := D22 (Or.inr (own_w hw 14 rfl)) (ty := .int) (by decide)
        have F_b22_lastIndex : Fld Z h22 b22 "com/example/hale_log/halelog/raft/Messages$Vote" "lastIndex" "J" (.long (0 : Int64)) := D22 (Or.inr (own_w hw 16 rfl)) (ty := .long) (by decide)
        have F_b22_lastTerm : Fld Z h22 b22 "com/example/hale_log/halelog/raft/Messages$Vote" "lastTerm" "J" (.long (0 : Int64)) := D22 (Or.inr (own_w hw 18 rfl)) (ty := .long) (by decide)
        have F_b22_askedBy : Fld Z h22 b22 "com/example/hale_log/halelog/raft/Messages$Vote" "askedBy" "I" (.int (0 : Int32)) := D22 (Or.inr (own_w hw 20 rfl)) (ty := .int) (by decide)
        refine own_go (x' := T22.setTop (mkF m 92 #[.val (.int p0), .val (.long q1), .second, .val (.int p2), .val (.long q3), .second, .val (.long q4), .second, .val (.int p5), .val (.int (1 : Int32)), .val (.int p5), .val (.ref b19), .val (.int (7 : Int32)), .val (.int (7 : Int32)), .unset] [(.ref b22)])) st22 ?_
        refine own_go (x' := T22.setTop (mkF m 104 #[.val (.int p0), .val (.long q1), .second, .val (.int p2), .val (.long q3), .second, .val (.long q4), .second, .val (.int p5), .val (.int (1 : Int32)), .val (.int p5), .val (.ref b19), .val (.int (7 : Int32)), .val (.int (7 : Int32)), .unset] [(.int (1 : Int32)), (.ref b22), (.ref b22)])) (fun _ k => XS.dup X22.here hx rfl (hb hby at_92) rfl rfl (XS.iload X22.here hx rfl (hb hby at_93) rfl (XS.iconst X22.here hx rfl (hb hby at_95) (XS.icmpNo X22.here hx rfl (hb hby at_96) rfl (feq (by decide +kernel : ¬ ((7 : Int32) = (1 : Int32)))).1 (XS.iconst X22.here hx rfl (hb hby at_99) (XS.goto X22.here hx rfl (pc0 := 100) (pc' := 104) rfl (hb hby at_100) (by decide) (by decide) k)))))) ?_
        refine own_go (x' := T22.setTop (mkF m 114 #[.val (.int p0), .val (.long q1), .second, .val (.int p2), .val (.long q3), .second, .val (.long q4), .second, .val (.int p5), .val (.int (1 : Int32)), .val (.int p5), .val (.ref b19), .val (.int (7 : Int32)), .val (.int (7 : Int32)), .unset] [(.int (7 : Int32)), (.int (7 : Int32)), (.long q4), (.long q3), (.int p2), (.long q1), (.int (1 : Int32)), (.ref b22), (.ref b22)])) (fun _ k => XS.lloadN X22.here hx rfl (hb hby at_104) rfl (XS.iloadN X22.here hx rfl (hb hby at_105) rfl (XS.lload X22.here hx rfl (hb hby at_106) rfl (XS.lload X22.here hx rfl (hb hby at_108) rfl (XS.iload X22.here hx rfl (hb hby at_110) rfl (XS.bipush X22.here hx rfl (hb hby at_112) k)))))) ?_
        refine own_go (x' := T22.setTop (mkF m 123 #[.val (.int p0), .val (.long q1), .second, .val (.int p2), .val (.long q3), .second, .val (.long q4), .second, .val (.int p5), .val (.int (1 : Int32)), .val (.int p5), .val (.ref b19), .val (.int (7 : Int32)), .val (.int (7 : Int32)), .unset] [(.int p5), (.long q4), (.long q3), (.int p2), (.long q1), (.int (1 : Int32)), (.ref b22), (.ref b22)])) (fun _ k => XS.icmpNo X22.here hx rfl (hb hby at_114) rfl (teq rfl).2 (XS.iload X22.here hx rfl (hb hby at_117) rfl (XS.goto X22.here hx rfl (pc0 := 119) (pc' := 123) rfl (hb hby at_119) (by decide) (by decide) k))) ?_
        obtain ⟨_, _, ⟨T23, L23, k23, n23⟩, -, X23, ⟨Lc23, hQ23, l23, y23, z23⟩, st23⟩ := X22.specialBack hx (y := (⟨"com/example/hale_log/halelog/raft/Messages$Vote", "<init>", "(ZJIJJI)V"⟩ : MethodName)) rfl hown (mvT hZ (own_w hw 3 rfl)) (mvT hZ (own_w hw 4 rfl)) (mvT hZ (own_w hw 5 rfl)) (by decide) (backOf (W := 1) (rm1 l Z a0 hw [] b22 (1 : Int32) q1 p2 q3 q4 p5 h22 n0 Zs E_b22 F_b22_pre F_b22_term F_b22_candidate F_b22_lastIndex F_b22_lastTerm F_b22_askedBy g_b22) hZ (own_w hw 5 rfl) (own_w hw 2 rfl) (by decide) (by decide)) (g := (mkF m 123 #[.val (.int p0), .val (.long q1), .second, .val (.int p2), .val (.long q3), .second, .val (.long q4), .second, .val (.int p5), .val (.int (1 : Int32)), .val (.int p5), .val (.ref b19), .val (.int (7 : Int32)), .val (.int (7 : Int32)), .unset] [(.int p5), (.long q4), (.long q3), (.int p2), (.long q1), (.int (1 : Int32)), (.ref b22), (.ref b22)])) rfl (by rw [hml]; rfl) (Steps.refl _) (a := b22) (argsL := [(.int (1 : Int32)), (.long q1), (.int p2), (.long q3), (.long q4), (.int p5)]) (rest := [(.ref b22)]) (lenOf pd_0 rfl) rfl (by show 2 * 0 + _ ≤ _; exact Nat.le_of_eq rfl) (hb hby at_123) (fun _ _ => ⟨rfl, e22, (by decide : 2 + 0 ≤ _), (by decide : 12 + 0 ≤ _)⟩)
        dsimp only [Pt.U, Pt.locs, Pt.cells, Pt.slots] at X23 l23 y23 z23 st23 hQ23
        subst l23 y23 z23
        obtain ⟨hv23, Nq23, K23, Eo23, Fo23_0, Fo23_1, Fo23_2, Fo23_3, Fo23_4, Fo23_5⟩ := hQ23
        subst hv23
        replace Nf := Fr.app Nf Nq23
        replace E_b19 := E_b19.keep K23
        replace F_b19_pre := F_b19_pre.keep K23 (ninS ne_b19_b22 nin0)
        replace F_b19_term := F_b19_term.keep K23 (ninS ne_b19_b22 nin0)
        replace F_b19_candidate := F_b19_candidate.keep K23 (ninS ne_b19_b22 nin0)
        replace F_b19_lastIndex := F_b19_lastIndex.keep K23 (ninS ne_b19_b22 nin0)
        replace F_b19_lastTerm := F_b19_lastTerm.keep K23 (ninS ne_b19_b22 nin0)
        replace F_b19_askedBy := F_b19_askedBy.keep K23 (ninS ne_b19_b22 nin0)
        replace Zs := Nat.le_trans Zs K23.1
        replace E_b22 := Eo23
        replace F_b22_pre := Fo23_0
        replace F_b22_term := Fo23_1
        replace F_b22_candidate := Fo23_2
        replace F_b22_lastIndex := Fo23_3
        replace F_b22_lastTerm := Fo23_4
        replace F_b22_askedBy := Fo23_5
        refine own_go (x' := T23.setTop (mkF m 126 #[.val (.int p0), .val (.long q1), .second, .val (.int p2), .val (.long q3), .second, .val (.long q4), .second, .val (.int p5), .val (.int (1 : Int32)), .val (.int p5), .val (.ref b19), .val (.int (7 : Int32)), .val (.int (7 : Int32)), .unset] [(.ref b22)])) (fun _ k => st23.trans k) ?_
        refine own_go (x' := T23.setTop (mkF m 130 #[.val (.int p0), .val (.long q1), .second, .val (.int p2), .val (.long q3), .second, .val (.long q4), .second, .val (.int p5), .val (.int (1 : Int32)), .val (.int p5), .val (.ref b19), .val (.int (7 : Int32)), .val (.int (7 : Int32)), .val (.ref b22)] [(.ref b22)])) (fun _ k => XS.astore X23.here hx rfl (hb hby at_126) rfl rfl (l' := #[.val (.int p0), .val (.long q1), .second, .val (.int p2), .val (.long q3), .second, .val (.long q4), .second, .val (.int p5), .val (.int (1 : Int32)), .val (.int p5), .val (.ref b19), .val (.int (7 : Int32)), .val (.int (7 : Int32)), .val (.ref b22)]) rfl (XS.aload X23.here hx rfl (hb hby at_128) rfl rfl k)) ?_
        obtain ⟨cq24, kq24, q24a, q24b, q24c⟩ := isOf hZ rfl E_b22
        obtain ⟨_, _, ⟨T24, L24, k24, n24⟩, -, X24, ⟨Lc24, hQ24, l24, y24, z24⟩, st24⟩ := X23.virtualBack hx (y := (⟨"com/example/hale_log/halelog/raft/Messages$Vote", "kind", "()B"⟩ : MethodName)) (z := (⟨"com/example/hale_log/halelog/raft/Messages$Vote", "kind", "()B"⟩ : MethodName)) hown (mvT hZ (own_w hw 21 rfl)) (mvT hZ (own_w hw 22 rfl)) (notFace_of_selects (args := #[]) (mvT hZ (own_w hw 24 rfl))) (mvT hZ (own_w hw 24 rfl)) (mvT hZ (own_w hw 23 rfl)) (by decide) (backOf (W := 0) (rm3 l Z a0 hw [] b22 (nar .boolean (1 : Int32)) p5 T23.heap n0 Zs F_b22_pre F_b22_askedBy) hZ (own_w hw 25 rfl) (own_w hw 2 rfl) (by decide) (by decide)) q24a q24c (g := (mkF m 130 #[.val (.int p0), .val (.long q1), .second, .val (.int p2), .val (.long q3), .second, .val (.long q4), .second, .val (.int p5), .val (.int (1 : Int32)), .val (.int p5), .val (.ref b19), .val (.int (7 : Int32)), .val (.int (7 : Int32)), .val (.ref b22)] [(.ref b22)])) rfl (by rw [hml]; rfl) (Steps.refl _) (argsL := []) (rest := []) (lenOf pd_1 rfl) rfl (by show 2 * 0 + _ ≤ _; exact Nat.le_of_eq rfl) (hb hby at_130) (fun _ _ => ⟨rfl, rfl, (by decide : 2 + 0 ≤ _), (by decide : 12 + 0 ≤ _)⟩)
        dsimp only [Pt.U, Pt.locs, Pt.cells, Pt.slots] at X24 l24 y24 z24 st24 hQ24
        subst l24 y24 z24
        obtain ⟨hv24, Nq24, eq24⟩ := hQ24
        have hk24 : own_kind (nar .boolean (1 : Int32)) p5 = 7 := by simp only [own_kind, if_neg ha]; rfl
        rw [hk24] at hv24
        subst hv24
        replace Nf := Fr.app Nf Nq24
        refine own_go (x' := T24.setTop (mkF m 133 #[.val (.int p0), .val (.long q1), .second, .val (.int p2), .val (.long q3), .second, .val (.long q4), .second, .val (.int p5), .val (.int (1 : Int32)), .val (.int p5), .val (.ref b19), .val (.int (7 : Int32)), .val (.int (7 : Int32)), .val (.ref b22)] [(.int (7 : Int32))])) (fun _ k => st24.trans k) ?_
        refine own_go (x' := T24.setTop (mkF m 143 #[.val (.int p0), .val (.long q1), .second, .val (.int p2), .val (.long q3), .second, .val (.long q4), .second, .val (.int p5), .val (.int (1 : Int32)), .val (.int p5), .val (.ref b19), .val (.int (7 : Int32)), .val (.int (7 : Int32)), .val (.ref b22)] [(.int (1 : Int32))])) (fun _ k => XS.iload X24.here hx rfl (hb hby at_133) rfl (XS.icmpNo X24.here hx rfl (hb hby at_135) rfl (teq rfl).2 (XS.iconst X24.here hx rfl (hb hby at_138) (XS.goto X24.here hx rfl (pc0 := 139) (pc' := 143) rfl (hb hby at_139) (by decide) (by decide) k)))) ?_
        refine own_retN X24 hx hlk (t := .boolean) hret (by simp) (hb hby at_143) (w := (1 : Int32)) rfl ?_ (by decide) (by decide)
        rw [eq24]
        exact ⟨rfl, Nf⟩
    · refine own_go (x' := s₁.setTop (mkF m 27 #[.val (.int p0), .val (.long q1), .second, .val (.int p2), .val (.long q3), .second, .val (.long q4), .second, .val (.int p5), .val (.int (1 : Int32)), .val (.int (-1 : Int32)), .unset, .unset, .unset, .unset] [])) (fun _ k => XS.ifNo X0.here hx rfl (hb hby at_16) rfl ((if0 _ _).trans (feq hc16).1) (XS.iconst X0.here hx rfl (hb hby at_19) (XS.goto X0.here hx rfl (pc0 := 20) (pc' := 25) rfl (hb hby at_20) (by decide) (by decide) (XS.istore X0.here hx rfl (hb hby at_25) rfl (l' := #[.val (.int p0), .val (.long q1), .second, .val (.int p2), .val (.long q3), .second, .val (.long q4), .second, .val (.int p5), .val (.int (1 : Int32)), .val (.int (-1 : Int32)), .unset, .unset, .unset, .unset]) rfl k)))) ?_
      obtain ⟨T25, h25, X25, e25, E25, A25, D25, -, st25⟩ := newO X0 hx hZ hown (own_w hw 0 rfl) (own_w hw 1 rfl) (own_w hw 2 rfl) e0 (g := (mkF m 27 #[.val (.int p0), .val (.long q1), .second, .val (.int p2), .val (.long q3), .second, .val (.long q4), .second, .val (.int p5), .val (.int (1 : Int32)), .val (.int (-1 : Int32)), .unset, .unset, .unset, .unset] [])) rfl (hb hby at_27) (by decide) (by decide)
      obtain ⟨b25, g25⟩ : ∃ z, z = h0.size := ⟨_, rfl⟩
      rw [← g25] at A25 D25 st25
      have g_b25 : n0 ≤ b25 := Nat.le_trans Zs (Nat.le_of_eq g25.symm)
      replace Zs := Nat.le_trans Zs E25.1
      have E_b25 := A25
      have F_b25_pre : Fld Z h25 b25 "com/example/hale_log/halelog/raft/Messages$Vote" "pre" "Z" (.int (0 : Int32)) := D25 (Or.inr (own_w hw 10 rfl)) (ty := .boolean) (by decide)
      have F_b25_term : Fld Z h25 b25 "com/example/hale_log/halelog/raft/Messages$Vote" "term" "J" (.long (0 : Int64)) := D25 (Or.inr (own_w hw 12 rfl)) (ty := .long) (by decide)
      have F_b25_candidate : Fld Z h25 b25 "com/example/hale_log/halelog/raft/Messages$Vote" "candidate" "I" (.int (0 : Int32)) := D25 (Or.inr (own_w hw 14 rfl)) (ty := .int) (by decide)
      have F_b25_lastIndex : Fld Z h25 b25 "com/example/hale_log/halelog/raft/Messages$Vote" "lastIndex" "J" (.long (0 : Int64)) := D25 (Or.inr (own_w hw 16 rfl)) (ty := .long) (by decide)
      have F_b25_lastTerm : Fld Z h25 b25 "com/example/hale_log/halelog/raft/Messages$Vote" "lastTerm" "J" (.long (0 : Int64)) := D25 (Or.inr (own_w hw 18 rfl)) (ty := .long) (by decide)
      have F_b25_askedBy : Fld Z h25 b25 "com/example/hale_log/halelog/raft/Messages$Vote" "askedBy" "I" (.int (0 : Int32)) := D25 (Or.inr (own_w hw 20 rfl)) (ty := .int) (by decide)
      refine own_go (x' := T25.setTop (mkF m 30 #[.val (.int p0), .val (.long q1), .second, .val (.int p2), .val (.long q3), .second, .val (.long q4), .second, .val (.int p5), .val (.int (1 : Int32)), .val (.int (-1 : Int32)), .unset, .unset, .unset, .unset] [(.ref b25)])) st25 ?_
      refine own_go (x' := T25.setTop (mkF m 39 #[.val (.int p0), .val (.long q1), .second, .val (.int p2), .val (.long q3), .second, .val (.long q4), .second, .val (.int p5), .val (.int (1 : Int32)), .val (.int (-1 : Int32)), .unset, .unset, .unset, .unset] [(.long q4), (.long q3), (.int p2), (.long q1), (.int (1 : Int32)), (.ref b25), (.ref b25)])) (fun _ k => XS.dup X25.here hx rfl (hb hby at_30) rfl rfl (XS.iload X25.here hx rfl (hb hby at_31) rfl (XS.lloadN X25.here hx rfl (hb hby at_33) rfl (XS.iloadN X25.here hx rfl (hb hby at_34) rfl (XS.lload X25.here hx rfl (hb hby at_35) rfl (XS.lload X25.here hx rfl (hb hby at_37) rfl k)))))) ?_
      refine own_go (x' := T25.setTop (mkF m 41 #[.val (.int p0), .val (.long q1), .second, .val (.int p2), .val (.long q3), .second, .val (.long q4), .second, .val (.int p5), .val (.int (1 : Int32)), .val (.int (-1 : Int32)), .unset, .unset, .unset, .unset] [(.int (-1 : Int32)), (.long q4), (.long q3), (.int p2), (.long q1), (.int (1 : Int32)), (.ref b25), (.ref b25)])) (fun _ k => XS.iload X25.here hx rfl (hb hby at_39) rfl k) ?_
      obtain ⟨_, _, ⟨T26, L26, k26, n26⟩, -, X26, ⟨Lc26, hQ26, l26, y26, z26⟩, st26⟩ := X25.specialBack hx (y := (⟨"com/example/hale_log/halelog/raft/Messages$Vote", "<init>", "(ZJIJJI)V"⟩ : MethodName)) rfl hown (mvT hZ (own_w hw 3 rfl)) (mvT hZ (own_w hw 4 rfl)) (mvT hZ (own_w hw 5 rfl)) (by decide) (backOf (W := 1) (rm1 l Z a0 hw [] b25 (1 : Int32) q1 p2 q3 q4 (-1 : Int32) h25 n0 Zs E_b25 F_b25_pre F_b25_term F_b25_candidate F_b25_lastIndex F_b25_lastTerm F_b25_askedBy g_b25) hZ (own_w hw 5 rfl) (own_w hw 2 rfl) (by decide) (by decide)) (g := (mkF m 41 #[.val (.int p0), .val (.long q1), .second, .val (.int p2), .val (.long q3), .second, .val (.long q4), .second, .val (.int p5), .val (.int (1 : Int32)), .val (.int (-1 : Int32)), .unset, .unset, .unset, .unset] [(.int (-1 : Int32)), (.long q4), (.long q3), (.int p2), (.long q1), (.int (1 : Int32)), (.ref b25), (.ref b25)])) rfl (by rw [hml]; rfl) (Steps.refl _) (a := b25) (argsL := [(.int (1 : Int32)), (.long q1), (.int p2), (.long q3), (.long q4), (.int (-1 : Int32))]) (rest := [(.ref b25)]) (lenOf pd_0 rfl) rfl (by show 2 * 0 + _ ≤ _; exact Nat.le_of_eq rfl) (hb hby at_41) (fun _ _ => ⟨rfl, e25, (by decide : 1 + 0 ≤ _), (by decide : 6 + 0 ≤ _)⟩)
      dsimp only [Pt.U, Pt.locs, Pt.cells, Pt.slots] at X26 l26 y26 z26 st26 hQ26
      subst l26 y26 z26
      obtain ⟨hv26, Nq26, K26, Eo26, Fo26_0, Fo26_1, Fo26_2, Fo26_3, Fo26_4, Fo26_5⟩ := hQ26
      subst hv26
      replace Nf := Fr.app Nf Nq26
      replace Zs := Nat.le_trans Zs K26.1
      replace E_b25 := Eo26
      replace F_b25_pre := Fo26_0
      replace F_b25_term := Fo26_1
      replace F_b25_candidate := Fo26_2
      replace F_b25_lastIndex := Fo26_3
      replace F_b25_lastTerm := Fo26_4
      replace F_b25_askedBy := Fo26_5
      refine own_go (x' := T26.setTop (mkF m 44 #[.val (.int p0), .val (.long q1), .second, .val (.int p2), .val (.long q3), .second, .val (.long q4), .second, .val (.int p5), .val (.int (1 : Int32)), .val (.int (-1 : Int32)), .unset, .unset, .unset, .unset] [(.ref b25)])) (fun _ k => st26.trans k) ?_
      refine own_go (x' := T26.setTop (mkF m 48 #[.val (.int p0), .val (.long q1), .second, .val (.int p2), .val (.long q3), .second, .val (.long q4), .second, .val (.int p5), .val (.int (1 : Int32)), .val (.int (-1 : Int32)), .val (.ref b25), .unset, .unset, .unset] [(.ref b25)])) (fun _ k => XS.astore X26.here hx rfl (hb hby at_44) rfl rfl (l' := #[.val (.int p0), .val (.long q1), .second, .val (.int p2), .val (.long q3), .second, .val (.long q4), .second, .val (.int p5), .val (.int (1 : Int32)), .val (.int (-1 : Int32)), .val (.ref b25), .unset, .unset, .unset]) rfl (XS.aload X26.here hx rfl (hb hby at_46) rfl rfl k)) ?_
      obtain ⟨cq27, kq27, q27a, q27b, q27c⟩ := isOf hZ rfl E_b25
      obtain ⟨_, _, ⟨T27, L27, k27, n27⟩, -, X27, ⟨Lc27, hQ27, l27, y27, z27⟩, st27⟩ := X26.virtualBack hx (y := (⟨"com/example/hale_log/halelog/raft/Messages$Vote", "kind", "()B"⟩ : MethodName)) (z := (⟨"com/example/hale_log/halelog/raft/Messages$Vote", "kind", "()B"⟩ : MethodName)) hown (mvT hZ (own_w hw 21 rfl)) (mvT hZ (own_w hw 22 rfl)) (notFace_of_selects (args := #[]) (mvT hZ (own_w hw 24 rfl))) (mvT hZ (own_w hw 24 rfl)) (mvT hZ (own_w hw 23 rfl)) (by decide) (backOf (W := 0) (rm3 l Z a0 hw [] b25 (nar .boolean (1 : Int32)) (-1 : Int32) T26.heap n0 Zs F_b25_pre F_b25_askedBy) hZ (own_w hw 25 rfl) (own_w hw 2 rfl) (by decide) (by decide)) q27a q27c (g := (mkF m 48 #[.val (.int p0), .val (.long q1), .second, .val (.int p2), .val (.long q3), .second, .val (.long q4), .second, .val (.int p5), .val (.int (1 : Int32)), .val (.int (-1 : Int32)), .val (.ref b25), .unset, .unset, .unset] [(.ref b25)])) rfl (by rw [hml]; rfl) (Steps.refl _) (argsL := []) (rest := []) (lenOf pd_1 rfl) rfl (by show 2 * 0 + _ ≤ _; exact Nat.le_of_eq rfl) (hb hby at_48) (fun _ _ => ⟨rfl, rfl, (by decide : 1 + 0 ≤ _), (by decide : 6 + 0 ≤ _)⟩)
      dsimp only [Pt.U, Pt.locs, Pt.cells, Pt.slots] at X27 l27 y27 z27 st27 hQ27
      subst l27 y27 z27
      obtain ⟨hv27, Nq27, eq27⟩ := hQ27
      have hk27 : own_kind (nar .boolean (1 : Int32)) (-1 : Int32) = 5 := by rfl
      rw [hk27] at hv27
      subst hv27
      replace Nf := Fr.app Nf Nq27
      refine own_go (x' := T27.setTop (mkF m 51 #[.val (.int p0), .val (.long q1), .second, .val (.int p2), .val (.long q3), .second, .val (.long q4), .second, .val (.int p5), .val (.int (1 : Int32)), .val (.int (-1 : Int32)), .val (.ref b25), .unset, .unset, .unset] [(.int (5 : Int32))])) (fun _ k => st27.trans k) ?_
      refine own_go (x' := T27.setTop (mkF m 70 #[.val (.int p0), .val (.long q1), .second, .val (.int p2), .val (.long q3), .second, .val (.long q4), .second, .val (.int p5), .val (.int (1 : Int32)), .val (.int (-1 : Int32)), .val (.ref b25), .val (.int (5 : Int32)), .unset, .unset] [])) (fun _ k => XS.istore X27.here hx rfl (hb hby at_51) rfl (l' := #[.val (.int p0), .val (.long q1), .second, .val (.int p2), .val (.long q3), .second, .val (.long q4), .second, .val (.int p5), .val (.int (1 : Int32)), .val (.int (-1 : Int32)), .val (.ref b25), .val (.int (5 : Int32)), .unset, .unset]) rfl (XS.iload X27.here hx rfl (hb hby at_53) rfl (XS.ifYes X27.here hx rfl (pc0 := 55) (pc' := 64) rfl (hb hby at_55) rfl ((if0 _ _).trans (feq (by decide +kernel : ¬ ((1 : Int32) = (0 : Int32)))).2) (by decide) (by decide) (XS.iload X27.here hx rfl (hb hby at_64) rfl (XS.iconst X27.here hx rfl (hb hby at_66) (XS.icmpNo X27.here hx rfl (hb hby at_67) rfl (teq rfl).2 k)))))) ?_
      refine own_go (x' := T27.setTop (mkF m 89 #[.val (.int p0), .val (.long q1), .second, .val (.int p2), .val (.long q3), .second, .val (.long q4), .second, .val (.int p5), .val (.int (1 : Int32)), .val (.int (-1 : Int32)), .val (.ref b25), .val (.int (5 : Int32)), .val (.int (5 : Int32)), .unset] [])) (fun _ k => XS.iconst X27.here hx rfl (hb hby at_70) (XS.istore X27.here hx rfl (hb hby at_71) rfl (l' := #[.val (.int p0), .val (.long q1), .second, .val (.int p2), .val (.long q3), .second, .val (.long q4), .second, .val (.int p5), .val (.int (1 : Int32)), .val (.int (-1 : Int32)), .val (.ref b25), .val (.int (5 : Int32)), .val (.int (5 : Int32)), .unset]) rfl (XS.goto X27.here hx rfl (pc0 := 73) (pc' := 80) rfl (hb hby at_73) (by decide) (by decide) (XS.iload X27.here hx rfl (hb hby at_80) rfl (XS.iload X27.here hx rfl (hb hby at_82) rfl (XS.icmpYes X27.here hx rfl (pc0 := 84) (pc' := 89) rfl (hb hby at_84) rfl (teq rfl).1 (by decide) (by decide) k)))))) ?_
      obtain ⟨T28, h28, X28, e28, E28, A28, D28, -, st28⟩ := newO X27 hx hZ hown (own_w hw 0 rfl) (own_w hw 1 rfl) (own_w hw 2 rfl) eq27 (g := (mkF m 89 #[.val (.int p0), .val (.long q1), .second, .val (.int p2), .val (.long q3), .second, .val (.long q4), .second, .val (.int p5), .val (.int (1 : Int32)), .val (.int (-1 : Int32)), .val (.ref b25), .val (.int (5 : Int32)), .val (.int (5 : Int32)), .unset] [])) rfl (hb hby at_89) (by decide) (by decide)
      obtain ⟨b28, g28⟩ : ∃ z, z = T26.heap.size := ⟨_, rfl⟩
      rw [← g28] at A28 D28 st28
      have ne_b25_b28 : b25 ≠ b28 := Nat.ne_of_lt (Nat.lt_of_lt_of_le E_b25.lt (Nat.le_of_eq g28.symm))
      have g_b28 : n0 ≤ b28 := Nat.le_trans Zs (Nat.le_of_eq g28.symm)
      replace E_b25 := Exa.ext E28 E_b25
      replace F_b25_pre := Fld.ext E28 F_b25_pre
      replace F_b25_term := Fld.ext E28 F_b25_term
      replace F_b25_candidate := Fld.ext E28 F_b25_candidate
      replace F_b25_lastIndex := Fld.ext E28 F_b25_lastIndex
      replace F_b25_lastTerm := Fld.ext E28 F_b25_lastTerm
      replace F_b25_askedBy := Fld.ext E28 F_b25_askedBy
      replace Zs := Nat.le_trans Zs E28.1
      have E_b28 := A28
      have F_b28_pre : Fld Z h28 b28 "com/example/hale_log/halelog/raft/Messages$Vote" "pre" "Z" (.int (0 : Int32)) := D28 (Or.inr (own_w hw 10 rfl)) (ty := .boolean) (by decide)
      have F_b28_term : Fld Z h28 b28 "com/example/hale_log/halelog/raft/Messages$Vote" "term" "J" (.long (0 : Int64)) := D28 (Or.inr (own_w hw 12 rfl)) (ty := .long) (by decide)
      have F_b28_candidate : Fld Z h28 b28 "com/example/hale_log/halelog/raft/Messages$Vote" "candidate" "I" (.int (0 : Int32)) := D28 (Or.inr (own_w hw 14 rfl)) (ty := .int) (by decide)
      have F_b28_lastIndex : Fld Z h28 b28 "com/example/hale_log/halelog/raft/Messages$Vote" "lastIndex" "J" (.long (0 : Int64)) := D28 (Or.inr (own_w hw 16 rfl)) (ty := .long) (by decide)
      have F_b28_lastTerm : Fld Z h28 b28 "com/example/hale_log/halelog/raft/Messages$Vote" "lastTerm" "J" (.long (0 : Int64)) := D28 (Or.inr (own_w hw 18 rfl)) (ty := .long) (by decide)
      have F_b28_askedBy : Fld Z h28 b28 "com/example/hale_log/halelog/raft/Messages$Vote" "askedBy" "I" (.int (0 : Int32)) := D28 (Or.inr (own_w hw 20 rfl)) (ty := .int) (by decide)
      refine own_go (x' := T28.setTop (mkF m 92 #[.val (.int p0), .val (.long q1), .second, .val (.int p2), .val (.long q3), .second, .val (.long q4), .second, .val (.int p5), .val (.int (1 : Int32)), .val (.int (-1 : Int32)), .val (.ref b25), .val (.int (5 : Int32)), .val (.int (5 : Int32)), .unset] [(.ref b28)])) st28 ?_
      refine own_go (x' := T28.setTop (mkF m 104 #[.val (.int p0), .val (.long q1), .second, .val (.int p2), .val (.long q3), .second, .val (.long q4), .second, .val (.int p5), .val (.int (1 : Int32)), .val (.int (-1 : Int32)), .val (.ref b25), .val (.int (5 : Int32)), .val (.int (5 : Int32)), .unset] [(.int (1 : Int32)), (.ref b28), (.ref b28)])) (fun _ k => XS.dup X28.here hx rfl (hb hby at_92) rfl rfl (XS.iload X28.here hx rfl (hb hby at_93) rfl (XS.iconst X28.here hx rfl (hb hby at_95) (XS.icmpNo X28.here hx rfl (hb hby at_96) rfl (feq (by decide +kernel : ¬ ((5 : Int32) = (1 : Int32)))).1 (XS.iconst X28.here hx rfl (hb hby at_99) (XS.goto X28.here hx rfl (pc0 := 100) (pc' := 104) rfl (hb hby at_100) (by decide) (by decide) k)))))) ?_
      refine own_go (x' := T28.setTop (mkF m 114 #[.val (.int p0), .val (.long q1), .second, .val (.int p2), .val (.long q3), .second, .val (.long q4), .second, .val (.int p5), .val (.int (1 : Int32)), .val (.int (-1 : Int32)), .val (.ref b25), .val (.int (5 : Int32)), .val (.int (5 : Int32)), .unset] [(.int (7 : Int32)), (.int (5 : Int32)), (.long q4), (.long q3), (.int p2), (.long q1), (.int (1 : Int32)), (.ref b28), (.ref b28)])) (fun _ k => XS.lloadN X28.here hx rfl (hb hby at_104) rfl (XS.iloadN X28.here hx rfl (hb hby at_105) rfl (XS.lload X28.here hx rfl (hb hby at_106) rfl (XS.lload X28.here hx rfl (hb hby at_108) rfl (XS.iload X28.here hx rfl (hb hby at_110) rfl (XS.bipush X28.here hx rfl (hb hby at_112) k)))))) ?_
      refine own_go (x' := T28.setTop (mkF m 123 #[.val (.int p0), .val (.long q1), .second, .val (.int p2), .val (.long q3), .second, .val (.long q4), .second, .val (.int p5), .val (.int (1 : Int32)), .val (.int (-1 : Int32)), .val (.ref b25), .val (.int (5 : Int32)), .val (.int (5 : Int32)), .unset] [(.int (-1 : Int32)), (.long q4), (.long q3), (.int p2), (.long q1), (.int (1 : Int32)), (.ref b28), (.ref b28)])) (fun _ k => XS.icmpYes X28.here hx rfl (pc0 := 114) (pc' := 122) rfl (hb hby at_114) rfl (feq (by decide +kernel : ¬ ((5 : Int32) = (7 : Int32)))).2 (by decide) (by decide) (XS.iconst X28.here hx rfl (hb hby at_122) k)) ?_
      obtain ⟨_, _, ⟨T29, L29, k29, n29⟩, -, X29, ⟨Lc29, hQ29, l29, y29, z29⟩, st29⟩ := X28.specialBack hx (y := (⟨"com/example/hale_log/halelog/raft/Messages$Vote", "<init>", "(ZJIJJI)V"⟩ : MethodName)) rfl hown (mvT hZ (own_w hw 3 rfl)) (mvT hZ (own_w hw 4 rfl)) (mvT hZ (own_w hw 5 rfl)) (by decide) (backOf (W := 1) (rm1 l Z a0 hw [] b28 (1 : Int32) q1 p2 q3 q4 (-1 : Int32) h28 n0 Zs E_b28 F_b28_pre F_b28_term F_b28_candidate F_b28_lastIndex F_b28_lastTerm F_b28_askedBy g_b28) hZ (own_w hw 5 rfl) (own_w hw 2 rfl) (by decide) (by decide)) (g := (mkF m 123 #[.val (.int p0), .val (.long q1), .second, .val (.int p2), .val (.long q3), .second, .val (.long q4), .second, .val (.int p5), .val (.int (1 : Int32)), .val (.int (-1 : Int32)), .val (.ref b25), .val (.int (5 : Int32)), .val (.int (5 : Int32)), .unset] [(.int (-1 : Int32)), (.long q4), (.long q3), (.int p2), (.long q1), (.int (1 : Int32)), (.ref b28), (.ref b28)])) rfl (by rw [hml]; rfl) (Steps.refl _) (a := b28) (argsL := [(.int (1 : Int32)), (.long q1), (.int p2), (.long q3), (.long q4), (.int (-1 : Int32))]) (rest := [(.ref b28)]) (lenOf pd_0 rfl) rfl (by show 2 * 0 + _ ≤ _; exact Nat.le_of_eq rfl) (hb hby at_123) (fun _ _ => ⟨rfl, e28, (by decide : 2 + 0 ≤ _), (by decide : 12 + 0 ≤ _)⟩)
      dsimp only [Pt.U, Pt.locs, Pt.cells, Pt.slots] at X29 l29 y29 z29 st29 hQ29
      subst l29 y29 z29
      obtain ⟨hv29, Nq29, K29, Eo29, Fo29_0, Fo29_1, Fo29_2, Fo29_3, Fo29_4, Fo29_5⟩ := hQ29
      subst hv29
      replace Nf := Fr.app Nf Nq29
      replace E_b25 := E_b25.keep K29
      replace F_b25_pre := F_b25_pre.keep K29 (ninS ne_b25_b28 nin0)
      replace F_b25_term := F_b25_term.keep K29 (ninS ne_b25_b28 nin0)
      replace F_b25_candidate := F_b25_candidate.keep K29 (ninS ne_b25_b28 nin0)
      replace F_b25_lastIndex := F_b25_lastIndex.keep K29 (ninS ne_b25_b28 nin0)
      replace F_b25_lastTerm := F_b25_lastTerm.keep K29 (ninS ne_b25_b28 nin0)
      replace F_b25_askedBy := F_b25_askedBy.keep K29 (ninS ne_b25_b28 nin0)
      replace Zs := Nat.le_trans Zs K29.1
      replace E_b28 := Eo29
      replace F_b28_pre := Fo29_0
      replace F_b28_term := Fo29_1
      replace F_b28_candidate := Fo29_2
      replace F_b28_lastIndex := Fo29_3
      replace F_b28_lastTerm := Fo29_4
      replace F_b28_askedBy := Fo29_5
      refine own_go (x' := T29.setTop (mkF m 126 #[.val (.int p0), .val (.long q1), .second, .val (.int p2), .val (.long q3), .second, .val (.long q4), .second, .val (.int p5), .val (.int (1 : Int32)), .val (.int (-1 : Int32)), .val (.ref b25), .val (.int (5 : Int32)), .val (.int (5 : Int32)), .unset] [(.ref b28)])) (fun _ k => st29.trans k) ?_
      refine own_go (x' := T29.setTop (mkF m 130 #[.val (.int p0), .val (.long q1), .second, .val (.int p2), .val (.long q3), .second, .val (.long q4), .second, .val (.int p5), .val (.int (1 : Int32)), .val (.int (-1 : Int32)), .val (.ref b25), .val (.int (5 : Int32)), .val (.int (5 : Int32)), .val (.ref b28)] [(.ref b28)])) (fun _ k => XS.astore X29.here hx rfl (hb hby at_126) rfl rfl (l' := #[.val (.int p0), .val (.long q1), .second, .val (.int p2), .val (.long q3), .second, .val (.long q4), .second, .val (.int p5), .val (.int (1 : Int32)), .val (.int (-1 : Int32)), .val (.ref b25), .val (.int (5 : Int32)), .val (.int (5 : Int32)), .val (.ref b28)]) rfl (XS.aload X29.here hx rfl (hb hby at_128) rfl rfl k)) ?_
      obtain ⟨cq30, kq30, q30a, q30b, q30c⟩ := isOf hZ rfl E_b28
      obtain ⟨_, _, ⟨T30, L30, k30, n30⟩, -, X30, ⟨Lc30, hQ30, l30, y30, z30⟩, st30⟩ := X29.virtualBack hx (y := (⟨"com/example/hale_log/halelog/raft/Messages$Vote", "kind", "()B"⟩ : MethodName)) (z := (⟨"com/example/hale_log/halelog/raft/Messages$Vote", "kind", "()B"⟩ : MethodName)) hown (mvT hZ (own_w hw 21 rfl)) (mvT hZ (own_w hw 22 rfl)) (notFace_of_selects (args := #[]) (mvT hZ (own_w hw 24 rfl))) (mvT hZ (own_w hw 24 rfl)) (mvT hZ (own_w hw 23 rfl)) (by decide) (backOf (W := 0) (rm3 l Z a0 hw [] b28 (nar .boolean (1 : Int32)) (-1 : Int32) T29.heap n0 Zs F_b28_pre F_b28_askedBy) hZ (own_w hw 25 rfl) (own_w hw 2 rfl) (by decide) (by decide)) q30a q30c (g := (mkF m 130 #[.val (.int p0), .val (.long q1), .second, .val (.int p2), .val (.long q3), .second, .val (.long q4), .second, .val (.int p5), .val (.int (1 : Int32)), .val (.int (-1 : Int32)), .val (.ref b25), .val (.int (5 : Int32)), .val (.int (5 : Int32)), .val (.ref b28)] [(.ref b28)])) rfl (by rw [hml]; rfl) (Steps.refl _) (argsL := []) (rest := []) (lenOf pd_1 rfl) rfl (by show 2 * 0 + _ ≤ _; exact Nat.le_of_eq rfl) (hb hby at_130) (fun _ _ => ⟨rfl, rfl, (by decide : 2 + 0 ≤ _), (by decide : 12 + 0 ≤ _)⟩)
      dsimp only [Pt.U, Pt.locs, Pt.cells, Pt.slots] at X30 l30 y30 z30 st30 hQ30
      subst l30 y30 z30
      obtain ⟨hv30, Nq30, eq30⟩ := hQ30
      have hk30 : own_kind (nar .boolean (1 : Int32)) (-1 : Int32) = 5 := by rfl
      rw [hk30] at hv30
      subst hv30
      replace Nf := Fr.app Nf Nq30
      refine own_go (x' := T30.setTop (mkF m 133 #[.val (.int p0), .val (.long q1), .second, .val (.int p2), .val (.long q3), .second, .val (.long q4), .second, .val (.int p5), .val (.int (1 : Int32)), .val (.int (-1 : Int32)), .val (.ref b25), .val (.int (5 : Int32)), .val (.int (5 : Int32)), .val (.ref b28)] [(.int (5 : Int32))])) (fun _ k => st30.trans k) ?_
      refine own_go (x' := T30.setTop (mkF m 143 #[.val (.int p0), .val (.long q1), .second, .val (.int p2), .val (.long q3), .second, .val (.long q4), .second, .val (.int p5), .val (.int (1 : Int32)), .val (.int (-1 : Int32)), .val (.ref b25), .val (.int (5 : Int32)), .val (.int (5 : Int32)), .val (.ref b28)] [(.int (1 : Int32))])) (fun _ k => XS.iload X30.here hx rfl (hb hby at_133) rfl (XS.icmpNo X30.here hx rfl (hb hby at_135) rfl (teq rfl).2 (XS.iconst X30.here hx rfl (hb hby at_138) (XS.goto X30.here hx rfl (pc0 := 139) (pc' := 143) rfl (hb hby at_139) (by decide) (by decide) k)))) ?_
      refine own_retN X30 hx hlk (t := .boolean) hret (by simp) (hb hby at_143) (w := (1 : Int32)) rfl ?_ (by decide) (by decide)
      rw [eq30]
      exact ⟨rfl, Nf⟩
set_option maxRecDepth 65536 in
set_option maxHeartbeats 40000000 in
theorem comes_1 {Post : Tables → Env → Array Value → State → Outcome → State → Prop} (hpost : ∀ tb e args s v u, (limb_1_1.after args s (.returned v) u = true ∧ limb_1_2.after args s (.returned v) u = true ∧ True) → FrameEnd s (.returned v) u (Jvm.fieldLocs frame_1_writes args s ++ Jvm.arrayLocs frame_1_arrays args s ++ Jvm.staticLocs frame_1_statics s) 16 128 → Post tb e args s (.returned v) u) :
    ArmFor flags0 classFile x code maxLocals ret World_1 tables_1 room_1 Calls_1 rest_1 Pre_1 Post := by
  intro l hfl _ _ p e ha hc hk s m args below hf hA hF happ hP
  obtain ⟨hcalls, hrest, hpre⟩ := hP
  obtain ⟨-, -, -, hnamed, -, -, -, hat⟩ := (Spec.applies_iff hf).mp happ
  obtain ⟨hg, hn⟩ := and_e (Cond.before_iff.mp (show (Jvm.Cond.and given_1 narrow_1).before args s = true from hpre))
  obtain ⟨gg1, gg2⟩ := and_e hg
  obtain ⟨gg3, gg4⟩ := and_e gg2
  obtain ⟨gg5, gg6⟩ := and_e gg4
  obtain ⟨gg7, gg8⟩ := and_e gg6
  obtain ⟨gg9, gg10⟩ := and_e gg8
  obtain ⟨gg11, gg12⟩ := and_e gg10
  obtain ⟨w0, w1, w2, w3, w4, w5, rfl⟩ : ∃ w0 w1 w2 w3 w4 w5 : Value, args = #[w0, w1, w2, w3, w4, w5] := by
    have hs : args.size = 6 := by simpa [Cond.value, given_1] using gg1
    obtain ⟨L⟩ := args
    match L, hs with
    | [w0, w1, w2, w3, w4, w5], _ => exact ⟨w0, w1, w2, w3, w4, w5, rfl⟩
  have hw := fun d (hd : d ∈ tables_1) => atoms_spec (ws := Jvm.Cond.code x code maxLocals ret :: tables_1) hat d (List.mem_cons_of_mem _ hd)
  have hfit : Fit s := fun {y c} hc i hi => by
    obtain ⟨ha, rfl⟩ := Array.getElem?_eq_some_iff.mp hc
    have q := List.all_eq_true.mp ((Array.all_eq_true_iff_forall_mem.mp hF) _ (Array.getElem_mem ha)) i (List.mem_range.mpr hi)
    simpa [Array.getElem?_eq_getElem hi] using q
  obtain ⟨i0, ei0⟩ := is_v gg3
  obtain rfl : w0 = (.int i0) := Option.some.inj ei0
  obtain ⟨i1, ei1⟩ := isL_v gg5
  obtain rfl : w1 = (.long i1) := Option.some.inj ei1
  obtain ⟨i2, ei2⟩ := is_v gg7
  obtain rfl : w2 = (.int i2) := Option.some.inj ei2
  obtain ⟨i3, ei3⟩ := isL_v gg9
  obtain rfl : w3 = (.long i3) := Option.some.inj ei3
  obtain ⟨i4, ei4⟩ := isL_v gg11
  obtain rfl : w4 = (.long i4) := Option.some.inj ei4
  obtain ⟨i5, ei5⟩ := is_v gg12
  obtain rfl : w5 = (.int i5) := Option.some.inj ei5
  obtain ⟨n, o, h1, h2, h3, _, L, rfl, ⟨rfl, N⟩, hq⟩ := rm0 l s _ hw tables_1 i0 i1 i2 i3 i4 i5  s.heap s.heap.size (Nat.le_refl _)  p e ha hc hk s m _ below hf ((Spec.applies_iff_loose hf).mp happ).1 ⟨rfl, State.Warmed39.refl s, rfl⟩ trivial
  refine ⟨n, _, h1, h2, h3, hpost _ _ _ _ _ _ ⟨Cond.after_iff.mpr rfl, Cond.after_iff.mpr (eq_i res_at (Term.int_eval (1)) rfl), trivial⟩ ⟨hq.1, hq.2.1, (hq.2.2.sift fun y hy => Or.inr (N y hy)).mono (by decide) (by decide)⟩⟩
theorem main_1_1 : Claimed_1_1 := comes_1 fun _ _ _ _ _ _ h hF => ⟨h.1, hF⟩
theorem main_1_2 : Claimed_1_2 := comes_1 fun _ _ _ _ _ _ h hF => ⟨h.2.1, hF⟩
end Jvm.Pilot.@@N@@
namespace Jvm.Pilot.@@N@@
open Jvm Jvm.ClassFile Sem Op Lib Jvm.Free Jvm.Stand Jvm.Pilot.@@N@@.Jvm.D
/-! MADE BY PROGRAM (witnessworld.py) out of the Statement's table words and the real class files: 7 classes; the members and pool entries that the words name. The judged class is class 1, her method 1. -/
namespace start1
open Jvm.ClassFile
def u (s : String) : CpInfo := .utf8 (stringToUtf16 s)
/-- a pool by its gaps: so many unusable entries, then the entry; so many at the end -/
def gap : Nat → List CpInfo → List CpInfo
  | 0, r => r
  | n + 1, r => .unusable :: gap n r
def poolList (es : List (Nat × CpInfo)) (last : Nat) : List CpInfo := es.foldr (fun e r => gap e.1 (e.2 :: r)) (gap last [])
def pool (es : List (Nat × CpInfo)) (last : Nat) : Array CpInfo := ⟨poolList es last⟩
def fileOf (pool : Array CpInfo) (this : Nat) (attrs : Array Attribute := #[]) (ms : Array MethodInfo := #[]) (fl : Nat := 33) (sup : Nat := 0) (ifs : Array Nat := #[]) (fds : Array FieldInfo := #[]) : ClassFile where
  minorVersion := 0
  majorVersion := 65
  constantPool := pool
  accessFlags := fl
  thisClass := this
  superClass := sup
  interfaces := ifs
  fields := fds
  methods := ms
  attributes := attrs
def plain (name : String) (sup : Option ClassId) : Class where
  name := name
  kind := .ordinary
  loader := none
  accessFlags := 33
  super := sup
  interfaces := #[]
  cf := none
  fields := #[]
  methods := #[]
  instanceTypes := #[]
  staticTypes := #[]
  resolved := #[]
  callSites := []
  init := .initialized
  statics := none
  mirror := none

def pool0 : Array CpInfo := pool [(5, u "<init>"), (0, u "()V"), (1, .class_ 10), (1, u "java/lang/Object")] 113

def k0c0 : Code := { maxStack := 0, maxLocals := 1, code := object_method_1_code, exceptionTable := #[], attributes := #[] }
def k0m0 : Method := { name := "<init>", desc := "()V", sig := { parameters := [], returnType := none }, accessFlags := 1, code := some k0c0 }
/-- java/lang/Object -/
def k0 : Class := { plain "java/lang/Object" none with
  accessFlags := 33
  interfaces := #[]
  cf := some (fileOf pool0 8 #[] #[{ accessFlags := 1, nameIndex := 5, descriptorIndex := 6, attributes := #[] }] 33 0 #[] #[])
  fields := #[]
  methods := #[k0m0]
  instanceTypes := #[]
  staticTypes := #[]
  resolved := Array.replicate 124 none
  statics := none }

def pool1 : Array CpInfo := pool [(2, .class_ 4), (1, u "java/lang/Object"), (0, u "<init>"), (0, u "()V"), (0, .class_ 8), (0, u "com/example/hale_log/halelog/raft/Messages$Vote"), (0, .methodref 7 10), (0, .nameAndType 5 11), (0, u "(ZJIJJI)V"), (0, .methodref 7 13), (0, .nameAndType 14 15), (0, u "kind"), (0, u "()B"), (0, .class_ 17), (0, u "com/example/hale_log/halelog/raft/VoteKindPinLaw"), (2, u "law"), (0, u "(IJIJJI)Z")] 7

def k1m0 : Method := { name := "<init>", desc := "()V", sig := { parameters := [], returnType := none }, accessFlags := 2, code := none }
def k1c1 : Code := { maxStack := 12, maxLocals := 15, code := code, exceptionTable := #[], attributes := #[] }
def k1m1 : Method := { name := "law", desc := "(IJIJJI)Z", sig := { parameters := [.int, .long, .int, .long, .long, .int], returnType := some .boolean }, accessFlags := 9, code := some k1c1 }
/-- com/example/hale_log/halelog/raft/VoteKindPinLaw -/
def k1 : Class := { plain "com/example/hale_log/halelog/raft/VoteKindPinLaw" (some 0) with
  accessFlags := 49
  interfaces := #[]
  cf := some (fileOf pool1 16 #[] #[{ accessFlags := 2, nameIndex := 5, descriptorIndex := 6, attributes := #[] }, { accessFlags := 9, nameIndex := 20, descriptorIndex := 21, attributes := #[] }] 49 2 #[] #[])
  fields := #[]
  methods := #[k1m0, k1m1]
  instanceTypes := #[]
  staticTypes := #[]
  resolved := Array.replicate 29 none
  statics := none }

def pool2 : Array CpInfo := pool [(1, .class_ 2), (0, u "com/example/hale_log/halelog/raft/Messages"), (0, .methodref 4 5), (0, .class_ 6), (0, .nameAndType 7 8), (0, u "java/lang/Object"), (0, u "<init>"), (0, u "()V"), (0, .fieldref 10 11), (0, .class_ 12), (0, .nameAndType 13 14), (0, u "com/example/hale_log/halelog/raft/Messages$Vote"), (0, u "pre"), (0, u "Z"), (0, .fieldref 10 16), (0, .nameAndType 17 18), (0, u "term"), (0, u "J"), (0, .fieldref 10 20), (0, .nameAndType 21 22), (0, u "candidate"), (0, u "I"), (0, .fieldref 10 24), (0, .nameAndType 25 18), (0, u "lastIndex"), (0, .fieldref 10 27), (0, .nameAndType 28 18), (0, u "lastTerm"), (0, .fieldref 10 30), (0, .nameAndType 31 22), (0, u "askedBy"), (14, u "(ZJIJJI)V"), (5, u "kind"), (0, u "()B")] 28

def k2c0 : Code := { maxStack := 3, maxLocals := 10, code := prog_33_method_1_code, exceptionTable := #[], attributes := #[] }
def k2m0 : Method := { name := "<init>", desc := "(ZJIJJI)V", sig := { parameters := [.boolean, .long, .int, .long, .long, .int], returnType := none }, accessFlags := 0, code := some k2c0 }
def k2c1 : Code := { maxStack := 2, maxLocals := 1, code := prog_33_method_4_code, exceptionTable := #[], attributes := #[] }
def k2m1 : Method := { name := "kind", desc := "()B", sig := { parameters := [], returnType := some .byte }, accessFlags := 0, code := some k2c1 }
/-- com/example/hale_log/halelog/raft/Messages$Vote -/
def k2 : Class := { plain "com/example/hale_log/halelog/raft/Messages$Vote" (some 0) with
  accessFlags := 48
  interfaces := #[]
  cf := some (fileOf pool2 10 #[.nestHost 1] #[{ accessFlags := 0, nameIndex := 7, descriptorIndex := 46, attributes := #[] }, { accessFlags := 0, nameIndex := 52, descriptorIndex := 53, attributes := #[] }] 48 4 #[] #[{ accessFlags := 18, nameIndex := 13, descriptorIndex := 14, attributes := #[] }, { accessFlags := 18, nameIndex := 17, descriptorIndex := 18, attributes := #[] }, { accessFlags := 18, nameIndex := 21, descriptorIndex := 22, attributes := #[] }, { accessFlags := 18, nameIndex := 25, descriptorIndex := 18, attributes := #[] }, { accessFlags := 18, nameIndex := 28, descriptorIndex := 18, attributes := #[] }, { accessFlags := 18, nameIndex := 31, descriptorIndex := 22, attributes := #[] }])
  fields := #[{ name := "pre", type := .boolean, accessFlags := 18, slot := 0, constantValue := 0 }, { name := "term", type := .long, accessFlags := 18, slot := 1, constantValue := 0 }, { name := "candidate", type := .int, accessFlags := 18, slot := 2, constantValue := 0 }, { name := "lastIndex", type := .long, accessFlags := 18, slot := 3, constantValue := 0 }, { name := "lastTerm", type := .long, accessFlags := 18, slot := 4, constantValue := 0 }, { name := "askedBy", type := .int, accessFlags := 18, slot := 5, constantValue := 0 }]
  methods := #[k2m0, k2m1]
  instanceTypes := #[.boolean, .long, .int, .long, .long, .int]
  staticTypes := #[]
  resolved := Array.replicate 82 none
  statics := none }

def pool3 : Array CpInfo := pool [(1, u "java/lang/Cloneable"), (0, .class_ 1), (0, u "java/lang/Object"), (0, .class_ 3)] 3

/-- java/lang/Cloneable -/
def k3 : Class := { plain "java/lang/Cloneable" (some 0) with
  accessFlags := 1537
  interfaces := #[]
  cf := some (fileOf pool3 2 #[] #[] 1537 4 #[] #[])
  fields := #[]
  methods := #[]
  instanceTypes := #[]
  staticTypes := #[]
  resolved := Array.replicate 8 none
  statics := none }

def pool4 : Array CpInfo := pool [(1, u "java/io/Serializable"), (0, .class_ 1), (0, u "java/lang/Object"), (0, .class_ 3)] 3

/-- java/io/Serializable -/
def k4 : Class := { plain "java/io/Serializable" (some 0) with
  accessFlags := 1537
  interfaces := #[]
  cf := some (fileOf pool4 2 #[] #[] 1537 4 #[] #[])
  fields := #[]
  methods := #[]
  instanceTypes := #[]
  staticTypes := #[]
  resolved := Array.replicate 8 none
  statics := none }

/-- the primitive byte -/
def k5 : Class := { plain "byte" none with kind := .primitive 'B', accessFlags := 0x411 }
/-- [B -/
def k6 : Class := { plain "[B" (some 0) with kind := .array 5 .byte, interfaces := #[3, 4], accessFlags := 1041 }

def heap : Heap := #[]
def classes : Array Class := #[k0, k1, k2, k3, k4, k5, k6]
def interned : List (Array UInt16 × Addr) := []
def slotsUsed : Nat := 0
def theMethod : MethodId := ⟨1, 1⟩
def args0 : Array Value := #[.int 1, .long 2, .int 3, .long 4, .long 5, .int 6]
def aboutOver (below : List Frame) : State where
  vm := { classes := classes, interned := interned.toArray }
  heap := heap
  slotsUsed := slotsUsed
  threads := #[{ frames := .invoking theMethod args0 :: below }]
def below0 : List Frame := [.native { method := ⟨0, 0⟩, args := #[] }]
def about1 : State := aboutOver below0
def p0 : Program := .bare "" "" ""
def e0 : Env := launch0.env 0 0 0
theorem w_frames : about1.frames = Frame.invoking theMethod args0 :: below0 := rfl
set_option maxRecDepth 65536 in
theorem w_args : argsFit about1.vm theMethod args0 = true := by decide +kernel
set_option maxRecDepth 65536 in
theorem w_heap : heapFits about1 = true := by decide +kernel
set_option maxRecDepth 65536 in
theorem w_runnable : about1.curStatus? = some .runnable := by decide +kernel
set_option maxRecDepth 65536 in
theorem w_alone : about1.alone = true := by decide +kernel
set_option maxRecDepth 65536 in
theorem w_named : about1.methodNamed? x = some theMethod := by decide +kernel
set_option maxRecDepth 65536 in
theorem w_hears : about1.hears theMethod below0 = true := by decide +kernel
set_option maxRecDepth 65536 in
theorem w_ripe : about1.ripe theMethod args0 below0 = true := by decide +kernel
theorem w_running : about1.status = .running := rfl
set_option maxRecDepth 65536 in
theorem w_room : about1.hasRoom e0.platform room_1 = true :=
  launch0.hasRoom_least _ room_1 (by decide +kernel) (by decide +kernel) (by decide +kernel) (by decide +kernel) (by decide +kernel) (by decide +kernel)
theorem allAtoms_all (ts : List Jvm.Cond) (a : Array Jvm.Value) (st : Jvm.State) : (allAtoms ts).before a st = ts.all (fun c => c.before a st) := by
  induction ts with
  | nil => rfl
  | cons c t ih =>
    show (Jvm.Cond.and c (allAtoms t)).before a st = _
    rw [Jvm.Cond.before_and, ih, List.all_cons]
def words1 : List Jvm.Cond := Jvm.Cond.code x code maxLocals ret :: tables_1
/-- a 'code' word, met by the world's own term for the bytes: nothing is compared byte by byte -/
theorem code_word {y : MethodName} {bytes : ByteArray} {mx : Nat} {rt : Option FieldType} {a : Array Value} {s : State} {m : MethodId} {meth : Method} {c : Code} (h1 : s.methodNamed? y = some m) (h2 : s.vm.method? m = some meth) (h3 : meth.code = some c) (h4 : c.code = bytes)
    (h5 : (c.maxLocals == mx && c.exceptionTable.isEmpty && decide (c.maxStack ≤ mostOperands) && decide (meth.sig.returnType = rt) && !meth.locks && decide (parseMethodDescriptor y.desc = some meth.sig)) = true) : (Jvm.Cond.code y bytes mx rt).before a s = true := by
  simp only [Bool.and_eq_true, beq_iff_eq, Bool.not_eq_true', decide_eq_true_eq] at h5
  obtain ⟨⟨⟨⟨⟨g1, g2⟩, g3⟩, g4⟩, g5⟩, g6⟩ := h5
  simp [Cond.before, Cond.holds, Cond.value, h1, h2, h3, h4, g1, g2, g3, g4, g5, g6]
def isCode : Jvm.Cond → Bool
  | .code _ _ _ _ => true
  | _ => false
theorem all_split {L : List Jvm.Cond} {P : Jvm.Cond → Bool} (h1 : L.all (fun c => isCode c || P c) = true) (h2 : ∀ c ∈ L.filter isCode, P c = true) : L.all P = true := by
  refine List.all_eq_true.mpr fun c hc => ?_
  have h := List.all_eq_true.mp h1 c hc
  rcases Bool.eq_false_or_eq_true (isCode c) with hi | hi
  · exact h2 c (List.mem_filter.mpr ⟨hc, hi⟩)
  · simpa [hi] using h
set_option maxRecDepth 65536 in
theorem w_c0 : (Jvm.Cond.code x code maxLocals ret).before args0 about1 = true := code_word (m := ⟨1, 1⟩) (meth := k1m1) (c := k1c1) (by decide +kernel) rfl rfl rfl (by decide +kernel)
set_option maxRecDepth 65536 in
theorem w_c1 : (Jvm.Cond.code ({ cls := "com/example/hale_log/halelog/raft/Messages$Vote", name := "<init>", desc := "(ZJIJJI)V" } : Jvm.MethodName) prog_33_method_1_code (10 : Nat) (Option.none : Option Jvm.ClassFile.FieldType)).before args0 about1 = true := code_word (m := ⟨2, 0⟩) (meth := k2m0) (c := k2c0) (by decide +kernel) rfl rfl rfl (by decide +kernel)
set_option maxRecDepth 65536 in
theorem w_c2 : (Jvm.Cond.code ({ cls := "java/lang/Object", name := "<init>", desc := "()V" } : Jvm.MethodName) object_method_1_code (1 : Nat) (Option.none : Option Jvm.ClassFile.FieldType)).before args0 about1 = true := code_word (m := ⟨0, 0⟩) (meth := k0m0) (c := k0c0) (by decide +kernel) rfl rfl rfl (by decide +kernel)
set_option maxRecDepth 65536 in
theorem w_c3 : (Jvm.Cond.code ({ cls := "com/example/hale_log/halelog/raft/Messages$Vote", name := "kind", desc := "()B" } : Jvm.MethodName) prog_33_method_4_code (1 : Nat) (Option.some Jvm.ClassFile.FieldType.byte)).before args0 about1 = true := code_word (m := ⟨2, 1⟩) (meth := k2m1) (c := k2c1) (by decide +kernel) rfl rfl rfl (by decide +kernel)
def codes1 : List Jvm.Cond := [Jvm.Cond.code x code maxLocals ret, Jvm.Cond.code ({ cls := "com/example/hale_log/halelog/raft/Messages$Vote", name := "<init>", desc := "(ZJIJJI)V" } : Jvm.MethodName) prog_33_method_1_code (10 : Nat) (Option.none : Option Jvm.ClassFile.FieldType), Jvm.Cond.code ({ cls := "java/lang/Object", name := "<init>", desc := "()V" } : Jvm.MethodName) object_method_1_code (1 : Nat) (Option.none : Option Jvm.ClassFile.FieldType), Jvm.Cond.code ({ cls := "com/example/hale_log/halelog/raft/Messages$Vote", name := "kind", desc := "()B" } : Jvm.MethodName) prog_33_method_4_code (1 : Nat) (Option.some Jvm.ClassFile.FieldType.byte)]
set_option maxRecDepth 65536 in
theorem codes_eq : words1.filter isCode = codes1 := rfl
theorem w_codes : ∀ c ∈ words1.filter isCode, c.before args0 about1 = true := by
  rw [codes_eq]
  intro c hc
  simp only [codes1, List.mem_cons, List.not_mem_nil, or_false] at hc
  rcases hc with rfl | rfl | rfl | rfl
  · exact w_c0
  · exact w_c1
  · exact w_c2
  · exact w_c3
set_option maxRecDepth 65536 in
theorem w_t1 : (words1.take 24).all (fun c => isCode c || c.before args0 about1) = true := by decide +kernel
set_option maxRecDepth 65536 in
theorem w_t2 : (words1.drop 24).all (fun c => isCode c || c.before args0 about1) = true := by decide +kernel
theorem w_tables : (allAtoms (Jvm.Cond.code x code maxLocals ret :: tables_1)).before args0 about1 = true := by
  rw [allAtoms_all]
  show words1.all (fun c => c.before args0 about1) = true
  refine all_split ?_ w_codes
  rw [← List.take_append_drop 24 words1, List.all_append, w_t1, w_t2]
  rfl
set_option maxRecDepth 65536 in
theorem w_case : (Jvm.Cond.and given_1 narrow_1).before args0 about1 = true := by decide +kernel
theorem w_applies : (headSpec (Jvm.Cond.code x code maxLocals ret :: tables_1) room_1).applies x e0.platform about1 = true :=
  (Spec.applies_iff w_frames).mpr ⟨w_running, w_runnable, w_alone, w_named, w_hears, w_ripe, w_room, w_tables⟩
theorem atStart : AtStart classFile x code maxLocals ret World_1 tables_1 room_1 Calls_1 rest_1 Pre_1 launch0 p0 e0 about1 theMethod args0 below0 :=
  ⟨lists_1, trivial, launch0.admits_env _ _ _, launch0.least_env, fairChoices_fair.cas, fairChoices_fair.clock, w_frames, w_args, w_heap, w_applies, trivial, trivial, w_case⟩
end start1
theorem witness_1 : WitnessClaimed_1 := ⟨start1.p0, start1.e0, start1.about1, start1.theMethod, start1.args0, start1.below0, start1.atStart⟩
end Jvm.Pilot.@@N@@
