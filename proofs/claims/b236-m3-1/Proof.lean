import JvmDerived
import JvmDerived.Pilot.@@N@@Statement
import JvmDerived.Pilot.@@N@@Code
set_option linter.unusedVariables false
set_option linter.unusedSimpArgs false
namespace Jvm.Pilot.@@N@@
open Jvm Jvm.ClassFile Sem Op Lib Jvm.Free Jvm.Stand Jvm.LawKit Jvm.RoadKit Bundle Jvm.Pilot.@@N@@.Jvm.D
section OwnKit
variable {p : Program} {l : Launch} {e : Env} {R : Room} {s : State} {m : MethodId} {args : Array Value} {below : List Frame} {meth : Method} {c : Code} {T : State} {locs : List Loc} {cells slots : Nat} {Q : Option Value → Heap → List Loc → Prop} {C S : Nat}
/-- from x the run ends, returning, with what Q says -/
def own_End (p : Program) (e : Env) (below : List Frame) (s : State) (Q : Option Value → Heap → List Loc → Prop) (C S : Nat) (x : State) : Prop :=
  ∃ t o, Steps p.tables e below x t ∧ t.status = .running ∧ Ended t below o ∧ ∃ v L, o = .returned v ∧ Q v t.heap L ∧ FrameEnd s o t L C S
theorem own_go {x x' : State} (h : ∀ t, Steps p.tables e below x' t → Steps p.tables e below x t) (k : own_End p e below s Q C S x') : own_End p e below s Q C S x := by
  obtain ⟨t, o, h1, h2⟩ := k
  exact ⟨t, o, h t h1, h2⟩
theorem own_mono {Q' : Option Value → Heap → List Loc → Prop} {x : State} (h : ∀ v h L, Q v h L → Q' v h L) (k : own_End p e below s Q C S x) : own_End p e below s Q' C S x := by
  obtain ⟨t, o, h1, h2, h3, v, L, h4, h5, h6⟩ := k
  exact ⟨t, o, h1, h2, h3, v, L, h4, h _ _ _ h5, h6⟩
theorem own_out (X : Stand p l e R s m args below meth c T locs cells slots) (hlk : meth.locks = false) {v : Option Value} (hv : meth.sig.returnType = none → v = none) {x : State}
    (h : ∀ fs, (∀ (f : JFrame) (acts : List Action), f.method = m → f.locked = none → f.entered = [] → (doReturn e (T.setTop f) acts v).1 = T.setFrames fs) → Steps p.tables e below x (T.setFrames fs))
    (hq : Q v T.heap locs) (hc : cells ≤ C) (hs : slots ≤ S) : own_End p e below s Q C S x := by
  obtain ⟨fs, hr, hrun, hended, hW, hsame⟩ := X.leave hv hlk
  exact ⟨_, _, h fs hr, hrun, hended, _, _, rfl, hq, ⟨_, rfl⟩, hW, hsame.mono hc hs⟩
theorem own_retV (X : Stand p l e R s m args below meth c T locs cells slots) (hx : p.tables.exec = Jvm.exec) (hlk : meth.locks = false) {pc : Nat} {Ls : Array Slot} (hret : meth.sig.returnType = none) (hd : decode c.code pc = .ok (.return_, 1))
    (hq : Q none T.heap locs) (hc : cells ≤ C) (hs : slots ≤ S) : own_End p e below s Q C S (T.setTop (mkF m pc Ls [])) :=
  own_out X hlk (fun _ => rfl) (fun fs hr => X.returnOut hx hret hd hr) hq hc hs
theorem own_retN (X : Stand p l e R s m args below meth c T locs cells slots) (hx : p.tables.exec = Jvm.exec) (hlk : meth.locks = false) {pc : Nat} {Ls : Array Slot} {z w : Int32} {t : FieldType} {rest : List Value} (hret : meth.sig.returnType = some t) (ht : t = .boolean ∨ t = .byte ∨ t = .char ∨ t = .short) (hd : decode c.code pc = .ok (.ireturn, 1))
    (hz : nar t z = w) (hq : Q (some (.int w)) T.heap locs) (hc : cells ≤ C) (hs : slots ≤ S) : own_End p e below s Q C S (T.setTop (mkF m pc Ls (.int z :: rest))) := by
  subst hz
  exact own_out X hlk (fun h => by rw [hret] at h; cases h) (fun fs hr => retN X hx hret ht hd hr) hq hc hs
theorem own_retI (X : Stand p l e R s m args below meth c T locs cells slots) (hx : p.tables.exec = Jvm.exec) (hlk : meth.locks = false) {pc : Nat} {Ls : Array Slot} {z : Int32} {rest : List Value} (hret : meth.sig.returnType = some .int) (hd : decode c.code pc = .ok (.ireturn, 1))
    (hq : Q (some (.int z)) T.heap locs) (hc : cells ≤ C) (hs : slots ≤ S) : own_End p e below s Q C S (T.setTop (mkF m pc Ls (.int z :: rest))) :=
  own_out X hlk (fun h => by rw [hret] at h; cases h) (fun fs hr => retOut X hx hret rfl (Or.inl ⟨rfl, Or.inl rfl, _, rfl⟩) hd hr) hq hc hs
theorem own_retJ (X : Stand p l e R s m args below meth c T locs cells slots) (hx : p.tables.exec = Jvm.exec) (hlk : meth.locks = false) {pc : Nat} {Ls : Array Slot} {z : Int64} {rest : List Value} (hret : meth.sig.returnType = some .long) (hd : decode c.code pc = .ok (.lreturn, 1))
    (hq : Q (some (.long z)) T.heap locs) (hc : cells ≤ C) (hs : slots ≤ S) : own_End p e below s Q C S (T.setTop (mkF m pc Ls (.long z :: rest))) :=
  own_out X hlk (fun h => by rw [hret] at h; cases h) (fun fs hr => retOut X hx hret rfl (Or.inr (Or.inl ⟨rfl, rfl, _, rfl⟩)) hd hr) hq hc hs
theorem own_retR (X : Stand p l e R s m args below meth c T locs cells slots) (hx : p.tables.exec = Jvm.exec) (hlk : meth.locks = false) {pc : Nat} {Ls : Array Slot} {z : Value} {t : FieldType} {rest : List Value} (hret : meth.sig.returnType = some t) (ht : t.isReference = true) (hv : z.isRef = true) (hd : decode c.code pc = .ok (.areturn, 1))
    (hq : Q (some z) T.heap locs) (hc : cells ≤ C) (hs : slots ≤ S) : own_End p e below s Q C S (T.setTop (mkF m pc Ls (z :: rest))) :=
  own_out X hlk (fun h => by rw [hret] at h; cases h) (fun fs hr => retOut X hx hret (by cases t <;> first | rfl | cases ht) (Or.inr (Or.inr (Or.inr (Or.inr ⟨rfl, ht, hv⟩)))) hd hr) hq hc hs
theorem own_w {a0 : Array Value} {Z : State} (hw : ∀ d ∈ tables_1, d.before a0 Z = true) (i : Nat) {d : Jvm.Cond} (h : tables_1[i]? = some d) : d.before a0 Z = true := hw _ (List.mem_of_getElem? h)
end OwnKit
theorem own_fldI {args : Array Value} {s : State} {t : Term} {a : Addr} {C n d : String} {k : Int32} (ev : t.eval args s none [] s = some (.ref a)) (h : (Jvm.Cond.eq (.field t C n d) (.int k)).value args s none s [] = some true) : Fld s s.heap a C n d (.int k) := by
  have e := fld_at (C := C) (n := n) (dd := d) ev
  cases hv : s.fieldOf? a C n d with
  | none => simp only [Jvm.Cond.value, e, hv, Term.int_eval] at h; cases h
  | some v =>
    have q : v = .int k := by
      cases v <;> simp [Jvm.Cond.value, e, hv, Term.int_eval] at h ⊢
      exact h
    rw [q] at hv
    exact Fld.start hv
theorem own_fldJ {args : Array Value} {s : State} {t : Term} {a : Addr} {C n d : String} {k : Int64} (ev : t.eval args s none [] s = some (.ref a)) (h : (Jvm.Cond.eq (.field t C n d) (.long k)).value args s none s [] = some true) : Fld s s.heap a C n d (.long k) := by
  have e := fld_at (C := C) (n := n) (dd := d) ev
  cases hv : s.fieldOf? a C n d with
  | none => simp only [Jvm.Cond.value, e, hv, long_at] at h; cases h
  | some v =>
    have q : v = .long k := by
      cases v <;> simp [Jvm.Cond.value, e, hv, long_at] at h ⊢
      exact h
    rw [q] at hv
    exact Fld.start hv
def own_pick (k : Int32) (x y z : Addr) : Addr := if k = 0 then x else if k = 1 then y else z
def own_acc (a b x y : Addr) : Int32 := if a = b then 1 else if a = y then (if b = x then 1 else 0) else 0
theorem d1_0 : decode method_2_code 0 = .ok (.iload_n 0, 1) := by decide +kernel
theorem d1_1 : decode method_2_code 1 = .ok (.ifCond .ne 7, 3) := by decide +kernel
theorem d1_4 : decode method_2_code 4 = .ok (.getstatic 7, 3) := by decide +kernel
theorem d1_7 : decode method_2_code 7 = .ok (.areturn, 1) := by decide +kernel
theorem d1_8 : decode method_2_code 8 = .ok (.iload_n 0, 1) := by decide +kernel
theorem d1_9 : decode method_2_code 9 = .ok (.iconst 1, 1) := by decide +kernel
theorem d1_10 : decode method_2_code 10 = .ok (.if_icmp .ne 7, 3) := by decide +kernel
theorem d1_13 : decode method_2_code 13 = .ok (.getstatic 13, 3) := by decide +kernel
theorem d1_16 : decode method_2_code 16 = .ok (.areturn, 1) := by decide +kernel
theorem d1_17 : decode method_2_code 17 = .ok (.getstatic 16, 3) := by decide +kernel
theorem d1_20 : decode method_2_code 20 = .ok (.areturn, 1) := by decide +kernel
def Q_rm1 (Z : State) (p0 : Int32) (aI aD aB : Addr) (h0 : Heap) (n0 : Nat) (v : Option Value) (h : Heap) (L : List Loc) : Prop := v = some (.ref (own_pick p0 aI aD aB)) ∧ Fr n0 L ∧ h = h0
theorem pn_rm1 : plainName "com/example/stratgen/stratgen/model/TypeAcceptsPinLaw" = true := by first | (simp [plainName, overriddenIn]; done) | decide +kernel
theorem ef_rm1 (m : MethodId) (x0 : Int32) : entryFrame m #[(.int x0)] 1 = mkF m 0 #[.val (.int x0)] [] := by first | (simp [entryFrame, mkF, argsToLocals, Value.category]; done) | rfl
set_option maxRecDepth 65536 in
set_option maxHeartbeats 40000000 in
theorem rm1 (l : Launch) (Z : State) (a0 : Array Value) (hw : ∀ d ∈ tables_1, d.before a0 Z = true) (ws : List Jvm.Cond) (p0 : Int32) (aI aD aB : Addr) (h0 : Heap) (n0 : Nat) (Z0 : n0 ≤ h0.size) (S_INT : Sta Z h0 "com/example/stratgen/stratgen/model/Type" "INT" "Lcom/example/stratgen/stratgen/model/Type;" (.ref aI)) (S_DOUBLE : Sta Z h0 "com/example/stratgen/stratgen/model/Type" "DOUBLE" "Lcom/example/stratgen/stratgen/model/Type;" (.ref aD)) (S_BOOL : Sta Z h0 "com/example/stratgen/stratgen/model/Type" "BOOL" "Lcom/example/stratgen/stratgen/model/Type;" (.ref aB)) :
    MetFree l (⟨"com/example/stratgen/stratgen/model/TypeAcceptsPinLaw", "pick", "(I)Lcom/example/stratgen/stratgen/model/Type;"⟩ : MethodName) (head1 (Jvm.Cond.code (⟨"com/example/stratgen/stratgen/model/TypeAcceptsPinLaw", "pick", "(I)Lcom/example/stratgen/stratgen/model/Type;"⟩ : MethodName) method_2_code 1 (some (.object "com/example/stratgen/stratgen/model/Type")) :: ws) ({ frames := 0, cells := 0, slots := 0, locals := 0 } : Room)) (fun a U => a = #[(.int p0)] ∧ Z.Warmed39 U.vm ∧ U.heap = h0) (fun _ _ _ _ _ => True) (fun _ U o U' => ∃ v L, o = .returned v ∧ (Q_rm1 Z p0 aI aD aB h0 n0) v U'.heap L ∧ FrameEnd U o U' L ({ frames := 0, cells := 0, slots := 0, locals := 0 } : Room).cells ({ frames := 0, cells := 0, slots := 0, locals := 0 } : Room).slots) := by
  refine MetFree.of_bodySF (plainFor_of_name pn_rm1) hisR ?_
  intro p e s m args below meth c s₁ Bd hml0 hP hK
  obtain ⟨rfl, hZ, hh⟩ := hP
  have hx := Bd.exec
  have hby := Bd.bytes
  have hlk := BodyLoose.notSynchronized Bd
  have hret := Bd.returns
  have hml : c.maxLocals = 1 := hml0
  have hown : s.vm.findClass "com/example/stratgen/stratgen/model/TypeAcceptsPinLaw" = some m.cls := findClass_of_methodNamed Bd.named
  have hnm := (name_of_methodNamed Bd.named Bd.method).1
  have X0 : Stand p l e ({ frames := 0, cells := 0, slots := 0, locals := 0 } : Room) s m #[(.int p0)] below meth c s₁ [] 0 0 := Stand.of_body Bd
  have e0 : s₁.heap = h0 := by rw [← hh, Bd.state]; rfl
  have Nf := Fr.nil n0
  have Zs := Z0
  have Kp : Keep h0 h0 [] := Keep.refl _ _
  show own_End p e below s (Q_rm1 Z p0 aI aD aB h0 n0) ({ frames := 0, cells := 0, slots := 0, locals := 0 } : Room).cells ({ frames := 0, cells := 0, slots := 0, locals := 0 } : Room).slots (s₁.setTop (entryFrame m #[(.int p0)] 1))
  refine own_go (x' := s₁.setTop (mkF m 0 #[.val (.int p0)] [])) (fun t k => castTop (ef_rm1 m p0) k) ?_
  refine own_go (x' := s₁.setTop (mkF m 1 #[.val (.int p0)] [(.int p0)])) (fun _ k => XS.iloadN X0.here hx rfl (hb hby d1_0) rfl k) ?_
  by_cases hc1 : p0 = (0 : Int32)
  · refine own_go (x' := s₁.setTop (mkF m 4 #[.val (.int p0)] [])) (fun _ k => XS.ifNo X0.here hx rfl (hb hby d1_1) rfl ((if0 _ _).trans (teq hc1).2) k) ?_
    obtain ⟨T1, X1, e1, st1⟩ := getS2 X0 hx hZ hown (host := "") (Or.inl (own_w hw 5 rfl)) Via.refl e0 S_INT (g := (mkF m 4 #[.val (.int p0)] [])) rfl (hb hby d1_4)
    refine own_go (x' := T1.setTop (mkF m 7 #[.val (.int p0)] [(.ref aI)])) st1 ?_
    refine own_retR X1 hx hlk hret rfl rfl (hb hby d1_7) ?_ (by decide) (by decide)
    rw [e1]
    exact ⟨by simp only [own_pick, if_pos hc1], Nf, rfl⟩
  · refine own_go (x' := s₁.setTop (mkF m 10 #[.val (.int p0)] [(.int (1 : Int32)), (.int p0)])) (fun _ k => XS.ifYes X0.here hx rfl (pc0 := 1) (pc' := 8) rfl (hb hby d1_1) rfl ((if0 _ _).trans (feq hc1).2) (by decide) (by decide) (XS.iloadN X0.here hx rfl (hb hby d1_8) rfl (XS.iconst X0.here hx rfl (hb hby d1_9) k))) ?_
    by_cases hc10 : p0 = (1 : Int32)
    · refine own_go (x' := s₁.setTop (mkF m 13 #[.val (.int p0)] [])) (fun _ k => XS.icmpNo X0.here hx rfl (hb hby d1_10) rfl (teq hc10).2 k) ?_
      obtain ⟨T2, X2, e2, st2⟩ := getS2 X0 hx hZ hown (host := "") (Or.inl (own_w hw 15 rfl)) Via.refl e0 S_DOUBLE (g := (mkF m 13 #[.val (.int p0)] [])) rfl (hb hby d1_13)
      refine own_go (x' := T2.setTop (mkF m 16 #[.val (.int p0)] [(.ref aD)])) st2 ?_
      refine own_retR X2 hx hlk hret rfl rfl (hb hby d1_16) ?_ (by decide) (by decide)
      rw [e2]
      exact ⟨by simp only [own_pick, if_neg hc1, if_pos hc10], Nf, rfl⟩
    · refine own_go (x' := s₁.setTop (mkF m 17 #[.val (.int p0)] [])) (fun _ k => XS.icmpYes X0.here hx rfl (pc0 := 10) (pc' := 17) rfl (hb hby d1_10) rfl (feq hc10).2 (by decide) (by decide) k) ?_
      obtain ⟨T3, X3, e3, st3⟩ := getS2 X0 hx hZ hown (host := "") (Or.inl (own_w hw 13 rfl)) Via.refl e0 S_BOOL (g := (mkF m 17 #[.val (.int p0)] [])) rfl (hb hby d1_17)
      refine own_go (x' := T3.setTop (mkF m 20 #[.val (.int p0)] [(.ref aB)])) st3 ?_
      refine own_retR X3 hx hlk hret rfl rfl (hb hby d1_20) ?_ (by decide) (by decide)
      rw [e3]
      exact ⟨by simp only [own_pick, if_neg hc1, if_neg hc10], Nf, rfl⟩
theorem d2_0 : decode prog_96_method_6_code 0 = .ok (.aload_n 0, 1) := by decide +kernel
theorem d2_1 : decode prog_96_method_6_code 1 = .ok (.aload_n 1, 1) := by decide +kernel
theorem d2_2 : decode prog_96_method_6_code 2 = .ok (.if_acmp .eq 17, 3) := by decide +kernel
theorem d2_5 : decode prog_96_method_6_code 5 = .ok (.aload_n 0, 1) := by decide +kernel
theorem d2_6 : decode prog_96_method_6_code 6 = .ok (.getstatic 7, 3) := by decide +kernel
theorem d2_9 : decode prog_96_method_6_code 9 = .ok (.if_acmp .ne 14, 3) := by decide +kernel
theorem d2_12 : decode prog_96_method_6_code 12 = .ok (.aload_n 1, 1) := by decide +kernel
theorem d2_13 : decode prog_96_method_6_code 13 = .ok (.getstatic 3, 3) := by decide +kernel
theorem d2_16 : decode prog_96_method_6_code 16 = .ok (.if_acmp .ne 7, 3) := by decide +kernel
theorem d2_19 : decode prog_96_method_6_code 19 = .ok (.iconst 1, 1) := by decide +kernel
theorem d2_20 : decode prog_96_method_6_code 20 = .ok (.goto 4, 3) := by decide +kernel
theorem d2_23 : decode prog_96_method_6_code 23 = .ok (.iconst 0, 1) := by decide +kernel
theorem d2_24 : decode prog_96_method_6_code 24 = .ok (.ireturn, 1) := by decide +kernel
def Q_rm2 (Z : State) (ao0 ao1 : Addr) (aI aD : Addr) (h0 : Heap) (n0 : Nat) (v : Option Value) (h : Heap) (L : List Loc) : Prop := v = some (.int (own_acc ao0 ao1 aI aD)) ∧ Fr n0 L ∧ h = h0
theorem pn_rm2 : plainName "com/example/stratgen/stratgen/model/Type" = true := by first | (simp [plainName, overriddenIn]; done) | decide +kernel
theorem ef_rm2 (m : MethodId) (x0 : Addr) (x1 : Addr) : entryFrame m #[(.ref x0), (.ref x1)] 2 = mkF m 0 #[.val (.ref x0), .val (.ref x1)] [] := by first | (simp [entryFrame, mkF, argsToLocals, Value.category]; done) | rfl
set_option maxRecDepth 65536 in
set_option maxHeartbeats 40000000 in
theorem rm2 (l : Launch) (Z : State) (a0 : Array Value) (hw : ∀ d ∈ tables_1, d.before a0 Z = true) (ws : List Jvm.Cond) (ao0 ao1 : Addr) (aI aD : Addr) (h0 : Heap) (n0 : Nat) (Z0 : n0 ≤ h0.size) (S_INT : Sta Z h0 "com/example/stratgen/stratgen/model/Type" "INT" "Lcom/example/stratgen/stratgen/model/Type;" (.ref aI)) (S_DOUBLE : Sta Z h0 "com/example/stratgen/stratgen/model/Type" "DOUBLE" "Lcom/example/stratgen/stratgen/model/Type;" (.ref aD)) :
    MetFree l (⟨"com/example/stratgen/stratgen/model/Type", "accepts", "(Lcom/example/stratgen/stratgen/model/Type;)Z"⟩ : MethodName) (head1 (Jvm.Cond.code (⟨"com/example/stratgen/stratgen/model/Type", "accepts", "(Lcom/example/stratgen/stratgen/model/Type;)Z"⟩ : MethodName) prog_96_method_6_code 2 (some .boolean) :: ws) ({ frames := 0, cells := 0, slots := 0, locals := 0 } : Room)) (fun a U => a = #[(.ref ao0), (.ref ao1)] ∧ Z.Warmed39 U.vm ∧ U.heap = h0) (fun _ _ _ _ _ => True) (fun _ U o U' => ∃ v L, o = .returned v ∧ (Q_rm2 Z ao0 ao1 aI aD h0 n0) v U'.heap L ∧ FrameEnd U o U' L ({ frames := 0, cells := 0, slots := 0, locals := 0 } : Room).cells ({ frames := 0, cells := 0, slots := 0, locals := 0 } : Room).slots) := by
  refine MetFree.of_bodySF (plainFor_of_name pn_rm2) hisR ?_
  intro p e s m args below meth c s₁ Bd hml0 hP hK
  obtain ⟨rfl, hZ, hh⟩ := hP
  have hx := Bd.exec
  have hby := Bd.bytes
  have hlk := BodyLoose.notSynchronized Bd
  have hret := Bd.returns
  have hml : c.maxLocals = 2 := hml0
  have hown : s.vm.findClass "com/example/stratgen/stratgen/model/Type" = some m.cls := findClass_of_methodNamed Bd.named
  have hnm := (name_of_methodNamed Bd.named Bd.method).1
  have X0 : Stand p l e ({ frames := 0, cells := 0, slots := 0, locals := 0 } : Room) s m #[(.ref ao0), (.ref ao1)] below meth c s₁ [] 0 0 := Stand.of_body Bd
  have e0 : s₁.heap = h0 := by rw [← hh, Bd.state]; rfl
  have Nf := Fr.nil n0
  have Zs := Z0
  have Kp : Keep h0 h0 [] := Keep.refl _ _
  show own_End p e below s (Q_rm2 Z ao0 ao1 aI aD h0 n0) ({ frames := 0, cells := 0, slots := 0, locals := 0 } : Room).cells ({ frames := 0, cells := 0, slots := 0, locals := 0 } : Room).slots (s₁.setTop (entryFrame m #[(.ref ao0), (.ref ao1)] 2))
  refine own_go (x' := s₁.setTop (mkF m 0 #[.val (.ref ao0), .val (.ref ao1)] [])) (fun t k => castTop (ef_rm2 m ao0 ao1) k) ?_
  refine own_go (x' := s₁.setTop (mkF m 2 #[.val (.ref ao0), .val (.ref ao1)] [(.ref ao1), (.ref ao0)])) (fun _ k => XS.aloadN X0.here hx rfl (hb hby d2_0) rfl rfl (XS.aloadN X0.here hx rfl (hb hby d2_1) rfl rfl k)) ?_
  by_cases hc2 : ao0 = ao1
  · refine own_go (x' := s₁.setTop (mkF m 19 #[.val (.ref ao0), .val (.ref ao1)] [])) (fun _ k => Jvm.RoadKit.acmp (g := (mkF m 2 #[.val (.ref ao0), .val (.ref ao1)] [(.ref ao1), (.ref ao0)])) X0 hx rfl rfl rfl (pc0 := 2) (pc' := 19) (same := true) rfl (hb hby d2_2) rfl (decide_eq_true (congrArg Value.ref hc2)) (by decide) (by decide) k) ?_
    refine own_go (x' := s₁.setTop (mkF m 24 #[.val (.ref ao0), .val (.ref ao1)] [(.int (1 : Int32))])) (fun _ k => XS.iconst X0.here hx rfl (hb hby d2_19) (XS.goto X0.here hx rfl (pc0 := 20) (pc' := 24) rfl (hb hby d2_20) (by decide) (by decide) k)) ?_
    refine own_retN X0 hx hlk (t := .boolean) hret (by simp) (hb hby d2_24) (w := (1 : Int32)) rfl ?_ (by decide) (by decide)
    rw [e0]
    exact ⟨by simp only [own_acc, if_pos hc2], Nf, rfl⟩
  · refine own_go (x' := s₁.setTop (mkF m 5 #[.val (.ref ao0), .val (.ref ao1)] [])) (fun _ k => Jvm.RoadKit.acmp (g := (mkF m 2 #[.val (.ref ao0), .val (.ref ao1)] [(.ref ao1), (.ref ao0)])) X0 hx rfl rfl rfl (pc0 := 2) (pc' := 5) (same := false) rfl (hb hby d2_2) rfl (decide_eq_false fun q => hc2 (Value.ref.inj q)) (by decide) (by decide) k) ?_
    refine own_go (x' := s₁.setTop (mkF m 6 #[.val (.ref ao0), .val (.ref ao1)] [(.ref ao0)])) (fun _ k => XS.aloadN X0.here hx rfl (hb hby d2_5) rfl rfl k) ?_
    obtain ⟨T1, X1, e1, st1⟩ := getS2 X0 hx hZ hown (host := "") (Or.inl (own_w hw 17 rfl)) Via.refl e0 S_DOUBLE (g := (mkF m 6 #[.val (.ref ao0), .val (.ref ao1)] [(.ref ao0)])) rfl (hb hby d2_6)
    refine own_go (x' := T1.setTop (mkF m 9 #[.val (.ref ao0), .val (.ref ao1)] [(.ref aD), (.ref ao0)])) st1 ?_
    by_cases hc9 : ao0 = aD
    · refine own_go (x' := T1.setTop (mkF m 12 #[.val (.ref ao0), .val (.ref ao1)] [])) (fun _ k => Jvm.RoadKit.acmp (g := (mkF m 9 #[.val (.ref ao0), .val (.ref ao1)] [(.ref aD), (.ref ao0)])) X1 hx rfl rfl rfl (pc0 := 9) (pc' := 12) (same := true) rfl (hb hby d2_9) rfl (decide_eq_true (congrArg Value.ref hc9)) (by decide) (by decide) k) ?_
      refine own_go (x' := T1.setTop (mkF m 13 #[.val (.ref ao0), .val (.ref ao1)] [(.ref ao1)])) (fun _ k => XS.aloadN X1.here hx rfl (hb hby d2_12) rfl rfl k) ?_
      obtain ⟨T2, X2, e2, st2⟩ := getS2 X1 hx hZ hown (host := "") (Or.inl (own_w hw 18 rfl)) Via.refl e1 S_INT (g := (mkF m 13 #[.val (.ref ao0), .val (.ref ao1)] [(.ref ao1)])) rfl (hb hby d2_13)
      refine own_go (x' := T2.setTop (mkF m 16 #[.val (.ref ao0), .val (.ref ao1)] [(.ref aI), (.ref ao1)])) st2 ?_
      by_cases hc16 : ao1 = aI
      · refine own_go (x' := T2.setTop (mkF m 19 #[.val (.ref ao0), .val (.ref ao1)] [])) (fun _ k => Jvm.RoadKit.acmp (g := (mkF m 16 #[.val (.ref ao0), .val (.ref ao1)] [(.ref aI), (.ref ao1)])) X2 hx rfl rfl rfl (pc0 := 16) (pc' := 19) (same := true) rfl (hb hby d2_16) rfl (decide_eq_true (congrArg Value.ref hc16)) (by decide) (by decide) k) ?_
        refine own_go (x' := T2.setTop (mkF m 24 #[.val (.ref ao0), .val (.ref ao1)] [(.int (1 : Int32))])) (fun _ k => XS.iconst X2.here hx rfl (hb hby d2_19) (XS.goto X2.here hx rfl (pc0 := 20) (pc' := 24) rfl (hb hby d2_20) (by decide) (by decide) k)) ?_
        refine own_retN X2 hx hlk (t := .boolean) hret (by simp) (hb hby d2_24) (w := (1 : Int32)) rfl ?_ (by decide) (by decide)
        rw [e2]
        exact ⟨by simp only [own_acc, if_neg hc2, if_pos hc9, if_pos hc16], Nf, rfl⟩
      · refine own_go (x' := T2.setTop (mkF m 23 #[.val (.ref ao0), .val (.ref ao1)] [])) (fun _ k => Jvm.RoadKit.acmp (g := (mkF m 16 #[.val (.ref ao0), .val (.ref ao1)] [(.ref aI), (.ref ao1)])) X2 hx rfl rfl rfl (pc0 := 16) (pc' := 23) (same := false) rfl (hb hby d2_16) rfl (decide_eq_false fun q => hc16 (Value.ref.inj q)) (by decide) (by decide) k) ?_
        refine own_go (x' := T2.setTop (mkF m 24 #[.val (.ref ao0), .val (.ref ao1)] [(.int (0 : Int32))])) (fun _ k => XS.iconst X2.here hx rfl (hb hby d2_23) k) ?_
        refine own_retN X2 hx hlk (t := .boolean) hret (by simp) (hb hby d2_24) (w := (0 : Int32)) rfl ?_ (by decide) (by decide)
        rw [e2]
        exact ⟨by simp only [own_acc, if_neg hc2, if_pos hc9, if_neg hc16], Nf, rfl⟩
    · refine own_go (x' := T1.setTop (mkF m 23 #[.val (.ref ao0), .val (.ref ao1)] [])) (fun _ k => Jvm.RoadKit.acmp (g := (mkF m 9 #[.val (.ref ao0), .val (.ref ao1)] [(.ref aD), (.ref ao0)])) X1 hx rfl rfl rfl (pc0 := 9) (pc' := 23) (same := false) rfl (hb hby d2_9) rfl (decide_eq_false fun q => hc9 (Value.ref.inj q)) (by decide) (by decide) k) ?_
      refine own_go (x' := T1.setTop (mkF m 24 #[.val (.ref ao0), .val (.ref ao1)] [(.int (0 : Int32))])) (fun _ k => XS.iconst X1.here hx rfl (hb hby d2_23) k) ?_
      refine own_retN X1 hx hlk (t := .boolean) hret (by simp) (hb hby d2_24) (w := (0 : Int32)) rfl ?_ (by decide) (by decide)
      rw [e1]
      exact ⟨by simp only [own_acc, if_neg hc2, if_neg hc9], Nf, rfl⟩
theorem own_mod3 (p : Int32) : (p &&& (2147483647 : Int32)) % (3 : Int32) = 0 ∨ (p &&& (2147483647 : Int32)) % (3 : Int32) = 1 ∨ (p &&& (2147483647 : Int32)) % (3 : Int32) = 2 := by
  have h1 := c_and p 2147483647 (by decide)
  have h2 := (c_irem (p &&& 2147483647) 3 3 (by decide)).1 h1.1
  have h3 : ((p &&& 2147483647) % 3).toInt = 0 ∨ ((p &&& 2147483647) % 3).toInt = 1 ∨ ((p &&& 2147483647) % 3).toInt = 2 := by omega
  rcases h3 with h | h | h
  · exact Or.inl (Int32.toInt_inj.mp h)
  · exact Or.inr (Or.inl (Int32.toInt_inj.mp h))
  · exact Or.inr (Or.inr (Int32.toInt_inj.mp h))
theorem pd_0 : parseMethodDescriptor "(I)Lcom/example/stratgen/stratgen/model/Type;" = some ⟨[.int], some (.object "com/example/stratgen/stratgen/model/Type")⟩ := by decide +kernel
theorem pd_1 : parseMethodDescriptor "(Lcom/example/stratgen/stratgen/model/Type;)Z" = some ⟨[(.object "com/example/stratgen/stratgen/model/Type")], some .boolean⟩ := by decide +kernel
def Q_rm0 (Z : State) (p0 : Int32) (p1 : Int32) (aI aD aB : Addr) (h0 : Heap) (n0 : Nat) (v : Option Value) (h : Heap) (L : List Loc) : Prop := v = some (.int 1) ∧ Fr n0 L
theorem pn_rm0 : plainName "com/example/stratgen/stratgen/model/TypeAcceptsPinLaw" = true := by first | (simp [plainName, overriddenIn]; done) | decide +kernel
theorem ef_rm0 (m : MethodId) (x0 : Int32) (x1 : Int32) : entryFrame m #[(.int x0), (.int x1)] maxLocals = mkF m 0 #[.val (.int x0), .val (.int x1), .unset, .unset, .unset, .unset, .unset] [] := by first | (simp [entryFrame, mkF, argsToLocals, Value.category, maxLocals]; done) | rfl
set_option maxRecDepth 65536 in
set_option maxHeartbeats 40000000 in
theorem rm0 (l : Launch) (Z : State) (a0 : Array Value) (hw : ∀ d ∈ tables_1, d.before a0 Z = true) (ws : List Jvm.Cond) (p0 : Int32) (p1 : Int32) (aI aD aB : Addr) (h0 : Heap) (n0 : Nat) (Z0 : n0 ≤ h0.size) (S_INT : Sta Z h0 "com/example/stratgen/stratgen/model/Type" "INT" "Lcom/example/stratgen/stratgen/model/Type;" (.ref aI)) (S_DOUBLE : Sta Z h0 "com/example/stratgen/stratgen/model/Type" "DOUBLE" "Lcom/example/stratgen/stratgen/model/Type;" (.ref aD)) (S_BOOL : Sta Z h0 "com/example/stratgen/stratgen/model/Type" "BOOL" "Lcom/example/stratgen/stratgen/model/Type;" (.ref aB)) (E_aI : Exa Z h0 aI "com/example/stratgen/stratgen/model/Type") (E_aD : Exa Z h0 aD "com/example/stratgen/stratgen/model/Type") (E_aB : Exa Z h0 aB "com/example/stratgen/stratgen/model/Type") (ne_ID : aI ≠ aD) (ne_IB : aI ≠ aB) (ne_DB : aD ≠ aB) :
    MetFree l x (head1 (Jvm.Cond.code x code maxLocals ret :: ws) room_1) (fun a U => a = #[(.int p0), (.int p1)] ∧ Z.Warmed39 U.vm ∧ U.heap = h0) (fun _ _ _ _ _ => True) (fun _ U o U' => ∃ v L, o = .returned v ∧ (Q_rm0 Z p0 p1 aI aD aB h0 n0) v U'.heap L ∧ FrameEnd U o U' L room_1.cells room_1.slots) := by
  refine MetFree.of_bodySF (plainFor_of_name pn_rm0) hisR ?_
  intro p e s m args below meth c s₁ Bd hml0 hP hK
  obtain ⟨rfl, hZ, hh⟩ := hP
  have hx := Bd.exec
  have hby := Bd.bytes
  have hlk := BodyLoose.notSynchronized Bd
  have hret := Bd.returns
  have hml : c.maxLocals = 7 := hml0
  have hown : s.vm.findClass "com/example/stratgen/stratgen/model/TypeAcceptsPinLaw" = some m.cls := findClass_of_methodNamed Bd.named
  have hnm := (name_of_methodNamed Bd.named Bd.method).1
  have X0 : Stand p l e room_1 s m #[(.int p0), (.int p1)] below meth c s₁ [] 0 0 := Stand.of_body Bd
  have e0 : s₁.heap = h0 := by rw [← hh, Bd.state]; rfl
  have Nf := Fr.nil n0
  have Zs := Z0
  have Kp : Keep h0 h0 [] := Keep.refl _ _
  show own_End p e below s (Q_rm0 Z p0 p1 aI aD aB h0 n0) room_1.cells room_1.slots (s₁.setTop (entryFrame m #[(.int p0), (.int p1)] maxLocals))
  refine own_go (x' := s₁.setTop (mkF m 0 #[.val (.int p0), .val (.int p1), .unset, .unset, .unset, .unset, .unset] [])) (fun t k => castTop (ef_rm0 m p0 p1) k) ?_
  refine own_go (x' := s₁.setTop (mkF m 1 #[.val (.int p0), .val (.int p1), .unset, .unset, .unset, .unset, .unset] [(.int p0)])) (fun _ k => XS.iloadN X0.here hx rfl (hb hby at_0) rfl k) ?_
  refine own_go (x' := s₁.setTop (mkF m 3 #[.val (.int p0), .val (.int p1), .unset, .unset, .unset, .unset, .unset] [(.int (2147483647 : Int32)), (.int p0)])) (fun t k => X0.ldcInt hx hown (mvT hZ (own_w hw 0 rfl)) (g := (mkF m 1 #[.val (.int p0), .val (.int p1), .unset, .unset, .unset, .unset, .unset] [(.int p0)])) rfl (hb hby at_1) t k) ?_
  refine own_go (x' := s₁.setTop (mkF m 7 #[.val (.int p0), .val (.int p1), .val (.int ((p0 &&& (2147483647 : Int32)) % (3 : Int32))), .unset, .unset, .unset, .unset] [])) (fun _ k => XS.iand X0.here hx rfl (hb hby at_3) rfl (XS.iconst X0.here hx rfl (hb hby at_4) (iremM X0 hx rfl (hb hby at_5) rfl (by decide) (XS.istoreN X0.here hx rfl (hb hby at_6) rfl (l' := #[.val (.int p0), .val (.int p1), .val (.int ((p0 &&& (2147483647 : Int32)) % (3 : Int32))), .unset, .unset, .unset, .unset]) rfl k)))) ?_
  rcases own_mod3 p0 with hm | hm | hm
  · rw [hm]
    refine own_go (x' := s₁.setTop (mkF m 8 #[.val (.int p0), .val (.int p1), .val (.int (0 : Int32)), .unset, .unset, .unset, .unset] [(.int p1)])) (fun _ k => XS.iloadN X0.here hx rfl (hb hby at_7) rfl k) ?_
    refine own_go (x' := s₁.setTop (mkF m 10 #[.val (.int p0), .val (.int p1), .val (.int (0 : Int32)), .unset, .unset, .unset, .unset] [(.int (2147483647 : Int32)), (.int p1)])) (fun t k => X0.ldcInt hx hown (mvT hZ (own_w hw 0 rfl)) (g := (mkF m 8 #[.val (.int p0), .val (.int p1), .val (.int (0 : Int32)), .unset, .unset, .unset, .unset] [(.int p1)])) rfl (hb hby at_8) t k) ?_
    refine own_go (x' := s₁.setTop (mkF m 14 #[.val (.int p0), .val (.int p1), .val (.int (0 : Int32)), .val (.int ((p1 &&& (2147483647 : Int32)) % (3 : Int32))), .unset, .unset, .unset] [])) (fun _ k => XS.iand X0.here hx rfl (hb hby at_10) rfl (XS.iconst X0.here hx rfl (hb hby at_11) (iremM X0 hx rfl (hb hby at_12) rfl (by decide) (XS.istoreN X0.here hx rfl (hb hby at_13) rfl (l' := #[.val (.int p0), .val (.int p1), .val (.int (0 : Int32)), .val (.int ((p1 &&& (2147483647 : Int32)) % (3 : Int32))), .unset, .unset, .unset]) rfl k)))) ?_
    rcases own_mod3 p1 with hm | hm | hm
    · rw [hm]
      refine own_go (x' := s₁.setTop (mkF m 15 #[.val (.int p0), .val (.int p1), .val (.int (0 : Int32)), .val (.int (0 : Int32)), .unset, .unset, .unset] [(.int (0 : Int32))])) (fun _ k => XS.iloadN X0.here hx rfl (hb hby at_14) rfl k) ?_
      obtain ⟨_, _, ⟨T1, L1, k1, n1⟩, -, X1, ⟨Lc1, hQ1, l1, y1, z1⟩, st1⟩ := Jvm.LawKit.callS X0 hx (y := (⟨"com/example/stratgen/stratgen/model/TypeAcceptsPinLaw", "pick", "(I)Lcom/example/stratgen/stratgen/model/Type;"⟩ : MethodName)) hown (mvT hZ (own_w hw 1 rfl)) (mvT hZ (own_w hw 2 rfl)) (mvT hZ (own_w hw 3 rfl)) (mvT hZ (own_w hw 4 rfl)) (by decide) (backOf (W := 0) (rm1 l Z a0 hw [] (0 : Int32) aI aD aB h0 n0 Zs S_INT S_DOUBLE S_BOOL) hZ (own_w hw 4 rfl) (own_w hw 3 rfl) (by decide) (by decide)) (g := (mkF m 15 #[.val (.int p0), .val (.int p1), .val (.int (0 : Int32)), .val (.int (0 : Int32)), .unset, .unset, .unset] [(.int (0 : Int32))])) rfl (by rw [hml]; rfl) (argsL := [(.int (0 : Int32))]) (rest := []) (lenOf pd_0 rfl) rfl (by show 2 * 0 + _ ≤ _; exact Nat.le_of_eq rfl) (hb hby at_15) (fun _ _ => ⟨rfl, e0, (by decide : 0 + 0 ≤ _), (by decide : 0 + 0 ≤ _)⟩)
      dsimp only [Pt.U, Pt.locs, Pt.cells, Pt.slots] at X1 l1 y1 z1 st1 hQ1
      subst l1 y1 z1
      obtain ⟨hv1, Nq1, eq1⟩ := hQ1
      have hk1 : own_pick (0 : Int32) aI aD aB = aI := by first | rfl | decide
      rw [hk1] at hv1
      subst hv1
      replace Nf := Fr.app Nf Nq1
      refine own_go (x' := T1.setTop (mkF m 18 #[.val (.int p0), .val (.int p1), .val (.int (0 : Int32)), .val (.int (0 : Int32)), .unset, .unset, .unset] [(.ref aI)])) st1 ?_
      refine own_go (x' := T1.setTop (mkF m 21 #[.val (.int p0), .val (.int p1), .val (.int (0 : Int32)), .val (.int (0 : Int32)), .val (.ref aI), .unset, .unset] [(.int (0 : Int32))])) (fun _ k => XS.astore X1.here hx rfl (hb hby at_18) rfl rfl (l' := #[.val (.int p0), .val (.int p1), .val (.int (0 : Int32)), .val (.int (0 : Int32)), .val (.ref aI), .unset, .unset]) rfl (XS.iloadN X1.here hx rfl (hb hby at_20) rfl k)) ?_
      obtain ⟨_, _, ⟨T2, L2, k2, n2⟩, -, X2, ⟨Lc2, hQ2, l2, y2, z2⟩, st2⟩ := Jvm.LawKit.callS X1 hx (y := (⟨"com/example/stratgen/stratgen/model/TypeAcceptsPinLaw", "pick", "(I)Lcom/example/stratgen/stratgen/model/Type;"⟩ : MethodName)) hown (mvT hZ (own_w hw 1 rfl)) (mvT hZ (own_w hw 2 rfl)) (mvT hZ (own_w hw 3 rfl)) (mvT hZ (own_w hw 4 rfl)) (by decide) (backOf (W := 0) (rm1 l Z a0 hw [] (0 : Int32) aI aD aB h0 n0 Zs S_INT S_DOUBLE S_BOOL) hZ (own_w hw 4 rfl) (own_w hw 3 rfl) (by decide) (by decide)) (g := (mkF m 21 #[.val (.int p0), .val (.int p1), .val (.int (0 : Int32)), .val (.int (0 : Int32)), .val (.ref aI), .unset, .unset] [(.int (0 : Int32))])) rfl (by rw [hml]; rfl) (argsL := [(.int (0 : Int32))]) (rest := []) (lenOf pd_0 rfl) rfl (by show 2 * 0 + _ ≤ _; exact Nat.le_of_eq rfl) (hb hby at_21) (fun _ _ => ⟨rfl, eq1, (by decide : 0 + 0 ≤ _), (by decide : 0 + 0 ≤ _)⟩)
      dsimp only [Pt.U, Pt.locs, Pt.cells, Pt.slots] at X2 l2 y2 z2 st2 hQ2
      subst l2 y2 z2
      obtain ⟨hv2, Nq2, eq2⟩ := hQ2
      have hk2 : own_pick (0 : Int32) aI aD aB = aI := by first | rfl | decide
      rw [hk2] at hv2
      subst hv2
      replace Nf := Fr.app Nf Nq2
      refine own_go (x' := T2.setTop (mkF m 24 #[.val (.int p0), .val (.int p1), .val (.int (0 : Int32)), .val (.int (0 : Int32)), .val (.ref aI), .unset, .unset] [(.ref aI)])) st2 ?_
      refine own_go (x' := T2.setTop (mkF m 33 #[.val (.int p0), .val (.int p1), .val (.int (0 : Int32)), .val (.int (0 : Int32)), .val (.ref aI), .val (.ref aI), .unset] [(.int (0 : Int32)), (.int ((0 : Int32) * (3 : Int32))), (.int (281 : Int32))])) (fun _ k => XS.astore X2.here hx rfl (hb hby at_24) rfl rfl (l' := #[.val (.int p0), .val (.int p1), .val (.int (0 : Int32)), .val (.int (0 : Int32)), .val (.ref aI), .val (.ref aI), .unset]) rfl (XS.sipush X2.here hx rfl (hb hby at_26) (XS.iloadN X2.here hx rfl (hb hby at_29) rfl (XS.iconst X2.here hx rfl (hb hby at_30) (XS.imul X2.here hx rfl (hb hby at_31) rfl (XS.iloadN X2.here hx rfl (hb hby at_32) rfl k)))))) ?_
      refine own_go (x' := T2.setTop (mkF m 41 #[.val (.int p0), .val (.int p1), .val (.int (0 : Int32)), .val (.int (0 : Int32)), .val (.ref aI), .val (.ref aI), .unset] [(.int (1 : Int32))])) (fun _ k => XS.iadd X2.here hx rfl (hb hby at_33) rfl (XS.ishr X2.here hx rfl (hb hby at_34) rfl (XS.iconst X2.here hx rfl (hb hby at_35) (XS.iand X2.here hx rfl (hb hby at_36) rfl (XS.ifNo X2.here hx rfl (hb hby at_37) rfl ((if0 _ _).trans (feq (by decide +kernel : ¬ ((((281 : Int32) >>> ((((0 : Int32) * (3 : Int32)) + (0 : Int32)) &&& 31)) &&& (1 : Int32)) = (0 : Int32)))).1) (XS.iconst X2.here hx rfl (hb hby at_40) k)))))) ?_
      refine own_go (x' := T2.setTop (mkF m 51 #[.val (.int p0), .val (.int p1), .val (.int (0 : Int32)), .val (.int (0 : Int32)), .val (.ref aI), .val (.ref aI), .val (.int (1 : Int32))] [(.ref aI), (.ref aI)])) (fun _ k => XS.goto X2.here hx rfl (pc0 := 41) (pc' := 45) rfl (hb hby at_41) (by decide) (by decide) (XS.istore X2.here hx rfl (hb hby at_45) rfl (l' := #[.val (.int p0), .val (.int p1), .val (.int (0 : Int32)), .val (.int (0 : Int32)), .val (.ref aI), .val (.ref aI), .val (.int (1 : Int32))]) rfl (XS.aload X2.here hx rfl (hb hby at_47) rfl rfl (XS.aload X2.here hx rfl (hb hby at_49) rfl rfl k)))) ?_
      obtain ⟨cq3, kq3, q3a, q3b, q3c⟩ := isOf hZ eq2 E_aI
      obtain ⟨_, _, ⟨T3, L3, k3, n3⟩, -, X3, ⟨Lc3, hQ3, l3, y3, z3⟩, st3⟩ := X2.virtualBack hx (y := (⟨"com/example/stratgen/stratgen/model/Type", "accepts", "(Lcom/example/stratgen/stratgen/model/Type;)Z"⟩ : MethodName)) (z := (⟨"com/example/stratgen/stratgen/model/Type", "accepts", "(Lcom/example/stratgen/stratgen/model/Type;)Z"⟩ : MethodName)) hown (mvT hZ (own_w hw 8 rfl)) (mvT hZ (own_w hw 9 rfl)) (notFace_of_selects (args := #[]) (mvT hZ (own_w hw 11 rfl))) (mvT hZ (own_w hw 11 rfl)) (mvT hZ (own_w hw 10 rfl)) (by decide) (backOf (W := 0) (rm2 l Z a0 hw [] aI aI aI aD h0 n0 Zs S_INT S_DOUBLE) hZ (own_w hw 12 rfl) (own_w hw 6 rfl) (by decide) (by decide)) q3a q3c (g := (mkF m 51 #[.val (.int p0), .val (.int p1), .val (.int (0 : Int32)), .val (.int (0 : Int32)), .val (.ref aI), .val (.ref aI), .val (.int (1 : Int32))] [(.ref aI), (.ref aI)])) rfl (by rw [hml]; rfl) (Steps.refl _) (argsL := [(.ref aI)]) (rest := []) (lenOf pd_1 rfl) rfl (by show 2 * 0 + _ ≤ _; exact Nat.le_of_eq rfl) (hb hby at_51) (fun _ _ => ⟨rfl, eq2, (by decide : 0 + 0 ≤ _), (by decide : 0 + 0 ≤ _)⟩)
      dsimp only [Pt.U, Pt.locs, Pt.cells, Pt.slots] at X3 l3 y3 z3 st3 hQ3
      subst l3 y3 z3
      obtain ⟨hv3, Nq3, eq3⟩ := hQ3
      have hk3 : own_acc aI aI aI aD = 1 := by simp [own_acc, ne_ID, ne_IB, ne_DB, ne_ID.symm, ne_IB.symm, ne_DB.symm]
      rw [hk3] at hv3
      subst hv3
      replace Nf := Fr.app Nf Nq3
      refine own_go (x' := T3.setTop (mkF m 54 #[.val (.int p0), .val (.int p1), .val (.int (0 : Int32)), .val (.int (0 : Int32)), .val (.ref aI), .val (.ref aI), .val (.int (1 : Int32))] [(.int (1 : Int32))])) (fun _ k => st3.trans k) ?_
      refine own_go (x' := T3.setTop (mkF m 64 #[.val (.int p0), .val (.int p1), .val (.int (0 : Int32)), .val (.int (0 : Int32)), .val (.ref aI), .val (.ref aI), .val (.int (1 : Int32))] [(.int (1 : Int32))])) (fun _ k => XS.iload X3.here hx rfl (hb hby at_54) rfl (XS.icmpNo X3.here hx rfl (hb hby at_56) rfl (teq rfl).2 (XS.iconst X3.here hx rfl (hb hby at_59) (XS.goto X3.here hx rfl (pc0 := 60) (pc' := 64) rfl (hb hby at_60) (by decide) (by decide) k)))) ?_
      refine own_retN X3 hx hlk (t := .boolean) hret (by simp) (hb hby at_64) (w := (1 : Int32)) rfl ?_ (by decide) (by decide)
      rw [eq3]
      exact ⟨rfl, Nf⟩
    · rw [hm]
      refine own_go (x' := s₁.setTop (mkF m 15 #[.val (.int p0), .val (.int p1), .val (.int (0 : Int32)), .val (.int (1 : Int32)), .unset, .unset, .unset] [(.int (0 : Int32))])) (fun _ k => XS.iloadN X0.here hx rfl (hb hby at_14) rfl k) ?_
      obtain ⟨_, _, ⟨T4, L4, k4, n4⟩, -, X4, ⟨Lc4, hQ4, l4, y4, z4⟩, st4⟩ := Jvm.LawKit.callS X0 hx (y := (⟨"com/example/stratgen/stratgen/model/TypeAcceptsPinLaw", "pick", "(I)Lcom/example/stratgen/stratgen/model/Type;"⟩ : MethodName)) hown (mvT hZ (own_w hw 1 rfl)) (mvT hZ (own_w hw 2 rfl)) (mvT hZ (own_w hw 3 rfl)) (mvT hZ (own_w hw 4 rfl)) (by decide) (backOf (W := 0) (rm1 l Z a0 hw [] (0 : Int32) aI aD aB h0 n0 Zs S_INT S_DOUBLE S_BOOL) hZ (own_w hw 4 rfl) (own_w hw 3 rfl) (by decide) (by decide)) (g := (mkF m 15 #[.val (.int p0), .val (.int p1), .val (.int (0 : Int32)), .val (.int (1 : Int32)), .unset, .unset, .unset] [(.int (0 : Int32))])) rfl (by rw [hml]; rfl) (argsL := [(.int (0 : Int32))]) (rest := []) (lenOf pd_0 rfl) rfl (by show 2 * 0 + _ ≤ _; exact Nat.le_of_eq rfl) (hb hby at_15) (fun _ _ => ⟨rfl, e0, (by decide : 0 + 0 ≤ _), (by decide : 0 + 0 ≤ _)⟩)
      dsimp only [Pt.U, Pt.locs, Pt.cells, Pt.slots] at X4 l4 y4 z4 st4 hQ4
      subst l4 y4 z4
      obtain ⟨hv4, Nq4, eq4⟩ := hQ4
      have hk4 : own_pick (0 : Int32) aI aD aB = aI := by first | rfl | decide
      rw [hk4] at hv4
      subst hv4
      replace Nf := Fr.app Nf Nq4
      refine own_go (x' := T4.setTop (mkF m 18 #[.val (.int p0), .val (.int p1), .val (.int (0 : Int32)), .val (.int (1 : Int32)), .unset, .unset, .unset] [(.ref aI)])) st4 ?_
      refine own_go (x' := T4.setTop (mkF m 21 #[.val (.int p0), .val (.int p1), .val (.int (0 : Int32)), .val (.int (1 : Int32)), .val (.ref aI), .unset, .unset] [(.int (1 : Int32))])) (fun _ k => XS.astore X4.here hx rfl (hb hby at_18) rfl rfl (l' := #[.val (.int p0), .val (.int p1), .val (.int (0 : Int32)), .val (.int (1 : Int32)), .val (.ref aI), .unset, .unset]) rfl (XS.iloadN X4.here hx rfl (hb hby at_20) rfl k)) ?_
      obtain ⟨_, _, ⟨T5, L5, k5, n5⟩, -, X5, ⟨Lc5, hQ5, l5, y5, z5⟩, st5⟩ := Jvm.LawKit.callS X4 hx (y := (⟨"com/example/stratgen/stratgen/model/TypeAcceptsPinLaw", "pick", "(I)Lcom/example/stratgen/stratgen/model/Type;"⟩ : MethodName)) hown (mvT hZ (own_w hw 1 rfl)) (mvT hZ (own_w hw 2 rfl)) (mvT hZ (own_w hw 3 rfl)) (mvT hZ (own_w hw 4 rfl)) (by decide) (backOf (W := 0) (rm1 l Z a0 hw [] (1 : Int32) aI aD aB h0 n0 Zs S_INT S_DOUBLE S_BOOL) hZ (own_w hw 4 rfl) (own_w hw 3 rfl) (by decide) (by decide)) (g := (mkF m 21 #[.val (.int p0), .val (.int p1), .val (.int (0 : Int32)), .val (.int (1 : Int32)), .val (.ref aI), .unset, .unset] [(.int (1 : Int32))])) rfl (by rw [hml]; rfl) (argsL := [(.int (1 : Int32))]) (rest := []) (lenOf pd_0 rfl) rfl (by show 2 * 0 + _ ≤ _; exact Nat.le_of_eq rfl) (hb hby at_21) (fun _ _ => ⟨rfl, eq4, (by decide : 0 + 0 ≤ _), (by decide : 0 + 0 ≤ _)⟩)
      dsimp only [Pt.U, Pt.locs, Pt.cells, Pt.slots] at X5 l5 y5 z5 st5 hQ5
      subst l5 y5 z5
      obtain ⟨hv5, Nq5, eq5⟩ := hQ5
      have hk5 : own_pick (1 : Int32) aI aD aB = aD := by first | rfl | decide
      rw [hk5] at hv5
      subst hv5
      replace Nf := Fr.app Nf Nq5
      refine own_go (x' := T5.setTop (mkF m 24 #[.val (.int p0), .val (.int p1), .val (.int (0 : Int32)), .val (.int (1 : Int32)), .val (.ref aI), .unset, .unset] [(.ref aD)])) st5 ?_
      refine own_go (x' := T5.setTop (mkF m 33 #[.val (.int p0), .val (.int p1), .val (.int (0 : Int32)), .val (.int (1 : Int32)), .val (.ref aI), .val (.ref aD), .unset] [(.int (1 : Int32)), (.int ((0 : Int32) * (3 : Int32))), (.int (281 : Int32))])) (fun _ k => XS.astore X5.here hx rfl (hb hby at_24) rfl rfl (l' := #[.val (.int p0), .val (.int p1), .val (.int (0 : Int32)), .val (.int (1 : Int32)), .val (.ref aI), .val (.ref aD), .unset]) rfl (XS.sipush X5.here hx rfl (hb hby at_26) (XS.iloadN X5.here hx rfl (hb hby at_29) rfl (XS.iconst X5.here hx rfl (hb hby at_30) (XS.imul X5.here hx rfl (hb hby at_31) rfl (XS.iloadN X5.here hx rfl (hb hby at_32) rfl k)))))) ?_
      refine own_go (x' := T5.setTop (mkF m 45 #[.val (.int p0), .val (.int p1), .val (.int (0 : Int32)), .val (.int (1 : Int32)), .val (.ref aI), .val (.ref aD), .unset] [(.int (0 : Int32))])) (fun _ k => XS.iadd X5.here hx rfl (hb hby at_33) rfl (XS.ishr X5.here hx rfl (hb hby at_34) rfl (XS.iconst X5.here hx rfl (hb hby at_35) (XS.iand X5.here hx rfl (hb hby at_36) rfl (XS.ifYes X5.here hx rfl (pc0 := 37) (pc' := 44) rfl (hb hby at_37) rfl ((if0 _ _).trans (teq (by decide +kernel : ((((281 : Int32) >>> ((((0 : Int32) * (3 : Int32)) + (1 : Int32)) &&& 31)) &&& (1 : Int32)) = (0 : Int32)))).1) (by decide) (by decide) (XS.iconst X5.here hx rfl (hb hby at_44) k)))))) ?_
      refine own_go (x' := T5.setTop (mkF m 51 #[.val (.int p0), .val (.int p1), .val (.int (0 : Int32)), .val (.int (1 : Int32)), .val (.ref aI), .val (.ref aD), .val (.int (0 : Int32))] [(.ref aD), (.ref aI)])) (fun _ k => XS.istore X5.here hx rfl (hb hby at_45) rfl (l' := #[.val (.int p0), .val (.int p1), .val (.int (0 : Int32)), .val (.int (1 : Int32)), .val (.ref aI), .val (.ref aD), .val (.int (0 : Int32))]) rfl (XS.aload X5.here hx rfl (hb hby at_47) rfl rfl (XS.aload X5.here hx rfl (hb hby at_49) rfl rfl k))) ?_
      obtain ⟨cq6, kq6, q6a, q6b, q6c⟩ := isOf hZ eq5 E_aI
      obtain ⟨_, _, ⟨T6, L6, k6, n6⟩, -, X6, ⟨Lc6, hQ6, l6, y6, z6⟩, st6⟩ := X5.virtualBack hx (y := (⟨"com/example/stratgen/stratgen/model/Type", "accepts", "(Lcom/example/stratgen/stratgen/model/Type;)Z"⟩ : MethodName)) (z := (⟨"com/example/stratgen/stratgen/model/Type", "accepts", "(Lcom/example/stratgen/stratgen/model/Type;)Z"⟩ : MethodName)) hown (mvT hZ (own_w hw 8 rfl)) (mvT hZ (own_w hw 9 rfl)) (notFace_of_selects (args := #[]) (mvT hZ (own_w hw 11 rfl))) (mvT hZ (own_w hw 11 rfl)) (mvT hZ (own_w hw 10 rfl)) (by decide) (backOf (W := 0) (rm2 l Z a0 hw [] aI aD aI aD h0 n0 Zs S_INT S_DOUBLE) hZ (own_w hw 12 rfl) (own_w hw 6 rfl) (by decide) (by decide)) q6a q6c (g := (mkF m 51 #[.val (.int p0), .val (.int p1), .val (.int (0 : Int32)), .val (.int (1 : Int32)), .val (.ref aI), .val (.ref aD), .val (.int (0 : Int32))] [(.ref aD), (.ref aI)])) rfl (by rw [hml]; rfl) (Steps.refl _) (argsL := [(.ref aD)]) (rest := []) (lenOf pd_1 rfl) rfl (by show 2 * 0 + _ ≤ _; exact Nat.le_of_eq rfl) (hb hby at_51) (fun _ _ => ⟨rfl, eq5, (by decide : 0 + 0 ≤ _), (by decide : 0 + 0 ≤ _)⟩)
      dsimp only [Pt.U, Pt.locs, Pt.cells, Pt.slots] at X6 l6 y6 z6 st6 hQ6
      subst l6 y6 z6
      obtain ⟨hv6, Nq6, eq6⟩ := hQ6
      have hk6 : own_acc aI aD aI aD = 0 := by simp [own_acc, ne_ID, ne_IB, ne_DB, ne_ID.symm, ne_IB.symm, ne_DB.symm]
      rw [hk6] at hv6
      subst hv6
      replace Nf := Fr.app Nf Nq6
      refine own_go (x' := T6.setTop (mkF m 54 #[.val (.int p0), .val (.int p1), .val (.int (0 : Int32)), .val (.int (1 : Int32)), .val (.ref aI), .val (.ref aD), .val (.int (0 : Int32))] [(.int (0 : Int32))])) (fun _ k => st6.trans k) ?_
      refine own_go (x' := T6.setTop (mkF m 64 #[.val (.int p0), .val (.int p1), .val (.int (0 : Int32)), .val (.int (1 : Int32)), .val (.ref aI), .val (.ref aD), .val (.int (0 : Int32))] [(.int (1 : Int32))])) (fun _ k => XS.iload X6.here hx rfl (hb hby at_54) rfl (XS.icmpNo X6.here hx rfl (hb hby at_56) rfl (teq rfl).2 (XS.iconst X6.here hx rfl (hb hby at_59) (XS.goto X6.here hx rfl (pc0 := 60) (pc' := 64) rfl (hb hby at_60) (by decide) (by decide) k)))) ?_
      refine own_retN X6 hx hlk (t := .boolean) hret (by simp) (hb hby at_64) (w := (1 : Int32)) rfl ?_ (by decide) (by decide)
      rw [eq6]
      exact ⟨rfl, Nf⟩
    · rw [hm]
      refine own_go (x' := s₁.setTop (mkF m 15 #[.val (.int p0), .val (.int p1), .val (.int (0 : Int32)), .val (.int (2 : Int32)), .unset, .unset, .unset] [(.int (0 : Int32))])) (fun _ k => XS.iloadN X0.here hx rfl (hb hby at_14) rfl k) ?_
      obtain ⟨_, _, ⟨T7, L7, k7, n7⟩, -, X7, ⟨Lc7, hQ7, l7, y7, z7⟩, st7⟩ := Jvm.LawKit.callS X0 hx (y := (⟨"com/example/stratgen/stratgen/model/TypeAcceptsPinLaw", "pick", "(I)Lcom/example/stratgen/stratgen/model/Type;"⟩ : MethodName)) hown (mvT hZ (own_w hw 1 rfl)) (mvT hZ (own_w hw 2 rfl)) (mvT hZ (own_w hw 3 rfl)) (mvT hZ (own_w hw 4 rfl)) (by decide) (backOf (W := 0) (rm1 l Z a0 hw [] (0 : Int32) aI aD aB h0 n0 Zs S_INT S_DOUBLE S_BOOL) hZ (own_w hw 4 rfl) (own_w hw 3 rfl) (by decide) (by decide)) (g := (mkF m 15 #[.val (.int p0), .val (.int p1), .val (.int (0 : Int32)), .val (.int (2 : Int32)), .unset, .unset, .unset] [(.int (0 : Int32))])) rfl (by rw [hml]; rfl) (argsL := [(.int (0 : Int32))]) (rest := []) (lenOf pd_0 rfl) rfl (by show 2 * 0 + _ ≤ _; exact Nat.le_of_eq rfl) (hb hby at_15) (fun _ _ => ⟨rfl, e0, (by decide : 0 + 0 ≤ _), (by decide : 0 + 0 ≤ _)⟩)
      dsimp only [Pt.U, Pt.locs, Pt.cells, Pt.slots] at X7 l7 y7 z7 st7 hQ7
      subst l7 y7 z7
      obtain ⟨hv7, Nq7, eq7⟩ := hQ7
      have hk7 : own_pick (0 : Int32) aI aD aB = aI := by first | rfl | decide
      rw [hk7] at hv7
      subst hv7
      replace Nf := Fr.app Nf Nq7
      refine own_go (x' := T7.setTop (mkF m 18 #[.val (.int p0), .val (.int p1), .val (.int (0 : Int32)), .val (.int (2 : Int32)), .unset, .unset, .unset] [(.ref aI)])) st7 ?_
      refine own_go (x' := T7.setTop (mkF m 21 #[.val (.int p0), .val (.int p1), .val (.int (0 : Int32)), .val (.int (2 : Int32)), .val (.ref aI), .unset, .unset] [(.int (2 : Int32))])) (fun _ k => XS.astore X7.here hx rfl (hb hby at_18) rfl rfl (l' := #[.val (.int p0), .val (.int p1), .val (.int (0 : Int32)), .val (.int (2 : Int32)), .val (.ref aI), .unset, .unset]) rfl (XS.iloadN X7.here hx rfl (hb hby at_20) rfl k)) ?_
      obtain ⟨_, _, ⟨T8, L8, k8, n8⟩, -, X8, ⟨Lc8, hQ8, l8, y8, z8⟩, st8⟩ := Jvm.LawKit.callS X7 hx (y := (⟨"com/example/stratgen/stratgen/model/TypeAcceptsPinLaw", "pick", "(I)Lcom/example/stratgen/stratgen/model/Type;"⟩ : MethodName)) hown (mvT hZ (own_w hw 1 rfl)) (mvT hZ (own_w hw 2 rfl)) (mvT hZ (own_w hw 3 rfl)) (mvT hZ (own_w hw 4 rfl)) (by decide) (backOf (W := 0) (rm1 l Z a0 hw [] (2 : Int32) aI aD aB h0 n0 Zs S_INT S_DOUBLE S_BOOL) hZ (own_w hw 4 rfl) (own_w hw 3 rfl) (by decide) (by decide)) (g := (mkF m 21 #[.val (.int p0), .val (.int p1), .val (.int (0 : Int32)), .val (.int (2 : Int32)), .val (.ref aI), .unset, .unset] [(.int (2 : Int32))])) rfl (by rw [hml]; rfl) (argsL := [(.int (2 : Int32))]) (rest := []) (lenOf pd_0 rfl) rfl (by show 2 * 0 + _ ≤ _; exact Nat.le_of_eq rfl) (hb hby at_21) (fun _ _ => ⟨rfl, eq7, (by decide : 0 + 0 ≤ _), (by decide : 0 + 0 ≤ _)⟩)
      dsimp only [Pt.U, Pt.locs, Pt.cells, Pt.slots] at X8 l8 y8 z8 st8 hQ8
      subst l8 y8 z8
      obtain ⟨hv8, Nq8, eq8⟩ := hQ8
      have hk8 : own_pick (2 : Int32) aI aD aB = aB := by first | rfl | decide
      rw [hk8] at hv8
      subst hv8
      replace Nf := Fr.app Nf Nq8
      refine own_go (x' := T8.setTop (mkF m 24 #[.val (.int p0), .val (.int p1), .val (.int (0 : Int32)), .val (.int (2 : Int32)), .val (.ref aI), .unset, .unset] [(.ref aB)])) st8 ?_
      refine own_go (x' := T8.setTop (mkF m 33 #[.val (.int p0), .val (.int p1), .val (.int (0 : Int32)), .val (.int (2 : Int32)), .val (.ref aI), .val (.ref aB), .unset] [(.int (2 : Int32)), (.int ((0 : Int32) * (3 : Int32))), (.int (281 : Int32))])) (fun _ k => XS.astore X8.here hx rfl (hb hby at_24) rfl rfl (l' := #[.val (.int p0), .val (.int p1), .val (.int (0 : Int32)), .val (.int (2 : Int32)), .val (.ref aI), .val (.ref aB), .unset]) rfl (XS.sipush X8.here hx rfl (hb hby at_26) (XS.iloadN X8.here hx rfl (hb hby at_29) rfl (XS.iconst X8.here hx rfl (hb hby at_30) (XS.imul X8.here hx rfl (hb hby at_31) rfl (XS.iloadN X8.here hx rfl (hb hby at_32) rfl k)))))) ?_
      refine own_go (x' := T8.setTop (mkF m 45 #[.val (.int p0), .val (.int p1), .val (.int (0 : Int32)), .val (.int (2 : Int32)), .val (.ref aI), .val (.ref aB), .unset] [(.int (0 : Int32))])) (fun _ k => XS.iadd X8.here hx rfl (hb hby at_33) rfl (XS.ishr X8.here hx rfl (hb hby at_34) rfl (XS.iconst X8.here hx rfl (hb hby at_35) (XS.iand X8.here hx rfl (hb hby at_36) rfl (XS.ifYes X8.here hx rfl (pc0 := 37) (pc' := 44) rfl (hb hby at_37) rfl ((if0 _ _).trans (teq (by decide +kernel : ((((281 : Int32) >>> ((((0 : Int32) * (3 : Int32)) + (2 : Int32)) &&& 31)) &&& (1 : Int32)) = (0 : Int32)))).1) (by decide) (by decide) (XS.iconst X8.here hx rfl (hb hby at_44) k)))))) ?_
      refine own_go (x' := T8.setTop (mkF m 51 #[.val (.int p0), .val (.int p1), .val (.int (0 : Int32)), .val (.int (2 : Int32)), .val (.ref aI), .val (.ref aB), .val (.int (0 : Int32))] [(.ref aB), (.ref aI)])) (fun _ k => XS.istore X8.here hx rfl (hb hby at_45) rfl (l' := #[.val (.int p0), .val (.int p1), .val (.int (0 : Int32)), .val (.int (2 : Int32)), .val (.ref aI), .val (.ref aB), .val (.int (0 : Int32))]) rfl (XS.aload X8.here hx rfl (hb hby at_47) rfl rfl (XS.aload X8.here hx rfl (hb hby at_49) rfl rfl k))) ?_
      obtain ⟨cq9, kq9, q9a, q9b, q9c⟩ := isOf hZ eq8 E_aI
      obtain ⟨_, _, ⟨T9, L9, k9, n9⟩, -, X9, ⟨Lc9, hQ9, l9, y9, z9⟩, st9⟩ := X8.virtualBack hx (y := (⟨"com/example/stratgen/stratgen/model/Type", "accepts", "(Lcom/example/stratgen/stratgen/model/Type;)Z"⟩ : MethodName)) (z := (⟨"com/example/stratgen/stratgen/model/Type", "accepts", "(Lcom/example/stratgen/stratgen/model/Type;)Z"⟩ : MethodName)) hown (mvT hZ (own_w hw 8 rfl)) (mvT hZ (own_w hw 9 rfl)) (notFace_of_selects (args := #[]) (mvT hZ (own_w hw 11 rfl))) (mvT hZ (own_w hw 11 rfl)) (mvT hZ (own_w hw 10 rfl)) (by decide) (backOf (W := 0) (rm2 l Z a0 hw [] aI aB aI aD h0 n0 Zs S_INT S_DOUBLE) hZ (own_w hw 12 rfl) (own_w hw 6 rfl) (by decide) (by decide)) q9a q9c (g := (mkF m 51 #[.val (.int p0), .val (.int p1), .val (.int (0 : Int32)), .val (.int (2 : Int32)), .val (.ref aI), .val (.ref aB), .val (.int (0 : Int32))] [(.ref aB), (.ref aI)])) rfl (by rw [hml]; rfl) (Steps.refl _) (argsL := [(.ref aB)]) (rest := []) (lenOf pd_1 rfl) rfl (by show 2 * 0 + _ ≤ _; exact Nat.le_of_eq rfl) (hb hby at_51) (fun _ _ => ⟨rfl, eq8, (by decide : 0 + 0 ≤ _), (by decide : 0 + 0 ≤ _)⟩)
      dsimp only [Pt.U, Pt.locs, Pt.cells, Pt.slots] at X9 l9 y9 z9 st9 hQ9
      subst l9 y9 z9
      obtain ⟨hv9, Nq9, eq9⟩ := hQ9
      have hk9 : own_acc aI aB aI aD = 0 := by simp [own_acc, ne_ID, ne_IB, ne_DB, ne_ID.symm, ne_IB.symm, ne_DB.symm]
      rw [hk9] at hv9
      subst hv9
      replace Nf := Fr.app Nf Nq9
      refine own_go (x' := T9.setTop (mkF m 54 #[.val (.int p0), .val (.int p1), .val (.int (0 : Int32)), .val (.int (2 : Int32)), .val (.ref aI), .val (.ref aB), .val (.int (0 : Int32))] [(.int (0 : Int32))])) (fun _ k => st9.trans k) ?_
      refine own_go (x' := T9.setTop (mkF m 64 #[.val (.int p0), .val (.int p1), .val (.int (0 : Int32)), .val (.int (2 : Int32)), .val (.ref aI), .val (.ref aB), .val (.int (0 : Int32))] [(.int (1 : Int32))])) (fun _ k => XS.iload X9.here hx rfl (hb hby at_54) rfl (XS.icmpNo X9.here hx rfl (hb hby at_56) rfl (teq rfl).2 (XS.iconst X9.here hx rfl (hb hby at_59) (XS.goto X9.here hx rfl (pc0 := 60) (pc' := 64) rfl (hb hby at_60) (by decide) (by decide) k)))) ?_
      refine own_retN X9 hx hlk (t := .boolean) hret (by simp) (hb hby at_64) (w := (1 : Int32)) rfl ?_ (by decide) (by decide)
      rw [eq9]
      exact ⟨rfl, Nf⟩
  · rw [hm]
    refine own_go (x' := s₁.setTop (mkF m 8 #[.val (.int p0), .val (.int p1), .val (.int (1 : Int32)), .unset, .unset, .unset, .unset] [(.int p1)])) (fun _ k => XS.iloadN X0.here hx rfl (hb hby at_7) rfl k) ?_
    refine own_go (x' := s₁.setTop (mkF m 10 #[.val (.int p0), .val (.int p1), .val (.int (1 : Int32)), .unset, .unset, .unset, .unset] [(.int (2147483647 : Int32)), (.int p1)])) (fun t k => X0.ldcInt hx hown (mvT hZ (own_w hw 0 rfl)) (g := (mkF m 8 #[.val (.int p0), .val (.int p1), .val (.int (1 : Int32)), .unset, .unset, .unset, .unset] [(.int p1)])) rfl (hb hby at_8) t k) ?_
    refine own_go (x' := s₁.setTop (mkF m 14 #[.val (.int p0), .val (.int p1), .val (.int (1 : Int32)), .val (.int ((p1 &&& (2147483647 : Int32)) % (3 : Int32))), .unset, .unset, .unset] [])) (fun _ k => XS.iand X0.here hx rfl (hb hby at_10) rfl (XS.iconst X0.here hx rfl (hb hby at_11) (iremM X0 hx rfl (hb hby at_12) rfl (by decide) (XS.istoreN X0.here hx rfl (hb hby at_13) rfl (l' := #[.val (.int p0), .val (.int p1), .val (.int (1 : Int32)), .val (.int ((p1 &&& (2147483647 : Int32)) % (3 : Int32))), .unset, .unset, .unset]) rfl k)))) ?_
    rcases own_mod3 p1 with hm | hm | hm
    · rw [hm]
      refine own_go (x' := s₁.setTop (mkF m 15 #[.val (.int p0), .val (.int p1), .val (.int (1 : Int32)), .val (.int (0 : Int32)), .unset, .unset, .unset] [(.int (1 : Int32))])) (fun _ k => XS.iloadN X0.here hx rfl (hb hby at_14) rfl k) ?_
      obtain ⟨_, _, ⟨T10, L10, k10, n10⟩, -, X10, ⟨Lc10, hQ10, l10, y10, z10⟩, st10⟩ := Jvm.LawKit.callS X0 hx (y := (⟨"com/example/stratgen/stratgen/model/TypeAcceptsPinLaw", "pick", "(I)Lcom/example/stratgen/stratgen/model/Type;"⟩ : MethodName)) hown (mvT hZ (own_w hw 1 rfl)) (mvT hZ (own_w hw 2 rfl)) (mvT hZ (own_w hw 3 rfl)) (mvT hZ (own_w hw 4 rfl)) (by decide) (backOf (W := 0) (rm1 l Z a0 hw [] (1 : Int32) aI aD aB h0 n0 Zs S_INT S_DOUBLE S_BOOL) hZ (own_w hw 4 rfl) (own_w hw 3 rfl) (by decide) (by decide)) (g := (mkF m 15 #[.val (.int p0), .val (.int p1), .val (.int (1 : Int32)), .val (.int (0 : Int32)), .unset, .unset, .unset] [(.int (1 : Int32))])) rfl (by rw [hml]; rfl) (argsL := [(.int (1 : Int32))]) (rest := []) (lenOf pd_0 rfl) rfl (by show 2 * 0 + _ ≤ _; exact Nat.le_of_eq rfl) (hb hby at_15) (fun _ _ => ⟨rfl, e0, (by decide : 0 + 0 ≤ _), (by decide : 0 + 0 ≤ _)⟩)
      dsimp only [Pt.U, Pt.locs, Pt.cells, Pt.slots] at X10 l10 y10 z10 st10 hQ10
      subst l10 y10 z10
      obtain ⟨hv10, Nq10, eq10⟩ := hQ10
      have hk10 : own_pick (1 : Int32) aI aD aB = aD := by first | rfl | decide
      rw [hk10] at hv10
      subst hv10
      replace Nf := Fr.app Nf Nq10
      refine own_go (x' := T10.setTop (mkF m 18 #[.val (.int p0), .val (.int p1), .val (.int (1 : Int32)), .val (.int (0 : Int32)), .unset, .unset, .unset] [(.ref aD)])) st10 ?_
      refine own_go (x' := T10.setTop (mkF m 21 #[.val (.int p0), .val (.int p1), .val (.int (1 : Int32)), .val (.int (0 : Int32)), .val (.ref aD), .unset, .unset] [(.int (0 : Int32))])) (fun _ k => XS.astore X10.here hx rfl (hb hby at_18) rfl rfl (l' := #[.val (.int p0), .val (.int p1), .val (.int (1 : Int32)), .val (.int (0 : Int32)), .val (.ref aD), .unset, .unset]) rfl (XS.iloadN X10.here hx rfl (hb hby at_20) rfl k)) ?_
      obtain ⟨_, _, ⟨T11, L11, k11, n11⟩, -, X11, ⟨Lc11, hQ11, l11, y11, z11⟩, st11⟩ := Jvm.LawKit.callS X10 hx (y := (⟨"com/example/stratgen/stratgen/model/TypeAcceptsPinLaw", "pick", "(I)Lcom/example/stratgen/stratgen/model/Type;"⟩ : MethodName)) hown (mvT hZ (own_w hw 1 rfl)) (mvT hZ (own_w hw 2 rfl)) (mvT hZ (own_w hw 3 rfl)) (mvT hZ (own_w hw 4 rfl)) (by decide) (backOf (W := 0) (rm1 l Z a0 hw [] (0 : Int32) aI aD aB h0 n0 Zs S_INT S_DOUBLE S_BOOL) hZ (own_w hw 4 rfl) (own_w hw 3 rfl) (by decide) (by decide)) (g := (mkF m 21 #[.val (.int p0), .val (.int p1), .val (.int (1 : Int32)), .val (.int (0 : Int32)), .val (.ref aD), .unset, .unset] [(.int (0 : Int32))])) rfl (by rw [hml]; rfl) (argsL := [(.int (0 : Int32))]) (rest := []) (lenOf pd_0 rfl) rfl (by show 2 * 0 + _ ≤ _; exact Nat.le_of_eq rfl) (hb hby at_21) (fun _ _ => ⟨rfl, eq10, (by decide : 0 + 0 ≤ _), (by decide : 0 + 0 ≤ _)⟩)
      dsimp only [Pt.U, Pt.locs, Pt.cells, Pt.slots] at X11 l11 y11 z11 st11 hQ11
      subst l11 y11 z11
      obtain ⟨hv11, Nq11, eq11⟩ := hQ11
      have hk11 : own_pick (0 : Int32) aI aD aB = aI := by first | rfl | decide
      rw [hk11] at hv11
      subst hv11
      replace Nf := Fr.app Nf Nq11
      refine own_go (x' := T11.setTop (mkF m 24 #[.val (.int p0), .val (.int p1), .val (.int (1 : Int32)), .val (.int (0 : Int32)), .val (.ref aD), .unset, .unset] [(.ref aI)])) st11 ?_
      refine own_go (x' := T11.setTop (mkF m 33 #[.val (.int p0), .val (.int p1), .val (.int (1 : Int32)), .val (.int (0 : Int32)), .val (.ref aD), .val (.ref aI), .unset] [(.int (0 : Int32)), (.int ((1 : Int32) * (3 : Int32))), (.int (281 : Int32))])) (fun _ k => XS.astore X11.here hx rfl (hb hby at_24) rfl rfl (l' := #[.val (.int p0), .val (.int p1), .val (.int (1 : Int32)), .val (.int (0 : Int32)), .val (.ref aD), .val (.ref aI), .unset]) rfl (XS.sipush X11.here hx rfl (hb hby at_26) (XS.iloadN X11.here hx rfl (hb hby at_29) rfl (XS.iconst X11.here hx rfl (hb hby at_30) (XS.imul X11.here hx rfl (hb hby at_31) rfl (XS.iloadN X11.here hx rfl (hb hby at_32) rfl k)))))) ?_
      refine own_go (x' := T11.setTop (mkF m 41 #[.val (.int p0), .val (.int p1), .val (.int (1 : Int32)), .val (.int (0 : Int32)), .val (.ref aD), .val (.ref aI), .unset] [(.int (1 : Int32))])) (fun _ k => XS.iadd X11.here hx rfl (hb hby at_33) rfl (XS.ishr X11.here hx rfl (hb hby at_34) rfl (XS.iconst X11.here hx rfl (hb hby at_35) (XS.iand X11.here hx rfl (hb hby at_36) rfl (XS.ifNo X11.here hx rfl (hb hby at_37) rfl ((if0 _ _).trans (feq (by decide +kernel : ¬ ((((281 : Int32) >>> ((((1 : Int32) * (3 : Int32)) + (0 : Int32)) &&& 31)) &&& (1 : Int32)) = (0 : Int32)))).1) (XS.iconst X11.here hx rfl (hb hby at_40) k)))))) ?_
      refine own_go (x' := T11.setTop (mkF m 51 #[.val (.int p0), .val (.int p1), .val (.int (1 : Int32)), .val (.int (0 : Int32)), .val (.ref aD), .val (.ref aI), .val (.int (1 : Int32))] [(.ref aI), (.ref aD)])) (fun _ k => XS.goto X11.here hx rfl (pc0 := 41) (pc' := 45) rfl (hb hby at_41) (by decide) (by decide) (XS.istore X11.here hx rfl (hb hby at_45) rfl (l' := #[.val (.int p0), .val (.int p1), .val (.int (1 : Int32)), .val (.int (0 : Int32)), .val (.ref aD), .val (.ref aI), .val (.int (1 : Int32))]) rfl (XS.aload X11.here hx rfl (hb hby at_47) rfl rfl (XS.aload X11.here hx rfl (hb hby at_49) rfl rfl k)))) ?_
      obtain ⟨cq12, kq12, q12a, q12b, q12c⟩ := isOf hZ eq11 E_aD
      obtain ⟨_, _, ⟨T12, L12, k12, n12⟩, -, X12, ⟨Lc12, hQ12, l12, y12, z12⟩, st12⟩ := X11.virtualBack hx (y := (⟨"com/example/stratgen/stratgen/model/Type", "accepts", "(Lcom/example/stratgen/stratgen/model/Type;)Z"⟩ : MethodName)) (z := (⟨"com/example/stratgen/stratgen/model/Type", "accepts", "(Lcom/example/stratgen/stratgen/model/Type;)Z"⟩ : MethodName)) hown (mvT hZ (own_w hw 8 rfl)) (mvT hZ (own_w hw 9 rfl)) (notFace_of_selects (args := #[]) (mvT hZ (own_w hw 11 rfl))) (mvT hZ (own_w hw 11 rfl)) (mvT hZ (own_w hw 10 rfl)) (by decide) (backOf (W := 0) (rm2 l Z a0 hw [] aD aI aI aD h0 n0 Zs S_INT S_DOUBLE) hZ (own_w hw 12 rfl) (own_w hw 6 rfl) (by decide) (by decide)) q12a q12c (g := (mkF m 51 #[.val (.int p0), .val (.int p1), .val (.int (1 : Int32)), .val (.int (0 : Int32)), .val (.ref aD), .val (.ref aI), .val (.int (1 : Int32))] [(.ref aI), (.ref aD)])) rfl (by rw [hml]; rfl) (Steps.refl _) (argsL := [(.ref aI)]) (rest := []) (lenOf pd_1 rfl) rfl (by show 2 * 0 + _ ≤ _; exact Nat.le_of_eq rfl) (hb hby at_51) (fun _ _ => ⟨rfl, eq11, (by decide : 0 + 0 ≤ _), (by decide : 0 + 0 ≤ _)⟩)
      dsimp only [Pt.U, Pt.locs, Pt.cells, Pt.slots] at X12 l12 y12 z12 st12 hQ12
      subst l12 y12 z12
      obtain ⟨hv12, Nq12, eq12⟩ := hQ12
      have hk12 : own_acc aD aI aI aD = 1 := by simp [own_acc, ne_ID, ne_IB, ne_DB, ne_ID.symm, ne_IB.symm, ne_DB.symm]
      rw [hk12] at hv12
      subst hv12
      replace Nf := Fr.app Nf Nq12
      refine own_go (x' := T12.setTop (mkF m 54 #[.val (.int p0), .val (.int p1), .val (.int (1 : Int32)), .val (.int (0 : Int32)), .val (.ref aD), .val (.ref aI), .val (.int (1 : Int32))] [(.int (1 : Int32))])) (fun _ k => st12.trans k) ?_
      refine own_go (x' := T12.setTop (mkF m 64 #[.val (.int p0), .val (.int p1), .val (.int (1 : Int32)), .val (.int (0 : Int32)), .val (.ref aD), .val (.ref aI), .val (.int (1 : Int32))] [(.int (1 : Int32))])) (fun _ k => XS.iload X12.here hx rfl (hb hby at_54) rfl (XS.icmpNo X12.here hx rfl (hb hby at_56) rfl (teq rfl).2 (XS.iconst X12.here hx rfl (hb hby at_59) (XS.goto X12.here hx rfl (pc0 := 60) (pc' := 64) rfl (hb hby at_60) (by decide) (by decide) k)))) ?_
      refine own_retN X12 hx hlk (t := .boolean) hret (by simp) (hb hby at_64) (w := (1 : Int32)) rfl ?_ (by decide) (by decide)
      rw [eq12]
      exact ⟨rfl, Nf⟩
    · rw [hm]
      refine own_go (x' := s₁.setTop (mkF m 15 #[.val (.int p0), .val (.int p1), .val (.int (1 : Int32)), .val (.int (1 : Int32)), .unset, .unset, .unset] [(.int (1 : Int32))])) (fun _ k => XS.iloadN X0.here hx rfl (hb hby at_14) rfl k) ?_
      obtain ⟨_, _, ⟨T13, L13, k13, n13⟩, -, X13, ⟨Lc13, hQ13, l13, y13, z13⟩, st13⟩ := Jvm.LawKit.callS X0 hx (y := (⟨"com/example/stratgen/stratgen/model/TypeAcceptsPinLaw", "pick", "(I)Lcom/example/stratgen/stratgen/model/Type;"⟩ : MethodName)) hown (mvT hZ (own_w hw 1 rfl)) (mvT hZ (own_w hw 2 rfl)) (mvT hZ (own_w hw 3 rfl)) (mvT hZ (own_w hw 4 rfl)) (by decide) (backOf (W := 0) (rm1 l Z a0 hw [] (1 : Int32) aI aD aB h0 n0 Zs S_INT S_DOUBLE S_BOOL) hZ (own_w hw 4 rfl) (own_w hw 3 rfl) (by decide) (by decide)) (g := (mkF m 15 #[.val (.int p0), .val (.int p1), .val (.int (1 : Int32)), .val (.int (1 : Int32)), .unset, .unset, .unset] [(.int (1 : Int32))])) rfl (by rw [hml]; rfl) (argsL := [(.int (1 : Int32))]) (rest := []) (lenOf pd_0 rfl) rfl (by show 2 * 0 + _ ≤ _; exact Nat.le_of_eq rfl) (hb hby at_15) (fun _ _ => ⟨rfl, e0, (by decide : 0 + 0 ≤ _), (by decide : 0 + 0 ≤ _)⟩)
      dsimp only [Pt.U, Pt.locs, Pt.cells, Pt.slots] at X13 l13 y13 z13 st13 hQ13
      subst l13 y13 z13
      obtain ⟨hv13, Nq13, eq13⟩ := hQ13
      have hk13 : own_pick (1 : Int32) aI aD aB = aD := by first | rfl | decide
      rw [hk13] at hv13
      subst hv13
      replace Nf := Fr.app Nf Nq13
      refine own_go (x' := T13.setTop (mkF m 18 #[.val (.int p0), .val (.int p1), .val (.int (1 : Int32)), .val (.int (1 : Int32)), .unset, .unset, .unset] [(.ref aD)])) st13 ?_
      refine own_go (x' := T13.setTop (mkF m 21 #[.val (.int p0), .val (.int p1), .val (.int (1 : Int32)), .val (.int (1 : Int32)), .val (.ref aD), .unset, .unset] [(.int (1 : Int32))])) (fun _ k => XS.astore X13.here hx rfl (hb hby at_18) rfl rfl (l' := #[.val (.int p0), .val (.int p1), .val (.int (1 : Int32)), .val (.int (1 : Int32)), .val (.ref aD), .unset, .unset]) rfl (XS.iloadN X13.here hx rfl (hb hby at_20) rfl k)) ?_
      obtain ⟨_, _, ⟨T14, L14, k14, n14⟩, -, X14, ⟨Lc14, hQ14, l14, y14, z14⟩, st14⟩ := Jvm.LawKit.callS X13 hx (y := (⟨"com/example/stratgen/stratgen/model/TypeAcceptsPinLaw", "pick", "(I)Lcom/example/stratgen/stratgen/model/Type;"⟩ : MethodName)) hown (mvT hZ (own_w hw 1 rfl)) (mvT hZ (own_w hw 2 rfl)) (mvT hZ (own_w hw 3 rfl)) (mvT hZ (own_w hw 4 rfl)) (by decide) (backOf (W := 0) (rm1 l Z a0 hw [] (1 : Int32) aI aD aB h0 n0 Zs S_INT S_DOUBLE S_BOOL) hZ (own_w hw 4 rfl) (own_w hw 3 rfl) (by decide) (by decide)) (g := (mkF m 21 #[.val (.int p0), .val (.int p1), .val (.int (1 : Int32)), .val (.int (1 : Int32)), .val (.ref aD), .unset, .unset] [(.int (1 : Int32))])) rfl (by rw [hml]; rfl) (argsL := [(.int (1 : Int32))]) (rest := []) (lenOf pd_0 rfl) rfl (by show 2 * 0 + _ ≤ _; exact Nat.le_of_eq rfl) (hb hby at_21) (fun _ _ => ⟨rfl, eq13, (by decide : 0 + 0 ≤ _), (by decide : 0 + 0 ≤ _)⟩)
      dsimp only [Pt.U, Pt.locs, Pt.cells, Pt.slots] at X14 l14 y14 z14 st14 hQ14
      subst l14 y14 z14
      obtain ⟨hv14, Nq14, eq14⟩ := hQ14
      have hk14 : own_pick (1 : Int32) aI aD aB = aD := by first | rfl | decide
      rw [hk14] at hv14
      subst hv14
      replace Nf := Fr.app Nf Nq14
      refine own_go (x' := T14.setTop (mkF m 24 #[.val (.int p0), .val (.int p1), .val (.int (1 : Int32)), .val (.int (1 : Int32)), .val (.ref aD), .unset, .unset] [(.ref aD)])) st14 ?_
      refine own_go (x' := T14.setTop (mkF m 33 #[.val (.int p0), .val (.int p1), .val (.int (1 : Int32)), .val (.int (1 : Int32)), .val (.ref aD), .val (.ref aD), .unset] [(.int (1 : Int32)), (.int ((1 : Int32) * (3 : Int32))), (.int (281 : Int32))])) (fun _ k => XS.astore X14.here hx rfl (hb hby at_24) rfl rfl (l' := #[.val (.int p0), .val (.int p1), .val (.int (1 : Int32)), .val (.int (1 : Int32)), .val (.ref aD), .val (.ref aD), .unset]) rfl (XS.sipush X14.here hx rfl (hb hby at_26) (XS.iloadN X14.here hx rfl (hb hby at_29) rfl (XS.iconst X14.here hx rfl (hb hby at_30) (XS.imul X14.here hx rfl (hb hby at_31) rfl (XS.iloadN X14.here hx rfl (hb hby at_32) rfl k)))))) ?_
      refine own_go (x' := T14.setTop (mkF m 41 #[.val (.int p0), .val (.int p1), .val (.int (1 : Int32)), .val (.int (1 : Int32)), .val (.ref aD), .val (.ref aD), .unset] [(.int (1 : Int32))])) (fun _ k => XS.iadd X14.here hx rfl (hb hby at_33) rfl (XS.ishr X14.here hx rfl (hb hby at_34) rfl (XS.iconst X14.here hx rfl (hb hby at_35) (XS.iand X14.here hx rfl (hb hby at_36) rfl (XS.ifNo X14.here hx rfl (hb hby at_37) rfl ((if0 _ _).trans (feq (by decide +kernel : ¬ ((((281 : Int32) >>> ((((1 : Int32) * (3 : Int32)) + (1 : Int32)) &&& 31)) &&& (1 : Int32)) = (0 : Int32)))).1) (XS.iconst X14.here hx rfl (hb hby at_40) k)))))) ?_
      refine own_go (x' := T14.setTop (mkF m 51 #[.val (.int p0), .val (.int p1), .val (.int (1 : Int32)), .val (.int (1 : Int32)), .val (.ref aD), .val (.ref aD), .val (.int (1 : Int32))] [(.ref aD), (.ref aD)])) (fun _ k => XS.goto X14.here hx rfl (pc0 := 41) (pc' := 45) rfl (hb hby at_41) (by decide) (by decide) (XS.istore X14.here hx rfl (hb hby at_45) rfl (l' := #[.val (.int p0), .val (.int p1), .val (.int (1 : Int32)), .val (.int (1 : Int32)), .val (.ref aD), .val (.ref aD), .val (.int (1 : Int32))]) rfl (XS.aload X14.here hx rfl (hb hby at_47) rfl rfl (XS.aload X14.here hx rfl (hb hby at_49) rfl rfl k)))) ?_
      obtain ⟨cq15, kq15, q15a, q15b, q15c⟩ := isOf hZ eq14 E_aD
      obtain ⟨_, _, ⟨T15, L15, k15, n15⟩, -, X15, ⟨Lc15, hQ15, l15, y15, z15⟩, st15⟩ := X14.virtualBack hx (y := (⟨"com/example/stratgen/stratgen/model/Type", "accepts", "(Lcom/example/stratgen/stratgen/model/Type;)Z"⟩ : MethodName)) (z := (⟨"com/example/stratgen/stratgen/model/Type", "accepts", "(Lcom/example/stratgen/stratgen/model/Type;)Z"⟩ : MethodName)) hown (mvT hZ (own_w hw 8 rfl)) (mvT hZ (own_w hw 9 rfl)) (notFace_of_selects (args := #[]) (mvT hZ (own_w hw 11 rfl))) (mvT hZ (own_w hw 11 rfl)) (mvT hZ (own_w hw 10 rfl)) (by decide) (backOf (W := 0) (rm2 l Z a0 hw [] aD aD aI aD h0 n0 Zs S_INT S_DOUBLE) hZ (own_w hw 12 rfl) (own_w hw 6 rfl) (by decide) (by decide)) q15a q15c (g := (mkF m 51 #[.val (.int p0), .val (.int p1), .val (.int (1 : Int32)), .val (.int (1 : Int32)), .val (.ref aD), .val (.ref aD), .val (.int (1 : Int32))] [(.ref aD), (.ref aD)])) rfl (by rw [hml]; rfl) (Steps.refl _) (argsL := [(.ref aD)]) (rest := []) (lenOf pd_1 rfl) rfl (by show 2 * 0 + _ ≤ _; exact Nat.le_of_eq rfl) (hb hby at_51) (fun _ _ => ⟨rfl, eq14, (by decide : 0 + 0 ≤ _), (by decide : 0 + 0 ≤ _)⟩)
      dsimp only [Pt.U, Pt.locs, Pt.cells, Pt.slots] at X15 l15 y15 z15 st15 hQ15
      subst l15 y15 z15
      obtain ⟨hv15, Nq15, eq15⟩ := hQ15
      have hk15 : own_acc aD aD aI aD = 1 := by simp [own_acc, ne_ID, ne_IB, ne_DB, ne_ID.symm, ne_IB.symm, ne_DB.symm]
      rw [hk15] at hv15
      subst hv15
      replace Nf := Fr.app Nf Nq15
      refine own_go (x' := T15.setTop (mkF m 54 #[.val (.int p0), .val (.int p1), .val (.int (1 : Int32)), .val (.int (1 : Int32)), .val (.ref aD), .val (.ref aD), .val (.int (1 : Int32))] [(.int (1 : Int32))])) (fun _ k => st15.trans k) ?_
      refine own_go (x' := T15.setTop (mkF m 64 #[.val (.int p0), .val (.int p1), .val (.int (1 : Int32)), .val (.int (1 : Int32)), .val (.ref aD), .val (.ref aD), .val (.int (1 : Int32))] [(.int (1 : Int32))])) (fun _ k => XS.iload X15.here hx rfl (hb hby at_54) rfl (XS.icmpNo X15.here hx rfl (hb hby at_56) rfl (teq rfl).2 (XS.iconst X15.here hx rfl (hb hby at_59) (XS.goto X15.here hx rfl (pc0 := 60) (pc' := 64) rfl (hb hby at_60) (by decide) (by decide) k)))) ?_
      refine own_retN X15 hx hlk (t := .boolean) hret (by simp) (hb hby at_64) (w := (1 : Int32)) rfl ?_ (by decide) (by decide)
      rw [eq15]
      exact ⟨rfl, Nf⟩
    · rw [hm]
      refine own_go (x' := s₁.setTop (mkF m 15 #[.val (.int p0), .val (.int p1), .val (.int (1 : Int32)), .val (.int (2 : Int32)), .unset, .unset, .unset] [(.int (1 : Int32))])) (fun _ k => XS.iloadN X0.here hx rfl (hb hby at_14) rfl k) ?_
      obtain ⟨_, _, ⟨T16, L16, k16, n16⟩, -, X16, ⟨Lc16, hQ16, l16, y16, z16⟩, st16⟩ := Jvm.LawKit.callS X0 hx (y := (⟨"com/example/stratgen/stratgen/model/TypeAcceptsPinLaw", "pick", "(I)Lcom/example/stratgen/stratgen/model/Type;"⟩ : MethodName)) hown (mvT hZ (own_w hw 1 rfl)) (mvT hZ (own_w hw 2 rfl)) (mvT hZ (own_w hw 3 rfl)) (mvT hZ (own_w hw 4 rfl)) (by decide) (backOf (W := 0) (rm1 l Z a0 hw [] (1 : Int32) aI aD aB h0 n0 Zs S_INT S_DOUBLE S_BOOL) hZ (own_w hw 4 rfl) (own_w hw 3 rfl) (by decide) (by decide)) (g := (mkF m 15 #[.val (.int p0), .val (.int p1), .val (.int (1 : Int32)), .val (.int (2 : Int32)), .unset, .unset, .unset] [(.int (1 : Int32))])) rfl (by rw [hml]; rfl) (argsL := [(.int (1 : Int32))]) (rest := []) (lenOf pd_0 rfl) rfl (by show 2 * 0 + _ ≤ _; exact Nat.le_of_eq rfl) (hb hby at_15) (fun _ _ => ⟨rfl, e0, (by decide : 0 + 0 ≤ _), (by decide : 0 + 0 ≤ _)⟩)
      dsimp only [Pt.U, Pt.locs, Pt.cells, Pt.slots] at X16 l16 y16 z16 st16 hQ16
      subst l16 y16 z16
      obtain ⟨hv16, Nq16, eq16⟩ := hQ16
      have hk16 : own_pick (1 : Int32) aI aD aB = aD := by first | rfl | decide
      rw [hk16] at hv16
      subst hv16
      replace Nf := Fr.app Nf Nq16
      refine own_go (x' := T16.setTop (mkF m 18 #[.val (.int p0), .val (.int p1), .val (.int (1 : Int32)), .val (.int (2 : Int32)), .unset, .unset, .unset] [(.ref aD)])) st16 ?_
      refine own_go (x' := T16.setTop (mkF m 21 #[.val (.int p0), .val (.int p1), .val (.int (1 : Int32)), .val (.int (2 : Int32)), .val (.ref aD), .unset, .unset] [(.int (2 : Int32))])) (fun _ k => XS.astore X16.here hx rfl (hb hby at_18) rfl rfl (l' := #[.val (.int p0), .val (.int p1), .val (.int (1 : Int32)), .val (.int (2 : Int32)), .val (.ref aD), .unset, .unset]) rfl (XS.iloadN X16.here hx rfl (hb hby at_20) rfl k)) ?_
      obtain ⟨_, _, ⟨T17, L17, k17, n17⟩, -, X17, ⟨Lc17, hQ17, l17, y17, z17⟩, st17⟩ := Jvm.LawKit.callS X16 hx (y := (⟨"com/example/stratgen/stratgen/model/TypeAcceptsPinLaw", "pick", "(I)Lcom/example/stratgen/stratgen/model/Type;"⟩ : MethodName)) hown (mvT hZ (own_w hw 1 rfl)) (mvT hZ (own_w hw 2 rfl)) (mvT hZ (own_w hw 3 rfl)) (mvT hZ (own_w hw 4 rfl)) (by decide) (backOf (W := 0) (rm1 l Z a0 hw [] (2 : Int32) aI aD aB h0 n0 Zs S_INT S_DOUBLE S_BOOL) hZ (own_w hw 4 rfl) (own_w hw 3 rfl) (by decide) (by decide)) (g := (mkF m 21 #[.val (.int p0), .val (.int p1), .val (.int (1 : Int32)), .val (.int (2 : Int32)), .val (.ref aD), .unset, .unset] [(.int (2 : Int32))])) rfl (by rw [hml]; rfl) (argsL := [(.int (2 : Int32))]) (rest := []) (lenOf pd_0 rfl) rfl (by show 2 * 0 + _ ≤ _; exact Nat.le_of_eq rfl) (hb hby at_21) (fun _ _ => ⟨rfl, eq16, (by decide : 0 + 0 ≤ _), (by decide : 0 + 0 ≤ _)⟩)
      dsimp only [Pt.U, Pt.locs, Pt.cells, Pt.slots] at X17 l17 y17 z17 st17 hQ17
      subst l17 y17 z17
      obtain ⟨hv17, Nq17, eq17⟩ := hQ17
      have hk17 : own_pick (2 : Int32) aI aD aB = aB := by first | rfl | decide
      rw [hk17] at hv17
      subst hv17
      replace Nf := Fr.app Nf Nq17
      refine own_go (x' := T17.setTop (mkF m 24 #[.val (.int p0), .val (.int p1), .val (.int (1 : Int32)), .val (.int (2 : Int32)), .val (.ref aD), .unset, .unset] [(.ref aB)])) st17 ?_
      refine own_go (x' := T17.setTop (mkF m 33 #[.val (.int p0), .val (.int p1), .val (.int (1 : Int32)), .val (.int (2 : Int32)), .val (.ref aD), .val (.ref aB), .unset] [(.int (2 : Int32)), (.int ((1 : Int32) * (3 : Int32))), (.int (281 : Int32))])) (fun _ k => XS.astore X17.here hx rfl (hb hby at_24) rfl rfl (l' := #[.val (.int p0), .val (.int p1), .val (.int (1 : Int32)), .val (.int (2 : Int32)), .val (.ref aD), .val (.ref aB), .unset]) rfl (XS.sipush X17.here hx rfl (hb hby at_26) (XS.iloadN X17.here hx rfl (hb hby at_29) rfl (XS.iconst X17.here hx rfl (hb hby at_30) (XS.imul X17.here hx rfl (hb hby at_31) rfl (XS.iloadN X17.here hx rfl (hb hby at_32) rfl k)))))) ?_
      refine own_go (x' := T17.setTop (mkF m 45 #[.val (.int p0), .val (.int p1), .val (.int (1 : Int32)), .val (.int (2 : Int32)), .val (.ref aD), .val (.ref aB), .unset] [(.int (0 : Int32))])) (fun _ k => XS.iadd X17.here hx rfl (hb hby at_33) rfl (XS.ishr X17.here hx rfl (hb hby at_34) rfl (XS.iconst X17.here hx rfl (hb hby at_35) (XS.iand X17.here hx rfl (hb hby at_36) rfl (XS.ifYes X17.here hx rfl (pc0 := 37) (pc' := 44) rfl (hb hby at_37) rfl ((if0 _ _).trans (teq (by decide +kernel : ((((281 : Int32) >>> ((((1 : Int32) * (3 : Int32)) + (2 : Int32)) &&& 31)) &&& (1 : Int32)) = (0 : Int32)))).1) (by decide) (by decide) (XS.iconst X17.here hx rfl (hb hby at_44) k)))))) ?_
      refine own_go (x' := T17.setTop (mkF m 51 #[.val (.int p0), .val (.int p1), .val (.int (1 : Int32)), .val (.int (2 : Int32)), .val (.ref aD), .val (.ref aB), .val (.int (0 : Int32))] [(.ref aB), (.ref aD)])) (fun _ k => XS.istore X17.here hx rfl (hb hby at_45) rfl (l' := #[.val (.int p0), .val (.int p1), .val (.int (1 : Int32)), .val (.int (2 : Int32)), .val (.ref aD), .val (.ref aB), .val (.int (0 : Int32))]) rfl (XS.aload X17.here hx rfl (hb hby at_47) rfl rfl (XS.aload X17.here hx rfl (hb hby at_49) rfl rfl k))) ?_
      obtain ⟨cq18, kq18, q18a, q18b, q18c⟩ := isOf hZ eq17 E_aD
      obtain ⟨_, _, ⟨T18, L18, k18, n18⟩, -, X18, ⟨Lc18, hQ18, l18, y18, z18⟩, st18⟩ := X17.virtualBack hx (y := (⟨"com/example/stratgen/stratgen/model/Type", "accepts", "(Lcom/example/stratgen/stratgen/model/Type;)Z"⟩ : MethodName)) (z := (⟨"com/example/stratgen/stratgen/model/Type", "accepts", "(Lcom/example/stratgen/stratgen/model/Type;)Z"⟩ : MethodName)) hown (mvT hZ (own_w hw 8 rfl)) (mvT hZ (own_w hw 9 rfl)) (notFace_of_selects (args := #[]) (mvT hZ (own_w hw 11 rfl))) (mvT hZ (own_w hw 11 rfl)) (mvT hZ (own_w hw 10 rfl)) (by decide) (backOf (W := 0) (rm2 l Z a0 hw [] aD aB aI aD h0 n0 Zs S_INT S_DOUBLE) hZ (own_w hw 12 rfl) (own_w hw 6 rfl) (by decide) (by decide)) q18a q18c (g := (mkF m 51 #[.val (.int p0), .val (.int p1), .val (.int (1 : Int32)), .val (.int (2 : Int32)), .val (.ref aD), .val (.ref aB), .val (.int (0 : Int32))] [(.ref aB), (.ref aD)])) rfl (by rw [hml]; rfl) (Steps.refl _) (argsL := [(.ref aB)]) (rest := []) (lenOf pd_1 rfl) rfl (by show 2 * 0 + _ ≤ _; exact Nat.le_of_eq rfl) (hb hby at_51) (fun _ _ => ⟨rfl, eq17, (by decide : 0 + 0 ≤ _), (by decide : 0 + 0 ≤ _)⟩)
      dsimp only [Pt.U, Pt.locs, Pt.cells, Pt.slots] at X18 l18 y18 z18 st18 hQ18
      subst l18 y18 z18
      obtain ⟨hv18, Nq18, eq18⟩ := hQ18
      have hk18 : own_acc aD aB aI aD = 0 := by simp [own_acc, ne_ID, ne_IB, ne_DB, ne_ID.symm, ne_IB.symm, ne_DB.symm]
      rw [hk18] at hv18
      subst hv18
      replace Nf := Fr.app Nf Nq18
      refine own_go (x' := T18.setTop (mkF m 54 #[.val (.int p0), .val (.int p1), .val (.int (1 : Int32)), .val (.int (2 : Int32)), .val (.ref aD), .val (.ref aB), .val (.int (0 : Int32))] [(.int (0 : Int32))])) (fun _ k => st18.trans k) ?_
      refine own_go (x' := T18.setTop (mkF m 64 #[.val (.int p0), .val (.int p1), .val (.int (1 : Int32)), .val (.int (2 : Int32)), .val (.ref aD), .val (.ref aB), .val (.int (0 : Int32))] [(.int (1 : Int32))])) (fun _ k => XS.iload X18.here hx rfl (hb hby at_54) rfl (XS.icmpNo X18.here hx rfl (hb hby at_56) rfl (teq rfl).2 (XS.iconst X18.here hx rfl (hb hby at_59) (XS.goto X18.here hx rfl (pc0 := 60) (pc' := 64) rfl (hb hby at_60) (by decide) (by decide) k)))) ?_
      refine own_retN X18 hx hlk (t := .boolean) hret (by simp) (hb hby at_64) (w := (1 : Int32)) rfl ?_ (by decide) (by decide)
      rw [eq18]
      exact ⟨rfl, Nf⟩
  · rw [hm]
    refine own_go (x' := s₁.setTop (mkF m 8 #[.val (.int p0), .val (.int p1), .val (.int (2 : Int32)), .unset, .unset, .unset, .unset] [(.int p1)])) (fun _ k => XS.iloadN X0.here hx rfl (hb hby at_7) rfl k) ?_
    refine own_go (x' := s₁.setTop (mkF m 10 #[.val (.int p0), .val (.int p1), .val (.int (2 : Int32)), .unset, .unset, .unset, .unset] [(.int (2147483647 : Int32)), (.int p1)])) (fun t k => X0.ldcInt hx hown (mvT hZ (own_w hw 0 rfl)) (g := (mkF m 8 #[.val (.int p0), .val (.int p1), .val (.int (2 : Int32)), .unset, .unset, .unset, .unset] [(.int p1)])) rfl (hb hby at_8) t k) ?_
    refine own_go (x' := s₁.setTop (mkF m 14 #[.val (.int p0), .val (.int p1), .val (.int (2 : Int32)), .val (.int ((p1 &&& (2147483647 : Int32)) % (3 : Int32))), .unset, .unset, .unset] [])) (fun _ k => XS.iand X0.here hx rfl (hb hby at_10) rfl (XS.iconst X0.here hx rfl (hb hby at_11) (iremM X0 hx rfl (hb hby at_12) rfl (by decide) (XS.istoreN X0.here hx rfl (hb hby at_13) rfl (l' := #[.val (.int p0), .val (.int p1), .val (.int (2 : Int32)), .val (.int ((p1 &&& (2147483647 : Int32)) % (3 : Int32))), .unset, .unset, .unset]) rfl k)))) ?_
    rcases own_mod3 p1 with hm | hm | hm
    · rw [hm]
      refine own_go (x' := s₁.setTop (mkF m 15 #[.val (.int p0), .val (.int p1), .val (.int (2 : Int32)), .val (.int (0 : Int32)), .unset, .unset, .unset] [(.int (2 : Int32))])) (fun _ k => XS.iloadN X0.here hx rfl (hb hby at_14) rfl k) ?_
      obtain ⟨_, _, ⟨T19, L19, k19, n19⟩, -, X19, ⟨Lc19, hQ19, l19, y19, z19⟩, st19⟩ := Jvm.LawKit.callS X0 hx (y := (⟨"com/example/stratgen/stratgen/model/TypeAcceptsPinLaw", "pick", "(I)Lcom/example/stratgen/stratgen/model/Type;"⟩ : MethodName)) hown (mvT hZ (own_w hw 1 rfl)) (mvT hZ (own_w hw 2 rfl)) (mvT hZ (own_w hw 3 rfl)) (mvT hZ (own_w hw 4 rfl)) (by decide) (backOf (W := 0) (rm1 l Z a0 hw [] (2 : Int32) aI aD aB h0 n0 Zs S_INT S_DOUBLE S_BOOL) hZ (own_w hw 4 rfl) (own_w hw 3 rfl) (by decide) (by decide)) (g := (mkF m 15 #[.val (.int p0), .val (.int p1), .val (.int (2 : Int32)), .val (.int (0 : Int32)), .unset, .unset, .unset] [(.int (2 : Int32))])) rfl (by rw [hml]; rfl) (argsL := [(.int (2 : Int32))]) (rest := []) (lenOf pd_0 rfl) rfl (by show 2 * 0 + _ ≤ _; exact Nat.le_of_eq rfl) (hb hby at_15) (fun _ _ => ⟨rfl, e0, (by decide : 0 + 0 ≤ _), (by decide : 0 + 0 ≤ _)⟩)
      dsimp only [Pt.U, Pt.locs, Pt.cells, Pt.slots] at X19 l19 y19 z19 st19 hQ19
      subst l19 y19 z19
      obtain ⟨hv19, Nq19, eq19⟩ := hQ19
      have hk19 : own_pick (2 : Int32) aI aD aB = aB := by first | rfl | decide
      rw [hk19] at hv19
      subst hv19
      replace Nf := Fr.app Nf Nq19
      refine own_go (x' := T19.setTop (mkF m 18 #[.val (.int p0), .val (.int p1), .val (.int (2 : Int32)), .val (.int (0 : Int32)), .unset, .unset, .unset] [(.ref aB)])) st19 ?_
      refine own_go (x' := T19.setTop (mkF m 21 #[.val (.int p0), .val (.int p1), .val (.int (2 : Int32)), .val (.int (0 : Int32)), .val (.ref aB), .unset, .unset] [(.int (0 : Int32))])) (fun _ k => XS.astore X19.here hx rfl (hb hby at_18) rfl rfl (l' := #[.val (.int p0), .val (.int p1), .val (.int (2 : Int32)), .val (.int (0 : Int32)), .val (.ref aB), .unset, .unset]) rfl (XS.iloadN X19.here hx rfl (hb hby at_20) rfl k)) ?_
      obtain ⟨_, _, ⟨T20, L20, k20, n20⟩, -, X20, ⟨Lc20, hQ20, l20, y20, z20⟩, st20⟩ := Jvm.LawKit.callS X19 hx (y := (⟨"com/example/stratgen/stratgen/model/TypeAcceptsPinLaw", "pick", "(I)Lcom/example/stratgen/stratgen/model/Type;"⟩ : MethodName)) hown (mvT hZ (own_w hw 1 rfl)) (mvT hZ (own_w hw 2 rfl)) (mvT hZ (own_w hw 3 rfl)) (mvT hZ (own_w hw 4 rfl)) (by decide) (backOf (W := 0) (rm1 l Z a0 hw [] (0 : Int32) aI aD aB h0 n0 Zs S_INT S_DOUBLE S_BOOL) hZ (own_w hw 4 rfl) (own_w hw 3 rfl) (by decide) (by decide)) (g := (mkF m 21 #[.val (.int p0), .val (.int p1), .val (.int (2 : Int32)), .val (.int (0 : Int32)), .val (.ref aB), .unset, .unset] [(.int (0 : Int32))])) rfl (by rw [hml]; rfl) (argsL := [(.int (0 : Int32))]) (rest := []) (lenOf pd_0 rfl) rfl (by show 2 * 0 + _ ≤ _; exact Nat.le_of_eq rfl) (hb hby at_21) (fun _ _ => ⟨rfl, eq19, (by decide : 0 + 0 ≤ _), (by decide : 0 + 0 ≤ _)⟩)
      dsimp only [Pt.U, Pt.locs, Pt.cells, Pt.slots] at X20 l20 y20 z20 st20 hQ20
      subst l20 y20 z20
      obtain ⟨hv20, Nq20, eq20⟩ := hQ20
      have hk20 : own_pick (0 : Int32) aI aD aB = aI := by first | rfl | decide
      rw [hk20] at hv20
      subst hv20
      replace Nf := Fr.app Nf Nq20
      refine own_go (x' := T20.setTop (mkF m 24 #[.val (.int p0), .val (.int p1), .val (.int (2 : Int32)), .val (.int (0 : Int32)), .val (.ref aB), .unset, .unset] [(.ref aI)])) st20 ?_
      refine own_go (x' := T20.setTop (mkF m 33 #[.val (.int p0), .val (.int p1), .val (.int (2 : Int32)), .val (.int (0 : Int32)), .val (.ref aB), .val (.ref aI), .unset] [(.int (0 : Int32)), (.int ((2 : Int32) * (3 : Int32))), (.int (281 : Int32))])) (fun _ k => XS.astore X20.here hx rfl (hb hby at_24) rfl rfl (l' := #[.val (.int p0), .val (.int p1), .val (.int (2 : Int32)), .val (.int (0 : Int32)), .val (.ref aB), .val (.ref aI), .unset]) rfl (XS.sipush X20.here hx rfl (hb hby at_26) (XS.iloadN X20.here hx rfl (hb hby at_29) rfl (XS.iconst X20.here hx rfl (hb hby at_30) (XS.imul X20.here hx rfl (hb hby at_31) rfl (XS.iloadN X20.here hx rfl (hb hby at_32) rfl k)))))) ?_
      refine own_go (x' := T20.setTop (mkF m 45 #[.val (.int p0), .val (.int p1), .val (.int (2 : Int32)), .val (.int (0 : Int32)), .val (.ref aB), .val (.ref aI), .unset] [(.int (0 : Int32))])) (fun _ k => XS.iadd X20.here hx rfl (hb hby at_33) rfl (XS.ishr X20.here hx rfl (hb hby at_34) rfl (XS.iconst X20.here hx rfl (hb hby at_35) (XS.iand X20.here hx rfl (hb hby at_36) rfl (XS.ifYes X20.here hx rfl (pc0 := 37) (pc' := 44) rfl (hb hby at_37) rfl ((if0 _ _).trans (teq (by decide +kernel : ((((281 : Int32) >>> ((((2 : Int32) * (3 : Int32)) + (0 : Int32)) &&& 31)) &&& (1 : Int32)) = (0 : Int32)))).1) (by decide) (by decide) (XS.iconst X20.here hx rfl (hb hby at_44) k)))))) ?_
      refine own_go (x' := T20.setTop (mkF m 51 #[.val (.int p0), .val (.int p1), .val (.int (2 : Int32)), .val (.int (0 : Int32)), .val (.ref aB), .val (.ref aI), .val (.int (0 : Int32))] [(.ref aI), (.ref aB)])) (fun _ k => XS.istore X20.here hx rfl (hb hby at_45) rfl (l' := #[.val (.int p0), .val (.int p1), .val (.int (2 : Int32)), .val (.int (0 : Int32)), .val (.ref aB), .val (.ref aI), .val (.int (0 : Int32))]) rfl (XS.aload X20.here hx rfl (hb hby at_47) rfl rfl (XS.aload X20.here hx rfl (hb hby at_49) rfl rfl k))) ?_
      obtain ⟨cq21, kq21, q21a, q21b, q21c⟩ := isOf hZ eq20 E_aB
      obtain ⟨_, _, ⟨T21, L21, k21, n21⟩, -, X21, ⟨Lc21, hQ21, l21, y21, z21⟩, st21⟩ := X20.virtualBack hx (y := (⟨"com/example/stratgen/stratgen/model/Type", "accepts", "(Lcom/example/stratgen/stratgen/model/Type;)Z"⟩ : MethodName)) (z := (⟨"com/example/stratgen/stratgen/model/Type", "accepts", "(Lcom/example/stratgen/stratgen/model/Type;)Z"⟩ : MethodName)) hown (mvT hZ (own_w hw 8 rfl)) (mvT hZ (own_w hw 9 rfl)) (notFace_of_selects (args := #[]) (mvT hZ (own_w hw 11 rfl))) (mvT hZ (own_w hw 11 rfl)) (mvT hZ (own_w hw 10 rfl)) (by decide) (backOf (W := 0) (rm2 l Z a0 hw [] aB aI aI aD h0 n0 Zs S_INT S_DOUBLE) hZ (own_w hw 12 rfl) (own_w hw 6 rfl) (by decide) (by decide)) q21a q21c (g := (mkF m 51 #[.val (.int p0), .val (.int p1), .val (.int (2 : Int32)), .val (.int (0 : Int32)), .val (.ref aB), .val (.ref aI), .val (.int (0 : Int32))] [(.ref aI), (.ref aB)])) rfl (by rw [hml]; rfl) (Steps.refl _) (argsL := [(.ref aI)]) (rest := []) (lenOf pd_1 rfl) rfl (by show 2 * 0 + _ ≤ _; exact Nat.le_of_eq rfl) (hb hby at_51) (fun _ _ => ⟨rfl, eq20, (by decide : 0 + 0 ≤ _), (by decide : 0 + 0 ≤ _)⟩)
      dsimp only [Pt.U, Pt.locs, Pt.cells, Pt.slots] at X21 l21 y21 z21 st21 hQ21
      subst l21 y21 z21
      obtain ⟨hv21, Nq21, eq21⟩ := hQ21
      have hk21 : own_acc aB aI aI aD = 0 := by simp [own_acc, ne_ID, ne_IB, ne_DB, ne_ID.symm, ne_IB.symm, ne_DB.symm]
      rw [hk21] at hv21
      subst hv21
      replace Nf := Fr.app Nf Nq21
      refine own_go (x' := T21.setTop (mkF m 54 #[.val (.int p0), .val (.int p1), .val (.int (2 : Int32)), .val (.int (0 : Int32)), .val (.ref aB), .val (.ref aI), .val (.int (0 : Int32))] [(.int (0 : Int32))])) (fun _ k => st21.trans k) ?_
      refine own_go (x' := T21.setTop (mkF m 64 #[.val (.int p0), .val (.int p1), .val (.int (2 : Int32)), .val (.int (0 : Int32)), .val (.ref aB), .val (.ref aI), .val (.int (0 : Int32))] [(.int (1 : Int32))])) (fun _ k => XS.iload X21.here hx rfl (hb hby at_54) rfl (XS.icmpNo X21.here hx rfl (hb hby at_56) rfl (teq rfl).2 (XS.iconst X21.here hx rfl (hb hby at_59) (XS.goto X21.here hx rfl (pc0 := 60) (pc' := 64) rfl (hb hby at_60) (by decide) (by decide) k)))) ?_
      refine own_retN X21 hx hlk (t := .boolean) hret (by simp) (hb hby at_64) (w := (1 : Int32)) rfl ?_ (by decide) (by decide)
      rw [eq21]
      exact ⟨rfl, Nf⟩
    · rw [hm]
      refine own_go (x' := s₁.setTop (mkF m 15 #[.val (.int p0), .val (.int p1), .val (.int (2 : Int32)), .val (.int (1 : Int32)), .unset, .unset, .unset] [(.int (2 : Int32))])) (fun _ k => XS.iloadN X0.here hx rfl (hb hby at_14) rfl k) ?_
      obtain ⟨_, _, ⟨T22, L22, k22, n22⟩, -, X22, ⟨Lc22, hQ22, l22, y22, z22⟩, st22⟩ := Jvm.LawKit.callS X0 hx (y := (⟨"com/example/stratgen/stratgen/model/TypeAcceptsPinLaw", "pick", "(I)Lcom/example/stratgen/stratgen/model/Type;"⟩ : MethodName)) hown (mvT hZ (own_w hw 1 rfl)) (mvT hZ (own_w hw 2 rfl)) (mvT hZ (own_w hw 3 rfl)) (mvT hZ (own_w hw 4 rfl)) (by decide) (backOf (W := 0) (rm1 l Z a0 hw [] (2 : Int32) aI aD aB h0 n0 Zs S_INT S_DOUBLE S_BOOL) hZ (own_w hw 4 rfl) (own_w hw 3 rfl) (by decide) (by decide)) (g := (mkF m 15 #[.val (.int p0), .val (.int p1), .val (.int (2 : Int32)), .val (.int (1 : Int32)), .unset, .unset, .unset] [(.int (2 : Int32))])) rfl (by rw [hml]; rfl) (argsL := [(.int (2 : Int32))]) (rest := []) (lenOf pd_0 rfl) rfl (by show 2 * 0 + _ ≤ _; exact Nat.le_of_eq rfl) (hb hby at_15) (fun _ _ => ⟨rfl, e0, (by decide : 0 + 0 ≤ _), (by decide : 0 + 0 ≤ _)⟩)
      dsimp only [Pt.U, Pt.locs, Pt.cells, Pt.slots] at X22 l22 y22 z22 st22 hQ22
      subst l22 y22 z22
      obtain ⟨hv22, Nq22, eq22⟩ := hQ22
      have hk22 : own_pick (2 : Int32) aI aD aB = aB := by first | rfl | decide
      rw [hk22] at hv22
      subst hv22
      replace Nf := Fr.app Nf Nq22
      refine own_go (x' := T22.setTop (mkF m 18 #[.val (.int p0), .val (.int p1), .val (.int (2 : Int32)), .val (.int (1 : Int32)), .unset, .unset, .unset] [(.ref aB)])) st22 ?_
      refine own_go (x' := T22.setTop (mkF m 21 #[.val (.int p0), .val (.int p1), .val (.int (2 : Int32)), .val (.int (1 : Int32)), .val (.ref aB), .unset, .unset] [(.int (1 : Int32))])) (fun _ k => XS.astore X22.here hx rfl (hb hby at_18) rfl rfl (l' := #[.val (.int p0), .val (.int p1), .val (.int (2 : Int32)), .val (.int (1 : Int32)), .val (.ref aB), .unset, .unset]) rfl (XS.iloadN X22.here hx rfl (hb hby at_20) rfl k)) ?_
      obtain ⟨_, _, ⟨T23, L23, k23, n23⟩, -, X23, ⟨Lc23, hQ23, l23, y23, z23⟩, st23⟩ := Jvm.LawKit.callS X22 hx (y := (⟨"com/example/stratgen/stratgen/model/TypeAcceptsPinLaw", "pick", "(I)Lcom/example/stratgen/stratgen/model/Type;"⟩ : MethodName)) hown (mvT hZ (own_w hw 1 rfl)) (mvT hZ (own_w hw 2 rfl)) (mvT hZ (own_w hw 3 rfl)) (mvT hZ (own_w hw 4 rfl)) (by decide) (backOf (W := 0) (rm1 l Z a0 hw [] (1 : Int32) aI aD aB h0 n0 Zs S_INT S_DOUBLE S_BOOL) hZ (own_w hw 4 rfl) (own_w hw 3 rfl) (by decide) (by decide)) (g := (mkF m 21 #[.val (.int p0), .val (.int p1), .val (.int (2 : Int32)), .val (.int (1 : Int32)), .val (.ref aB), .unset, .unset] [(.int (1 : Int32))])) rfl (by rw [hml]; rfl) (argsL := [(.int (1 : Int32))]) (rest := []) (lenOf pd_0 rfl) rfl (by show 2 * 0 + _ ≤ _; exact Nat.le_of_eq rfl) (hb hby at_21) (fun _ _ => ⟨rfl, eq22, (by decide : 0 + 0 ≤ _), (by decide : 0 + 0 ≤ _)⟩)
      dsimp only [Pt.U, Pt.locs, Pt.cells, Pt.slots] at X23 l23 y23 z23 st23 hQ23
      subst l23 y23 z23
      obtain ⟨hv23, Nq23, eq23⟩ := hQ23
      have hk23 : own_pick (1 : Int32) aI aD aB = aD := by first | rfl | decide
      rw [hk23] at hv23
      subst hv23
      replace Nf := Fr.app Nf Nq23
      refine own_go (x' := T23.setTop (mkF m 24 #[.val (.int p0), .val (.int p1), .val (.int (2 : Int32)), .val (.int (1 : Int32)), .val (.ref aB), .unset, .unset] [(.ref aD)])) st23 ?_
      refine own_go (x' := T23.setTop (mkF m 33 #[.val (.int p0), .val (.int p1), .val (.int (2 : Int32)), .val (.int (1 : Int32)), .val (.ref aB), .val (.ref aD), .unset] [(.int (1 : Int32)), (.int ((2 : Int32) * (3 : Int32))), (.int (281 : Int32))])) (fun _ k => XS.astore X23.here hx rfl (hb hby at_24) rfl rfl (l' := #[.val (.int p0), .val (.int p1), .val (.int (2 : Int32)), .val (.int (1 : Int32)), .val (.ref aB), .val (.ref aD), .unset]) rfl (XS.sipush X23.here hx rfl (hb hby at_26) (XS.iloadN X23.here hx rfl (hb hby at_29) rfl (XS.iconst X23.here hx rfl (hb hby at_30) (XS.imul X23.here hx rfl (hb hby at_31) rfl (XS.iloadN X23.here hx rfl (hb hby at_32) rfl k)))))) ?_
      refine own_go (x' := T23.setTop (mkF m 45 #[.val (.int p0), .val (.int p1), .val (.int (2 : Int32)), .val (.int (1 : Int32)), .val (.ref aB), .val (.ref aD), .unset] [(.int (0 : Int32))])) (fun _ k => XS.iadd X23.here hx rfl (hb hby at_33) rfl (XS.ishr X23.here hx rfl (hb hby at_34) rfl (XS.iconst X23.here hx rfl (hb hby at_35) (XS.iand X23.here hx rfl (hb hby at_36) rfl (XS.ifYes X23.here hx rfl (pc0 := 37) (pc' := 44) rfl (hb hby at_37) rfl ((if0 _ _).trans (teq (by decide +kernel : ((((281 : Int32) >>> ((((2 : Int32) * (3 : Int32)) + (1 : Int32)) &&& 31)) &&& (1 : Int32)) = (0 : Int32)))).1) (by decide) (by decide) (XS.iconst X23.here hx rfl (hb hby at_44) k)))))) ?_
      refine own_go (x' := T23.setTop (mkF m 51 #[.val (.int p0), .val (.int p1), .val (.int (2 : Int32)), .val (.int (1 : Int32)), .val (.ref aB), .val (.ref aD), .val (.int (0 : Int32))] [(.ref aD), (.ref aB)])) (fun _ k => XS.istore X23.here hx rfl (hb hby at_45) rfl (l' := #[.val (.int p0), .val (.int p1), .val (.int (2 : Int32)), .val (.int (1 : Int32)), .val (.ref aB), .val (.ref aD), .val (.int (0 : Int32))]) rfl (XS.aload X23.here hx rfl (hb hby at_47) rfl rfl (XS.aload X23.here hx rfl (hb hby at_49) rfl rfl k))) ?_
      obtain ⟨cq24, kq24, q24a, q24b, q24c⟩ := isOf hZ eq23 E_aB
      obtain ⟨_, _, ⟨T24, L24, k24, n24⟩, -, X24, ⟨Lc24, hQ24, l24, y24, z24⟩, st24⟩ := X23.virtualBack hx (y := (⟨"com/example/stratgen/stratgen/model/Type", "accepts", "(Lcom/example/stratgen/stratgen/model/Type;)Z"⟩ : MethodName)) (z := (⟨"com/example/stratgen/stratgen/model/Type", "accepts", "(Lcom/example/stratgen/stratgen/model/Type;)Z"⟩ : MethodName)) hown (mvT hZ (own_w hw 8 rfl)) (mvT hZ (own_w hw 9 rfl)) (notFace_of_selects (args := #[]) (mvT hZ (own_w hw 11 rfl))) (mvT hZ (own_w hw 11 rfl)) (mvT hZ (own_w hw 10 rfl)) (by decide) (backOf (W := 0) (rm2 l Z a0 hw [] aB aD aI aD h0 n0 Zs S_INT S_DOUBLE) hZ (own_w hw 12 rfl) (own_w hw 6 rfl) (by decide) (by decide)) q24a q24c (g := (mkF m 51 #[.val (.int p0), .val (.int p1), .val (.int (2 : Int32)), .val (.int (1 : Int32)), .val (.ref aB), .val (.ref aD), .val (.int (0 : Int32))] [(.ref aD), (.ref aB)])) rfl (by rw [hml]; rfl) (Steps.refl _) (argsL := [(.ref aD)]) (rest := []) (lenOf pd_1 rfl) rfl (by show 2 * 0 + _ ≤ _; exact Nat.le_of_eq rfl) (hb hby at_51) (fun _ _ => ⟨rfl, eq23, (by decide : 0 + 0 ≤ _), (by decide : 0 + 0 ≤ _)⟩)
      dsimp only [Pt.U, Pt.locs, Pt.cells, Pt.slots] at X24 l24 y24 z24 st24 hQ24
      subst l24 y24 z24
      obtain ⟨hv24, Nq24, eq24⟩ := hQ24
      have hk24 : own_acc aB aD aI aD = 0 := by simp [own_acc, ne_ID, ne_IB, ne_DB, ne_ID.symm, ne_IB.symm, ne_DB.symm]
      rw [hk24] at hv24
      subst hv24
      replace Nf := Fr.app Nf Nq24
      refine own_go (x' := T24.setTop (mkF m 54 #[.val (.int p0), .val (.int p1), .val (.int (2 : Int32)), .val (.int (1 : Int32)), .val (.ref aB), .val (.ref aD), .val (.int (0 : Int32))] [(.int (0 : Int32))])) (fun _ k => st24.trans k) ?_
      refine own_go (x' := T24.setTop (mkF m 64 #[.val (.int p0), .val (.int p1), .val (.int (2 : Int32)), .val (.int (1 : Int32)), .val (.ref aB), .val (.ref aD), .val (.int (0 : Int32))] [(.int (1 : Int32))])) (fun _ k => XS.iload X24.here hx rfl (hb hby at_54) rfl (XS.icmpNo X24.here hx rfl (hb hby at_56) rfl (teq rfl).2 (XS.iconst X24.here hx rfl (hb hby at_59) (XS.goto X24.here hx rfl (pc0 := 60) (pc' := 64) rfl (hb hby at_60) (by decide) (by decide) k)))) ?_
      refine own_retN X24 hx hlk (t := .boolean) hret (by simp) (hb hby at_64) (w := (1 : Int32)) rfl ?_ (by decide) (by decide)
      rw [eq24]
      exact ⟨rfl, Nf⟩
    · rw [hm]
      refine own_go (x' := s₁.setTop (mkF m 15 #[.val (.int p0), .val (.int p1), .val (.int (2 : Int32)), .val (.int (2 : Int32)), .unset, .unset, .unset] [(.int (2 : Int32))])) (fun _ k => XS.iloadN X0.here hx rfl (hb hby at_14) rfl k) ?_
      obtain ⟨_, _, ⟨T25, L25, k25, n25⟩, -, X25, ⟨Lc25, hQ25, l25, y25, z25⟩, st25⟩ := Jvm.LawKit.callS X0 hx (y := (⟨"com/example/stratgen/stratgen/model/TypeAcceptsPinLaw", "pick", "(I)Lcom/example/stratgen/stratgen/model/Type;"⟩ : MethodName)) hown (mvT hZ (own_w hw 1 rfl)) (mvT hZ (own_w hw 2 rfl)) (mvT hZ (own_w hw 3 rfl)) (mvT hZ (own_w hw 4 rfl)) (by decide) (backOf (W := 0) (rm1 l Z a0 hw [] (2 : Int32) aI aD aB h0 n0 Zs S_INT S_DOUBLE S_BOOL) hZ (own_w hw 4 rfl) (own_w hw 3 rfl) (by decide) (by decide)) (g := (mkF m 15 #[.val (.int p0), .val (.int p1), .val (.int (2 : Int32)), .val (.int (2 : Int32)), .unset, .unset, .unset] [(.int (2 : Int32))])) rfl (by rw [hml]; rfl) (argsL := [(.int (2 : Int32))]) (rest := []) (lenOf pd_0 rfl) rfl (by show 2 * 0 + _ ≤ _; exact Nat.le_of_eq rfl) (hb hby at_15) (fun _ _ => ⟨rfl, e0, (by decide : 0 + 0 ≤ _), (by decide : 0 + 0 ≤ _)⟩)
      dsimp only [Pt.U, Pt.locs, Pt.cells, Pt.slots] at X25 l25 y25 z25 st25 hQ25
      subst l25 y25 z25
      obtain ⟨hv25, Nq25, eq25⟩ := hQ25
      have hk25 : own_pick (2 : Int32) aI aD aB = aB := by first | rfl | decide
      rw [hk25] at hv25
      subst hv25
      replace Nf := Fr.app Nf Nq25
      refine own_go (x' := T25.setTop (mkF m 18 #[.val (.int p0), .val (.int p1), .val (.int (2 : Int32)), .val (.int (2 : Int32)), .unset, .unset, .unset] [(.ref aB)])) st25 ?_
      refine own_go (x' := T25.setTop (mkF m 21 #[.val (.int p0), .val (.int p1), .val (.int (2 : Int32)), .val (.int (2 : Int32)), .val (.ref aB), .unset, .unset] [(.int (2 : Int32))])) (fun _ k => XS.astore X25.here hx rfl (hb hby at_18) rfl rfl (l' := #[.val (.int p0), .val (.int p1), .val (.int (2 : Int32)), .val (.int (2 : Int32)), .val (.ref aB), .unset, .unset]) rfl (XS.iloadN X25.here hx rfl (hb hby at_20) rfl k)) ?_
      obtain ⟨_, _, ⟨T26, L26, k26, n26⟩, -, X26, ⟨Lc26, hQ26, l26, y26, z26⟩, st26⟩ := Jvm.LawKit.callS X25 hx (y := (⟨"com/example/stratgen/stratgen/model/TypeAcceptsPinLaw", "pick", "(I)Lcom/example/stratgen/stratgen/model/Type;"⟩ : MethodName)) hown (mvT hZ (own_w hw 1 rfl)) (mvT hZ (own_w hw 2 rfl)) (mvT hZ (own_w hw 3 rfl)) (mvT hZ (own_w hw 4 rfl)) (by decide) (backOf (W := 0) (rm1 l Z a0 hw [] (2 : Int32) aI aD aB h0 n0 Zs S_INT S_DOUBLE S_BOOL) hZ (own_w hw 4 rfl) (own_w hw 3 rfl) (by decide) (by decide)) (g := (mkF m 21 #[.val (.int p0), .val (.int p1), .val (.int (2 : Int32)), .val (.int (2 : Int32)), .val (.ref aB), .unset, .unset] [(.int (2 : Int32))])) rfl (by rw [hml]; rfl) (argsL := [(.int (2 : Int32))]) (rest := []) (lenOf pd_0 rfl) rfl (by show 2 * 0 + _ ≤ _; exact Nat.le_of_eq rfl) (hb hby at_21) (fun _ _ => ⟨rfl, eq25, (by decide : 0 + 0 ≤ _), (by decide : 0 + 0 ≤ _)⟩)
      dsimp only [Pt.U, Pt.locs, Pt.cells, Pt.slots] at X26 l26 y26 z26 st26 hQ26
      subst l26 y26 z26
      obtain ⟨hv26, Nq26, eq26⟩ := hQ26
      have hk26 : own_pick (2 : Int32) aI aD aB = aB := by first | rfl | decide
      rw [hk26] at hv26
      subst hv26
      replace Nf := Fr.app Nf Nq26
      refine own_go (x' := T26.setTop (mkF m 24 #[.val (.int p0), .val (.int p1), .val (.int (2 : Int32)), .val (.int (2 : Int32)), .val (.ref aB), .unset, .unset] [(.ref aB)])) st26 ?_
      refine own_go (x' := T26.setTop (mkF m 33 #[.val (.int p0), .val (.int p1), .val (.int (2 : Int32)), .val (.int (2 : Int32)), .val (.ref aB), .val (.ref aB), .unset] [(.int (2 : Int32)), (.int ((2 : Int32) * (3 : Int32))), (.int (281 : Int32))])) (fun _ k => XS.astore X26.here hx rfl (hb hby at_24) rfl rfl (l' := #[.val (.int p0), .val (.int p1), .val (.int (2 : Int32)), .val (.int (2 : Int32)), .val (.ref aB), .val (.ref aB), .unset]) rfl (XS.sipush X26.here hx rfl (hb hby at_26) (XS.iloadN X26.here hx rfl (hb hby at_29) rfl (XS.iconst X26.here hx rfl (hb hby at_30) (XS.imul X26.here hx rfl (hb hby at_31) rfl (XS.iloadN X26.here hx rfl (hb hby at_32) rfl k)))))) ?_
      refine own_go (x' := T26.setTop (mkF m 41 #[.val (.int p0), .val (.int p1), .val (.int (2 : Int32)), .val (.int (2 : Int32)), .val (.ref aB), .val (.ref aB), .unset] [(.int (1 : Int32))])) (fun _ k => XS.iadd X26.here hx rfl (hb hby at_33) rfl (XS.ishr X26.here hx rfl (hb hby at_34) rfl (XS.iconst X26.here hx rfl (hb hby at_35) (XS.iand X26.here hx rfl (hb hby at_36) rfl (XS.ifNo X26.here hx rfl (hb hby at_37) rfl ((if0 _ _).trans (feq (by decide +kernel : ¬ ((((281 : Int32) >>> ((((2 : Int32) * (3 : Int32)) + (2 : Int32)) &&& 31)) &&& (1 : Int32)) = (0 : Int32)))).1) (XS.iconst X26.here hx rfl (hb hby at_40) k)))))) ?_
      refine own_go (x' := T26.setTop (mkF m 51 #[.val (.int p0), .val (.int p1), .val (.int (2 : Int32)), .val (.int (2 : Int32)), .val (.ref aB), .val (.ref aB), .val (.int (1 : Int32))] [(.ref aB), (.ref aB)])) (fun _ k => XS.goto X26.here hx rfl (pc0 := 41) (pc' := 45) rfl (hb hby at_41) (by decide) (by decide) (XS.istore X26.here hx rfl (hb hby at_45) rfl (l' := #[.val (.int p0), .val (.int p1), .val (.int (2 : Int32)), .val (.int (2 : Int32)), .val (.ref aB), .val (.ref aB), .val (.int (1 : Int32))]) rfl (XS.aload X26.here hx rfl (hb hby at_47) rfl rfl (XS.aload X26.here hx rfl (hb hby at_49) rfl rfl k)))) ?_
      obtain ⟨cq27, kq27, q27a, q27b, q27c⟩ := isOf hZ eq26 E_aB
      obtain ⟨_, _, ⟨T27, L27, k27, n27⟩, -, X27, ⟨Lc27, hQ27, l27, y27, z27⟩, st27⟩ := X26.virtualBack hx (y := (⟨"com/example/stratgen/stratgen/model/Type", "accepts", "(Lcom/example/stratgen/stratgen/model/Type;)Z"⟩ : MethodName)) (z := (⟨"com/example/stratgen/stratgen/model/Type", "accepts", "(Lcom/example/stratgen/stratgen/model/Type;)Z"⟩ : MethodName)) hown (mvT hZ (own_w hw 8 rfl)) (mvT hZ (own_w hw 9 rfl)) (notFace_of_selects (args := #[]) (mvT hZ (own_w hw 11 rfl))) (mvT hZ (own_w hw 11 rfl)) (mvT hZ (own_w hw 10 rfl)) (by decide) (backOf (W := 0) (rm2 l Z a0 hw [] aB aB aI aD h0 n0 Zs S_INT S_DOUBLE) hZ (own_w hw 12 rfl) (own_w hw 6 rfl) (by decide) (by decide)) q27a q27c (g := (mkF m 51 #[.val (.int p0), .val (.int p1), .val (.int (2 : Int32)), .val (.int (2 : Int32)), .val (.ref aB), .val (.ref aB), .val (.int (1 : Int32))] [(.ref aB), (.ref aB)])) rfl (by rw [hml]; rfl) (Steps.refl _) (argsL := [(.ref aB)]) (rest := []) (lenOf pd_1 rfl) rfl (by show 2 * 0 + _ ≤ _; exact Nat.le_of_eq rfl) (hb hby at_51) (fun _ _ => ⟨rfl, eq26, (by decide : 0 + 0 ≤ _), (by decide : 0 + 0 ≤ _)⟩)
      dsimp only [Pt.U, Pt.locs, Pt.cells, Pt.slots] at X27 l27 y27 z27 st27 hQ27
      subst l27 y27 z27
      obtain ⟨hv27, Nq27, eq27⟩ := hQ27
      have hk27 : own_acc aB aB aI aD = 1 := by simp [own_acc, ne_ID, ne_IB, ne_DB, ne_ID.symm, ne_IB.symm, ne_DB.symm]
      rw [hk27] at hv27
      subst hv27
      replace Nf := Fr.app Nf Nq27
      refine own_go (x' := T27.setTop (mkF m 54 #[.val (.int p0), .val (.int p1), .val (.int (2 : Int32)), .val (.int (2 : Int32)), .val (.ref aB), .val (.ref aB), .val (.int (1 : Int32))] [(.int (1 : Int32))])) (fun _ k => st27.trans k) ?_
      refine own_go (x' := T27.setTop (mkF m 64 #[.val (.int p0), .val (.int p1), .val (.int (2 : Int32)), .val (.int (2 : Int32)), .val (.ref aB), .val (.ref aB), .val (.int (1 : Int32))] [(.int (1 : Int32))])) (fun _ k => XS.iload X27.here hx rfl (hb hby at_54) rfl (XS.icmpNo X27.here hx rfl (hb hby at_56) rfl (teq rfl).2 (XS.iconst X27.here hx rfl (hb hby at_59) (XS.goto X27.here hx rfl (pc0 := 60) (pc' := 64) rfl (hb hby at_60) (by decide) (by decide) k)))) ?_
      refine own_retN X27 hx hlk (t := .boolean) hret (by simp) (hb hby at_64) (w := (1 : Int32)) rfl ?_ (by decide) (by decide)
      rw [eq27]
      exact ⟨rfl, Nf⟩
set_option maxRecDepth 65536 in
set_option maxHeartbeats 40000000 in
theorem comes_1 {Post : Tables → Env → Array Value → State → Outcome → State → Prop} (hpost : ∀ tb e args s v u, (limb_1_1.after args s (.returned v) u = true ∧ limb_1_2.after args s (.returned v) u = true ∧ True) → FrameEnd s (.returned v) u (Jvm.fieldLocs frame_1_writes args s ++ Jvm.arrayLocs frame_1_arrays args s ++ Jvm.staticLocs frame_1_statics s) 0 0 → Post tb e args s (.returned v) u) :
    ArmFor flags0 classFile x code maxLocals ret World_1 tables_1 room_1 Calls_1 rest_1 Pre_1 Post := by
  intro l hfl _ _ p e ha hc hk s m args below hf hA hF happ hP
  obtain ⟨hcalls, hrest, hpre⟩ := hP
  obtain ⟨-, -, -, hnamed, -, -, -, hat⟩ := (Spec.applies_iff hf).mp happ
  obtain ⟨hg, hn⟩ := and_e (Cond.before_iff.mp (show (Jvm.Cond.and given_1 narrow_1).before args s = true from hpre))
  obtain ⟨gg1, gg2⟩ := and_e hg
  obtain ⟨gg3, gg4⟩ := and_e gg2
  obtain ⟨w0, w1, rfl⟩ : ∃ w0 w1 : Value, args = #[w0, w1] := by
    have hs : args.size = 2 := by simpa [Cond.value, given_1] using gg1
    obtain ⟨L⟩ := args
    match L, hs with
    | [w0, w1], _ => exact ⟨w0, w1, rfl⟩
  have hw := fun d (hd : d ∈ tables_1) => atoms_spec (ws := Jvm.Cond.code x code maxLocals ret :: tables_1) hat d (List.mem_cons_of_mem _ hd)
  have hfit : Fit s := fun {y c} hc i hi => by
    obtain ⟨ha, rfl⟩ := Array.getElem?_eq_some_iff.mp hc
    have q := List.all_eq_true.mp ((Array.all_eq_true_iff_forall_mem.mp hF) _ (Array.getElem_mem ha)) i (List.mem_range.mpr hi)
    simpa [Array.getElem?_eq_getElem hi] using q
  obtain ⟨i0, ei0⟩ := is_v gg3
  obtain rfl : w0 = (.int i0) := Option.some.inj ei0
  obtain ⟨i1, ei1⟩ := is_v gg4
  obtain rfl : w1 = (.int i1) := Option.some.inj ei1
  obtain ⟨hn1, hn2⟩ := and_e hn
  obtain ⟨hn3, hn4⟩ := and_e hn2
  obtain ⟨hn5, hn6⟩ := and_e hn4
  obtain ⟨hn7, hn8⟩ := and_e hn6
  obtain ⟨hn9, hn10⟩ := and_e hn8
  obtain ⟨aI, ev_INT⟩ := exa_v hn1
  have S_INT : Sta s s.heap "com/example/stratgen/stratgen/model/Type" "INT" "Lcom/example/stratgen/stratgen/model/Type;" (.ref aI) := Sta.start ev_INT (Or.inr ⟨(own_w hw 6 rfl), (own_w hw 7 rfl)⟩)
  have E_aI : Exa s s.heap aI "com/example/stratgen/stratgen/model/Type" := Exa.start ev_INT hn1
  obtain ⟨aB, ev_BOOL⟩ := exa_v hn3
  have S_BOOL : Sta s s.heap "com/example/stratgen/stratgen/model/Type" "BOOL" "Lcom/example/stratgen/stratgen/model/Type;" (.ref aB) := Sta.start ev_BOOL (Or.inr ⟨(own_w hw 6 rfl), (own_w hw 14 rfl)⟩)
  have E_aB : Exa s s.heap aB "com/example/stratgen/stratgen/model/Type" := Exa.start ev_BOOL hn3
  obtain ⟨aD, ev_DOUBLE⟩ := exa_v hn5
  have S_DOUBLE : Sta s s.heap "com/example/stratgen/stratgen/model/Type" "DOUBLE" "Lcom/example/stratgen/stratgen/model/Type;" (.ref aD) := Sta.start ev_DOUBLE (Or.inr ⟨(own_w hw 6 rfl), (own_w hw 16 rfl)⟩)
  have E_aD : Exa s s.heap aD "com/example/stratgen/stratgen/model/Type" := Exa.start ev_DOUBLE hn5
  have F_aB_ordinal : Fld s s.heap aB "java/lang/Enum" "ordinal" "I" (.int (2 : Int32)) := own_fldI ev_BOOL hn7
  have F_aD_ordinal : Fld s s.heap aD "java/lang/Enum" "ordinal" "I" (.int (1 : Int32)) := own_fldI ev_DOUBLE hn9
  have F_aI_ordinal : Fld s s.heap aI "java/lang/Enum" "ordinal" "I" (.int (0 : Int32)) := own_fldI ev_INT hn10
  have ne_ID : aI ≠ aD := F_aI_ordinal.ne F_aD_ordinal (by decide)
  have ne_IB : aI ≠ aB := F_aI_ordinal.ne F_aB_ordinal (by decide)
  have ne_DB : aD ≠ aB := F_aD_ordinal.ne F_aB_ordinal (by decide)
  obtain ⟨n, o, h1, h2, h3, _, L, rfl, ⟨rfl, N⟩, hq⟩ := rm0 l s _ hw tables_1 i0 i1 aI aD aB s.heap s.heap.size (Nat.le_refl _) S_INT S_DOUBLE S_BOOL E_aI E_aD E_aB ne_ID ne_IB ne_DB p e ha hc hk s m _ below hf ((Spec.applies_iff_loose hf).mp happ).1 ⟨rfl, State.Warmed39.refl s, rfl⟩ trivial
  refine ⟨n, _, h1, h2, h3, hpost _ _ _ _ _ _ ⟨Cond.after_iff.mpr rfl, Cond.after_iff.mpr (eq_i res_at (Term.int_eval (1)) rfl), trivial⟩ ⟨hq.1, hq.2.1, (hq.2.2.sift fun y hy => Or.inr (N y hy)).mono (by decide) (by decide)⟩⟩
theorem main_1_1 : Claimed_1_1 := comes_1 fun _ _ _ _ _ _ h hF => ⟨h.1, hF⟩
theorem main_1_2 : Claimed_1_2 := comes_1 fun _ _ _ _ _ _ h hF => ⟨h.2.1, hF⟩
end Jvm.Pilot.@@N@@
namespace Jvm.Pilot.@@N@@
open Jvm Jvm.ClassFile Sem Op Lib Jvm.Free Jvm.Stand Jvm.Pilot.@@N@@.Jvm.D
/-! MADE BY PROGRAM (witnessworld.py) out of the Statement's table words and the real class files: 12 classes; the members and pool entries that the words name. The judged class is class 1, her method 2. -/
namespace start1
open Jvm.ClassFile
def u (s : String) : CpInfo := .utf8 (stringToUtf16 s)
/-- a pool by its gaps: so many unusable entries, then the entry; so many at the end -/
def gap : Nat → List CpInfo → List CpInfo
  | 0, r => r
  | n + 1, r => .unusable :: gap n r
def poolList (es : List (Nat × CpInfo)) (last : Nat) : List CpInfo := es.foldr (fun e r => gap e.1 (e.2 :: r)) (gap last [])
def pool (es : List (Nat × CpInfo)) (last : Nat) : Array CpInfo := ⟨poolList es last⟩
def fileOf (pool : Array CpInfo) (this : Nat) (attrs : Array Attribute := #[]) (ms : Array MethodInfo := #[]) (fl : Nat := 33) (sup : Nat := 0) (ifs : Array Nat := #[]) (fds : Array FieldInfo := #[]) : ClassFile where
  minorVersion := 0
  majorVersion := 65
  constantPool := pool
  accessFlags := fl
  thisClass := this
  superClass := sup
  interfaces := ifs
  fields := fds
  methods := ms
  attributes := attrs
def plain (name : String) (sup : Option ClassId) : Class where
  name := name
  kind := .ordinary
  loader := none
  accessFlags := 33
  super := sup
  interfaces := #[]
  cf := none
  fields := #[]
  methods := #[]
  instanceTypes := #[]
  staticTypes := #[]
  resolved := #[]
  callSites := []
  init := .initialized
  statics := none
  mirror := none

def pool0 : Array CpInfo := pool [(5, u "<init>"), (0, u "()V"), (1, .class_ 10), (1, u "java/lang/Object")] 113

def k0m0 : Method := { name := "<init>", desc := "()V", sig := { parameters := [], returnType := none }, accessFlags := 1, code := none }
/-- java/lang/Object -/
def k0 : Class := { plain "java/lang/Object" none with
  accessFlags := 33
  interfaces := #[]
  cf := some (fileOf pool0 8 #[] #[{ accessFlags := 1, nameIndex := 5, descriptorIndex := 6, attributes := #[] }] 33 0 #[] #[])
  fields := #[]
  methods := #[k0m0]
  instanceTypes := #[]
  staticTypes := #[]
  resolved := Array.replicate 124 none
  statics := none }

def pool1 : Array CpInfo := pool [(2, .class_ 4), (1, u "java/lang/Object"), (0, u "<init>"), (0, u "()V"), (0, .fieldref 8 9), (0, .class_ 10), (0, .nameAndType 11 12), (0, u "com/example/stratgen/stratgen/model/Type"), (0, u "INT"), (0, u "Lcom/example/stratgen/stratgen/model/Type;"), (0, .fieldref 8 14), (0, .nameAndType 15 12), (0, u "DOUBLE"), (0, .fieldref 8 17), (0, .nameAndType 18 12), (0, u "BOOL"), (0, .integer 2147483647), (0, .methodref 21 22), (0, .class_ 23), (0, .nameAndType 24 25), (0, u "com/example/stratgen/stratgen/model/TypeAcceptsPinLaw"), (0, u "pick"), (0, u "(I)Lcom/example/stratgen/stratgen/model/Type;"), (0, .methodref 8 27), (0, .nameAndType 28 29), (0, u "accepts"), (0, u "(Lcom/example/stratgen/stratgen/model/Type;)Z"), (3, u "law"), (0, u "(II)Z")] 2

def k1m0 : Method := { name := "<init>", desc := "()V", sig := { parameters := [], returnType := none }, accessFlags := 1, code := none }
def k1c1 : Code := { maxStack := 2, maxLocals := 1, code := method_2_code, exceptionTable := #[], attributes := #[] }
def k1m1 : Method := { name := "pick", desc := "(I)Lcom/example/stratgen/stratgen/model/Type;", sig := { parameters := [.int], returnType := some (.object "com/example/stratgen/stratgen/model/Type") }, accessFlags := 10, code := some k1c1 }
def k1c2 : Code := { maxStack := 3, maxLocals := 7, code := code, exceptionTable := #[], attributes := #[] }
def k1m2 : Method := { name := "law", desc := "(II)Z", sig := { parameters := [.int, .int], returnType := some .boolean }, accessFlags := 9, code := some k1c2 }
/-- com/example/stratgen/stratgen/model/TypeAcceptsPinLaw -/
def k1 : Class := { plain "com/example/stratgen/stratgen/model/TypeAcceptsPinLaw" (some 0) with
  accessFlags := 49
  interfaces := #[]
  cf := some (fileOf pool1 21 #[] #[{ accessFlags := 1, nameIndex := 5, descriptorIndex := 6, attributes := #[] }, { accessFlags := 10, nameIndex := 24, descriptorIndex := 25, attributes := #[] }, { accessFlags := 9, nameIndex := 33, descriptorIndex := 34, attributes := #[] }] 49 2 #[] #[])
  fields := #[]
  methods := #[k1m0, k1m1, k1m2]
  instanceTypes := #[]
  staticTypes := #[]
  resolved := Array.replicate 37 none
  statics := none }

def pool2 : Array CpInfo := pool [(1, .class_ 2), (0, u "java/lang/constant/Constable"), (0, .class_ 4), (0, u "java/lang/Object")] 6

/-- java/lang/constant/Constable -/
def k2 : Class := { plain "java/lang/constant/Constable" (some 0) with
  accessFlags := 1537
  interfaces := #[]
  cf := some (fileOf pool2 1 #[] #[] 1537 3 #[] #[])
  fields := #[]
  methods := #[]
  instanceTypes := #[]
  staticTypes := #[]
  resolved := Array.replicate 11 none
  statics := none }

def pool3 : Array CpInfo := pool [(1, .class_ 2), (0, u "java/lang/Comparable"), (0, .class_ 4), (0, u "java/lang/Object")] 7

/-- java/lang/Comparable -/
def k3 : Class := { plain "java/lang/Comparable" (some 0) with
  accessFlags := 1537
  interfaces := #[]
  cf := some (fileOf pool3 1 #[] #[] 1537 3 #[] #[])
  fields := #[]
  methods := #[]
  instanceTypes := #[]
  staticTypes := #[]
  resolved := Array.replicate 12 none
  statics := none }

def pool4 : Array CpInfo := pool [(1, .class_ 2), (0, u "java/io/Serializable"), (0, .class_ 4), (0, u "java/lang/Object")] 2

/-- java/io/Serializable -/
def k4 : Class := { plain "java/io/Serializable" (some 0) with
  accessFlags := 1537
  interfaces := #[]
  cf := some (fileOf pool4 1 #[] #[] 1537 3 #[] #[])
  fields := #[]
  methods := #[]
  instanceTypes := #[]
  staticTypes := #[]
  resolved := Array.replicate 7 none
  statics := none }

def pool5 : Array CpInfo := pool [(2, .class_ 4), (1, u "java/lang/Enum"), (0, u "name"), (0, u "Ljava/lang/String;"), (2, u "ordinal"), (0, u "I"), (1, .class_ 14), (1, u "java/lang/Object"), (4, u "hash"), (86, .class_ 108), (1, u "java/lang/Enum$EnumDesc"), (2, .class_ 112), (0, u "java/lang/constant/Constable"), (0, .class_ 114), (0, u "java/lang/Comparable"), (0, .class_ 116), (0, u "java/io/Serializable")] 87

/-- java/lang/Enum -/
def k5 : Class := { plain "java/lang/Enum" (some 0) with
  accessFlags := 1057
  interfaces := #[2, 3, 4]
  cf := some (fileOf pool5 2 #[.nestMembers #[106]] #[] 1057 12 #[111, 113, 115] #[{ accessFlags := 18, nameIndex := 5, descriptorIndex := 6, attributes := #[] }, { accessFlags := 18, nameIndex := 9, descriptorIndex := 10, attributes := #[] }, { accessFlags := 2, nameIndex := 19, descriptorIndex := 10, attributes := #[] }])
  fields := #[{ name := "name", type := (.object "java/lang/String"), accessFlags := 18, slot := 0, constantValue := 0 }, { name := "ordinal", type := .int, accessFlags := 18, slot := 1, constantValue := 0 }, { name := "hash", type := .int, accessFlags := 2, slot := 2, constantValue := 0 }]
  methods := #[]
  instanceTypes := #[(.object "java/lang/String"), .int, .int]
  staticTypes := #[]
  resolved := Array.replicate 204 none
  statics := none }

def pool6 : Array CpInfo := pool [(1, .class_ 2), (0, u "com/example/stratgen/stratgen/model/Type"), (0, .fieldref 1 4), (0, .nameAndType 5 6), (0, u "INT"), (0, u "Lcom/example/stratgen/stratgen/model/Type;"), (0, .fieldref 1 8), (0, .nameAndType 9 6), (0, u "DOUBLE"), (2, u "BOOL"), (2, u "$VALUES"), (0, u "[Lcom/example/stratgen/stratgen/model/Type;"), (6, .class_ 25), (1, u "java/lang/Enum"), (8, u "keyword"), (0, u "Ljava/lang/String;"), (27, u "accepts"), (0, u "(Lcom/example/stratgen/stratgen/model/Type;)Z")] 7

def k6c0 : Code := { maxStack := 2, maxLocals := 2, code := prog_96_method_6_code, exceptionTable := #[], attributes := #[] }
def k6m0 : Method := { name := "accepts", desc := "(Lcom/example/stratgen/stratgen/model/Type;)Z", sig := { parameters := [(.object "com/example/stratgen/stratgen/model/Type")], returnType := some .boolean }, accessFlags := 1, code := some k6c0 }
/-- com/example/stratgen/stratgen/model/Type -/
def k6 : Class := { plain "com/example/stratgen/stratgen/model/Type" (some 5) with
  accessFlags := 16433
  interfaces := #[]
  cf := some (fileOf pool6 1 #[] #[{ accessFlags := 1, nameIndex := 63, descriptorIndex := 64, attributes := #[] }] 16433 23 #[] #[{ accessFlags := 16409, nameIndex := 5, descriptorIndex := 6, attributes := #[] }, { accessFlags := 16409, nameIndex := 9, descriptorIndex := 6, attributes := #[] }, { accessFlags := 16409, nameIndex := 12, descriptorIndex := 6, attributes := #[] }, { accessFlags := 18, nameIndex := 34, descriptorIndex := 35, attributes := #[] }, { accessFlags := 4122, nameIndex := 15, descriptorIndex := 16, attributes := #[] }])
  fields := #[{ name := "INT", type := (.object "com/example/stratgen/stratgen/model/Type"), accessFlags := 16409, slot := 0, constantValue := 0 }, { name := "DOUBLE", type := (.object "com/example/stratgen/stratgen/model/Type"), accessFlags := 16409, slot := 1, constantValue := 0 }, { name := "BOOL", type := (.object "com/example/stratgen/stratgen/model/Type"), accessFlags := 16409, slot := 2, constantValue := 0 }, { name := "keyword", type := (.object "java/lang/String"), accessFlags := 18, slot := 3, constantValue := 0 }, { name := "$VALUES", type := (.array (.object "com/example/stratgen/stratgen/model/Type")), accessFlags := 4122, slot := 3, constantValue := 0 }]
  methods := #[k6m0]
  instanceTypes := #[(.object "java/lang/String"), .int, .int, (.object "java/lang/String")]
  staticTypes := #[(.object "com/example/stratgen/stratgen/model/Type"), (.object "com/example/stratgen/stratgen/model/Type"), (.object "com/example/stratgen/stratgen/model/Type"), (.array (.object "com/example/stratgen/stratgen/model/Type"))]
  resolved := Array.replicate 72 none
  statics := some 0 }

def pool7 : Array CpInfo := pool [(1, u "java/lang/Cloneable"), (0, .class_ 1), (0, u "java/lang/Object"), (0, .class_ 3)] 3

/-- java/lang/Cloneable -/
def k7 : Class := { plain "java/lang/Cloneable" (some 0) with
  accessFlags := 1537
  interfaces := #[]
  cf := some (fileOf pool7 2 #[] #[] 1537 4 #[] #[])
  fields := #[]
  methods := #[]
  instanceTypes := #[]
  staticTypes := #[]
  resolved := Array.replicate 8 none
  statics := none }

/-- the primitive byte -/
def k8 : Class := { plain "byte" none with kind := .primitive 'B', accessFlags := 0x411 }
/-- [B -/
def k9 : Class := { plain "[B" (some 0) with kind := .array 8 .byte, interfaces := #[7, 4], accessFlags := 1041 }

/-- the primitive int -/
def k10 : Class := { plain "int" none with kind := .primitive 'I', accessFlags := 0x411 }
/-- [I -/
def k11 : Class := { plain "[I" (some 0) with kind := .array 10 .int, interfaces := #[7, 4], accessFlags := 1041 }

def heap : Heap := #[{ cls := 6, slots := #[.ref 1, .ref 2, .ref 3, .null], vm := .statics 6 },
  { cls := 6, slots := #[.null, .int 0, .int 0, .null], vm := .none },
  { cls := 6, slots := #[.null, .int 1, .int 0, .null], vm := .none },
  { cls := 6, slots := #[.null, .int 2, .int 0, .null], vm := .none }]
def classes : Array Class := #[k0, k1, k2, k3, k4, k5, k6, k7, k8, k9, k10, k11]
def interned : List (Array UInt16 × Addr) := []
def slotsUsed : Nat := 16
def theMethod : MethodId := ⟨1, 2⟩
def args0 : Array Value := #[.int 1, .int 2]
def aboutOver (below : List Frame) : State where
  vm := { classes := classes, interned := interned.toArray }
  heap := heap
  slotsUsed := slotsUsed
  threads := #[{ frames := .invoking theMethod args0 :: below }]
def below0 : List Frame := [.native { method := ⟨0, 0⟩, args := #[] }]
def about1 : State := aboutOver below0
def p0 : Program := .bare "" "" ""
def e0 : Env := launch0.env 0 0 0
theorem w_frames : about1.frames = Frame.invoking theMethod args0 :: below0 := rfl
set_option maxRecDepth 65536 in
theorem w_args : argsFit about1.vm theMethod args0 = true := by decide +kernel
set_option maxRecDepth 65536 in
theorem w_heap : heapFits about1 = true := by decide +kernel
set_option maxRecDepth 65536 in
theorem w_runnable : about1.curStatus? = some .runnable := by decide +kernel
set_option maxRecDepth 65536 in
theorem w_alone : about1.alone = true := by decide +kernel
set_option maxRecDepth 65536 in
theorem w_named : about1.methodNamed? x = some theMethod := by decide +kernel
set_option maxRecDepth 65536 in
theorem w_hears : about1.hears theMethod below0 = true := by decide +kernel
set_option maxRecDepth 65536 in
theorem w_ripe : about1.ripe theMethod args0 below0 = true := by decide +kernel
theorem w_running : about1.status = .running := rfl
set_option maxRecDepth 65536 in
theorem w_room : about1.hasRoom e0.platform room_1 = true :=
  launch0.hasRoom_least _ room_1 (by decide +kernel) (by decide +kernel) (by decide +kernel) (by decide +kernel) (by decide +kernel) (by decide +kernel)
theorem allAtoms_all (ts : List Jvm.Cond) (a : Array Jvm.Value) (st : Jvm.State) : (allAtoms ts).before a st = ts.all (fun c => c.before a st) := by
  induction ts with
  | nil => rfl
  | cons c t ih =>
    show (Jvm.Cond.and c (allAtoms t)).before a st = _
    rw [Jvm.Cond.before_and, ih, List.all_cons]
def words1 : List Jvm.Cond := Jvm.Cond.code x code maxLocals ret :: tables_1
/-- a 'code' word, met by the world's own term for the bytes: nothing is compared byte by byte -/
theorem code_word {y : MethodName} {bytes : ByteArray} {mx : Nat} {rt : Option FieldType} {a : Array Value} {s : State} {m : MethodId} {meth : Method} {c : Code} (h1 : s.methodNamed? y = some m) (h2 : s.vm.method? m = some meth) (h3 : meth.code = some c) (h4 : c.code = bytes)
    (h5 : (c.maxLocals == mx && c.exceptionTable.isEmpty && decide (c.maxStack ≤ mostOperands) && decide (meth.sig.returnType = rt) && !meth.locks && decide (parseMethodDescriptor y.desc = some meth.sig)) = true) : (Jvm.Cond.code y bytes mx rt).before a s = true := by
  simp only [Bool.and_eq_true, beq_iff_eq, Bool.not_eq_true', decide_eq_true_eq] at h5
  obtain ⟨⟨⟨⟨⟨g1, g2⟩, g3⟩, g4⟩, g5⟩, g6⟩ := h5
  simp [Cond.before, Cond.holds, Cond.value, h1, h2, h3, h4, g1, g2, g3, g4, g5, g6]
def isCode : Jvm.Cond → Bool
  | .code _ _ _ _ => true
  | _ => false
theorem all_split {L : List Jvm.Cond} {P : Jvm.Cond → Bool} (h1 : L.all (fun c => isCode c || P c) = true) (h2 : ∀ c ∈ L.filter isCode, P c = true) : L.all P = true := by
  refine List.all_eq_true.mpr fun c hc => ?_
  have h := List.all_eq_true.mp h1 c hc
  rcases Bool.eq_false_or_eq_true (isCode c) with hi | hi
  · exact h2 c (List.mem_filter.mpr ⟨hc, hi⟩)
  · simpa [hi] using h
set_option maxRecDepth 65536 in
theorem w_c0 : (Jvm.Cond.code x code maxLocals ret).before args0 about1 = true := code_word (m := ⟨1, 2⟩) (meth := k1m2) (c := k1c2) (by decide +kernel) rfl rfl rfl (by decide +kernel)
set_option maxRecDepth 65536 in
theorem w_c1 : (Jvm.Cond.code ({ cls := "com/example/stratgen/stratgen/model/TypeAcceptsPinLaw", name := "pick", desc := "(I)Lcom/example/stratgen/stratgen/model/Type;" } : Jvm.MethodName) method_2_code (1 : Nat) (Option.some (Jvm.ClassFile.FieldType.object "com/example/stratgen/stratgen/model/Type"))).before args0 about1 = true := code_word (m := ⟨1, 1⟩) (meth := k1m1) (c := k1c1) (by decide +kernel) rfl rfl rfl (by decide +kernel)
set_option maxRecDepth 65536 in
theorem w_c2 : (Jvm.Cond.code ({ cls := "com/example/stratgen/stratgen/model/Type", name := "accepts", desc := "(Lcom/example/stratgen/stratgen/model/Type;)Z" } : Jvm.MethodName) prog_96_method_6_code (2 : Nat) (Option.some Jvm.ClassFile.FieldType.boolean)).before args0 about1 = true := code_word (m := ⟨6, 0⟩) (meth := k6m0) (c := k6c0) (by decide +kernel) rfl rfl rfl (by decide +kernel)
def codes1 : List Jvm.Cond := [Jvm.Cond.code x code maxLocals ret, Jvm.Cond.code ({ cls := "com/example/stratgen/stratgen/model/TypeAcceptsPinLaw", name := "pick", desc := "(I)Lcom/example/stratgen/stratgen/model/Type;" } : Jvm.MethodName) method_2_code (1 : Nat) (Option.some (Jvm.ClassFile.FieldType.object "com/example/stratgen/stratgen/model/Type")), Jvm.Cond.code ({ cls := "com/example/stratgen/stratgen/model/Type", name := "accepts", desc := "(Lcom/example/stratgen/stratgen/model/Type;)Z" } : Jvm.MethodName) prog_96_method_6_code (2 : Nat) (Option.some Jvm.ClassFile.FieldType.boolean)]
set_option maxRecDepth 65536 in
theorem codes_eq : words1.filter isCode = codes1 := rfl
theorem w_codes : ∀ c ∈ words1.filter isCode, c.before args0 about1 = true := by
  rw [codes_eq]
  intro c hc
  simp only [codes1, List.mem_cons, List.not_mem_nil, or_false] at hc
  rcases hc with rfl | rfl | rfl
  · exact w_c0
  · exact w_c1
  · exact w_c2
set_option maxRecDepth 65536 in
theorem w_t1 : words1.all (fun c => isCode c || c.before args0 about1) = true := by decide +kernel
theorem w_tables : (allAtoms (Jvm.Cond.code x code maxLocals ret :: tables_1)).before args0 about1 = true := by
  rw [allAtoms_all]
  show words1.all (fun c => c.before args0 about1) = true
  refine all_split ?_ w_codes
  rw [w_t1]
set_option maxRecDepth 65536 in
theorem w_case : (Jvm.Cond.and given_1 narrow_1).before args0 about1 = true := by decide +kernel
theorem w_applies : (headSpec (Jvm.Cond.code x code maxLocals ret :: tables_1) room_1).applies x e0.platform about1 = true :=
  (Spec.applies_iff w_frames).mpr ⟨w_running, w_runnable, w_alone, w_named, w_hears, w_ripe, w_room, w_tables⟩
theorem atStart : AtStart classFile x code maxLocals ret World_1 tables_1 room_1 Calls_1 rest_1 Pre_1 launch0 p0 e0 about1 theMethod args0 below0 :=
  ⟨lists_1, trivial, launch0.admits_env _ _ _, launch0.least_env, fairChoices_fair.cas, fairChoices_fair.clock, w_frames, w_args, w_heap, w_applies, trivial, trivial, w_case⟩
end start1
theorem witness_1 : WitnessClaimed_1 := ⟨start1.p0, start1.e0, start1.about1, start1.theMethod, start1.args0, start1.below0, start1.atStart⟩
end Jvm.Pilot.@@N@@
