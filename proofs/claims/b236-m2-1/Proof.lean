import JvmDerived
import JvmDerived.Pilot.@@N@@Statement
import JvmDerived.Pilot.@@N@@Code
set_option linter.unusedVariables false
set_option linter.unusedSimpArgs false
namespace Jvm.Pilot.@@N@@
open Jvm Jvm.ClassFile Sem Op Lib Jvm.Free Jvm.Stand Jvm.LawKit Jvm.RoadKit Bundle Jvm.Pilot.@@N@@.Jvm.D
section OwnKit
variable {p : Program} {l : Launch} {e : Env} {R : Room} {s : State} {m : MethodId} {args : Array Value} {below : List Frame} {meth : Method} {c : Code} {T : State} {locs : List Loc} {cells slots : Nat} {Q : Option Value → Heap → List Loc → Prop} {C S : Nat}
/-- from x the run ends, returning, with what Q says -/
def own_End (p : Program) (e : Env) (below : List Frame) (s : State) (Q : Option Value → Heap → List Loc → Prop) (C S : Nat) (x : State) : Prop :=
  ∃ t o, Steps p.tables e below x t ∧ t.status = .running ∧ Ended t below o ∧ ∃ v L, o = .returned v ∧ Q v t.heap L ∧ FrameEnd s o t L C S
theorem own_go {x x' : State} (h : ∀ t, Steps p.tables e below x' t → Steps p.tables e below x t) (k : own_End p e below s Q C S x') : own_End p e below s Q C S x := by
  obtain ⟨t, o, h1, h2⟩ := k
  exact ⟨t, o, h t h1, h2⟩
theorem own_mono {Q' : Option Value → Heap → List Loc → Prop} {x : State} (h : ∀ v h L, Q v h L → Q' v h L) (k : own_End p e below s Q C S x) : own_End p e below s Q' C S x := by
  obtain ⟨t, o, h1, h2, h3, v, L, h4, h5, h6⟩ := k
  exact ⟨t, o, h1, h2, h3, v, L, h4, h _ _ _ h5, h6⟩
theorem own_out (X : Stand p l e R s m args below meth c T locs cells slots) (hlk : meth.locks = false) {v : Option Value} (hv : meth.sig.returnType = none → v = none) {x : State}
    (h : ∀ fs, (∀ (f : JFrame) (acts : List Action), f.method = m → f.locked = none → f.entered = [] → (doReturn e (T.setTop f) acts v).1 = T.setFrames fs) → Steps p.tables e below x (T.setFrames fs))
    (hq : Q v T.heap locs) (hc : cells ≤ C) (hs : slots ≤ S) : own_End p e below s Q C S x := by
  obtain ⟨fs, hr, hrun, hended, hW, hsame⟩ := X.leave hv hlk
  exact ⟨_, _, h fs hr, hrun, hended, _, _, rfl, hq, ⟨_, rfl⟩, hW, hsame.mono hc hs⟩
theorem own_retV (X : Stand p l e R s m args below meth c T locs cells slots) (hx : p.tables.exec = Jvm.exec) (hlk : meth.locks = false) {pc : Nat} {Ls : Array Slot} (hret : meth.sig.returnType = none) (hd : decode c.code pc = .ok (.return_, 1))
    (hq : Q none T.heap locs) (hc : cells ≤ C) (hs : slots ≤ S) : own_End p e below s Q C S (T.setTop (mkF m pc Ls [])) :=
  own_out X hlk (fun _ => rfl) (fun fs hr => X.returnOut hx hret hd hr) hq hc hs
theorem own_retN (X : Stand p l e R s m args below meth c T locs cells slots) (hx : p.tables.exec = Jvm.exec) (hlk : meth.locks = false) {pc : Nat} {Ls : Array Slot} {z w : Int32} {t : FieldType} {rest : List Value} (hret : meth.sig.returnType = some t) (ht : t = .boolean ∨ t = .byte ∨ t = .char ∨ t = .short) (hd : decode c.code pc = .ok (.ireturn, 1))
    (hz : nar t z = w) (hq : Q (some (.int w)) T.heap locs) (hc : cells ≤ C) (hs : slots ≤ S) : own_End p e below s Q C S (T.setTop (mkF m pc Ls (.int z :: rest))) := by
  subst hz
  exact own_out X hlk (fun h => by rw [hret] at h; cases h) (fun fs hr => retN X hx hret ht hd hr) hq hc hs
theorem own_retI (X : Stand p l e R s m args below meth c T locs cells slots) (hx : p.tables.exec = Jvm.exec) (hlk : meth.locks = false) {pc : Nat} {Ls : Array Slot} {z : Int32} {rest : List Value} (hret : meth.sig.returnType = some .int) (hd : decode c.code pc = .ok (.ireturn, 1))
    (hq : Q (some (.int z)) T.heap locs) (hc : cells ≤ C) (hs : slots ≤ S) : own_End p e below s Q C S (T.setTop (mkF m pc Ls (.int z :: rest))) :=
  own_out X hlk (fun h => by rw [hret] at h; cases h) (fun fs hr => retOut X hx hret rfl (Or.inl ⟨rfl, Or.inl rfl, _, rfl⟩) hd hr) hq hc hs
theorem own_retJ (X : Stand p l e R s m args below meth c T locs cells slots) (hx : p.tables.exec = Jvm.exec) (hlk : meth.locks = false) {pc : Nat} {Ls : Array Slot} {z : Int64} {rest : List Value} (hret : meth.sig.returnType = some .long) (hd : decode c.code pc = .ok (.lreturn, 1))
    (hq : Q (some (.long z)) T.heap locs) (hc : cells ≤ C) (hs : slots ≤ S) : own_End p e below s Q C S (T.setTop (mkF m pc Ls (.long z :: rest))) :=
  own_out X hlk (fun h => by rw [hret] at h; cases h) (fun fs hr => retOut X hx hret rfl (Or.inr (Or.inl ⟨rfl, rfl, _, rfl⟩)) hd hr) hq hc hs
theorem own_retR (X : Stand p l e R s m args below meth c T locs cells slots) (hx : p.tables.exec = Jvm.exec) (hlk : meth.locks = false) {pc : Nat} {Ls : Array Slot} {z : Value} {t : FieldType} {rest : List Value} (hret : meth.sig.returnType = some t) (ht : t.isReference = true) (hv : z.isRef = true) (hd : decode c.code pc = .ok (.areturn, 1))
    (hq : Q (some z) T.heap locs) (hc : cells ≤ C) (hs : slots ≤ S) : own_End p e below s Q C S (T.setTop (mkF m pc Ls (z :: rest))) :=
  own_out X hlk (fun h => by rw [hret] at h; cases h) (fun fs hr => retOut X hx hret (by cases t <;> first | rfl | cases ht) (Or.inr (Or.inr (Or.inr (Or.inr ⟨rfl, ht, hv⟩)))) hd hr) hq hc hs
theorem own_w {a0 : Array Value} {Z : State} (hw : ∀ d ∈ tables_1, d.before a0 Z = true) (i : Nat) {d : Jvm.Cond} (h : tables_1[i]? = some d) : d.before a0 Z = true := hw _ (List.mem_of_getElem? h)
end OwnKit
theorem own_fldI {args : Array Value} {s : State} {t : Term} {a : Addr} {C n d : String} {k : Int32} (ev : t.eval args s none [] s = some (.ref a)) (h : (Jvm.Cond.eq (.field t C n d) (.int k)).value args s none s [] = some true) : Fld s s.heap a C n d (.int k) := by
  have e := fld_at (C := C) (n := n) (dd := d) ev
  cases hv : s.fieldOf? a C n d with
  | none => simp only [Jvm.Cond.value, e, hv, Term.int_eval] at h; cases h
  | some v =>
    have q : v = .int k := by
      cases v <;> simp [Jvm.Cond.value, e, hv, Term.int_eval] at h ⊢
      exact h
    rw [q] at hv
    exact Fld.start hv
theorem own_fldJ {args : Array Value} {s : State} {t : Term} {a : Addr} {C n d : String} {k : Int64} (ev : t.eval args s none [] s = some (.ref a)) (h : (Jvm.Cond.eq (.field t C n d) (.long k)).value args s none s [] = some true) : Fld s s.heap a C n d (.long k) := by
  have e := fld_at (C := C) (n := n) (dd := d) ev
  cases hv : s.fieldOf? a C n d with
  | none => simp only [Jvm.Cond.value, e, hv, long_at] at h; cases h
  | some v =>
    have q : v = .long k := by
      cases v <;> simp [Jvm.Cond.value, e, hv, long_at] at h ⊢
      exact h
    rw [q] at hv
    exact Fld.start hv
def own_pick (k : Int32) (x y z : Addr) : Addr := if k = 0 then x else if k = 1 then y else z
def own_acc (a b x y : Addr) : Int32 := if a = b then 1 else if a = y then (if b = x then 1 else 0) else 0
def own_num (a b x y : Addr) : Addr := if a = x then (if b = x then x else y) else y
def own_isn (a z : Addr) : Int32 := if a = z then 0 else 1
theorem d1_0 : decode method_2_code 0 = .ok (.iload_n 0, 1) := by decide +kernel
theorem d1_1 : decode method_2_code 1 = .ok (.ldc 7, 2) := by decide +kernel
theorem d1_3 : decode method_2_code 3 = .ok (.iand, 1) := by decide +kernel
theorem d1_4 : decode method_2_code 4 = .ok (.iconst 3, 1) := by decide +kernel
theorem d1_5 : decode method_2_code 5 = .ok (.irem, 1) := by decide +kernel
theorem d1_6 : decode method_2_code 6 = .ok (.istore_n 1, 1) := by decide +kernel
theorem d1_7 : decode method_2_code 7 = .ok (.iload_n 1, 1) := by decide +kernel
theorem d1_8 : decode method_2_code 8 = .ok (.ifCond .ne 7, 3) := by decide +kernel
theorem d1_11 : decode method_2_code 11 = .ok (.getstatic 8, 3) := by decide +kernel
theorem d1_14 : decode method_2_code 14 = .ok (.areturn, 1) := by decide +kernel
theorem d1_15 : decode method_2_code 15 = .ok (.iload_n 1, 1) := by decide +kernel
theorem d1_16 : decode method_2_code 16 = .ok (.iconst 1, 1) := by decide +kernel
theorem d1_17 : decode method_2_code 17 = .ok (.if_icmp .ne 7, 3) := by decide +kernel
theorem d1_20 : decode method_2_code 20 = .ok (.getstatic 14, 3) := by decide +kernel
theorem d1_23 : decode method_2_code 23 = .ok (.areturn, 1) := by decide +kernel
theorem d1_24 : decode method_2_code 24 = .ok (.getstatic 17, 3) := by decide +kernel
theorem d1_27 : decode method_2_code 27 = .ok (.areturn, 1) := by decide +kernel
def Q_rm1 (Z : State) (p0 : Int32) (aI aD aB : Addr) (h0 : Heap) (n0 : Nat) (v : Option Value) (h : Heap) (L : List Loc) : Prop := v = some (.ref (own_pick ((p0 &&& (2147483647 : Int32)) % (3 : Int32)) aI aD aB)) ∧ Fr n0 L ∧ h = h0
theorem pn_rm1 : plainName "com/example/stratgen/stratgen/model/TypeNumericResultPinLaw" = true := by first | (simp [plainName, overriddenIn]; done) | decide +kernel
theorem ef_rm1 (m : MethodId) (x0 : Int32) : entryFrame m #[(.int x0)] 2 = mkF m 0 #[.val (.int x0), .unset] [] := by first | (simp [entryFrame, mkF, argsToLocals, Value.category]; done) | rfl
set_option maxRecDepth 65536 in
set_option maxHeartbeats 40000000 in
theorem rm1 (l : Launch) (Z : State) (a0 : Array Value) (hw : ∀ d ∈ tables_1, d.before a0 Z = true) (ws : List Jvm.Cond) (p0 : Int32) (aI aD aB : Addr) (h0 : Heap) (n0 : Nat) (Z0 : n0 ≤ h0.size) (S_INT : Sta Z h0 "com/example/stratgen/stratgen/model/Type" "INT" "Lcom/example/stratgen/stratgen/model/Type;" (.ref aI)) (S_DOUBLE : Sta Z h0 "com/example/stratgen/stratgen/model/Type" "DOUBLE" "Lcom/example/stratgen/stratgen/model/Type;" (.ref aD)) (S_BOOL : Sta Z h0 "com/example/stratgen/stratgen/model/Type" "BOOL" "Lcom/example/stratgen/stratgen/model/Type;" (.ref aB)) :
    MetFree l (⟨"com/example/stratgen/stratgen/model/TypeNumericResultPinLaw", "pick", "(I)Lcom/example/stratgen/stratgen/model/Type;"⟩ : MethodName) (head1 (Jvm.Cond.code (⟨"com/example/stratgen/stratgen/model/TypeNumericResultPinLaw", "pick", "(I)Lcom/example/stratgen/stratgen/model/Type;"⟩ : MethodName) method_2_code 2 (some (.object "com/example/stratgen/stratgen/model/Type")) :: ws) ({ frames := 0, cells := 0, slots := 0, locals := 0 } : Room)) (fun a U => a = #[(.int p0)] ∧ Z.Warmed39 U.vm ∧ U.heap = h0) (fun _ _ _ _ _ => True) (fun _ U o U' => ∃ v L, o = .returned v ∧ (Q_rm1 Z p0 aI aD aB h0 n0) v U'.heap L ∧ FrameEnd U o U' L ({ frames := 0, cells := 0, slots := 0, locals := 0 } : Room).cells ({ frames := 0, cells := 0, slots := 0, locals := 0 } : Room).slots) := by
  refine MetFree.of_bodySF (plainFor_of_name pn_rm1) hisR ?_
  intro p e s m args below meth c s₁ Bd hml0 hP hK
  obtain ⟨rfl, hZ, hh⟩ := hP
  have hx := Bd.exec
  have hby := Bd.bytes
  have hlk := BodyLoose.notSynchronized Bd
  have hret := Bd.returns
  have hml : c.maxLocals = 2 := hml0
  have hown : s.vm.findClass "com/example/stratgen/stratgen/model/TypeNumericResultPinLaw" = some m.cls := findClass_of_methodNamed Bd.named
  have hnm := (name_of_methodNamed Bd.named Bd.method).1
  have X0 : Stand p l e ({ frames := 0, cells := 0, slots := 0, locals := 0 } : Room) s m #[(.int p0)] below meth c s₁ [] 0 0 := Stand.of_body Bd
  have e0 : s₁.heap = h0 := by rw [← hh, Bd.state]; rfl
  have Nf := Fr.nil n0
  have Zs := Z0
  have Kp : Keep h0 h0 [] := Keep.refl _ _
  show own_End p e below s (Q_rm1 Z p0 aI aD aB h0 n0) ({ frames := 0, cells := 0, slots := 0, locals := 0 } : Room).cells ({ frames := 0, cells := 0, slots := 0, locals := 0 } : Room).slots (s₁.setTop (entryFrame m #[(.int p0)] 2))
  refine own_go (x' := s₁.setTop (mkF m 0 #[.val (.int p0), .unset] [])) (fun t k => castTop (ef_rm1 m p0) k) ?_
  refine own_go (x' := s₁.setTop (mkF m 1 #[.val (.int p0), .unset] [(.int p0)])) (fun _ k => XS.iloadN X0.here hx rfl (hb hby d1_0) rfl k) ?_
  refine own_go (x' := s₁.setTop (mkF m 3 #[.val (.int p0), .unset] [(.int (2147483647 : Int32)), (.int p0)])) (fun t k => X0.ldcInt hx hown (mvT hZ (own_w hw 4 rfl)) (g := (mkF m 1 #[.val (.int p0), .unset] [(.int p0)])) rfl (hb hby d1_1) t k) ?_
  refine own_go (x' := s₁.setTop (mkF m 8 #[.val (.int p0), .val (.int ((p0 &&& (2147483647 : Int32)) % (3 : Int32)))] [(.int ((p0 &&& (2147483647 : Int32)) % (3 : Int32)))])) (fun _ k => XS.iand X0.here hx rfl (hb hby d1_3) rfl (XS.iconst X0.here hx rfl (hb hby d1_4) (iremM X0 hx rfl (hb hby d1_5) rfl (by decide) (XS.istoreN X0.here hx rfl (hb hby d1_6) rfl (l' := #[.val (.int p0), .val (.int ((p0 &&& (2147483647 : Int32)) % (3 : Int32)))]) rfl (XS.iloadN X0.here hx rfl (hb hby d1_7) rfl k))))) ?_
  by_cases hc8 : ((p0 &&& (2147483647 : Int32)) % (3 : Int32)) = (0 : Int32)
  · refine own_go (x' := s₁.setTop (mkF m 11 #[.val (.int p0), .val (.int ((p0 &&& (2147483647 : Int32)) % (3 : Int32)))] [])) (fun _ k => XS.ifNo X0.here hx rfl (hb hby d1_8) rfl ((if0 _ _).trans (teq hc8).2) k) ?_
    obtain ⟨T1, X1, e1, st1⟩ := getS2 X0 hx hZ hown (host := "") (Or.inl (own_w hw 5 rfl)) Via.refl e0 S_INT (g := (mkF m 11 #[.val (.int p0), .val (.int ((p0 &&& (2147483647 : Int32)) % (3 : Int32)))] [])) rfl (hb hby d1_11)
    refine own_go (x' := T1.setTop (mkF m 14 #[.val (.int p0), .val (.int ((p0 &&& (2147483647 : Int32)) % (3 : Int32)))] [(.ref aI)])) st1 ?_
    refine own_retR X1 hx hlk hret rfl rfl (hb hby d1_14) ?_ (by decide) (by decide)
    rw [e1]
    exact ⟨by simp only [own_pick, if_pos hc8], Nf, rfl⟩
  · refine own_go (x' := s₁.setTop (mkF m 17 #[.val (.int p0), .val (.int ((p0 &&& (2147483647 : Int32)) % (3 : Int32)))] [(.int (1 : Int32)), (.int ((p0 &&& (2147483647 : Int32)) % (3 : Int32)))])) (fun _ k => XS.ifYes X0.here hx rfl (pc0 := 8) (pc' := 15) rfl (hb hby d1_8) rfl ((if0 _ _).trans (feq hc8).2) (by decide) (by decide) (XS.iloadN X0.here hx rfl (hb hby d1_15) rfl (XS.iconst X0.here hx rfl (hb hby d1_16) k))) ?_
    by_cases hc17 : ((p0 &&& (2147483647 : Int32)) % (3 : Int32)) = (1 : Int32)
    · refine own_go (x' := s₁.setTop (mkF m 20 #[.val (.int p0), .val (.int ((p0 &&& (2147483647 : Int32)) % (3 : Int32)))] [])) (fun _ k => XS.icmpNo X0.here hx rfl (hb hby d1_17) rfl (teq hc17).2 k) ?_
      obtain ⟨T2, X2, e2, st2⟩ := getS2 X0 hx hZ hown (host := "") (Or.inl (own_w hw 25 rfl)) Via.refl e0 S_DOUBLE (g := (mkF m 20 #[.val (.int p0), .val (.int ((p0 &&& (2147483647 : Int32)) % (3 : Int32)))] [])) rfl (hb hby d1_20)
      refine own_go (x' := T2.setTop (mkF m 23 #[.val (.int p0), .val (.int ((p0 &&& (2147483647 : Int32)) % (3 : Int32)))] [(.ref aD)])) st2 ?_
      refine own_retR X2 hx hlk hret rfl rfl (hb hby d1_23) ?_ (by decide) (by decide)
      rw [e2]
      exact ⟨by simp only [own_pick, if_neg hc8, if_pos hc17], Nf, rfl⟩
    · refine own_go (x' := s₁.setTop (mkF m 24 #[.val (.int p0), .val (.int ((p0 &&& (2147483647 : Int32)) % (3 : Int32)))] [])) (fun _ k => XS.icmpYes X0.here hx rfl (pc0 := 17) (pc' := 24) rfl (hb hby d1_17) rfl (feq hc17).2 (by decide) (by decide) k) ?_
      obtain ⟨T3, X3, e3, st3⟩ := getS2 X0 hx hZ hown (host := "") (Or.inl (own_w hw 19 rfl)) Via.refl e0 S_BOOL (g := (mkF m 24 #[.val (.int p0), .val (.int ((p0 &&& (2147483647 : Int32)) % (3 : Int32)))] [])) rfl (hb hby d1_24)
      refine own_go (x' := T3.setTop (mkF m 27 #[.val (.int p0), .val (.int ((p0 &&& (2147483647 : Int32)) % (3 : Int32)))] [(.ref aB)])) st3 ?_
      refine own_retR X3 hx hlk hret rfl rfl (hb hby d1_27) ?_ (by decide) (by decide)
      rw [e3]
      exact ⟨by simp only [own_pick, if_neg hc8, if_neg hc17], Nf, rfl⟩
theorem d2_0 : decode prog_96_method_7_code 0 = .ok (.aload_n 0, 1) := by decide +kernel
theorem d2_1 : decode prog_96_method_7_code 1 = .ok (.getstatic 3, 3) := by decide +kernel
theorem d2_4 : decode prog_96_method_7_code 4 = .ok (.if_acmp .ne 17, 3) := by decide +kernel
theorem d2_7 : decode prog_96_method_7_code 7 = .ok (.aload_n 1, 1) := by decide +kernel
theorem d2_8 : decode prog_96_method_7_code 8 = .ok (.getstatic 3, 3) := by decide +kernel
theorem d2_11 : decode prog_96_method_7_code 11 = .ok (.if_acmp .ne 10, 3) := by decide +kernel
theorem d2_14 : decode prog_96_method_7_code 14 = .ok (.getstatic 3, 3) := by decide +kernel
theorem d2_17 : decode prog_96_method_7_code 17 = .ok (.astore_n 2, 1) := by decide +kernel
theorem d2_18 : decode prog_96_method_7_code 18 = .ok (.goto 7, 3) := by decide +kernel
theorem d2_21 : decode prog_96_method_7_code 21 = .ok (.getstatic 7, 3) := by decide +kernel
theorem d2_24 : decode prog_96_method_7_code 24 = .ok (.astore_n 2, 1) := by decide +kernel
theorem d2_25 : decode prog_96_method_7_code 25 = .ok (.aload_n 2, 1) := by decide +kernel
theorem d2_26 : decode prog_96_method_7_code 26 = .ok (.areturn, 1) := by decide +kernel
def Q_rm2 (Z : State) (ao0 ao1 : Addr) (aI aD : Addr) (h0 : Heap) (n0 : Nat) (v : Option Value) (h : Heap) (L : List Loc) : Prop := v = some (.ref (own_num ao0 ao1 aI aD)) ∧ Fr n0 L ∧ h = h0
theorem pn_rm2 : plainName "com/example/stratgen/stratgen/model/Type" = true := by first | (simp [plainName, overriddenIn]; done) | decide +kernel
theorem ef_rm2 (m : MethodId) (x0 : Addr) (x1 : Addr) : entryFrame m #[(.ref x0), (.ref x1)] 3 = mkF m 0 #[.val (.ref x0), .val (.ref x1), .unset] [] := by first | (simp [entryFrame, mkF, argsToLocals, Value.category]; done) | rfl
set_option maxRecDepth 65536 in
set_option maxHeartbeats 40000000 in
theorem rm2 (l : Launch) (Z : State) (a0 : Array Value) (hw : ∀ d ∈ tables_1, d.before a0 Z = true) (ws : List Jvm.Cond) (ao0 ao1 : Addr) (aI aD : Addr) (h0 : Heap) (n0 : Nat) (Z0 : n0 ≤ h0.size) (S_INT : Sta Z h0 "com/example/stratgen/stratgen/model/Type" "INT" "Lcom/example/stratgen/stratgen/model/Type;" (.ref aI)) (S_DOUBLE : Sta Z h0 "com/example/stratgen/stratgen/model/Type" "DOUBLE" "Lcom/example/stratgen/stratgen/model/Type;" (.ref aD)) :
    MetFree l (⟨"com/example/stratgen/stratgen/model/Type", "numericResult", "(Lcom/example/stratgen/stratgen/model/Type;Lcom/example/stratgen/stratgen/model/Type;)Lcom/example/stratgen/stratgen/model/Type;"⟩ : MethodName) (head1 (Jvm.Cond.code (⟨"com/example/stratgen/stratgen/model/Type", "numericResult", "(Lcom/example/stratgen/stratgen/model/Type;Lcom/example/stratgen/stratgen/model/Type;)Lcom/example/stratgen/stratgen/model/Type;"⟩ : MethodName) prog_96_method_7_code 3 (some (.object "com/example/stratgen/stratgen/model/Type")) :: ws) ({ frames := 0, cells := 0, slots := 0, locals := 0 } : Room)) (fun a U => a = #[(.ref ao0), (.ref ao1)] ∧ Z.Warmed39 U.vm ∧ U.heap = h0) (fun _ _ _ _ _ => True) (fun _ U o U' => ∃ v L, o = .returned v ∧ (Q_rm2 Z ao0 ao1 aI aD h0 n0) v U'.heap L ∧ FrameEnd U o U' L ({ frames := 0, cells := 0, slots := 0, locals := 0 } : Room).cells ({ frames := 0, cells := 0, slots := 0, locals := 0 } : Room).slots) := by
  refine MetFree.of_bodySF (plainFor_of_name pn_rm2) hisR ?_
  intro p e s m args below meth c s₁ Bd hml0 hP hK
  obtain ⟨rfl, hZ, hh⟩ := hP
  have hx := Bd.exec
  have hby := Bd.bytes
  have hlk := BodyLoose.notSynchronized Bd
  have hret := Bd.returns
  have hml : c.maxLocals = 3 := hml0
  have hown : s.vm.findClass "com/example/stratgen/stratgen/model/Type" = some m.cls := findClass_of_methodNamed Bd.named
  have hnm := (name_of_methodNamed Bd.named Bd.method).1
  have X0 : Stand p l e ({ frames := 0, cells := 0, slots := 0, locals := 0 } : Room) s m #[(.ref ao0), (.ref ao1)] below meth c s₁ [] 0 0 := Stand.of_body Bd
  have e0 : s₁.heap = h0 := by rw [← hh, Bd.state]; rfl
  have Nf := Fr.nil n0
  have Zs := Z0
  have Kp : Keep h0 h0 [] := Keep.refl _ _
  show own_End p e below s (Q_rm2 Z ao0 ao1 aI aD h0 n0) ({ frames := 0, cells := 0, slots := 0, locals := 0 } : Room).cells ({ frames := 0, cells := 0, slots := 0, locals := 0 } : Room).slots (s₁.setTop (entryFrame m #[(.ref ao0), (.ref ao1)] 3))
  refine own_go (x' := s₁.setTop (mkF m 0 #[.val (.ref ao0), .val (.ref ao1), .unset] [])) (fun t k => castTop (ef_rm2 m ao0 ao1) k) ?_
  refine own_go (x' := s₁.setTop (mkF m 1 #[.val (.ref ao0), .val (.ref ao1), .unset] [(.ref ao0)])) (fun _ k => XS.aloadN X0.here hx rfl (hb hby d2_0) rfl rfl k) ?_
  obtain ⟨T1, X1, e1, st1⟩ := getS2 X0 hx hZ hown (host := "") (Or.inl (own_w hw 11 rfl)) Via.refl e0 S_INT (g := (mkF m 1 #[.val (.ref ao0), .val (.ref ao1), .unset] [(.ref ao0)])) rfl (hb hby d2_1)
  refine own_go (x' := T1.setTop (mkF m 4 #[.val (.ref ao0), .val (.ref ao1), .unset] [(.ref aI), (.ref ao0)])) st1 ?_
  by_cases hc4 : ao0 = aI
  · refine own_go (x' := T1.setTop (mkF m 7 #[.val (.ref ao0), .val (.ref ao1), .unset] [])) (fun _ k => Jvm.RoadKit.acmp (g := (mkF m 4 #[.val (.ref ao0), .val (.ref ao1), .unset] [(.ref aI), (.ref ao0)])) X1 hx rfl rfl rfl (pc0 := 4) (pc' := 7) (same := true) rfl (hb hby d2_4) rfl (decide_eq_true (congrArg Value.ref hc4)) (by decide) (by decide) k) ?_
    refine own_go (x' := T1.setTop (mkF m 8 #[.val (.ref ao0), .val (.ref ao1), .unset] [(.ref ao1)])) (fun _ k => XS.aloadN X1.here hx rfl (hb hby d2_7) rfl rfl k) ?_
    obtain ⟨T2, X2, e2, st2⟩ := getS2 X1 hx hZ hown (host := "") (Or.inl (own_w hw 11 rfl)) Via.refl e1 S_INT (g := (mkF m 8 #[.val (.ref ao0), .val (.ref ao1), .unset] [(.ref ao1)])) rfl (hb hby d2_8)
    refine own_go (x' := T2.setTop (mkF m 11 #[.val (.ref ao0), .val (.ref ao1), .unset] [(.ref aI), (.ref ao1)])) st2 ?_
    by_cases hc11 : ao1 = aI
    · refine own_go (x' := T2.setTop (mkF m 14 #[.val (.ref ao0), .val (.ref ao1), .unset] [])) (fun _ k => Jvm.RoadKit.acmp (g := (mkF m 11 #[.val (.ref ao0), .val (.ref ao1), .unset] [(.ref aI), (.ref ao1)])) X2 hx rfl rfl rfl (pc0 := 11) (pc' := 14) (same := true) rfl (hb hby d2_11) rfl (decide_eq_true (congrArg Value.ref hc11)) (by decide) (by decide) k) ?_
      obtain ⟨T3, X3, e3, st3⟩ := getS2 X2 hx hZ hown (host := "") (Or.inl (own_w hw 11 rfl)) Via.refl e2 S_INT (g := (mkF m 14 #[.val (.ref ao0), .val (.ref ao1), .unset] [])) rfl (hb hby d2_14)
      refine own_go (x' := T3.setTop (mkF m 17 #[.val (.ref ao0), .val (.ref ao1), .unset] [(.ref aI)])) st3 ?_
      refine own_go (x' := T3.setTop (mkF m 26 #[.val (.ref ao0), .val (.ref ao1), .val (.ref aI)] [(.ref aI)])) (fun _ k => XS.astoreN X3.here hx rfl (hb hby d2_17) rfl rfl (l' := #[.val (.ref ao0), .val (.ref ao1), .val (.ref aI)]) rfl (XS.goto X3.here hx rfl (pc0 := 18) (pc' := 25) rfl (hb hby d2_18) (by decide) (by decide) (XS.aloadN X3.here hx rfl (hb hby d2_25) rfl rfl k))) ?_
      refine own_retR X3 hx hlk hret rfl rfl (hb hby d2_26) ?_ (by decide) (by decide)
      rw [e3]
      exact ⟨by simp only [own_num, if_pos hc4, if_pos hc11], Nf, rfl⟩
    · refine own_go (x' := T2.setTop (mkF m 21 #[.val (.ref ao0), .val (.ref ao1), .unset] [])) (fun _ k => Jvm.RoadKit.acmp (g := (mkF m 11 #[.val (.ref ao0), .val (.ref ao1), .unset] [(.ref aI), (.ref ao1)])) X2 hx rfl rfl rfl (pc0 := 11) (pc' := 21) (same := false) rfl (hb hby d2_11) rfl (decide_eq_false fun q => hc11 (Value.ref.inj q)) (by decide) (by decide) k) ?_
      obtain ⟨T4, X4, e4, st4⟩ := getS2 X2 hx hZ hown (host := "") (Or.inl (own_w hw 27 rfl)) Via.refl e2 S_DOUBLE (g := (mkF m 21 #[.val (.ref ao0), .val (.ref ao1), .unset] [])) rfl (hb hby d2_21)
      refine own_go (x' := T4.setTop (mkF m 24 #[.val (.ref ao0), .val (.ref ao1), .unset] [(.ref aD)])) st4 ?_
      refine own_go (x' := T4.setTop (mkF m 26 #[.val (.ref ao0), .val (.ref ao1), .val (.ref aD)] [(.ref aD)])) (fun _ k => XS.astoreN X4.here hx rfl (hb hby d2_24) rfl rfl (l' := #[.val (.ref ao0), .val (.ref ao1), .val (.ref aD)]) rfl (XS.aloadN X4.here hx rfl (hb hby d2_25) rfl rfl k)) ?_
      refine own_retR X4 hx hlk hret rfl rfl (hb hby d2_26) ?_ (by decide) (by decide)
      rw [e4]
      exact ⟨by simp only [own_num, if_pos hc4, if_neg hc11], Nf, rfl⟩
  · refine own_go (x' := T1.setTop (mkF m 21 #[.val (.ref ao0), .val (.ref ao1), .unset] [])) (fun _ k => Jvm.RoadKit.acmp (g := (mkF m 4 #[.val (.ref ao0), .val (.ref ao1), .unset] [(.ref aI), (.ref ao0)])) X1 hx rfl rfl rfl (pc0 := 4) (pc' := 21) (same := false) rfl (hb hby d2_4) rfl (decide_eq_false fun q => hc4 (Value.ref.inj q)) (by decide) (by decide) k) ?_
    obtain ⟨T5, X5, e5, st5⟩ := getS2 X1 hx hZ hown (host := "") (Or.inl (own_w hw 27 rfl)) Via.refl e1 S_DOUBLE (g := (mkF m 21 #[.val (.ref ao0), .val (.ref ao1), .unset] [])) rfl (hb hby d2_21)
    refine own_go (x' := T5.setTop (mkF m 24 #[.val (.ref ao0), .val (.ref ao1), .unset] [(.ref aD)])) st5 ?_
    refine own_go (x' := T5.setTop (mkF m 26 #[.val (.ref ao0), .val (.ref ao1), .val (.ref aD)] [(.ref aD)])) (fun _ k => XS.astoreN X5.here hx rfl (hb hby d2_24) rfl rfl (l' := #[.val (.ref ao0), .val (.ref ao1), .val (.ref aD)]) rfl (XS.aloadN X5.here hx rfl (hb hby d2_25) rfl rfl k)) ?_
    refine own_retR X5 hx hlk hret rfl rfl (hb hby d2_26) ?_ (by decide) (by decide)
    rw [e5]
    exact ⟨by simp only [own_num, if_neg hc4], Nf, rfl⟩
theorem d3_0 : decode prog_96_method_5_code 0 = .ok (.aload_n 0, 1) := by decide +kernel
theorem d3_1 : decode prog_96_method_5_code 1 = .ok (.getstatic 10, 3) := by decide +kernel
theorem d3_4 : decode prog_96_method_5_code 4 = .ok (.if_acmp .eq 7, 3) := by decide +kernel
theorem d3_7 : decode prog_96_method_5_code 7 = .ok (.iconst 1, 1) := by decide +kernel
theorem d3_8 : decode prog_96_method_5_code 8 = .ok (.goto 4, 3) := by decide +kernel
theorem d3_11 : decode prog_96_method_5_code 11 = .ok (.iconst 0, 1) := by decide +kernel
theorem d3_12 : decode prog_96_method_5_code 12 = .ok (.ireturn, 1) := by decide +kernel
def Q_rm3 (Z : State) (ao0 : Addr) (aB : Addr) (h0 : Heap) (n0 : Nat) (v : Option Value) (h : Heap) (L : List Loc) : Prop := v = some (.int (own_isn ao0 aB)) ∧ Fr n0 L ∧ h = h0
theorem pn_rm3 : plainName "com/example/stratgen/stratgen/model/Type" = true := by first | (simp [plainName, overriddenIn]; done) | decide +kernel
theorem ef_rm3 (m : MethodId) (x0 : Addr) : entryFrame m #[(.ref x0)] 1 = mkF m 0 #[.val (.ref x0)] [] := by first | (simp [entryFrame, mkF, argsToLocals, Value.category]; done) | rfl
set_option maxRecDepth 65536 in
set_option maxHeartbeats 40000000 in
theorem rm3 (l : Launch) (Z : State) (a0 : Array Value) (hw : ∀ d ∈ tables_1, d.before a0 Z = true) (ws : List Jvm.Cond) (ao0 : Addr) (aB : Addr) (h0 : Heap) (n0 : Nat) (Z0 : n0 ≤ h0.size) (S_BOOL : Sta Z h0 "com/example/stratgen/stratgen/model/Type" "BOOL" "Lcom/example/stratgen/stratgen/model/Type;" (.ref aB)) :
    MetFree l (⟨"com/example/stratgen/stratgen/model/Type", "isNumeric", "()Z"⟩ : MethodName) (head1 (Jvm.Cond.code (⟨"com/example/stratgen/stratgen/model/Type", "isNumeric", "()Z"⟩ : MethodName) prog_96_method_5_code 1 (some .boolean) :: ws) ({ frames := 0, cells := 0, slots := 0, locals := 0 } : Room)) (fun a U => a = #[(.ref ao0)] ∧ Z.Warmed39 U.vm ∧ U.heap = h0) (fun _ _ _ _ _ => True) (fun _ U o U' => ∃ v L, o = .returned v ∧ (Q_rm3 Z ao0 aB h0 n0) v U'.heap L ∧ FrameEnd U o U' L ({ frames := 0, cells := 0, slots := 0, locals := 0 } : Room).cells ({ frames := 0, cells := 0, slots := 0, locals := 0 } : Room).slots) := by
  refine MetFree.of_bodySF (plainFor_of_name pn_rm3) hisR ?_
  intro p e s m args below meth c s₁ Bd hml0 hP hK
  obtain ⟨rfl, hZ, hh⟩ := hP
  have hx := Bd.exec
  have hby := Bd.bytes
  have hlk := BodyLoose.notSynchronized Bd
  have hret := Bd.returns
  have hml : c.maxLocals = 1 := hml0
  have hown : s.vm.findClass "com/example/stratgen/stratgen/model/Type" = some m.cls := findClass_of_methodNamed Bd.named
  have hnm := (name_of_methodNamed Bd.named Bd.method).1
  have X0 : Stand p l e ({ frames := 0, cells := 0, slots := 0, locals := 0 } : Room) s m #[(.ref ao0)] below meth c s₁ [] 0 0 := Stand.of_body Bd
  have e0 : s₁.heap = h0 := by rw [← hh, Bd.state]; rfl
  have Nf := Fr.nil n0
  have Zs := Z0
  have Kp : Keep h0 h0 [] := Keep.refl _ _
  show own_End p e below s (Q_rm3 Z ao0 aB h0 n0) ({ frames := 0, cells := 0, slots := 0, locals := 0 } : Room).cells ({ frames := 0, cells := 0, slots := 0, locals := 0 } : Room).slots (s₁.setTop (entryFrame m #[(.ref ao0)] 1))
  refine own_go (x' := s₁.setTop (mkF m 0 #[.val (.ref ao0)] [])) (fun t k => castTop (ef_rm3 m ao0) k) ?_
  refine own_go (x' := s₁.setTop (mkF m 1 #[.val (.ref ao0)] [(.ref ao0)])) (fun _ k => XS.aloadN X0.here hx rfl (hb hby d3_0) rfl rfl k) ?_
  obtain ⟨T1, X1, e1, st1⟩ := getS2 X0 hx hZ hown (host := "") (Or.inl (own_w hw 17 rfl)) Via.refl e0 S_BOOL (g := (mkF m 1 #[.val (.ref ao0)] [(.ref ao0)])) rfl (hb hby d3_1)
  refine own_go (x' := T1.setTop (mkF m 4 #[.val (.ref ao0)] [(.ref aB), (.ref ao0)])) st1 ?_
  by_cases hc4 : ao0 = aB
  · refine own_go (x' := T1.setTop (mkF m 11 #[.val (.ref ao0)] [])) (fun _ k => Jvm.RoadKit.acmp (g := (mkF m 4 #[.val (.ref ao0)] [(.ref aB), (.ref ao0)])) X1 hx rfl rfl rfl (pc0 := 4) (pc' := 11) (same := true) rfl (hb hby d3_4) rfl (decide_eq_true (congrArg Value.ref hc4)) (by decide) (by decide) k) ?_
    refine own_go (x' := T1.setTop (mkF m 12 #[.val (.ref ao0)] [(.int (0 : Int32))])) (fun _ k => XS.iconst X1.here hx rfl (hb hby d3_11) k) ?_
    refine own_retN X1 hx hlk (t := .boolean) hret (by simp) (hb hby d3_12) (w := (0 : Int32)) rfl ?_ (by decide) (by decide)
    rw [e1]
    exact ⟨by simp only [own_isn, if_pos hc4], Nf, rfl⟩
  · refine own_go (x' := T1.setTop (mkF m 7 #[.val (.ref ao0)] [])) (fun _ k => Jvm.RoadKit.acmp (g := (mkF m 4 #[.val (.ref ao0)] [(.ref aB), (.ref ao0)])) X1 hx rfl rfl rfl (pc0 := 4) (pc' := 7) (same := false) rfl (hb hby d3_4) rfl (decide_eq_false fun q => hc4 (Value.ref.inj q)) (by decide) (by decide) k) ?_
    refine own_go (x' := T1.setTop (mkF m 12 #[.val (.ref ao0)] [(.int (1 : Int32))])) (fun _ k => XS.iconst X1.here hx rfl (hb hby d3_7) (XS.goto X1.here hx rfl (pc0 := 8) (pc' := 12) rfl (hb hby d3_8) (by decide) (by decide) k)) ?_
    refine own_retN X1 hx hlk (t := .boolean) hret (by simp) (hb hby d3_12) (w := (1 : Int32)) rfl ?_ (by decide) (by decide)
    rw [e1]
    exact ⟨by simp only [own_isn, if_neg hc4], Nf, rfl⟩
theorem d4_0 : decode prog_96_method_6_code 0 = .ok (.aload_n 0, 1) := by decide +kernel
theorem d4_1 : decode prog_96_method_6_code 1 = .ok (.aload_n 1, 1) := by decide +kernel
theorem d4_2 : decode prog_96_method_6_code 2 = .ok (.if_acmp .eq 17, 3) := by decide +kernel
theorem d4_5 : decode prog_96_method_6_code 5 = .ok (.aload_n 0, 1) := by decide +kernel
theorem d4_6 : decode prog_96_method_6_code 6 = .ok (.getstatic 7, 3) := by decide +kernel
theorem d4_9 : decode prog_96_method_6_code 9 = .ok (.if_acmp .ne 14, 3) := by decide +kernel
theorem d4_12 : decode prog_96_method_6_code 12 = .ok (.aload_n 1, 1) := by decide +kernel
theorem d4_13 : decode prog_96_method_6_code 13 = .ok (.getstatic 3, 3) := by decide +kernel
theorem d4_16 : decode prog_96_method_6_code 16 = .ok (.if_acmp .ne 7, 3) := by decide +kernel
theorem d4_19 : decode prog_96_method_6_code 19 = .ok (.iconst 1, 1) := by decide +kernel
theorem d4_20 : decode prog_96_method_6_code 20 = .ok (.goto 4, 3) := by decide +kernel
theorem d4_23 : decode prog_96_method_6_code 23 = .ok (.iconst 0, 1) := by decide +kernel
theorem d4_24 : decode prog_96_method_6_code 24 = .ok (.ireturn, 1) := by decide +kernel
def Q_rm4 (Z : State) (ao0 ao1 : Addr) (aI aD : Addr) (h0 : Heap) (n0 : Nat) (v : Option Value) (h : Heap) (L : List Loc) : Prop := v = some (.int (own_acc ao0 ao1 aI aD)) ∧ Fr n0 L ∧ h = h0
theorem pn_rm4 : plainName "com/example/stratgen/stratgen/model/Type" = true := by first | (simp [plainName, overriddenIn]; done) | decide +kernel
theorem ef_rm4 (m : MethodId) (x0 : Addr) (x1 : Addr) : entryFrame m #[(.ref x0), (.ref x1)] 2 = mkF m 0 #[.val (.ref x0), .val (.ref x1)] [] := by first | (simp [entryFrame, mkF, argsToLocals, Value.category]; done) | rfl
set_option maxRecDepth 65536 in
set_option maxHeartbeats 40000000 in
theorem rm4 (l : Launch) (Z : State) (a0 : Array Value) (hw : ∀ d ∈ tables_1, d.before a0 Z = true) (ws : List Jvm.Cond) (ao0 ao1 : Addr) (aI aD : Addr) (h0 : Heap) (n0 : Nat) (Z0 : n0 ≤ h0.size) (S_INT : Sta Z h0 "com/example/stratgen/stratgen/model/Type" "INT" "Lcom/example/stratgen/stratgen/model/Type;" (.ref aI)) (S_DOUBLE : Sta Z h0 "com/example/stratgen/stratgen/model/Type" "DOUBLE" "Lcom/example/stratgen/stratgen/model/Type;" (.ref aD)) :
    MetFree l (⟨"com/example/stratgen/stratgen/model/Type", "accepts", "(Lcom/example/stratgen/stratgen/model/Type;)Z"⟩ : MethodName) (head1 (Jvm.Cond.code (⟨"com/example/stratgen/stratgen/model/Type", "accepts", "(Lcom/example/stratgen/stratgen/model/Type;)Z"⟩ : MethodName) prog_96_method_6_code 2 (some .boolean) :: ws) ({ frames := 0, cells := 0, slots := 0, locals := 0 } : Room)) (fun a U => a = #[(.ref ao0), (.ref ao1)] ∧ Z.Warmed39 U.vm ∧ U.heap = h0) (fun _ _ _ _ _ => True) (fun _ U o U' => ∃ v L, o = .returned v ∧ (Q_rm4 Z ao0 ao1 aI aD h0 n0) v U'.heap L ∧ FrameEnd U o U' L ({ frames := 0, cells := 0, slots := 0, locals := 0 } : Room).cells ({ frames := 0, cells := 0, slots := 0, locals := 0 } : Room).slots) := by
  refine MetFree.of_bodySF (plainFor_of_name pn_rm4) hisR ?_
  intro p e s m args below meth c s₁ Bd hml0 hP hK
  obtain ⟨rfl, hZ, hh⟩ := hP
  have hx := Bd.exec
  have hby := Bd.bytes
  have hlk := BodyLoose.notSynchronized Bd
  have hret := Bd.returns
  have hml : c.maxLocals = 2 := hml0
  have hown : s.vm.findClass "com/example/stratgen/stratgen/model/Type" = some m.cls := findClass_of_methodNamed Bd.named
  have hnm := (name_of_methodNamed Bd.named Bd.method).1
  have X0 : Stand p l e ({ frames := 0, cells := 0, slots := 0, locals := 0 } : Room) s m #[(.ref ao0), (.ref ao1)] below meth c s₁ [] 0 0 := Stand.of_body Bd
  have e0 : s₁.heap = h0 := by rw [← hh, Bd.state]; rfl
  have Nf := Fr.nil n0
  have Zs := Z0
  have Kp : Keep h0 h0 [] := Keep.refl _ _
  show own_End p e below s (Q_rm4 Z ao0 ao1 aI aD h0 n0) ({ frames := 0, cells := 0, slots := 0, locals := 0 } : Room).cells ({ frames := 0, cells := 0, slots := 0, locals := 0 } : Room).slots (s₁.setTop (entryFrame m #[(.ref ao0), (.ref ao1)] 2))
  refine own_go (x' := s₁.setTop (mkF m 0 #[.val (.ref ao0), .val (.ref ao1)] [])) (fun t k => castTop (ef_rm4 m ao0 ao1) k) ?_
  refine own_go (x' := s₁.setTop (mkF m 2 #[.val (.ref ao0), .val (.ref ao1)] [(.ref ao1), (.ref ao0)])) (fun _ k => XS.aloadN X0.here hx rfl (hb hby d4_0) rfl rfl (XS.aloadN X0.here hx rfl (hb hby d4_1) rfl rfl k)) ?_
  by_cases hc2 : ao0 = ao1
  · refine own_go (x' := s₁.setTop (mkF m 19 #[.val (.ref ao0), .val (.ref ao1)] [])) (fun _ k => Jvm.RoadKit.acmp (g := (mkF m 2 #[.val (.ref ao0), .val (.ref ao1)] [(.ref ao1), (.ref ao0)])) X0 hx rfl rfl rfl (pc0 := 2) (pc' := 19) (same := true) rfl (hb hby d4_2) rfl (decide_eq_true (congrArg Value.ref hc2)) (by decide) (by decide) k) ?_
    refine own_go (x' := s₁.setTop (mkF m 24 #[.val (.ref ao0), .val (.ref ao1)] [(.int (1 : Int32))])) (fun _ k => XS.iconst X0.here hx rfl (hb hby d4_19) (XS.goto X0.here hx rfl (pc0 := 20) (pc' := 24) rfl (hb hby d4_20) (by decide) (by decide) k)) ?_
    refine own_retN X0 hx hlk (t := .boolean) hret (by simp) (hb hby d4_24) (w := (1 : Int32)) rfl ?_ (by decide) (by decide)
    rw [e0]
    exact ⟨by simp only [own_acc, if_pos hc2], Nf, rfl⟩
  · refine own_go (x' := s₁.setTop (mkF m 5 #[.val (.ref ao0), .val (.ref ao1)] [])) (fun _ k => Jvm.RoadKit.acmp (g := (mkF m 2 #[.val (.ref ao0), .val (.ref ao1)] [(.ref ao1), (.ref ao0)])) X0 hx rfl rfl rfl (pc0 := 2) (pc' := 5) (same := false) rfl (hb hby d4_2) rfl (decide_eq_false fun q => hc2 (Value.ref.inj q)) (by decide) (by decide) k) ?_
    refine own_go (x' := s₁.setTop (mkF m 6 #[.val (.ref ao0), .val (.ref ao1)] [(.ref ao0)])) (fun _ k => XS.aloadN X0.here hx rfl (hb hby d4_5) rfl rfl k) ?_
    obtain ⟨T1, X1, e1, st1⟩ := getS2 X0 hx hZ hown (host := "") (Or.inl (own_w hw 27 rfl)) Via.refl e0 S_DOUBLE (g := (mkF m 6 #[.val (.ref ao0), .val (.ref ao1)] [(.ref ao0)])) rfl (hb hby d4_6)
    refine own_go (x' := T1.setTop (mkF m 9 #[.val (.ref ao0), .val (.ref ao1)] [(.ref aD), (.ref ao0)])) st1 ?_
    by_cases hc9 : ao0 = aD
    · refine own_go (x' := T1.setTop (mkF m 12 #[.val (.ref ao0), .val (.ref ao1)] [])) (fun _ k => Jvm.RoadKit.acmp (g := (mkF m 9 #[.val (.ref ao0), .val (.ref ao1)] [(.ref aD), (.ref ao0)])) X1 hx rfl rfl rfl (pc0 := 9) (pc' := 12) (same := true) rfl (hb hby d4_9) rfl (decide_eq_true (congrArg Value.ref hc9)) (by decide) (by decide) k) ?_
      refine own_go (x' := T1.setTop (mkF m 13 #[.val (.ref ao0), .val (.ref ao1)] [(.ref ao1)])) (fun _ k => XS.aloadN X1.here hx rfl (hb hby d4_12) rfl rfl k) ?_
      obtain ⟨T2, X2, e2, st2⟩ := getS2 X1 hx hZ hown (host := "") (Or.inl (own_w hw 11 rfl)) Via.refl e1 S_INT (g := (mkF m 13 #[.val (.ref ao0), .val (.ref ao1)] [(.ref ao1)])) rfl (hb hby d4_13)
      refine own_go (x' := T2.setTop (mkF m 16 #[.val (.ref ao0), .val (.ref ao1)] [(.ref aI), (.ref ao1)])) st2 ?_
      by_cases hc16 : ao1 = aI
      · refine own_go (x' := T2.setTop (mkF m 19 #[.val (.ref ao0), .val (.ref ao1)] [])) (fun _ k => Jvm.RoadKit.acmp (g := (mkF m 16 #[.val (.ref ao0), .val (.ref ao1)] [(.ref aI), (.ref ao1)])) X2 hx rfl rfl rfl (pc0 := 16) (pc' := 19) (same := true) rfl (hb hby d4_16) rfl (decide_eq_true (congrArg Value.ref hc16)) (by decide) (by decide) k) ?_
        refine own_go (x' := T2.setTop (mkF m 24 #[.val (.ref ao0), .val (.ref ao1)] [(.int (1 : Int32))])) (fun _ k => XS.iconst X2.here hx rfl (hb hby d4_19) (XS.goto X2.here hx rfl (pc0 := 20) (pc' := 24) rfl (hb hby d4_20) (by decide) (by decide) k)) ?_
        refine own_retN X2 hx hlk (t := .boolean) hret (by simp) (hb hby d4_24) (w := (1 : Int32)) rfl ?_ (by decide) (by decide)
        rw [e2]
        exact ⟨by simp only [own_acc, if_neg hc2, if_pos hc9, if_pos hc16], Nf, rfl⟩
      · refine own_go (x' := T2.setTop (mkF m 23 #[.val (.ref ao0), .val (.ref ao1)] [])) (fun _ k => Jvm.RoadKit.acmp (g := (mkF m 16 #[.val (.ref ao0), .val (.ref ao1)] [(.ref aI), (.ref ao1)])) X2 hx rfl rfl rfl (pc0 := 16) (pc' := 23) (same := false) rfl (hb hby d4_16) rfl (decide_eq_false fun q => hc16 (Value.ref.inj q)) (by decide) (by decide) k) ?_
        refine own_go (x' := T2.setTop (mkF m 24 #[.val (.ref ao0), .val (.ref ao1)] [(.int (0 : Int32))])) (fun _ k => XS.iconst X2.here hx rfl (hb hby d4_23) k) ?_
        refine own_retN X2 hx hlk (t := .boolean) hret (by simp) (hb hby d4_24) (w := (0 : Int32)) rfl ?_ (by decide) (by decide)
        rw [e2]
        exact ⟨by simp only [own_acc, if_neg hc2, if_pos hc9, if_neg hc16], Nf, rfl⟩
    · refine own_go (x' := T1.setTop (mkF m 23 #[.val (.ref ao0), .val (.ref ao1)] [])) (fun _ k => Jvm.RoadKit.acmp (g := (mkF m 9 #[.val (.ref ao0), .val (.ref ao1)] [(.ref aD), (.ref ao0)])) X1 hx rfl rfl rfl (pc0 := 9) (pc' := 23) (same := false) rfl (hb hby d4_9) rfl (decide_eq_false fun q => hc9 (Value.ref.inj q)) (by decide) (by decide) k) ?_
      refine own_go (x' := T1.setTop (mkF m 24 #[.val (.ref ao0), .val (.ref ao1)] [(.int (0 : Int32))])) (fun _ k => XS.iconst X1.here hx rfl (hb hby d4_23) k) ?_
      refine own_retN X1 hx hlk (t := .boolean) hret (by simp) (hb hby d4_24) (w := (0 : Int32)) rfl ?_ (by decide) (by decide)
      rw [e1]
      exact ⟨by simp only [own_acc, if_neg hc2, if_neg hc9], Nf, rfl⟩
theorem own_mod3 (p : Int32) : (p &&& (2147483647 : Int32)) % (3 : Int32) = 0 ∨ (p &&& (2147483647 : Int32)) % (3 : Int32) = 1 ∨ (p &&& (2147483647 : Int32)) % (3 : Int32) = 2 := by
  have h1 := c_and p 2147483647 (by decide)
  have h2 := (c_irem (p &&& 2147483647) 3 3 (by decide)).1 h1.1
  have h3 : ((p &&& 2147483647) % 3).toInt = 0 ∨ ((p &&& 2147483647) % 3).toInt = 1 ∨ ((p &&& 2147483647) % 3).toInt = 2 := by omega
  rcases h3 with h | h | h
  · exact Or.inl (Int32.toInt_inj.mp h)
  · exact Or.inr (Or.inl (Int32.toInt_inj.mp h))
  · exact Or.inr (Or.inr (Int32.toInt_inj.mp h))
theorem pd_0 : parseMethodDescriptor "(I)Lcom/example/stratgen/stratgen/model/Type;" = some ⟨[.int], some (.object "com/example/stratgen/stratgen/model/Type")⟩ := by decide +kernel
theorem pd_1 : parseMethodDescriptor "(Lcom/example/stratgen/stratgen/model/Type;Lcom/example/stratgen/stratgen/model/Type;)Lcom/example/stratgen/stratgen/model/Type;" = some ⟨[(.object "com/example/stratgen/stratgen/model/Type"), (.object "com/example/stratgen/stratgen/model/Type")], some (.object "com/example/stratgen/stratgen/model/Type")⟩ := by decide +kernel
theorem pd_2 : parseMethodDescriptor "()Z" = some ⟨[], some .boolean⟩ := by decide +kernel
theorem pd_3 : parseMethodDescriptor "(Lcom/example/stratgen/stratgen/model/Type;)Z" = some ⟨[(.object "com/example/stratgen/stratgen/model/Type")], some .boolean⟩ := by decide +kernel
def Q_rm0 (Z : State) (p0 : Int32) (p1 : Int32) (aI aD aB : Addr) (h0 : Heap) (n0 : Nat) (v : Option Value) (h : Heap) (L : List Loc) : Prop := v = some (.int 1) ∧ Fr n0 L
theorem pn_rm0 : plainName "com/example/stratgen/stratgen/model/TypeNumericResultPinLaw" = true := by first | (simp [plainName, overriddenIn]; done) | decide +kernel
theorem ef_rm0 (m : MethodId) (x0 : Int32) (x1 : Int32) : entryFrame m #[(.int x0), (.int x1)] maxLocals = mkF m 0 #[.val (.int x0), .val (.int x1), .unset, .unset, .unset, .unset, .unset] [] := by first | (simp [entryFrame, mkF, argsToLocals, Value.category, maxLocals]; done) | rfl
set_option maxRecDepth 65536 in
set_option maxHeartbeats 40000000 in
theorem rm0 (l : Launch) (Z : State) (a0 : Array Value) (hw : ∀ d ∈ tables_1, d.before a0 Z = true) (ws : List Jvm.Cond) (p0 : Int32) (p1 : Int32) (aI aD aB : Addr) (h0 : Heap) (n0 : Nat) (Z0 : n0 ≤ h0.size) (S_INT : Sta Z h0 "com/example/stratgen/stratgen/model/Type" "INT" "Lcom/example/stratgen/stratgen/model/Type;" (.ref aI)) (S_DOUBLE : Sta Z h0 "com/example/stratgen/stratgen/model/Type" "DOUBLE" "Lcom/example/stratgen/stratgen/model/Type;" (.ref aD)) (S_BOOL : Sta Z h0 "com/example/stratgen/stratgen/model/Type" "BOOL" "Lcom/example/stratgen/stratgen/model/Type;" (.ref aB)) (E_aI : Exa Z h0 aI "com/example/stratgen/stratgen/model/Type") (E_aD : Exa Z h0 aD "com/example/stratgen/stratgen/model/Type") (E_aB : Exa Z h0 aB "com/example/stratgen/stratgen/model/Type") (ne_aI_aD : aI ≠ aD) (ne_aI_aB : aI ≠ aB) (ne_aD_aB : aD ≠ aB) :
    MetFree l x (head1 (Jvm.Cond.code x code maxLocals ret :: ws) room_1) (fun a U => a = #[(.int p0), (.int p1)] ∧ Z.Warmed39 U.vm ∧ U.heap = h0) (fun _ _ _ _ _ => True) (fun _ U o U' => ∃ v L, o = .returned v ∧ (Q_rm0 Z p0 p1 aI aD aB h0 n0) v U'.heap L ∧ FrameEnd U o U' L room_1.cells room_1.slots) := by
  refine MetFree.of_bodySF (plainFor_of_name pn_rm0) hisR ?_
  intro p e s m args below meth c s₁ Bd hml0 hP hK
  obtain ⟨rfl, hZ, hh⟩ := hP
  have hx := Bd.exec
  have hby := Bd.bytes
  have hlk := BodyLoose.notSynchronized Bd
  have hret := Bd.returns
  have hml : c.maxLocals = 7 := hml0
  have hown : s.vm.findClass "com/example/stratgen/stratgen/model/TypeNumericResultPinLaw" = some m.cls := findClass_of_methodNamed Bd.named
  have hnm := (name_of_methodNamed Bd.named Bd.method).1
  have X0 : Stand p l e room_1 s m #[(.int p0), (.int p1)] below meth c s₁ [] 0 0 := Stand.of_body Bd
  have e0 : s₁.heap = h0 := by rw [← hh, Bd.state]; rfl
  have Nf := Fr.nil n0
  have Zs := Z0
  have Kp : Keep h0 h0 [] := Keep.refl _ _
  show own_End p e below s (Q_rm0 Z p0 p1 aI aD aB h0 n0) room_1.cells room_1.slots (s₁.setTop (entryFrame m #[(.int p0), (.int p1)] maxLocals))
  refine own_go (x' := s₁.setTop (mkF m 0 #[.val (.int p0), .val (.int p1), .unset, .unset, .unset, .unset, .unset] [])) (fun t k => castTop (ef_rm0 m p0 p1) k) ?_
  rcases own_mod3 p0 with hmp0 | hmp0 | hmp0
  · rcases own_mod3 p1 with hmp1 | hmp1 | hmp1
    · refine own_go (x' := s₁.setTop (mkF m 1 #[.val (.int p0), .val (.int p1), .unset, .unset, .unset, .unset, .unset] [(.int p0)])) (fun _ k => XS.iloadN X0.here hx rfl (hb hby at_0) rfl k) ?_
      obtain ⟨_, _, ⟨T1, L1, k1, n1⟩, -, X1, ⟨Lc1, hQ1, l1, y1, z1⟩, st1⟩ := Jvm.LawKit.callS X0 hx (y := (⟨"com/example/stratgen/stratgen/model/TypeNumericResultPinLaw", "pick", "(I)Lcom/example/stratgen/stratgen/model/Type;"⟩ : MethodName)) hown (mvT hZ (own_w hw 0 rfl)) (mvT hZ (own_w hw 1 rfl)) (mvT hZ (own_w hw 2 rfl)) (mvT hZ (own_w hw 3 rfl)) (by decide) (backOf (W := 0) (rm1 l Z a0 hw [] p0 aI aD aB h0 n0 Zs S_INT S_DOUBLE S_BOOL) hZ (own_w hw 3 rfl) (own_w hw 2 rfl) (by decide) (by decide)) (g := (mkF m 1 #[.val (.int p0), .val (.int p1), .unset, .unset, .unset, .unset, .unset] [(.int p0)])) rfl (by rw [hml]; rfl) (argsL := [(.int p0)]) (rest := []) (lenOf pd_0 rfl) rfl (by show 2 * 0 + _ ≤ _; exact Nat.le_of_eq rfl) (hb hby at_1) (fun _ _ => ⟨rfl, e0, (by decide : 0 + 0 ≤ _), (by decide : 0 + 0 ≤ _)⟩)
      dsimp only [Pt.U, Pt.locs, Pt.cells, Pt.slots] at X1 l1 y1 z1 st1 hQ1
      subst l1 y1 z1
      obtain ⟨hv1, Nq1, eq1⟩ := hQ1
      have hk1 : own_pick (0 : Int32) aI aD aB = aI := by first | rfl | decide
      rw [hmp0, hk1] at hv1
      subst hv1
      replace Nf := Fr.app Nf Nq1
      refine own_go (x' := T1.setTop (mkF m 4 #[.val (.int p0), .val (.int p1), .unset, .unset, .unset, .unset, .unset] [(.ref aI)])) st1 ?_
      refine own_go (x' := T1.setTop (mkF m 6 #[.val (.int p0), .val (.int p1), .val (.ref aI), .unset, .unset, .unset, .unset] [(.int p1)])) (fun _ k => XS.astoreN X1.here hx rfl (hb hby at_4) rfl rfl (l' := #[.val (.int p0), .val (.int p1), .val (.ref aI), .unset, .unset, .unset, .unset]) rfl (XS.iloadN X1.here hx rfl (hb hby at_5) rfl k)) ?_
      obtain ⟨_, _, ⟨T2, L2, k2, n2⟩, -, X2, ⟨Lc2, hQ2, l2, y2, z2⟩, st2⟩ := Jvm.LawKit.callS X1 hx (y := (⟨"com/example/stratgen/stratgen/model/TypeNumericResultPinLaw", "pick", "(I)Lcom/example/stratgen/stratgen/model/Type;"⟩ : MethodName)) hown (mvT hZ (own_w hw 0 rfl)) (mvT hZ (own_w hw 1 rfl)) (mvT hZ (own_w hw 2 rfl)) (mvT hZ (own_w hw 3 rfl)) (by decide) (backOf (W := 0) (rm1 l Z a0 hw [] p1 aI aD aB h0 n0 Zs S_INT S_DOUBLE S_BOOL) hZ (own_w hw 3 rfl) (own_w hw 2 rfl) (by decide) (by decide)) (g := (mkF m 6 #[.val (.int p0), .val (.int p1), .val (.ref aI), .unset, .unset, .unset, .unset] [(.int p1)])) rfl (by rw [hml]; rfl) (argsL := [(.int p1)]) (rest := []) (lenOf pd_0 rfl) rfl (by show 2 * 0 + _ ≤ _; exact Nat.le_of_eq rfl) (hb hby at_6) (fun _ _ => ⟨rfl, eq1, (by decide : 0 + 0 ≤ _), (by decide : 0 + 0 ≤ _)⟩)
      dsimp only [Pt.U, Pt.locs, Pt.cells, Pt.slots] at X2 l2 y2 z2 st2 hQ2
      subst l2 y2 z2
      obtain ⟨hv2, Nq2, eq2⟩ := hQ2
      have hk2 : own_pick (0 : Int32) aI aD aB = aI := by first | rfl | decide
      rw [hmp1, hk2] at hv2
      subst hv2
      replace Nf := Fr.app Nf Nq2
      refine own_go (x' := T2.setTop (mkF m 9 #[.val (.int p0), .val (.int p1), .val (.ref aI), .unset, .unset, .unset, .unset] [(.ref aI)])) st2 ?_
      refine own_go (x' := T2.setTop (mkF m 12 #[.val (.int p0), .val (.int p1), .val (.ref aI), .val (.ref aI), .unset, .unset, .unset] [(.ref aI), (.ref aI)])) (fun _ k => XS.astoreN X2.here hx rfl (hb hby at_9) rfl rfl (l' := #[.val (.int p0), .val (.int p1), .val (.ref aI), .val (.ref aI), .unset, .unset, .unset]) rfl (XS.aloadN X2.here hx rfl (hb hby at_10) rfl rfl (XS.aloadN X2.here hx rfl (hb hby at_11) rfl rfl k))) ?_
      obtain ⟨_, _, ⟨T3, L3, k3, n3⟩, -, X3, ⟨Lc3, hQ3, l3, y3, z3⟩, st3⟩ := Jvm.LawKit.callS X2 hx (y := (⟨"com/example/stratgen/stratgen/model/Type", "numericResult", "(Lcom/example/stratgen/stratgen/model/Type;Lcom/example/stratgen/stratgen/model/Type;)Lcom/example/stratgen/stratgen/model/Type;"⟩ : MethodName)) hown (mvT hZ (own_w hw 8 rfl)) (mvT hZ (own_w hw 9 rfl)) (mvT hZ (own_w hw 6 rfl)) (mvT hZ (own_w hw 10 rfl)) (by decide) (backOf (W := 0) (rm2 l Z a0 hw [] aI aI aI aD h0 n0 Zs S_INT S_DOUBLE) hZ (own_w hw 10 rfl) (own_w hw 6 rfl) (by decide) (by decide)) (g := (mkF m 12 #[.val (.int p0), .val (.int p1), .val (.ref aI), .val (.ref aI), .unset, .unset, .unset] [(.ref aI), (.ref aI)])) rfl (by rw [hml]; rfl) (argsL := [(.ref aI), (.ref aI)]) (rest := []) (lenOf pd_1 rfl) rfl (by show 2 * 0 + _ ≤ _; exact Nat.le_of_eq rfl) (hb hby at_12) (fun _ _ => ⟨rfl, eq2, (by decide : 0 + 0 ≤ _), (by decide : 0 + 0 ≤ _)⟩)
      dsimp only [Pt.U, Pt.locs, Pt.cells, Pt.slots] at X3 l3 y3 z3 st3 hQ3
      subst l3 y3 z3
      obtain ⟨hv3, Nq3, eq3⟩ := hQ3
      have hk3 : own_num aI aI aI aD = aI := by simp [own_num, ne_aI_aD, ne_aI_aB, ne_aD_aB, ne_aI_aD.symm, ne_aI_aB.symm, ne_aD_aB.symm]
      rw [hk3] at hv3
      subst hv3
      replace Nf := Fr.app Nf Nq3
      refine own_go (x' := T3.setTop (mkF m 15 #[.val (.int p0), .val (.int p1), .val (.ref aI), .val (.ref aI), .unset, .unset, .unset] [(.ref aI)])) st3 ?_
      refine own_go (x' := T3.setTop (mkF m 19 #[.val (.int p0), .val (.int p1), .val (.ref aI), .val (.ref aI), .val (.ref aI), .unset, .unset] [(.ref aI), (.ref aI)])) (fun _ k => XS.astore X3.here hx rfl (hb hby at_15) rfl rfl (l' := #[.val (.int p0), .val (.int p1), .val (.ref aI), .val (.ref aI), .val (.ref aI), .unset, .unset]) rfl (XS.aloadN X3.here hx rfl (hb hby at_17) rfl rfl (XS.aloadN X3.here hx rfl (hb hby at_18) rfl rfl k))) ?_
      obtain ⟨_, _, ⟨T4, L4, k4, n4⟩, -, X4, ⟨Lc4, hQ4, l4, y4, z4⟩, st4⟩ := Jvm.LawKit.callS X3 hx (y := (⟨"com/example/stratgen/stratgen/model/Type", "numericResult", "(Lcom/example/stratgen/stratgen/model/Type;Lcom/example/stratgen/stratgen/model/Type;)Lcom/example/stratgen/stratgen/model/Type;"⟩ : MethodName)) hown (mvT hZ (own_w hw 8 rfl)) (mvT hZ (own_w hw 9 rfl)) (mvT hZ (own_w hw 6 rfl)) (mvT hZ (own_w hw 10 rfl)) (by decide) (backOf (W := 0) (rm2 l Z a0 hw [] aI aI aI aD h0 n0 Zs S_INT S_DOUBLE) hZ (own_w hw 10 rfl) (own_w hw 6 rfl) (by decide) (by decide)) (g := (mkF m 19 #[.val (.int p0), .val (.int p1), .val (.ref aI), .val (.ref aI), .val (.ref aI), .unset, .unset] [(.ref aI), (.ref aI)])) rfl (by rw [hml]; rfl) (argsL := [(.ref aI), (.ref aI)]) (rest := []) (lenOf pd_1 rfl) rfl (by show 2 * 0 + _ ≤ _; exact Nat.le_of_eq rfl) (hb hby at_19) (fun _ _ => ⟨rfl, eq3, (by decide : 0 + 0 ≤ _), (by decide : 0 + 0 ≤ _)⟩)
      dsimp only [Pt.U, Pt.locs, Pt.cells, Pt.slots] at X4 l4 y4 z4 st4 hQ4
      subst l4 y4 z4
      obtain ⟨hv4, Nq4, eq4⟩ := hQ4
      have hk4 : own_num aI aI aI aD = aI := by simp [own_num, ne_aI_aD, ne_aI_aB, ne_aD_aB, ne_aI_aD.symm, ne_aI_aB.symm, ne_aD_aB.symm]
      rw [hk4] at hv4
      subst hv4
      replace Nf := Fr.app Nf Nq4
      refine own_go (x' := T4.setTop (mkF m 22 #[.val (.int p0), .val (.int p1), .val (.ref aI), .val (.ref aI), .val (.ref aI), .unset, .unset] [(.ref aI)])) st4 ?_
      refine own_go (x' := T4.setTop (mkF m 33 #[.val (.int p0), .val (.int p1), .val (.ref aI), .val (.ref aI), .val (.ref aI), .val (.ref aI), .unset] [(.ref aI), (.ref aI)])) (fun _ k => XS.astore X4.here hx rfl (hb hby at_22) rfl rfl (l' := #[.val (.int p0), .val (.int p1), .val (.ref aI), .val (.ref aI), .val (.ref aI), .val (.ref aI), .unset]) rfl (XS.aload X4.here hx rfl (hb hby at_24) rfl rfl (XS.ifnullNo X4.here hx rfl (hb hby at_26) rfl (XS.aload X4.here hx rfl (hb hby at_29) rfl rfl (XS.aload X4.here hx rfl (hb hby at_31) rfl rfl k))))) ?_
      refine own_go (x' := T4.setTop (mkF m 38 #[.val (.int p0), .val (.int p1), .val (.ref aI), .val (.ref aI), .val (.ref aI), .val (.ref aI), .unset] [])) (fun _ k => Jvm.RoadKit.acmp (g := (mkF m 33 #[.val (.int p0), .val (.int p1), .val (.ref aI), .val (.ref aI), .val (.ref aI), .val (.ref aI), .unset] [(.ref aI), (.ref aI)])) X4 hx rfl rfl rfl (pc0 := 33) (pc' := 38) (same := true) rfl (hb hby at_33) rfl (decide_eq_true rfl) (by decide) (by decide) k) ?_
      refine own_go (x' := T4.setTop (mkF m 40 #[.val (.int p0), .val (.int p1), .val (.ref aI), .val (.ref aI), .val (.ref aI), .val (.ref aI), .unset] [(.ref aI)])) (fun _ k => XS.aload X4.here hx rfl (hb hby at_38) rfl rfl k) ?_
      obtain ⟨cq5, kq5, q5a, q5b, q5c⟩ := isOf hZ eq4 E_aI
      obtain ⟨_, _, ⟨T5, L5, k5, n5⟩, -, X5, ⟨Lc5, hQ5, l5, y5, z5⟩, st5⟩ := X4.virtualBack hx (y := (⟨"com/example/stratgen/stratgen/model/Type", "isNumeric", "()Z"⟩ : MethodName)) (z := (⟨"com/example/stratgen/stratgen/model/Type", "isNumeric", "()Z"⟩ : MethodName)) hown (mvT hZ (own_w hw 12 rfl)) (mvT hZ (own_w hw 13 rfl)) (notFace_of_selects (args := #[]) (mvT hZ (own_w hw 15 rfl))) (mvT hZ (own_w hw 15 rfl)) (mvT hZ (own_w hw 14 rfl)) (by decide) (backOf (W := 0) (rm3 l Z a0 hw [] aI aB h0 n0 Zs S_BOOL) hZ (own_w hw 16 rfl) (own_w hw 6 rfl) (by decide) (by decide)) q5a q5c (g := (mkF m 40 #[.val (.int p0), .val (.int p1), .val (.ref aI), .val (.ref aI), .val (.ref aI), .val (.ref aI), .unset] [(.ref aI)])) rfl (by rw [hml]; rfl) (Steps.refl _) (argsL := []) (rest := []) (lenOf pd_2 rfl) rfl (by show 2 * 0 + _ ≤ _; exact Nat.le_of_eq rfl) (hb hby at_40) (fun _ _ => ⟨rfl, eq4, (by decide : 0 + 0 ≤ _), (by decide : 0 + 0 ≤ _)⟩)
      dsimp only [Pt.U, Pt.locs, Pt.cells, Pt.slots] at X5 l5 y5 z5 st5 hQ5
      subst l5 y5 z5
      obtain ⟨hv5, Nq5, eq5⟩ := hQ5
      have hk5 : own_isn aI aB = 1 := by simp [own_isn, ne_aI_aD, ne_aI_aB, ne_aD_aB, ne_aI_aD.symm, ne_aI_aB.symm, ne_aD_aB.symm]
      rw [hk5] at hv5
      subst hv5
      replace Nf := Fr.app Nf Nq5
      refine own_go (x' := T5.setTop (mkF m 43 #[.val (.int p0), .val (.int p1), .val (.ref aI), .val (.ref aI), .val (.ref aI), .val (.ref aI), .unset] [(.int (1 : Int32))])) (fun _ k => st5.trans k) ?_
      refine own_go (x' := T5.setTop (mkF m 49 #[.val (.int p0), .val (.int p1), .val (.ref aI), .val (.ref aI), .val (.ref aI), .val (.ref aI), .unset] [(.ref aI)])) (fun _ k => XS.ifYes X5.here hx rfl (pc0 := 43) (pc' := 48) rfl (hb hby at_43) rfl ((if0 _ _).trans (feq (by decide +kernel : ¬ ((1 : Int32) = (0 : Int32)))).2) (by decide) (by decide) (XS.aloadN X5.here hx rfl (hb hby at_48) rfl rfl k)) ?_
      obtain ⟨T6, X6, e6, st6⟩ := getS2 X5 hx hZ hown (host := "") (Or.inl (own_w hw 5 rfl)) Via.refl eq5 S_INT (g := (mkF m 49 #[.val (.int p0), .val (.int p1), .val (.ref aI), .val (.ref aI), .val (.ref aI), .val (.ref aI), .unset] [(.ref aI)])) rfl (hb hby at_49)
      refine own_go (x' := T6.setTop (mkF m 52 #[.val (.int p0), .val (.int p1), .val (.ref aI), .val (.ref aI), .val (.ref aI), .val (.ref aI), .unset] [(.ref aI), (.ref aI)])) st6 ?_
      refine own_go (x' := T6.setTop (mkF m 55 #[.val (.int p0), .val (.int p1), .val (.ref aI), .val (.ref aI), .val (.ref aI), .val (.ref aI), .unset] [])) (fun _ k => Jvm.RoadKit.acmp (g := (mkF m 52 #[.val (.int p0), .val (.int p1), .val (.ref aI), .val (.ref aI), .val (.ref aI), .val (.ref aI), .unset] [(.ref aI), (.ref aI)])) X6 hx rfl rfl rfl (pc0 := 52) (pc' := 55) (same := true) rfl (hb hby at_52) rfl (decide_eq_true rfl) (by decide) (by decide) k) ?_
      refine own_go (x' := T6.setTop (mkF m 56 #[.val (.int p0), .val (.int p1), .val (.ref aI), .val (.ref aI), .val (.ref aI), .val (.ref aI), .unset] [(.ref aI)])) (fun _ k => XS.aloadN X6.here hx rfl (hb hby at_55) rfl rfl k) ?_
      obtain ⟨T7, X7, e7, st7⟩ := getS2 X6 hx hZ hown (host := "") (Or.inl (own_w hw 5 rfl)) Via.refl e6 S_INT (g := (mkF m 56 #[.val (.int p0), .val (.int p1), .val (.ref aI), .val (.ref aI), .val (.ref aI), .val (.ref aI), .unset] [(.ref aI)])) rfl (hb hby at_56)
      refine own_go (x' := T7.setTop (mkF m 59 #[.val (.int p0), .val (.int p1), .val (.ref aI), .val (.ref aI), .val (.ref aI), .val (.ref aI), .unset] [(.ref aI), (.ref aI)])) st7 ?_
      refine own_go (x' := T7.setTop (mkF m 62 #[.val (.int p0), .val (.int p1), .val (.ref aI), .val (.ref aI), .val (.ref aI), .val (.ref aI), .unset] [])) (fun _ k => Jvm.RoadKit.acmp (g := (mkF m 59 #[.val (.int p0), .val (.int p1), .val (.ref aI), .val (.ref aI), .val (.ref aI), .val (.ref aI), .unset] [(.ref aI), (.ref aI)])) X7 hx rfl rfl rfl (pc0 := 59) (pc' := 62) (same := true) rfl (hb hby at_59) rfl (decide_eq_true rfl) (by decide) (by decide) k) ?_
      refine own_go (x' := T7.setTop (mkF m 71 #[.val (.int p0), .val (.int p1), .val (.ref aI), .val (.ref aI), .val (.ref aI), .val (.ref aI), .val (.int (1 : Int32))] [(.ref aI)])) (fun _ k => XS.iconst X7.here hx rfl (hb hby at_62) (XS.goto X7.here hx rfl (pc0 := 63) (pc' := 67) rfl (hb hby at_63) (by decide) (by decide) (XS.istore X7.here hx rfl (hb hby at_67) rfl (l' := #[.val (.int p0), .val (.int p1), .val (.ref aI), .val (.ref aI), .val (.ref aI), .val (.ref aI), .val (.int (1 : Int32))]) rfl (XS.aload X7.here hx rfl (hb hby at_69) rfl rfl k)))) ?_
      obtain ⟨T8, X8, e8, st8⟩ := getS2 X7 hx hZ hown (host := "") (Or.inl (own_w hw 5 rfl)) Via.refl e7 S_INT (g := (mkF m 71 #[.val (.int p0), .val (.int p1), .val (.ref aI), .val (.ref aI), .val (.ref aI), .val (.ref aI), .val (.int (1 : Int32))] [(.ref aI)])) rfl (hb hby at_71)
      refine own_go (x' := T8.setTop (mkF m 74 #[.val (.int p0), .val (.int p1), .val (.ref aI), .val (.ref aI), .val (.ref aI), .val (.ref aI), .val (.int (1 : Int32))] [(.ref aI), (.ref aI)])) st8 ?_
      refine own_go (x' := T8.setTop (mkF m 77 #[.val (.int p0), .val (.int p1), .val (.ref aI), .val (.ref aI), .val (.ref aI), .val (.ref aI), .val (.int (1 : Int32))] [])) (fun _ k => Jvm.RoadKit.acmp (g := (mkF m 74 #[.val (.int p0), .val (.int p1), .val (.ref aI), .val (.ref aI), .val (.ref aI), .val (.ref aI), .val (.int (1 : Int32))] [(.ref aI), (.ref aI)])) X8 hx rfl rfl rfl (pc0 := 74) (pc' := 77) (same := true) rfl (hb hby at_74) rfl (decide_eq_true rfl) (by decide) (by decide) k) ?_
      refine own_go (x' := T8.setTop (mkF m 90 #[.val (.int p0), .val (.int p1), .val (.ref aI), .val (.ref aI), .val (.ref aI), .val (.ref aI), .val (.int (1 : Int32))] [(.ref aI)])) (fun _ k => XS.iconst X8.here hx rfl (hb hby at_77) (XS.goto X8.here hx rfl (pc0 := 78) (pc' := 82) rfl (hb hby at_78) (by decide) (by decide) (XS.iload X8.here hx rfl (hb hby at_82) rfl (XS.icmpYes X8.here hx rfl (pc0 := 84) (pc' := 89) rfl (hb hby at_84) rfl (teq rfl).1 (by decide) (by decide) (XS.aloadN X8.here hx rfl (hb hby at_89) rfl rfl k))))) ?_
      obtain ⟨T9, X9, e9, st9⟩ := getS2 X8 hx hZ hown (host := "") (Or.inl (own_w hw 19 rfl)) Via.refl e8 S_BOOL (g := (mkF m 90 #[.val (.int p0), .val (.int p1), .val (.ref aI), .val (.ref aI), .val (.ref aI), .val (.ref aI), .val (.int (1 : Int32))] [(.ref aI)])) rfl (hb hby at_90)
      refine own_go (x' := T9.setTop (mkF m 93 #[.val (.int p0), .val (.int p1), .val (.ref aI), .val (.ref aI), .val (.ref aI), .val (.ref aI), .val (.int (1 : Int32))] [(.ref aB), (.ref aI)])) st9 ?_
      refine own_go (x' := T9.setTop (mkF m 96 #[.val (.int p0), .val (.int p1), .val (.ref aI), .val (.ref aI), .val (.ref aI), .val (.ref aI), .val (.int (1 : Int32))] [])) (fun _ k => Jvm.RoadKit.acmp (g := (mkF m 93 #[.val (.int p0), .val (.int p1), .val (.ref aI), .val (.ref aI), .val (.ref aI), .val (.ref aI), .val (.int (1 : Int32))] [(.ref aB), (.ref aI)])) X9 hx rfl rfl rfl (pc0 := 93) (pc' := 96) (same := false) rfl (hb hby at_93) rfl (decide_eq_false fun q => ne_aI_aB (Value.ref.inj q)) (by decide) (by decide) k) ?_
      refine own_go (x' := T9.setTop (mkF m 97 #[.val (.int p0), .val (.int p1), .val (.ref aI), .val (.ref aI), .val (.ref aI), .val (.ref aI), .val (.int (1 : Int32))] [(.ref aI)])) (fun _ k => XS.aloadN X9.here hx rfl (hb hby at_96) rfl rfl k) ?_
      obtain ⟨T10, X10, e10, st10⟩ := getS2 X9 hx hZ hown (host := "") (Or.inl (own_w hw 19 rfl)) Via.refl e9 S_BOOL (g := (mkF m 97 #[.val (.int p0), .val (.int p1), .val (.ref aI), .val (.ref aI), .val (.ref aI), .val (.ref aI), .val (.int (1 : Int32))] [(.ref aI)])) rfl (hb hby at_97)
      refine own_go (x' := T10.setTop (mkF m 100 #[.val (.int p0), .val (.int p1), .val (.ref aI), .val (.ref aI), .val (.ref aI), .val (.ref aI), .val (.int (1 : Int32))] [(.ref aB), (.ref aI)])) st10 ?_
      refine own_go (x' := T10.setTop (mkF m 103 #[.val (.int p0), .val (.int p1), .val (.ref aI), .val (.ref aI), .val (.ref aI), .val (.ref aI), .val (.int (1 : Int32))] [])) (fun _ k => Jvm.RoadKit.acmp (g := (mkF m 100 #[.val (.int p0), .val (.int p1), .val (.ref aI), .val (.ref aI), .val (.ref aI), .val (.ref aI), .val (.int (1 : Int32))] [(.ref aB), (.ref aI)])) X10 hx rfl rfl rfl (pc0 := 100) (pc' := 103) (same := false) rfl (hb hby at_100) rfl (decide_eq_false fun q => ne_aI_aB (Value.ref.inj q)) (by decide) (by decide) k) ?_
      refine own_go (x' := T10.setTop (mkF m 106 #[.val (.int p0), .val (.int p1), .val (.ref aI), .val (.ref aI), .val (.ref aI), .val (.ref aI), .val (.int (1 : Int32))] [(.ref aI), (.ref aI)])) (fun _ k => XS.aload X10.here hx rfl (hb hby at_103) rfl rfl (XS.aloadN X10.here hx rfl (hb hby at_105) rfl rfl k)) ?_
      obtain ⟨cq11, kq11, q11a, q11b, q11c⟩ := isOf hZ e10 E_aI
      obtain ⟨_, _, ⟨T11, L11, k11, n11⟩, -, X11, ⟨Lc11, hQ11, l11, y11, z11⟩, st11⟩ := X10.virtualBack hx (y := (⟨"com/example/stratgen/stratgen/model/Type", "accepts", "(Lcom/example/stratgen/stratgen/model/Type;)Z"⟩ : MethodName)) (z := (⟨"com/example/stratgen/stratgen/model/Type", "accepts", "(Lcom/example/stratgen/stratgen/model/Type;)Z"⟩ : MethodName)) hown (mvT hZ (own_w hw 20 rfl)) (mvT hZ (own_w hw 21 rfl)) (notFace_of_selects (args := #[]) (mvT hZ (own_w hw 23 rfl))) (mvT hZ (own_w hw 23 rfl)) (mvT hZ (own_w hw 22 rfl)) (by decide) (backOf (W := 0) (rm4 l Z a0 hw [] aI aI aI aD h0 n0 Zs S_INT S_DOUBLE) hZ (own_w hw 24 rfl) (own_w hw 6 rfl) (by decide) (by decide)) q11a q11c (g := (mkF m 106 #[.val (.int p0), .val (.int p1), .val (.ref aI), .val (.ref aI), .val (.ref aI), .val (.ref aI), .val (.int (1 : Int32))] [(.ref aI), (.ref aI)])) rfl (by rw [hml]; rfl) (Steps.refl _) (argsL := [(.ref aI)]) (rest := []) (lenOf pd_3 rfl) rfl (by show 2 * 0 + _ ≤ _; exact Nat.le_of_eq rfl) (hb hby at_106) (fun _ _ => ⟨rfl, e10, (by decide : 0 + 0 ≤ _), (by decide : 0 + 0 ≤ _)⟩)
      dsimp only [Pt.U, Pt.locs, Pt.cells, Pt.slots] at X11 l11 y11 z11 st11 hQ11
      subst l11 y11 z11
      obtain ⟨hv11, Nq11, eq11⟩ := hQ11
      have hk11 : own_acc aI aI aI aD = 1 := by simp [own_acc, ne_aI_aD, ne_aI_aB, ne_aD_aB, ne_aI_aD.symm, ne_aI_aB.symm, ne_aD_aB.symm]
      rw [hk11] at hv11
      subst hv11
      replace Nf := Fr.app Nf Nq11
      refine own_go (x' := T11.setTop (mkF m 109 #[.val (.int p0), .val (.int p1), .val (.ref aI), .val (.ref aI), .val (.ref aI), .val (.ref aI), .val (.int (1 : Int32))] [(.int (1 : Int32))])) (fun _ k => st11.trans k) ?_
      refine own_go (x' := T11.setTop (mkF m 115 #[.val (.int p0), .val (.int p1), .val (.ref aI), .val (.ref aI), .val (.ref aI), .val (.ref aI), .val (.int (1 : Int32))] [(.ref aI), (.ref aI)])) (fun _ k => XS.ifNo X11.here hx rfl (hb hby at_109) rfl ((if0 _ _).trans (feq (by decide +kernel : ¬ ((1 : Int32) = (0 : Int32)))).1) (XS.aload X11.here hx rfl (hb hby at_112) rfl rfl (XS.aloadN X11.here hx rfl (hb hby at_114) rfl rfl k))) ?_
      obtain ⟨cq12, kq12, q12a, q12b, q12c⟩ := isOf hZ eq11 E_aI
      obtain ⟨_, _, ⟨T12, L12, k12, n12⟩, -, X12, ⟨Lc12, hQ12, l12, y12, z12⟩, st12⟩ := X11.virtualBack hx (y := (⟨"com/example/stratgen/stratgen/model/Type", "accepts", "(Lcom/example/stratgen/stratgen/model/Type;)Z"⟩ : MethodName)) (z := (⟨"com/example/stratgen/stratgen/model/Type", "accepts", "(Lcom/example/stratgen/stratgen/model/Type;)Z"⟩ : MethodName)) hown (mvT hZ (own_w hw 20 rfl)) (mvT hZ (own_w hw 21 rfl)) (notFace_of_selects (args := #[]) (mvT hZ (own_w hw 23 rfl))) (mvT hZ (own_w hw 23 rfl)) (mvT hZ (own_w hw 22 rfl)) (by decide) (backOf (W := 0) (rm4 l Z a0 hw [] aI aI aI aD h0 n0 Zs S_INT S_DOUBLE) hZ (own_w hw 24 rfl) (own_w hw 6 rfl) (by decide) (by decide)) q12a q12c (g := (mkF m 115 #[.val (.int p0), .val (.int p1), .val (.ref aI), .val (.ref aI), .val (.ref aI), .val (.ref aI), .val (.int (1 : Int32))] [(.ref aI), (.ref aI)])) rfl (by rw [hml]; rfl) (Steps.refl _) (argsL := [(.ref aI)]) (rest := []) (lenOf pd_3 rfl) rfl (by show 2 * 0 + _ ≤ _; exact Nat.le_of_eq rfl) (hb hby at_115) (fun _ _ => ⟨rfl, eq11, (by decide : 0 + 0 ≤ _), (by decide : 0 + 0 ≤ _)⟩)
      dsimp only [Pt.U, Pt.locs, Pt.cells, Pt.slots] at X12 l12 y12 z12 st12 hQ12
      subst l12 y12 z12
      obtain ⟨hv12, Nq12, eq12⟩ := hQ12
      have hk12 : own_acc aI aI aI aD = 1 := by simp [own_acc, ne_aI_aD, ne_aI_aB, ne_aD_aB, ne_aI_aD.symm, ne_aI_aB.symm, ne_aD_aB.symm]
      rw [hk12] at hv12
      subst hv12
      replace Nf := Fr.app Nf Nq12
      refine own_go (x' := T12.setTop (mkF m 118 #[.val (.int p0), .val (.int p1), .val (.ref aI), .val (.ref aI), .val (.ref aI), .val (.ref aI), .val (.int (1 : Int32))] [(.int (1 : Int32))])) (fun _ k => st12.trans k) ?_
      refine own_go (x' := T12.setTop (mkF m 124 #[.val (.int p0), .val (.int p1), .val (.ref aI), .val (.ref aI), .val (.ref aI), .val (.ref aI), .val (.int (1 : Int32))] [(.int (1 : Int32))])) (fun _ k => XS.ifYes X12.here hx rfl (pc0 := 118) (pc' := 123) rfl (hb hby at_118) rfl ((if0 _ _).trans (feq (by decide +kernel : ¬ ((1 : Int32) = (0 : Int32)))).2) (by decide) (by decide) (XS.iconst X12.here hx rfl (hb hby at_123) k)) ?_
      refine own_retN X12 hx hlk (t := .boolean) hret (by simp) (hb hby at_124) (w := (1 : Int32)) rfl ?_ (by decide) (by decide)
      rw [eq12]
      exact ⟨rfl, Nf⟩
    · refine own_go (x' := s₁.setTop (mkF m 1 #[.val (.int p0), .val (.int p1), .unset, .unset, .unset, .unset, .unset] [(.int p0)])) (fun _ k => XS.iloadN X0.here hx rfl (hb hby at_0) rfl k) ?_
      obtain ⟨_, _, ⟨T13, L13, k13, n13⟩, -, X13, ⟨Lc13, hQ13, l13, y13, z13⟩, st13⟩ := Jvm.LawKit.callS X0 hx (y := (⟨"com/example/stratgen/stratgen/model/TypeNumericResultPinLaw", "pick", "(I)Lcom/example/stratgen/stratgen/model/Type;"⟩ : MethodName)) hown (mvT hZ (own_w hw 0 rfl)) (mvT hZ (own_w hw 1 rfl)) (mvT hZ (own_w hw 2 rfl)) (mvT hZ (own_w hw 3 rfl)) (by decide) (backOf (W := 0) (rm1 l Z a0 hw [] p0 aI aD aB h0 n0 Zs S_INT S_DOUBLE S_BOOL) hZ (own_w hw 3 rfl) (own_w hw 2 rfl) (by decide) (by decide)) (g := (mkF m 1 #[.val (.int p0), .val (.int p1), .unset, .unset, .unset, .unset, .unset] [(.int p0)])) rfl (by rw [hml]; rfl) (argsL := [(.int p0)]) (rest := []) (lenOf pd_0 rfl) rfl (by show 2 * 0 + _ ≤ _; exact Nat.le_of_eq rfl) (hb hby at_1) (fun _ _ => ⟨rfl, e0, (by decide : 0 + 0 ≤ _), (by decide : 0 + 0 ≤ _)⟩)
      dsimp only [Pt.U, Pt.locs, Pt.cells, Pt.slots] at X13 l13 y13 z13 st13 hQ13
      subst l13 y13 z13
      obtain ⟨hv13, Nq13, eq13⟩ := hQ13
      have hk13 : own_pick (0 : Int32) aI aD aB = aI := by first | rfl | decide
      rw [hmp0, hk13] at hv13
      subst hv13
      replace Nf := Fr.app Nf Nq13
      refine own_go (x' := T13.setTop (mkF m 4 #[.val (.int p0), .val (.int p1), .unset, .unset, .unset, .unset, .unset] [(.ref aI)])) st13 ?_
      refine own_go (x' := T13.setTop (mkF m 6 #[.val (.int p0), .val (.int p1), .val (.ref aI), .unset, .unset, .unset, .unset] [(.int p1)])) (fun _ k => XS.astoreN X13.here hx rfl (hb hby at_4) rfl rfl (l' := #[.val (.int p0), .val (.int p1), .val (.ref aI), .unset, .unset, .unset, .unset]) rfl (XS.iloadN X13.here hx rfl (hb hby at_5) rfl k)) ?_
      obtain ⟨_, _, ⟨T14, L14, k14, n14⟩, -, X14, ⟨Lc14, hQ14, l14, y14, z14⟩, st14⟩ := Jvm.LawKit.callS X13 hx (y := (⟨"com/example/stratgen/stratgen/model/TypeNumericResultPinLaw", "pick", "(I)Lcom/example/stratgen/stratgen/model/Type;"⟩ : MethodName)) hown (mvT hZ (own_w hw 0 rfl)) (mvT hZ (own_w hw 1 rfl)) (mvT hZ (own_w hw 2 rfl)) (mvT hZ (own_w hw 3 rfl)) (by decide) (backOf (W := 0) (rm1 l Z a0 hw [] p1 aI aD aB h0 n0 Zs S_INT S_DOUBLE S_BOOL) hZ (own_w hw 3 rfl) (own_w hw 2 rfl) (by decide) (by decide)) (g := (mkF m 6 #[.val (.int p0), .val (.int p1), .val (.ref aI), .unset, .unset, .unset, .unset] [(.int p1)])) rfl (by rw [hml]; rfl) (argsL := [(.int p1)]) (rest := []) (lenOf pd_0 rfl) rfl (by show 2 * 0 + _ ≤ _; exact Nat.le_of_eq rfl) (hb hby at_6) (fun _ _ => ⟨rfl, eq13, (by decide : 0 + 0 ≤ _), (by decide : 0 + 0 ≤ _)⟩)
      dsimp only [Pt.U, Pt.locs, Pt.cells, Pt.slots] at X14 l14 y14 z14 st14 hQ14
      subst l14 y14 z14
      obtain ⟨hv14, Nq14, eq14⟩ := hQ14
      have hk14 : own_pick (1 : Int32) aI aD aB = aD := by first | rfl | decide
      rw [hmp1, hk14] at hv14
      subst hv14
      replace Nf := Fr.app Nf Nq14
      refine own_go (x' := T14.setTop (mkF m 9 #[.val (.int p0), .val (.int p1), .val (.ref aI), .unset, .unset, .unset, .unset] [(.ref aD)])) st14 ?_
      refine own_go (x' := T14.setTop (mkF m 12 #[.val (.int p0), .val (.int p1), .val (.ref aI), .val (.ref aD), .unset, .unset, .unset] [(.ref aD), (.ref aI)])) (fun _ k => XS.astoreN X14.here hx rfl (hb hby at_9) rfl rfl (l' := #[.val (.int p0), .val (.int p1), .val (.ref aI), .val (.ref aD), .unset, .unset, .unset]) rfl (XS.aloadN X14.here hx rfl (hb hby at_10) rfl rfl (XS.aloadN X14.here hx rfl (hb hby at_11) rfl rfl k))) ?_
      obtain ⟨_, _, ⟨T15, L15, k15, n15⟩, -, X15, ⟨Lc15, hQ15, l15, y15, z15⟩, st15⟩ := Jvm.LawKit.callS X14 hx (y := (⟨"com/example/stratgen/stratgen/model/Type", "numericResult", "(Lcom/example/stratgen/stratgen/model/Type;Lcom/example/stratgen/stratgen/model/Type;)Lcom/example/stratgen/stratgen/model/Type;"⟩ : MethodName)) hown (mvT hZ (own_w hw 8 rfl)) (mvT hZ (own_w hw 9 rfl)) (mvT hZ (own_w hw 6 rfl)) (mvT hZ (own_w hw 10 rfl)) (by decide) (backOf (W := 0) (rm2 l Z a0 hw [] aI aD aI aD h0 n0 Zs S_INT S_DOUBLE) hZ (own_w hw 10 rfl) (own_w hw 6 rfl) (by decide) (by decide)) (g := (mkF m 12 #[.val (.int p0), .val (.int p1), .val (.ref aI), .val (.ref aD), .unset, .unset, .unset] [(.ref aD), (.ref aI)])) rfl (by rw [hml]; rfl) (argsL := [(.ref aI), (.ref aD)]) (rest := []) (lenOf pd_1 rfl) rfl (by show 2 * 0 + _ ≤ _; exact Nat.le_of_eq rfl) (hb hby at_12) (fun _ _ => ⟨rfl, eq14, (by decide : 0 + 0 ≤ _), (by decide : 0 + 0 ≤ _)⟩)
      dsimp only [Pt.U, Pt.locs, Pt.cells, Pt.slots] at X15 l15 y15 z15 st15 hQ15
      subst l15 y15 z15
      obtain ⟨hv15, Nq15, eq15⟩ := hQ15
      have hk15 : own_num aI aD aI aD = aD := by simp [own_num, ne_aI_aD, ne_aI_aB, ne_aD_aB, ne_aI_aD.symm, ne_aI_aB.symm, ne_aD_aB.symm]
      rw [hk15] at hv15
      subst hv15
      replace Nf := Fr.app Nf Nq15
      refine own_go (x' := T15.setTop (mkF m 15 #[.val (.int p0), .val (.int p1), .val (.ref aI), .val (.ref aD), .unset, .unset, .unset] [(.ref aD)])) st15 ?_
      refine own_go (x' := T15.setTop (mkF m 19 #[.val (.int p0), .val (.int p1), .val (.ref aI), .val (.ref aD), .val (.ref aD), .unset, .unset] [(.ref aI), (.ref aD)])) (fun _ k => XS.astore X15.here hx rfl (hb hby at_15) rfl rfl (l' := #[.val (.int p0), .val (.int p1), .val (.ref aI), .val (.ref aD), .val (.ref aD), .unset, .unset]) rfl (XS.aloadN X15.here hx rfl (hb hby at_17) rfl rfl (XS.aloadN X15.here hx rfl (hb hby at_18) rfl rfl k))) ?_
      obtain ⟨_, _, ⟨T16, L16, k16, n16⟩, -, X16, ⟨Lc16, hQ16, l16, y16, z16⟩, st16⟩ := Jvm.LawKit.callS X15 hx (y := (⟨"com/example/stratgen/stratgen/model/Type", "numericResult", "(Lcom/example/stratgen/stratgen/model/Type;Lcom/example/stratgen/stratgen/model/Type;)Lcom/example/stratgen/stratgen/model/Type;"⟩ : MethodName)) hown (mvT hZ (own_w hw 8 rfl)) (mvT hZ (own_w hw 9 rfl)) (mvT hZ (own_w hw 6 rfl)) (mvT hZ (own_w hw 10 rfl)) (by decide) (backOf (W := 0) (rm2 l Z a0 hw [] aD aI aI aD h0 n0 Zs S_INT S_DOUBLE) hZ (own_w hw 10 rfl) (own_w hw 6 rfl) (by decide) (by decide)) (g := (mkF m 19 #[.val (.int p0), .val (.int p1), .val (.ref aI), .val (.ref aD), .val (.ref aD), .unset, .unset] [(.ref aI), (.ref aD)])) rfl (by rw [hml]; rfl) (argsL := [(.ref aD), (.ref aI)]) (rest := []) (lenOf pd_1 rfl) rfl (by show 2 * 0 + _ ≤ _; exact Nat.le_of_eq rfl) (hb hby at_19) (fun _ _ => ⟨rfl, eq15, (by decide : 0 + 0 ≤ _), (by decide : 0 + 0 ≤ _)⟩)
      dsimp only [Pt.U, Pt.locs, Pt.cells, Pt.slots] at X16 l16 y16 z16 st16 hQ16
      subst l16 y16 z16
      obtain ⟨hv16, Nq16, eq16⟩ := hQ16
      have hk16 : own_num aD aI aI aD = aD := by simp [own_num, ne_aI_aD, ne_aI_aB, ne_aD_aB, ne_aI_aD.symm, ne_aI_aB.symm, ne_aD_aB.symm]
      rw [hk16] at hv16
      subst hv16
      replace Nf := Fr.app Nf Nq16
      refine own_go (x' := T16.setTop (mkF m 22 #[.val (.int p0), .val (.int p1), .val (.ref aI), .val (.ref aD), .val (.ref aD), .unset, .unset] [(.ref aD)])) st16 ?_
      refine own_go (x' := T16.setTop (mkF m 33 #[.val (.int p0), .val (.int p1), .val (.ref aI), .val (.ref aD), .val (.ref aD), .val (.ref aD), .unset] [(.ref aD), (.ref aD)])) (fun _ k => XS.astore X16.here hx rfl (hb hby at_22) rfl rfl (l' := #[.val (.int p0), .val (.int p1), .val (.ref aI), .val (.ref aD), .val (.ref aD), .val (.ref aD), .unset]) rfl (XS.aload X16.here hx rfl (hb hby at_24) rfl rfl (XS.ifnullNo X16.here hx rfl (hb hby at_26) rfl (XS.aload X16.here hx rfl (hb hby at_29) rfl rfl (XS.aload X16.here hx rfl (hb hby at_31) rfl rfl k))))) ?_
      refine own_go (x' := T16.setTop (mkF m 38 #[.val (.int p0), .val (.int p1), .val (.ref aI), .val (.ref aD), .val (.ref aD), .val (.ref aD), .unset] [])) (fun _ k => Jvm.RoadKit.acmp (g := (mkF m 33 #[.val (.int p0), .val (.int p1), .val (.ref aI), .val (.ref aD), .val (.ref aD), .val (.ref aD), .unset] [(.ref aD), (.ref aD)])) X16 hx rfl rfl rfl (pc0 := 33) (pc' := 38) (same := true) rfl (hb hby at_33) rfl (decide_eq_true rfl) (by decide) (by decide) k) ?_
      refine own_go (x' := T16.setTop (mkF m 40 #[.val (.int p0), .val (.int p1), .val (.ref aI), .val (.ref aD), .val (.ref aD), .val (.ref aD), .unset] [(.ref aD)])) (fun _ k => XS.aload X16.here hx rfl (hb hby at_38) rfl rfl k) ?_
      obtain ⟨cq17, kq17, q17a, q17b, q17c⟩ := isOf hZ eq16 E_aD
      obtain ⟨_, _, ⟨T17, L17, k17, n17⟩, -, X17, ⟨Lc17, hQ17, l17, y17, z17⟩, st17⟩ := X16.virtualBack hx (y := (⟨"com/example/stratgen/stratgen/model/Type", "isNumeric", "()Z"⟩ : MethodName)) (z := (⟨"com/example/stratgen/stratgen/model/Type", "isNumeric", "()Z"⟩ : MethodName)) hown (mvT hZ (own_w hw 12 rfl)) (mvT hZ (own_w hw 13 rfl)) (notFace_of_selects (args := #[]) (mvT hZ (own_w hw 15 rfl))) (mvT hZ (own_w hw 15 rfl)) (mvT hZ (own_w hw 14 rfl)) (by decide) (backOf (W := 0) (rm3 l Z a0 hw [] aD aB h0 n0 Zs S_BOOL) hZ (own_w hw 16 rfl) (own_w hw 6 rfl) (by decide) (by decide)) q17a q17c (g := (mkF m 40 #[.val (.int p0), .val (.int p1), .val (.ref aI), .val (.ref aD), .val (.ref aD), .val (.ref aD), .unset] [(.ref aD)])) rfl (by rw [hml]; rfl) (Steps.refl _) (argsL := []) (rest := []) (lenOf pd_2 rfl) rfl (by show 2 * 0 + _ ≤ _; exact Nat.le_of_eq rfl) (hb hby at_40) (fun _ _ => ⟨rfl, eq16, (by decide : 0 + 0 ≤ _), (by decide : 0 + 0 ≤ _)⟩)
      dsimp only [Pt.U, Pt.locs, Pt.cells, Pt.slots] at X17 l17 y17 z17 st17 hQ17
      subst l17 y17 z17
      obtain ⟨hv17, Nq17, eq17⟩ := hQ17
      have hk17 : own_isn aD aB = 1 := by simp [own_isn, ne_aI_aD, ne_aI_aB, ne_aD_aB, ne_aI_aD.symm, ne_aI_aB.symm, ne_aD_aB.symm]
      rw [hk17] at hv17
      subst hv17
      replace Nf := Fr.app Nf Nq17
      refine own_go (x' := T17.setTop (mkF m 43 #[.val (.int p0), .val (.int p1), .val (.ref aI), .val (.ref aD), .val (.ref aD), .val (.ref aD), .unset] [(.int (1 : Int32))])) (fun _ k => st17.trans k) ?_
      refine own_go (x' := T17.setTop (mkF m 49 #[.val (.int p0), .val (.int p1), .val (.ref aI), .val (.ref aD), .val (.ref aD), .val (.ref aD), .unset] [(.ref aI)])) (fun _ k => XS.ifYes X17.here hx rfl (pc0 := 43) (pc' := 48) rfl (hb hby at_43) rfl ((if0 _ _).trans (feq (by decide +kernel : ¬ ((1 : Int32) = (0 : Int32)))).2) (by decide) (by decide) (XS.aloadN X17.here hx rfl (hb hby at_48) rfl rfl k)) ?_
      obtain ⟨T18, X18, e18, st18⟩ := getS2 X17 hx hZ hown (host := "") (Or.inl (own_w hw 5 rfl)) Via.refl eq17 S_INT (g := (mkF m 49 #[.val (.int p0), .val (.int p1), .val (.ref aI), .val (.ref aD), .val (.ref aD), .val (.ref aD), .unset] [(.ref aI)])) rfl (hb hby at_49)
      refine own_go (x' := T18.setTop (mkF m 52 #[.val (.int p0), .val (.int p1), .val (.ref aI), .val (.ref aD), .val (.ref aD), .val (.ref aD), .unset] [(.ref aI), (.ref aI)])) st18 ?_
      refine own_go (x' := T18.setTop (mkF m 55 #[.val (.int p0), .val (.int p1), .val (.ref aI), .val (.ref aD), .val (.ref aD), .val (.ref aD), .unset] [])) (fun _ k => Jvm.RoadKit.acmp (g := (mkF m 52 #[.val (.int p0), .val (.int p1), .val (.ref aI), .val (.ref aD), .val (.ref aD), .val (.ref aD), .unset] [(.ref aI), (.ref aI)])) X18 hx rfl rfl rfl (pc0 := 52) (pc' := 55) (same := true) rfl (hb hby at_52) rfl (decide_eq_true rfl) (by decide) (by decide) k) ?_
      refine own_go (x' := T18.setTop (mkF m 56 #[.val (.int p0), .val (.int p1), .val (.ref aI), .val (.ref aD), .val (.ref aD), .val (.ref aD), .unset] [(.ref aD)])) (fun _ k => XS.aloadN X18.here hx rfl (hb hby at_55) rfl rfl k) ?_
      obtain ⟨T19, X19, e19, st19⟩ := getS2 X18 hx hZ hown (host := "") (Or.inl (own_w hw 5 rfl)) Via.refl e18 S_INT (g := (mkF m 56 #[.val (.int p0), .val (.int p1), .val (.ref aI), .val (.ref aD), .val (.ref aD), .val (.ref aD), .unset] [(.ref aD)])) rfl (hb hby at_56)
      refine own_go (x' := T19.setTop (mkF m 59 #[.val (.int p0), .val (.int p1), .val (.ref aI), .val (.ref aD), .val (.ref aD), .val (.ref aD), .unset] [(.ref aI), (.ref aD)])) st19 ?_
      refine own_go (x' := T19.setTop (mkF m 66 #[.val (.int p0), .val (.int p1), .val (.ref aI), .val (.ref aD), .val (.ref aD), .val (.ref aD), .unset] [])) (fun _ k => Jvm.RoadKit.acmp (g := (mkF m 59 #[.val (.int p0), .val (.int p1), .val (.ref aI), .val (.ref aD), .val (.ref aD), .val (.ref aD), .unset] [(.ref aI), (.ref aD)])) X19 hx rfl rfl rfl (pc0 := 59) (pc' := 66) (same := false) rfl (hb hby at_59) rfl (decide_eq_false fun q => ne_aI_aD (Value.ref.inj q).symm) (by decide) (by decide) k) ?_
      refine own_go (x' := T19.setTop (mkF m 71 #[.val (.int p0), .val (.int p1), .val (.ref aI), .val (.ref aD), .val (.ref aD), .val (.ref aD), .val (.int (0 : Int32))] [(.ref aD)])) (fun _ k => XS.iconst X19.here hx rfl (hb hby at_66) (XS.istore X19.here hx rfl (hb hby at_67) rfl (l' := #[.val (.int p0), .val (.int p1), .val (.ref aI), .val (.ref aD), .val (.ref aD), .val (.ref aD), .val (.int (0 : Int32))]) rfl (XS.aload X19.here hx rfl (hb hby at_69) rfl rfl k))) ?_
      obtain ⟨T20, X20, e20, st20⟩ := getS2 X19 hx hZ hown (host := "") (Or.inl (own_w hw 5 rfl)) Via.refl e19 S_INT (g := (mkF m 71 #[.val (.int p0), .val (.int p1), .val (.ref aI), .val (.ref aD), .val (.ref aD), .val (.ref aD), .val (.int (0 : Int32))] [(.ref aD)])) rfl (hb hby at_71)
      refine own_go (x' := T20.setTop (mkF m 74 #[.val (.int p0), .val (.int p1), .val (.ref aI), .val (.ref aD), .val (.ref aD), .val (.ref aD), .val (.int (0 : Int32))] [(.ref aI), (.ref aD)])) st20 ?_
      refine own_go (x' := T20.setTop (mkF m 81 #[.val (.int p0), .val (.int p1), .val (.ref aI), .val (.ref aD), .val (.ref aD), .val (.ref aD), .val (.int (0 : Int32))] [])) (fun _ k => Jvm.RoadKit.acmp (g := (mkF m 74 #[.val (.int p0), .val (.int p1), .val (.ref aI), .val (.ref aD), .val (.ref aD), .val (.ref aD), .val (.int (0 : Int32))] [(.ref aI), (.ref aD)])) X20 hx rfl rfl rfl (pc0 := 74) (pc' := 81) (same := false) rfl (hb hby at_74) rfl (decide_eq_false fun q => ne_aI_aD (Value.ref.inj q).symm) (by decide) (by decide) k) ?_
      refine own_go (x' := T20.setTop (mkF m 90 #[.val (.int p0), .val (.int p1), .val (.ref aI), .val (.ref aD), .val (.ref aD), .val (.ref aD), .val (.int (0 : Int32))] [(.ref aI)])) (fun _ k => XS.iconst X20.here hx rfl (hb hby at_81) (XS.iload X20.here hx rfl (hb hby at_82) rfl (XS.icmpYes X20.here hx rfl (pc0 := 84) (pc' := 89) rfl (hb hby at_84) rfl (teq rfl).1 (by decide) (by decide) (XS.aloadN X20.here hx rfl (hb hby at_89) rfl rfl k)))) ?_
      obtain ⟨T21, X21, e21, st21⟩ := getS2 X20 hx hZ hown (host := "") (Or.inl (own_w hw 19 rfl)) Via.refl e20 S_BOOL (g := (mkF m 90 #[.val (.int p0), .val (.int p1), .val (.ref aI), .val (.ref aD), .val (.ref aD), .val (.ref aD), .val (.int (0 : Int32))] [(.ref aI)])) rfl (hb hby at_90)
      refine own_go (x' := T21.setTop (mkF m 93 #[.val (.int p0), .val (.int p1), .val (.ref aI), .val (.ref aD), .val (.ref aD), .val (.ref aD), .val (.int (0 : Int32))] [(.ref aB), (.ref aI)])) st21 ?_
      refine own_go (x' := T21.setTop (mkF m 96 #[.val (.int p0), .val (.int p1), .val (.ref aI), .val (.ref aD), .val (.ref aD), .val (.ref aD), .val (.int (0 : Int32))] [])) (fun _ k => Jvm.RoadKit.acmp (g := (mkF m 93 #[.val (.int p0), .val (.int p1), .val (.ref aI), .val (.ref aD), .val (.ref aD), .val (.ref aD), .val (.int (0 : Int32))] [(.ref aB), (.ref aI)])) X21 hx rfl rfl rfl (pc0 := 93) (pc' := 96) (same := false) rfl (hb hby at_93) rfl (decide_eq_false fun q => ne_aI_aB (Value.ref.inj q)) (by decide) (by decide) k) ?_
      refine own_go (x' := T21.setTop (mkF m 97 #[.val (.int p0), .val (.int p1), .val (.ref aI), .val (.ref aD), .val (.ref aD), .val (.ref aD), .val (.int (0 : Int32))] [(.ref aD)])) (fun _ k => XS.aloadN X21.here hx rfl (hb hby at_96) rfl rfl k) ?_
      obtain ⟨T22, X22, e22, st22⟩ := getS2 X21 hx hZ hown (host := "") (Or.inl (own_w hw 19 rfl)) Via.refl e21 S_BOOL (g := (mkF m 97 #[.val (.int p0), .val (.int p1), .val (.ref aI), .val (.ref aD), .val (.ref aD), .val (.ref aD), .val (.int (0 : Int32))] [(.ref aD)])) rfl (hb hby at_97)
      refine own_go (x' := T22.setTop (mkF m 100 #[.val (.int p0), .val (.int p1), .val (.ref aI), .val (.ref aD), .val (.ref aD), .val (.ref aD), .val (.int (0 : Int32))] [(.ref aB), (.ref aD)])) st22 ?_
      refine own_go (x' := T22.setTop (mkF m 103 #[.val (.int p0), .val (.int p1), .val (.ref aI), .val (.ref aD), .val (.ref aD), .val (.ref aD), .val (.int (0 : Int32))] [])) (fun _ k => Jvm.RoadKit.acmp (g := (mkF m 100 #[.val (.int p0), .val (.int p1), .val (.ref aI), .val (.ref aD), .val (.ref aD), .val (.ref aD), .val (.int (0 : Int32))] [(.ref aB), (.ref aD)])) X22 hx rfl rfl rfl (pc0 := 100) (pc' := 103) (same := false) rfl (hb hby at_100) rfl (decide_eq_false fun q => ne_aD_aB (Value.ref.inj q)) (by decide) (by decide) k) ?_
      refine own_go (x' := T22.setTop (mkF m 106 #[.val (.int p0), .val (.int p1), .val (.ref aI), .val (.ref aD), .val (.ref aD), .val (.ref aD), .val (.int (0 : Int32))] [(.ref aI), (.ref aD)])) (fun _ k => XS.aload X22.here hx rfl (hb hby at_103) rfl rfl (XS.aloadN X22.here hx rfl (hb hby at_105) rfl rfl k)) ?_
      obtain ⟨cq23, kq23, q23a, q23b, q23c⟩ := isOf hZ e22 E_aD
      obtain ⟨_, _, ⟨T23, L23, k23, n23⟩, -, X23, ⟨Lc23, hQ23, l23, y23, z23⟩, st23⟩ := X22.virtualBack hx (y := (⟨"com/example/stratgen/stratgen/model/Type", "accepts", "(Lcom/example/stratgen/stratgen/model/Type;)Z"⟩ : MethodName)) (z := (⟨"com/example/stratgen/stratgen/model/Type", "accepts", "(Lcom/example/stratgen/stratgen/model/Type;)Z"⟩ : MethodName)) hown (mvT hZ (own_w hw 20 rfl)) (mvT hZ (own_w hw 21 rfl)) (notFace_of_selects (args := #[]) (mvT hZ (own_w hw 23 rfl))) (mvT hZ (own_w hw 23 rfl)) (mvT hZ (own_w hw 22 rfl)) (by decide) (backOf (W := 0) (rm4 l Z a0 hw [] aD aI aI aD h0 n0 Zs S_INT S_DOUBLE) hZ (own_w hw 24 rfl) (own_w hw 6 rfl) (by decide) (by decide)) q23a q23c (g := (mkF m 106 #[.val (.int p0), .val (.int p1), .val (.ref aI), .val (.ref aD), .val (.ref aD), .val (.ref aD), .val (.int (0 : Int32))] [(.ref aI), (.ref aD)])) rfl (by rw [hml]; rfl) (Steps.refl _) (argsL := [(.ref aI)]) (rest := []) (lenOf pd_3 rfl) rfl (by show 2 * 0 + _ ≤ _; exact Nat.le_of_eq rfl) (hb hby at_106) (fun _ _ => ⟨rfl, e22, (by decide : 0 + 0 ≤ _), (by decide : 0 + 0 ≤ _)⟩)
      dsimp only [Pt.U, Pt.locs, Pt.cells, Pt.slots] at X23 l23 y23 z23 st23 hQ23
      subst l23 y23 z23
      obtain ⟨hv23, Nq23, eq23⟩ := hQ23
      have hk23 : own_acc aD aI aI aD = 1 := by simp [own_acc, ne_aI_aD, ne_aI_aB, ne_aD_aB, ne_aI_aD.symm, ne_aI_aB.symm, ne_aD_aB.symm]
      rw [hk23] at hv23
      subst hv23
      replace Nf := Fr.app Nf Nq23
      refine own_go (x' := T23.setTop (mkF m 109 #[.val (.int p0), .val (.int p1), .val (.ref aI), .val (.ref aD), .val (.ref aD), .val (.ref aD), .val (.int (0 : Int32))] [(.int (1 : Int32))])) (fun _ k => st23.trans k) ?_
      refine own_go (x' := T23.setTop (mkF m 115 #[.val (.int p0), .val (.int p1), .val (.ref aI), .val (.ref aD), .val (.ref aD), .val (.ref aD), .val (.int (0 : Int32))] [(.ref aD), (.ref aD)])) (fun _ k => XS.ifNo X23.here hx rfl (hb hby at_109) rfl ((if0 _ _).trans (feq (by decide +kernel : ¬ ((1 : Int32) = (0 : Int32)))).1) (XS.aload X23.here hx rfl (hb hby at_112) rfl rfl (XS.aloadN X23.here hx rfl (hb hby at_114) rfl rfl k))) ?_
      obtain ⟨cq24, kq24, q24a, q24b, q24c⟩ := isOf hZ eq23 E_aD
      obtain ⟨_, _, ⟨T24, L24, k24, n24⟩, -, X24, ⟨Lc24, hQ24, l24, y24, z24⟩, st24⟩ := X23.virtualBack hx (y := (⟨"com/example/stratgen/stratgen/model/Type", "accepts", "(Lcom/example/stratgen/stratgen/model/Type;)Z"⟩ : MethodName)) (z := (⟨"com/example/stratgen/stratgen/model/Type", "accepts", "(Lcom/example/stratgen/stratgen/model/Type;)Z"⟩ : MethodName)) hown (mvT hZ (own_w hw 20 rfl)) (mvT hZ (own_w hw 21 rfl)) (notFace_of_selects (args := #[]) (mvT hZ (own_w hw 23 rfl))) (mvT hZ (own_w hw 23 rfl)) (mvT hZ (own_w hw 22 rfl)) (by decide) (backOf (W := 0) (rm4 l Z a0 hw [] aD aD aI aD h0 n0 Zs S_INT S_DOUBLE) hZ (own_w hw 24 rfl) (own_w hw 6 rfl) (by decide) (by decide)) q24a q24c (g := (mkF m 115 #[.val (.int p0), .val (.int p1), .val (.ref aI), .val (.ref aD), .val (.ref aD), .val (.ref aD), .val (.int (0 : Int32))] [(.ref aD), (.ref aD)])) rfl (by rw [hml]; rfl) (Steps.refl _) (argsL := [(.ref aD)]) (rest := []) (lenOf pd_3 rfl) rfl (by show 2 * 0 + _ ≤ _; exact Nat.le_of_eq rfl) (hb hby at_115) (fun _ _ => ⟨rfl, eq23, (by decide : 0 + 0 ≤ _), (by decide : 0 + 0 ≤ _)⟩)
      dsimp only [Pt.U, Pt.locs, Pt.cells, Pt.slots] at X24 l24 y24 z24 st24 hQ24
      subst l24 y24 z24
      obtain ⟨hv24, Nq24, eq24⟩ := hQ24
      have hk24 : own_acc aD aD aI aD = 1 := by simp [own_acc, ne_aI_aD, ne_aI_aB, ne_aD_aB, ne_aI_aD.symm, ne_aI_aB.symm, ne_aD_aB.symm]
      rw [hk24] at hv24
      subst hv24
      replace Nf := Fr.app Nf Nq24
      refine own_go (x' := T24.setTop (mkF m 118 #[.val (.int p0), .val (.int p1), .val (.ref aI), .val (.ref aD), .val (.ref aD), .val (.ref aD), .val (.int (0 : Int32))] [(.int (1 : Int32))])) (fun _ k => st24.trans k) ?_
      refine own_go (x' := T24.setTop (mkF m 124 #[.val (.int p0), .val (.int p1), .val (.ref aI), .val (.ref aD), .val (.ref aD), .val (.ref aD), .val (.int (0 : Int32))] [(.int (1 : Int32))])) (fun _ k => XS.ifYes X24.here hx rfl (pc0 := 118) (pc' := 123) rfl (hb hby at_118) rfl ((if0 _ _).trans (feq (by decide +kernel : ¬ ((1 : Int32) = (0 : Int32)))).2) (by decide) (by decide) (XS.iconst X24.here hx rfl (hb hby at_123) k)) ?_
      refine own_retN X24 hx hlk (t := .boolean) hret (by simp) (hb hby at_124) (w := (1 : Int32)) rfl ?_ (by decide) (by decide)
      rw [eq24]
      exact ⟨rfl, Nf⟩
    · refine own_go (x' := s₁.setTop (mkF m 1 #[.val (.int p0), .val (.int p1), .unset, .unset, .unset, .unset, .unset] [(.int p0)])) (fun _ k => XS.iloadN X0.here hx rfl (hb hby at_0) rfl k) ?_
      obtain ⟨_, _, ⟨T25, L25, k25, n25⟩, -, X25, ⟨Lc25, hQ25, l25, y25, z25⟩, st25⟩ := Jvm.LawKit.callS X0 hx (y := (⟨"com/example/stratgen/stratgen/model/TypeNumericResultPinLaw", "pick", "(I)Lcom/example/stratgen/stratgen/model/Type;"⟩ : MethodName)) hown (mvT hZ (own_w hw 0 rfl)) (mvT hZ (own_w hw 1 rfl)) (mvT hZ (own_w hw 2 rfl)) (mvT hZ (own_w hw 3 rfl)) (by decide) (backOf (W := 0) (rm1 l Z a0 hw [] p0 aI aD aB h0 n0 Zs S_INT S_DOUBLE S_BOOL) hZ (own_w hw 3 rfl) (own_w hw 2 rfl) (by decide) (by decide)) (g := (mkF m 1 #[.val (.int p0), .val (.int p1), .unset, .unset, .unset, .unset, .unset] [(.int p0)])) rfl (by rw [hml]; rfl) (argsL := [(.int p0)]) (rest := []) (lenOf pd_0 rfl) rfl (by show 2 * 0 + _ ≤ _; exact Nat.le_of_eq rfl) (hb hby at_1) (fun _ _ => ⟨rfl, e0, (by decide : 0 + 0 ≤ _), (by decide : 0 + 0 ≤ _)⟩)
      dsimp only [Pt.U, Pt.locs, Pt.cells, Pt.slots] at X25 l25 y25 z25 st25 hQ25
      subst l25 y25 z25
      obtain ⟨hv25, Nq25, eq25⟩ := hQ25
      have hk25 : own_pick (0 : Int32) aI aD aB = aI := by first | rfl | decide
      rw [hmp0, hk25] at hv25
      subst hv25
      replace Nf := Fr.app Nf Nq25
      refine own_go (x' := T25.setTop (mkF m 4 #[.val (.int p0), .val (.int p1), .unset, .unset, .unset, .unset, .unset] [(.ref aI)])) st25 ?_
      refine own_go (x' := T25.setTop (mkF m 6 #[.val (.int p0), .val (.int p1), .val (.ref aI), .unset, .unset, .unset, .unset] [(.int p1)])) (fun _ k => XS.astoreN X25.here hx rfl (hb hby at_4) rfl rfl (l' := #[.val (.int p0), .val (.int p1), .val (.ref aI), .unset, .unset, .unset, .unset]) rfl (XS.iloadN X25.here hx rfl (hb hby at_5) rfl k)) ?_
      obtain ⟨_, _, ⟨T26, L26, k26, n26⟩, -, X26, ⟨Lc26, hQ26, l26, y26, z26⟩, st26⟩ := Jvm.LawKit.callS X25 hx (y := (⟨"com/example/stratgen/stratgen/model/TypeNumericResultPinLaw", "pick", "(I)Lcom/example/stratgen/stratgen/model/Type;"⟩ : MethodName)) hown (mvT hZ (own_w hw 0 rfl)) (mvT hZ (own_w hw 1 rfl)) (mvT hZ (own_w hw 2 rfl)) (mvT hZ (own_w hw 3 rfl)) (by decide) (backOf (W := 0) (rm1 l Z a0 hw [] p1 aI aD aB h0 n0 Zs S_INT S_DOUBLE S_BOOL) hZ (own_w hw 3 rfl) (own_w hw 2 rfl) (by decide) (by decide)) (g := (mkF m 6 #[.val (.int p0), .val (.int p1), .val (.ref aI), .unset, .unset, .unset, .unset] [(.int p1)])) rfl (by rw [hml]; rfl) (argsL := [(.int p1)]) (rest := []) (lenOf pd_0 rfl) rfl (by show 2 * 0 + _ ≤ _; exact Nat.le_of_eq rfl) (hb hby at_6) (fun _ _ => ⟨rfl, eq25, (by decide : 0 + 0 ≤ _), (by decide : 0 + 0 ≤ _)⟩)
      dsimp only [Pt.U, Pt.locs, Pt.cells, Pt.slots] at X26 l26 y26 z26 st26 hQ26
      subst l26 y26 z26
      obtain ⟨hv26, Nq26, eq26⟩ := hQ26
      have hk26 : own_pick (2 : Int32) aI aD aB = aB := by first | rfl | decide
      rw [hmp1, hk26] at hv26
      subst hv26
      replace Nf := Fr.app Nf Nq26
      refine own_go (x' := T26.setTop (mkF m 9 #[.val (.int p0), .val (.int p1), .val (.ref aI), .unset, .unset, .unset, .unset] [(.ref aB)])) st26 ?_
      refine own_go (x' := T26.setTop (mkF m 12 #[.val (.int p0), .val (.int p1), .val (.ref aI), .val (.ref aB), .unset, .unset, .unset] [(.ref aB), (.ref aI)])) (fun _ k => XS.astoreN X26.here hx rfl (hb hby at_9) rfl rfl (l' := #[.val (.int p0), .val (.int p1), .val (.ref aI), .val (.ref aB), .unset, .unset, .unset]) rfl (XS.aloadN X26.here hx rfl (hb hby at_10) rfl rfl (XS.aloadN X26.here hx rfl (hb hby at_11) rfl rfl k))) ?_
      obtain ⟨_, _, ⟨T27, L27, k27, n27⟩, -, X27, ⟨Lc27, hQ27, l27, y27, z27⟩, st27⟩ := Jvm.LawKit.callS X26 hx (y := (⟨"com/example/stratgen/stratgen/model/Type", "numericResult", "(Lcom/example/stratgen/stratgen/model/Type;Lcom/example/stratgen/stratgen/model/Type;)Lcom/example/stratgen/stratgen/model/Type;"⟩ : MethodName)) hown (mvT hZ (own_w hw 8 rfl)) (mvT hZ (own_w hw 9 rfl)) (mvT hZ (own_w hw 6 rfl)) (mvT hZ (own_w hw 10 rfl)) (by decide) (backOf (W := 0) (rm2 l Z a0 hw [] aI aB aI aD h0 n0 Zs S_INT S_DOUBLE) hZ (own_w hw 10 rfl) (own_w hw 6 rfl) (by decide) (by decide)) (g := (mkF m 12 #[.val (.int p0), .val (.int p1), .val (.ref aI), .val (.ref aB), .unset, .unset, .unset] [(.ref aB), (.ref aI)])) rfl (by rw [hml]; rfl) (argsL := [(.ref aI), (.ref aB)]) (rest := []) (lenOf pd_1 rfl) rfl (by show 2 * 0 + _ ≤ _; exact Nat.le_of_eq rfl) (hb hby at_12) (fun _ _ => ⟨rfl, eq26, (by decide : 0 + 0 ≤ _), (by decide : 0 + 0 ≤ _)⟩)
      dsimp only [Pt.U, Pt.locs, Pt.cells, Pt.slots] at X27 l27 y27 z27 st27 hQ27
      subst l27 y27 z27
      obtain ⟨hv27, Nq27, eq27⟩ := hQ27
      have hk27 : own_num aI aB aI aD = aD := by simp [own_num, ne_aI_aD, ne_aI_aB, ne_aD_aB, ne_aI_aD.symm, ne_aI_aB.symm, ne_aD_aB.symm]
      rw [hk27] at hv27
      subst hv27
      replace Nf := Fr.app Nf Nq27
      refine own_go (x' := T27.setTop (mkF m 15 #[.val (.int p0), .val (.int p1), .val (.ref aI), .val (.ref aB), .unset, .unset, .unset] [(.ref aD)])) st27 ?_
      refine own_go (x' := T27.setTop (mkF m 19 #[.val (.int p0), .val (.int p1), .val (.ref aI), .val (.ref aB), .val (.ref aD), .unset, .unset] [(.ref aI), (.ref aB)])) (fun _ k => XS.astore X27.here hx rfl (hb hby at_15) rfl rfl (l' := #[.val (.int p0), .val (.int p1), .val (.ref aI), .val (.ref aB), .val (.ref aD), .unset, .unset]) rfl (XS.aloadN X27.here hx rfl (hb hby at_17) rfl rfl (XS.aloadN X27.here hx rfl (hb hby at_18) rfl rfl k))) ?_
      obtain ⟨_, _, ⟨T28, L28, k28, n28⟩, -, X28, ⟨Lc28, hQ28, l28, y28, z28⟩, st28⟩ := Jvm.LawKit.callS X27 hx (y := (⟨"com/example/stratgen/stratgen/model/Type", "numericResult", "(Lcom/example/stratgen/stratgen/model/Type;Lcom/example/stratgen/stratgen/model/Type;)Lcom/example/stratgen/stratgen/model/Type;"⟩ : MethodName)) hown (mvT hZ (own_w hw 8 rfl)) (mvT hZ (own_w hw 9 rfl)) (mvT hZ (own_w hw 6 rfl)) (mvT hZ (own_w hw 10 rfl)) (by decide) (backOf (W := 0) (rm2 l Z a0 hw [] aB aI aI aD h0 n0 Zs S_INT S_DOUBLE) hZ (own_w hw 10 rfl) (own_w hw 6 rfl) (by decide) (by decide)) (g := (mkF m 19 #[.val (.int p0), .val (.int p1), .val (.ref aI), .val (.ref aB), .val (.ref aD), .unset, .unset] [(.ref aI), (.ref aB)])) rfl (by rw [hml]; rfl) (argsL := [(.ref aB), (.ref aI)]) (rest := []) (lenOf pd_1 rfl) rfl (by show 2 * 0 + _ ≤ _; exact Nat.le_of_eq rfl) (hb hby at_19) (fun _ _ => ⟨rfl, eq27, (by decide : 0 + 0 ≤ _), (by decide : 0 + 0 ≤ _)⟩)
      dsimp only [Pt.U, Pt.locs, Pt.cells, Pt.slots] at X28 l28 y28 z28 st28 hQ28
      subst l28 y28 z28
      obtain ⟨hv28, Nq28, eq28⟩ := hQ28
      have hk28 : own_num aB aI aI aD = aD := by simp [own_num, ne_aI_aD, ne_aI_aB, ne_aD_aB, ne_aI_aD.symm, ne_aI_aB.symm, ne_aD_aB.symm]
      rw [hk28] at hv28
      subst hv28
      replace Nf := Fr.app Nf Nq28
      refine own_go (x' := T28.setTop (mkF m 22 #[.val (.int p0), .val (.int p1), .val (.ref aI), .val (.ref aB), .val (.ref aD), .unset, .unset] [(.ref aD)])) st28 ?_
      refine own_go (x' := T28.setTop (mkF m 33 #[.val (.int p0), .val (.int p1), .val (.ref aI), .val (.ref aB), .val (.ref aD), .val (.ref aD), .unset] [(.ref aD), (.ref aD)])) (fun _ k => XS.astore X28.here hx rfl (hb hby at_22) rfl rfl (l' := #[.val (.int p0), .val (.int p1), .val (.ref aI), .val (.ref aB), .val (.ref aD), .val (.ref aD), .unset]) rfl (XS.aload X28.here hx rfl (hb hby at_24) rfl rfl (XS.ifnullNo X28.here hx rfl (hb hby at_26) rfl (XS.aload X28.here hx rfl (hb hby at_29) rfl rfl (XS.aload X28.here hx rfl (hb hby at_31) rfl rfl k))))) ?_
      refine own_go (x' := T28.setTop (mkF m 38 #[.val (.int p0), .val (.int p1), .val (.ref aI), .val (.ref aB), .val (.ref aD), .val (.ref aD), .unset] [])) (fun _ k => Jvm.RoadKit.acmp (g := (mkF m 33 #[.val (.int p0), .val (.int p1), .val (.ref aI), .val (.ref aB), .val (.ref aD), .val (.ref aD), .unset] [(.ref aD), (.ref aD)])) X28 hx rfl rfl rfl (pc0 := 33) (pc' := 38) (same := true) rfl (hb hby at_33) rfl (decide_eq_true rfl) (by decide) (by decide) k) ?_
      refine own_go (x' := T28.setTop (mkF m 40 #[.val (.int p0), .val (.int p1), .val (.ref aI), .val (.ref aB), .val (.ref aD), .val (.ref aD), .unset] [(.ref aD)])) (fun _ k => XS.aload X28.here hx rfl (hb hby at_38) rfl rfl k) ?_
      obtain ⟨cq29, kq29, q29a, q29b, q29c⟩ := isOf hZ eq28 E_aD
      obtain ⟨_, _, ⟨T29, L29, k29, n29⟩, -, X29, ⟨Lc29, hQ29, l29, y29, z29⟩, st29⟩ := X28.virtualBack hx (y := (⟨"com/example/stratgen/stratgen/model/Type", "isNumeric", "()Z"⟩ : MethodName)) (z := (⟨"com/example/stratgen/stratgen/model/Type", "isNumeric", "()Z"⟩ : MethodName)) hown (mvT hZ (own_w hw 12 rfl)) (mvT hZ (own_w hw 13 rfl)) (notFace_of_selects (args := #[]) (mvT hZ (own_w hw 15 rfl))) (mvT hZ (own_w hw 15 rfl)) (mvT hZ (own_w hw 14 rfl)) (by decide) (backOf (W := 0) (rm3 l Z a0 hw [] aD aB h0 n0 Zs S_BOOL) hZ (own_w hw 16 rfl) (own_w hw 6 rfl) (by decide) (by decide)) q29a q29c (g := (mkF m 40 #[.val (.int p0), .val (.int p1), .val (.ref aI), .val (.ref aB), .val (.ref aD), .val (.ref aD), .unset] [(.ref aD)])) rfl (by rw [hml]; rfl) (Steps.refl _) (argsL := []) (rest := []) (lenOf pd_2 rfl) rfl (by show 2 * 0 + _ ≤ _; exact Nat.le_of_eq rfl) (hb hby at_40) (fun _ _ => ⟨rfl, eq28, (by decide : 0 + 0 ≤ _), (by decide : 0 + 0 ≤ _)⟩)
      dsimp only [Pt.U, Pt.locs, Pt.cells, Pt.slots] at X29 l29 y29 z29 st29 hQ29
      subst l29 y29 z29
      obtain ⟨hv29, Nq29, eq29⟩ := hQ29
      have hk29 : own_isn aD aB = 1 := by simp [own_isn, ne_aI_aD, ne_aI_aB, ne_aD_aB, ne_aI_aD.symm, ne_aI_aB.symm, ne_aD_aB.symm]
      rw [hk29] at hv29
      subst hv29
      replace Nf := Fr.app Nf Nq29
      refine own_go (x' := T29.setTop (mkF m 43 #[.val (.int p0), .val (.int p1), .val (.ref aI), .val (.ref aB), .val (.ref aD), .val (.ref aD), .unset] [(.int (1 : Int32))])) (fun _ k => st29.trans k) ?_
      refine own_go (x' := T29.setTop (mkF m 49 #[.val (.int p0), .val (.int p1), .val (.ref aI), .val (.ref aB), .val (.ref aD), .val (.ref aD), .unset] [(.ref aI)])) (fun _ k => XS.ifYes X29.here hx rfl (pc0 := 43) (pc' := 48) rfl (hb hby at_43) rfl ((if0 _ _).trans (feq (by decide +kernel : ¬ ((1 : Int32) = (0 : Int32)))).2) (by decide) (by decide) (XS.aloadN X29.here hx rfl (hb hby at_48) rfl rfl k)) ?_
      obtain ⟨T30, X30, e30, st30⟩ := getS2 X29 hx hZ hown (host := "") (Or.inl (own_w hw 5 rfl)) Via.refl eq29 S_INT (g := (mkF m 49 #[.val (.int p0), .val (.int p1), .val (.ref aI), .val (.ref aB), .val (.ref aD), .val (.ref aD), .unset] [(.ref aI)])) rfl (hb hby at_49)
      refine own_go (x' := T30.setTop (mkF m 52 #[.val (.int p0), .val (.int p1), .val (.ref aI), .val (.ref aB), .val (.ref aD), .val (.ref aD), .unset] [(.ref aI), (.ref aI)])) st30 ?_
      refine own_go (x' := T30.setTop (mkF m 55 #[.val (.int p0), .val (.int p1), .val (.ref aI), .val (.ref aB), .val (.ref aD), .val (.ref aD), .unset] [])) (fun _ k => Jvm.RoadKit.acmp (g := (mkF m 52 #[.val (.int p0), .val (.int p1), .val (.ref aI), .val (.ref aB), .val (.ref aD), .val (.ref aD), .unset] [(.ref aI), (.ref aI)])) X30 hx rfl rfl rfl (pc0 := 52) (pc' := 55) (same := true) rfl (hb hby at_52) rfl (decide_eq_true rfl) (by decide) (by decide) k) ?_
      refine own_go (x' := T30.setTop (mkF m 56 #[.val (.int p0), .val (.int p1), .val (.ref aI), .val (.ref aB), .val (.ref aD), .val (.ref aD), .unset] [(.ref aB)])) (fun _ k => XS.aloadN X30.here hx rfl (hb hby at_55) rfl rfl k) ?_
      obtain ⟨T31, X31, e31, st31⟩ := getS2 X30 hx hZ hown (host := "") (Or.inl (own_w hw 5 rfl)) Via.refl e30 S_INT (g := (mkF m 56 #[.val (.int p0), .val (.int p1), .val (.ref aI), .val (.ref aB), .val (.ref aD), .val (.ref aD), .unset] [(.ref aB)])) rfl (hb hby at_56)
      refine own_go (x' := T31.setTop (mkF m 59 #[.val (.int p0), .val (.int p1), .val (.ref aI), .val (.ref aB), .val (.ref aD), .val (.ref aD), .unset] [(.ref aI), (.ref aB)])) st31 ?_
      refine own_go (x' := T31.setTop (mkF m 66 #[.val (.int p0), .val (.int p1), .val (.ref aI), .val (.ref aB), .val (.ref aD), .val (.ref aD), .unset] [])) (fun _ k => Jvm.RoadKit.acmp (g := (mkF m 59 #[.val (.int p0), .val (.int p1), .val (.ref aI), .val (.ref aB), .val (.ref aD), .val (.ref aD), .unset] [(.ref aI), (.ref aB)])) X31 hx rfl rfl rfl (pc0 := 59) (pc' := 66) (same := false) rfl (hb hby at_59) rfl (decide_eq_false fun q => ne_aI_aB (Value.ref.inj q).symm) (by decide) (by decide) k) ?_
      refine own_go (x' := T31.setTop (mkF m 71 #[.val (.int p0), .val (.int p1), .val (.ref aI), .val (.ref aB), .val (.ref aD), .val (.ref aD), .val (.int (0 : Int32))] [(.ref aD)])) (fun _ k => XS.iconst X31.here hx rfl (hb hby at_66) (XS.istore X31.here hx rfl (hb hby at_67) rfl (l' := #[.val (.int p0), .val (.int p1), .val (.ref aI), .val (.ref aB), .val (.ref aD), .val (.ref aD), .val (.int (0 : Int32))]) rfl (XS.aload X31.here hx rfl (hb hby at_69) rfl rfl k))) ?_
      obtain ⟨T32, X32, e32, st32⟩ := getS2 X31 hx hZ hown (host := "") (Or.inl (own_w hw 5 rfl)) Via.refl e31 S_INT (g := (mkF m 71 #[.val (.int p0), .val (.int p1), .val (.ref aI), .val (.ref aB), .val (.ref aD), .val (.ref aD), .val (.int (0 : Int32))] [(.ref aD)])) rfl (hb hby at_71)
      refine own_go (x' := T32.setTop (mkF m 74 #[.val (.int p0), .val (.int p1), .val (.ref aI), .val (.ref aB), .val (.ref aD), .val (.ref aD), .val (.int (0 : Int32))] [(.ref aI), (.ref aD)])) st32 ?_
      refine own_go (x' := T32.setTop (mkF m 81 #[.val (.int p0), .val (.int p1), .val (.ref aI), .val (.ref aB), .val (.ref aD), .val (.ref aD), .val (.int (0 : Int32))] [])) (fun _ k => Jvm.RoadKit.acmp (g := (mkF m 74 #[.val (.int p0), .val (.int p1), .val (.ref aI), .val (.ref aB), .val (.ref aD), .val (.ref aD), .val (.int (0 : Int32))] [(.ref aI), (.ref aD)])) X32 hx rfl rfl rfl (pc0 := 74) (pc' := 81) (same := false) rfl (hb hby at_74) rfl (decide_eq_false fun q => ne_aI_aD (Value.ref.inj q).symm) (by decide) (by decide) k) ?_
      refine own_go (x' := T32.setTop (mkF m 90 #[.val (.int p0), .val (.int p1), .val (.ref aI), .val (.ref aB), .val (.ref aD), .val (.ref aD), .val (.int (0 : Int32))] [(.ref aI)])) (fun _ k => XS.iconst X32.here hx rfl (hb hby at_81) (XS.iload X32.here hx rfl (hb hby at_82) rfl (XS.icmpYes X32.here hx rfl (pc0 := 84) (pc' := 89) rfl (hb hby at_84) rfl (teq rfl).1 (by decide) (by decide) (XS.aloadN X32.here hx rfl (hb hby at_89) rfl rfl k)))) ?_
      obtain ⟨T33, X33, e33, st33⟩ := getS2 X32 hx hZ hown (host := "") (Or.inl (own_w hw 19 rfl)) Via.refl e32 S_BOOL (g := (mkF m 90 #[.val (.int p0), .val (.int p1), .val (.ref aI), .val (.ref aB), .val (.ref aD), .val (.ref aD), .val (.int (0 : Int32))] [(.ref aI)])) rfl (hb hby at_90)
      refine own_go (x' := T33.setTop (mkF m 93 #[.val (.int p0), .val (.int p1), .val (.ref aI), .val (.ref aB), .val (.ref aD), .val (.ref aD), .val (.int (0 : Int32))] [(.ref aB), (.ref aI)])) st33 ?_
      refine own_go (x' := T33.setTop (mkF m 96 #[.val (.int p0), .val (.int p1), .val (.ref aI), .val (.ref aB), .val (.ref aD), .val (.ref aD), .val (.int (0 : Int32))] [])) (fun _ k => Jvm.RoadKit.acmp (g := (mkF m 93 #[.val (.int p0), .val (.int p1), .val (.ref aI), .val (.ref aB), .val (.ref aD), .val (.ref aD), .val (.int (0 : Int32))] [(.ref aB), (.ref aI)])) X33 hx rfl rfl rfl (pc0 := 93) (pc' := 96) (same := false) rfl (hb hby at_93) rfl (decide_eq_false fun q => ne_aI_aB (Value.ref.inj q)) (by decide) (by decide) k) ?_
      refine own_go (x' := T33.setTop (mkF m 97 #[.val (.int p0), .val (.int p1), .val (.ref aI), .val (.ref aB), .val (.ref aD), .val (.ref aD), .val (.int (0 : Int32))] [(.ref aB)])) (fun _ k => XS.aloadN X33.here hx rfl (hb hby at_96) rfl rfl k) ?_
      obtain ⟨T34, X34, e34, st34⟩ := getS2 X33 hx hZ hown (host := "") (Or.inl (own_w hw 19 rfl)) Via.refl e33 S_BOOL (g := (mkF m 97 #[.val (.int p0), .val (.int p1), .val (.ref aI), .val (.ref aB), .val (.ref aD), .val (.ref aD), .val (.int (0 : Int32))] [(.ref aB)])) rfl (hb hby at_97)
      refine own_go (x' := T34.setTop (mkF m 100 #[.val (.int p0), .val (.int p1), .val (.ref aI), .val (.ref aB), .val (.ref aD), .val (.ref aD), .val (.int (0 : Int32))] [(.ref aB), (.ref aB)])) st34 ?_
      refine own_go (x' := T34.setTop (mkF m 123 #[.val (.int p0), .val (.int p1), .val (.ref aI), .val (.ref aB), .val (.ref aD), .val (.ref aD), .val (.int (0 : Int32))] [])) (fun _ k => Jvm.RoadKit.acmp (g := (mkF m 100 #[.val (.int p0), .val (.int p1), .val (.ref aI), .val (.ref aB), .val (.ref aD), .val (.ref aD), .val (.int (0 : Int32))] [(.ref aB), (.ref aB)])) X34 hx rfl rfl rfl (pc0 := 100) (pc' := 123) (same := true) rfl (hb hby at_100) rfl (decide_eq_true rfl) (by decide) (by decide) k) ?_
      refine own_go (x' := T34.setTop (mkF m 124 #[.val (.int p0), .val (.int p1), .val (.ref aI), .val (.ref aB), .val (.ref aD), .val (.ref aD), .val (.int (0 : Int32))] [(.int (1 : Int32))])) (fun _ k => XS.iconst X34.here hx rfl (hb hby at_123) k) ?_
      refine own_retN X34 hx hlk (t := .boolean) hret (by simp) (hb hby at_124) (w := (1 : Int32)) rfl ?_ (by decide) (by decide)
      rw [e34]
      exact ⟨rfl, Nf⟩
  · rcases own_mod3 p1 with hmp1 | hmp1 | hmp1
    · refine own_go (x' := s₁.setTop (mkF m 1 #[.val (.int p0), .val (.int p1), .unset, .unset, .unset, .unset, .unset] [(.int p0)])) (fun _ k => XS.iloadN X0.here hx rfl (hb hby at_0) rfl k) ?_
      obtain ⟨_, _, ⟨T35, L35, k35, n35⟩, -, X35, ⟨Lc35, hQ35, l35, y35, z35⟩, st35⟩ := Jvm.LawKit.callS X0 hx (y := (⟨"com/example/stratgen/stratgen/model/TypeNumericResultPinLaw", "pick", "(I)Lcom/example/stratgen/stratgen/model/Type;"⟩ : MethodName)) hown (mvT hZ (own_w hw 0 rfl)) (mvT hZ (own_w hw 1 rfl)) (mvT hZ (own_w hw 2 rfl)) (mvT hZ (own_w hw 3 rfl)) (by decide) (backOf (W := 0) (rm1 l Z a0 hw [] p0 aI aD aB h0 n0 Zs S_INT S_DOUBLE S_BOOL) hZ (own_w hw 3 rfl) (own_w hw 2 rfl) (by decide) (by decide)) (g := (mkF m 1 #[.val (.int p0), .val (.int p1), .unset, .unset, .unset, .unset, .unset] [(.int p0)])) rfl (by rw [hml]; rfl) (argsL := [(.int p0)]) (rest := []) (lenOf pd_0 rfl) rfl (by show 2 * 0 + _ ≤ _; exact Nat.le_of_eq rfl) (hb hby at_1) (fun _ _ => ⟨rfl, e0, (by decide : 0 + 0 ≤ _), (by decide : 0 + 0 ≤ _)⟩)
      dsimp only [Pt.U, Pt.locs, Pt.cells, Pt.slots] at X35 l35 y35 z35 st35 hQ35
      subst l35 y35 z35
      obtain ⟨hv35, Nq35, eq35⟩ := hQ35
      have hk35 : own_pick (1 : Int32) aI aD aB = aD := by first | rfl | decide
      rw [hmp0, hk35] at hv35
      subst hv35
      replace Nf := Fr.app Nf Nq35
      refine own_go (x' := T35.setTop (mkF m 4 #[.val (.int p0), .val (.int p1), .unset, .unset, .unset, .unset, .unset] [(.ref aD)])) st35 ?_
      refine own_go (x' := T35.setTop (mkF m 6 #[.val (.int p0), .val (.int p1), .val (.ref aD), .unset, .unset, .unset, .unset] [(.int p1)])) (fun _ k => XS.astoreN X35.here hx rfl (hb hby at_4) rfl rfl (l' := #[.val (.int p0), .val (.int p1), .val (.ref aD), .unset, .unset, .unset, .unset]) rfl (XS.iloadN X35.here hx rfl (hb hby at_5) rfl k)) ?_
      obtain ⟨_, _, ⟨T36, L36, k36, n36⟩, -, X36, ⟨Lc36, hQ36, l36, y36, z36⟩, st36⟩ := Jvm.LawKit.callS X35 hx (y := (⟨"com/example/stratgen/stratgen/model/TypeNumericResultPinLaw", "pick", "(I)Lcom/example/stratgen/stratgen/model/Type;"⟩ : MethodName)) hown (mvT hZ (own_w hw 0 rfl)) (mvT hZ (own_w hw 1 rfl)) (mvT hZ (own_w hw 2 rfl)) (mvT hZ (own_w hw 3 rfl)) (by decide) (backOf (W := 0) (rm1 l Z a0 hw [] p1 aI aD aB h0 n0 Zs S_INT S_DOUBLE S_BOOL) hZ (own_w hw 3 rfl) (own_w hw 2 rfl) (by decide) (by decide)) (g := (mkF m 6 #[.val (.int p0), .val (.int p1), .val (.ref aD), .unset, .unset, .unset, .unset] [(.int p1)])) rfl (by rw [hml]; rfl) (argsL := [(.int p1)]) (rest := []) (lenOf pd_0 rfl) rfl (by show 2 * 0 + _ ≤ _; exact Nat.le_of_eq rfl) (hb hby at_6) (fun _ _ => ⟨rfl, eq35, (by decide : 0 + 0 ≤ _), (by decide : 0 + 0 ≤ _)⟩)
      dsimp only [Pt.U, Pt.locs, Pt.cells, Pt.slots] at X36 l36 y36 z36 st36 hQ36
      subst l36 y36 z36
      obtain ⟨hv36, Nq36, eq36⟩ := hQ36
      have hk36 : own_pick (0 : Int32) aI aD aB = aI := by first | rfl | decide
      rw [hmp1, hk36] at hv36
      subst hv36
      replace Nf := Fr.app Nf Nq36
      refine own_go (x' := T36.setTop (mkF m 9 #[.val (.int p0), .val (.int p1), .val (.ref aD), .unset, .unset, .unset, .unset] [(.ref aI)])) st36 ?_
      refine own_go (x' := T36.setTop (mkF m 12 #[.val (.int p0), .val (.int p1), .val (.ref aD), .val (.ref aI), .unset, .unset, .unset] [(.ref aI), (.ref aD)])) (fun _ k => XS.astoreN X36.here hx rfl (hb hby at_9) rfl rfl (l' := #[.val (.int p0), .val (.int p1), .val (.ref aD), .val (.ref aI), .unset, .unset, .unset]) rfl (XS.aloadN X36.here hx rfl (hb hby at_10) rfl rfl (XS.aloadN X36.here hx rfl (hb hby at_11) rfl rfl k))) ?_
      obtain ⟨_, _, ⟨T37, L37, k37, n37⟩, -, X37, ⟨Lc37, hQ37, l37, y37, z37⟩, st37⟩ := Jvm.LawKit.callS X36 hx (y := (⟨"com/example/stratgen/stratgen/model/Type", "numericResult", "(Lcom/example/stratgen/stratgen/model/Type;Lcom/example/stratgen/stratgen/model/Type;)Lcom/example/stratgen/stratgen/model/Type;"⟩ : MethodName)) hown (mvT hZ (own_w hw 8 rfl)) (mvT hZ (own_w hw 9 rfl)) (mvT hZ (own_w hw 6 rfl)) (mvT hZ (own_w hw 10 rfl)) (by decide) (backOf (W := 0) (rm2 l Z a0 hw [] aD aI aI aD h0 n0 Zs S_INT S_DOUBLE) hZ (own_w hw 10 rfl) (own_w hw 6 rfl) (by decide) (by decide)) (g := (mkF m 12 #[.val (.int p0), .val (.int p1), .val (.ref aD), .val (.ref aI), .unset, .unset, .unset] [(.ref aI), (.ref aD)])) rfl (by rw [hml]; rfl) (argsL := [(.ref aD), (.ref aI)]) (rest := []) (lenOf pd_1 rfl) rfl (by show 2 * 0 + _ ≤ _; exact Nat.le_of_eq rfl) (hb hby at_12) (fun _ _ => ⟨rfl, eq36, (by decide : 0 + 0 ≤ _), (by decide : 0 + 0 ≤ _)⟩)
      dsimp only [Pt.U, Pt.locs, Pt.cells, Pt.slots] at X37 l37 y37 z37 st37 hQ37
      subst l37 y37 z37
      obtain ⟨hv37, Nq37, eq37⟩ := hQ37
      have hk37 : own_num aD aI aI aD = aD := by simp [own_num, ne_aI_aD, ne_aI_aB, ne_aD_aB, ne_aI_aD.symm, ne_aI_aB.symm, ne_aD_aB.symm]
      rw [hk37] at hv37
      subst hv37
      replace Nf := Fr.app Nf Nq37
      refine own_go (x' := T37.setTop (mkF m 15 #[.val (.int p0), .val (.int p1), .val (.ref aD), .val (.ref aI), .unset, .unset, .unset] [(.ref aD)])) st37 ?_
      refine own_go (x' := T37.setTop (mkF m 19 #[.val (.int p0), .val (.int p1), .val (.ref aD), .val (.ref aI), .val (.ref aD), .unset, .unset] [(.ref aD), (.ref aI)])) (fun _ k => XS.astore X37.here hx rfl (hb hby at_15) rfl rfl (l' := #[.val (.int p0), .val (.int p1), .val (.ref aD), .val (.ref aI), .val (.ref aD), .unset, .unset]) rfl (XS.aloadN X37.here hx rfl (hb hby at_17) rfl rfl (XS.aloadN X37.here hx rfl (hb hby at_18) rfl rfl k))) ?_
      obtain ⟨_, _, ⟨T38, L38, k38, n38⟩, -, X38, ⟨Lc38, hQ38, l38, y38, z38⟩, st38⟩ := Jvm.LawKit.callS X37 hx (y := (⟨"com/example/stratgen/stratgen/model/Type", "numericResult", "(Lcom/example/stratgen/stratgen/model/Type;Lcom/example/stratgen/stratgen/model/Type;)Lcom/example/stratgen/stratgen/model/Type;"⟩ : MethodName)) hown (mvT hZ (own_w hw 8 rfl)) (mvT hZ (own_w hw 9 rfl)) (mvT hZ (own_w hw 6 rfl)) (mvT hZ (own_w hw 10 rfl)) (by decide) (backOf (W := 0) (rm2 l Z a0 hw [] aI aD aI aD h0 n0 Zs S_INT S_DOUBLE) hZ (own_w hw 10 rfl) (own_w hw 6 rfl) (by decide) (by decide)) (g := (mkF m 19 #[.val (.int p0), .val (.int p1), .val (.ref aD), .val (.ref aI), .val (.ref aD), .unset, .unset] [(.ref aD), (.ref aI)])) rfl (by rw [hml]; rfl) (argsL := [(.ref aI), (.ref aD)]) (rest := []) (lenOf pd_1 rfl) rfl (by show 2 * 0 + _ ≤ _; exact Nat.le_of_eq rfl) (hb hby at_19) (fun _ _ => ⟨rfl, eq37, (by decide : 0 + 0 ≤ _), (by decide : 0 + 0 ≤ _)⟩)
      dsimp only [Pt.U, Pt.locs, Pt.cells, Pt.slots] at X38 l38 y38 z38 st38 hQ38
      subst l38 y38 z38
      obtain ⟨hv38, Nq38, eq38⟩ := hQ38
      have hk38 : own_num aI aD aI aD = aD := by simp [own_num, ne_aI_aD, ne_aI_aB, ne_aD_aB, ne_aI_aD.symm, ne_aI_aB.symm, ne_aD_aB.symm]
      rw [hk38] at hv38
      subst hv38
      replace Nf := Fr.app Nf Nq38
      refine own_go (x' := T38.setTop (mkF m 22 #[.val (.int p0), .val (.int p1), .val (.ref aD), .val (.ref aI), .val (.ref aD), .unset, .unset] [(.ref aD)])) st38 ?_
      refine own_go (x' := T38.setTop (mkF m 33 #[.val (.int p0), .val (.int p1), .val (.ref aD), .val (.ref aI), .val (.ref aD), .val (.ref aD), .unset] [(.ref aD), (.ref aD)])) (fun _ k => XS.astore X38.here hx rfl (hb hby at_22) rfl rfl (l' := #[.val (.int p0), .val (.int p1), .val (.ref aD), .val (.ref aI), .val (.ref aD), .val (.ref aD), .unset]) rfl (XS.aload X38.here hx rfl (hb hby at_24) rfl rfl (XS.ifnullNo X38.here hx rfl (hb hby at_26) rfl (XS.aload X38.here hx rfl (hb hby at_29) rfl rfl (XS.aload X38.here hx rfl (hb hby at_31) rfl rfl k))))) ?_
      refine own_go (x' := T38.setTop (mkF m 38 #[.val (.int p0), .val (.int p1), .val (.ref aD), .val (.ref aI), .val (.ref aD), .val (.ref aD), .unset] [])) (fun _ k => Jvm.RoadKit.acmp (g := (mkF m 33 #[.val (.int p0), .val (.int p1), .val (.ref aD), .val (.ref aI), .val (.ref aD), .val (.ref aD), .unset] [(.ref aD), (.ref aD)])) X38 hx rfl rfl rfl (pc0 := 33) (pc' := 38) (same := true) rfl (hb hby at_33) rfl (decide_eq_true rfl) (by decide) (by decide) k) ?_
      refine own_go (x' := T38.setTop (mkF m 40 #[.val (.int p0), .val (.int p1), .val (.ref aD), .val (.ref aI), .val (.ref aD), .val (.ref aD), .unset] [(.ref aD)])) (fun _ k => XS.aload X38.here hx rfl (hb hby at_38) rfl rfl k) ?_
      obtain ⟨cq39, kq39, q39a, q39b, q39c⟩ := isOf hZ eq38 E_aD
      obtain ⟨_, _, ⟨T39, L39, k39, n39⟩, -, X39, ⟨Lc39, hQ39, l39, y39, z39⟩, st39⟩ := X38.virtualBack hx (y := (⟨"com/example/stratgen/stratgen/model/Type", "isNumeric", "()Z"⟩ : MethodName)) (z := (⟨"com/example/stratgen/stratgen/model/Type", "isNumeric", "()Z"⟩ : MethodName)) hown (mvT hZ (own_w hw 12 rfl)) (mvT hZ (own_w hw 13 rfl)) (notFace_of_selects (args := #[]) (mvT hZ (own_w hw 15 rfl))) (mvT hZ (own_w hw 15 rfl)) (mvT hZ (own_w hw 14 rfl)) (by decide) (backOf (W := 0) (rm3 l Z a0 hw [] aD aB h0 n0 Zs S_BOOL) hZ (own_w hw 16 rfl) (own_w hw 6 rfl) (by decide) (by decide)) q39a q39c (g := (mkF m 40 #[.val (.int p0), .val (.int p1), .val (.ref aD), .val (.ref aI), .val (.ref aD), .val (.ref aD), .unset] [(.ref aD)])) rfl (by rw [hml]; rfl) (Steps.refl _) (argsL := []) (rest := []) (lenOf pd_2 rfl) rfl (by show 2 * 0 + _ ≤ _; exact Nat.le_of_eq rfl) (hb hby at_40) (fun _ _ => ⟨rfl, eq38, (by decide : 0 + 0 ≤ _), (by decide : 0 + 0 ≤ _)⟩)
      dsimp only [Pt.U, Pt.locs, Pt.cells, Pt.slots] at X39 l39 y39 z39 st39 hQ39
      subst l39 y39 z39
      obtain ⟨hv39, Nq39, eq39⟩ := hQ39
      have hk39 : own_isn aD aB = 1 := by simp [own_isn, ne_aI_aD, ne_aI_aB, ne_aD_aB, ne_aI_aD.symm, ne_aI_aB.symm, ne_aD_aB.symm]
      rw [hk39] at hv39
      subst hv39
      replace Nf := Fr.app Nf Nq39
      refine own_go (x' := T39.setTop (mkF m 43 #[.val (.int p0), .val (.int p1), .val (.ref aD), .val (.ref aI), .val (.ref aD), .val (.ref aD), .unset] [(.int (1 : Int32))])) (fun _ k => st39.trans k) ?_
      refine own_go (x' := T39.setTop (mkF m 49 #[.val (.int p0), .val (.int p1), .val (.ref aD), .val (.ref aI), .val (.ref aD), .val (.ref aD), .unset] [(.ref aD)])) (fun _ k => XS.ifYes X39.here hx rfl (pc0 := 43) (pc' := 48) rfl (hb hby at_43) rfl ((if0 _ _).trans (feq (by decide +kernel : ¬ ((1 : Int32) = (0 : Int32)))).2) (by decide) (by decide) (XS.aloadN X39.here hx rfl (hb hby at_48) rfl rfl k)) ?_
      obtain ⟨T40, X40, e40, st40⟩ := getS2 X39 hx hZ hown (host := "") (Or.inl (own_w hw 5 rfl)) Via.refl eq39 S_INT (g := (mkF m 49 #[.val (.int p0), .val (.int p1), .val (.ref aD), .val (.ref aI), .val (.ref aD), .val (.ref aD), .unset] [(.ref aD)])) rfl (hb hby at_49)
      refine own_go (x' := T40.setTop (mkF m 52 #[.val (.int p0), .val (.int p1), .val (.ref aD), .val (.ref aI), .val (.ref aD), .val (.ref aD), .unset] [(.ref aI), (.ref aD)])) st40 ?_
      refine own_go (x' := T40.setTop (mkF m 66 #[.val (.int p0), .val (.int p1), .val (.ref aD), .val (.ref aI), .val (.ref aD), .val (.ref aD), .unset] [])) (fun _ k => Jvm.RoadKit.acmp (g := (mkF m 52 #[.val (.int p0), .val (.int p1), .val (.ref aD), .val (.ref aI), .val (.ref aD), .val (.ref aD), .unset] [(.ref aI), (.ref aD)])) X40 hx rfl rfl rfl (pc0 := 52) (pc' := 66) (same := false) rfl (hb hby at_52) rfl (decide_eq_false fun q => ne_aI_aD (Value.ref.inj q).symm) (by decide) (by decide) k) ?_
      refine own_go (x' := T40.setTop (mkF m 71 #[.val (.int p0), .val (.int p1), .val (.ref aD), .val (.ref aI), .val (.ref aD), .val (.ref aD), .val (.int (0 : Int32))] [(.ref aD)])) (fun _ k => XS.iconst X40.here hx rfl (hb hby at_66) (XS.istore X40.here hx rfl (hb hby at_67) rfl (l' := #[.val (.int p0), .val (.int p1), .val (.ref aD), .val (.ref aI), .val (.ref aD), .val (.ref aD), .val (.int (0 : Int32))]) rfl (XS.aload X40.here hx rfl (hb hby at_69) rfl rfl k))) ?_
      obtain ⟨T41, X41, e41, st41⟩ := getS2 X40 hx hZ hown (host := "") (Or.inl (own_w hw 5 rfl)) Via.refl e40 S_INT (g := (mkF m 71 #[.val (.int p0), .val (.int p1), .val (.ref aD), .val (.ref aI), .val (.ref aD), .val (.ref aD), .val (.int (0 : Int32))] [(.ref aD)])) rfl (hb hby at_71)
      refine own_go (x' := T41.setTop (mkF m 74 #[.val (.int p0), .val (.int p1), .val (.ref aD), .val (.ref aI), .val (.ref aD), .val (.ref aD), .val (.int (0 : Int32))] [(.ref aI), (.ref aD)])) st41 ?_
      refine own_go (x' := T41.setTop (mkF m 81 #[.val (.int p0), .val (.int p1), .val (.ref aD), .val (.ref aI), .val (.ref aD), .val (.ref aD), .val (.int (0 : Int32))] [])) (fun _ k => Jvm.RoadKit.acmp (g := (mkF m 74 #[.val (.int p0), .val (.int p1), .val (.ref aD), .val (.ref aI), .val (.ref aD), .val (.ref aD), .val (.int (0 : Int32))] [(.ref aI), (.ref aD)])) X41 hx rfl rfl rfl (pc0 := 74) (pc' := 81) (same := false) rfl (hb hby at_74) rfl (decide_eq_false fun q => ne_aI_aD (Value.ref.inj q).symm) (by decide) (by decide) k) ?_
      refine own_go (x' := T41.setTop (mkF m 90 #[.val (.int p0), .val (.int p1), .val (.ref aD), .val (.ref aI), .val (.ref aD), .val (.ref aD), .val (.int (0 : Int32))] [(.ref aD)])) (fun _ k => XS.iconst X41.here hx rfl (hb hby at_81) (XS.iload X41.here hx rfl (hb hby at_82) rfl (XS.icmpYes X41.here hx rfl (pc0 := 84) (pc' := 89) rfl (hb hby at_84) rfl (teq rfl).1 (by decide) (by decide) (XS.aloadN X41.here hx rfl (hb hby at_89) rfl rfl k)))) ?_
      obtain ⟨T42, X42, e42, st42⟩ := getS2 X41 hx hZ hown (host := "") (Or.inl (own_w hw 19 rfl)) Via.refl e41 S_BOOL (g := (mkF m 90 #[.val (.int p0), .val (.int p1), .val (.ref aD), .val (.ref aI), .val (.ref aD), .val (.ref aD), .val (.int (0 : Int32))] [(.ref aD)])) rfl (hb hby at_90)
      refine own_go (x' := T42.setTop (mkF m 93 #[.val (.int p0), .val (.int p1), .val (.ref aD), .val (.ref aI), .val (.ref aD), .val (.ref aD), .val (.int (0 : Int32))] [(.ref aB), (.ref aD)])) st42 ?_
      refine own_go (x' := T42.setTop (mkF m 96 #[.val (.int p0), .val (.int p1), .val (.ref aD), .val (.ref aI), .val (.ref aD), .val (.ref aD), .val (.int (0 : Int32))] [])) (fun _ k => Jvm.RoadKit.acmp (g := (mkF m 93 #[.val (.int p0), .val (.int p1), .val (.ref aD), .val (.ref aI), .val (.ref aD), .val (.ref aD), .val (.int (0 : Int32))] [(.ref aB), (.ref aD)])) X42 hx rfl rfl rfl (pc0 := 93) (pc' := 96) (same := false) rfl (hb hby at_93) rfl (decide_eq_false fun q => ne_aD_aB (Value.ref.inj q)) (by decide) (by decide) k) ?_
      refine own_go (x' := T42.setTop (mkF m 97 #[.val (.int p0), .val (.int p1), .val (.ref aD), .val (.ref aI), .val (.ref aD), .val (.ref aD), .val (.int (0 : Int32))] [(.ref aI)])) (fun _ k => XS.aloadN X42.here hx rfl (hb hby at_96) rfl rfl k) ?_
      obtain ⟨T43, X43, e43, st43⟩ := getS2 X42 hx hZ hown (host := "") (Or.inl (own_w hw 19 rfl)) Via.refl e42 S_BOOL (g := (mkF m 97 #[.val (.int p0), .val (.int p1), .val (.ref aD), .val (.ref aI), .val (.ref aD), .val (.ref aD), .val (.int (0 : Int32))] [(.ref aI)])) rfl (hb hby at_97)
      refine own_go (x' := T43.setTop (mkF m 100 #[.val (.int p0), .val (.int p1), .val (.ref aD), .val (.ref aI), .val (.ref aD), .val (.ref aD), .val (.int (0 : Int32))] [(.ref aB), (.ref aI)])) st43 ?_
      refine own_go (x' := T43.setTop (mkF m 103 #[.val (.int p0), .val (.int p1), .val (.ref aD), .val (.ref aI), .val (.ref aD), .val (.ref aD), .val (.int (0 : Int32))] [])) (fun _ k => Jvm.RoadKit.acmp (g := (mkF m 100 #[.val (.int p0), .val (.int p1), .val (.ref aD), .val (.ref aI), .val (.ref aD), .val (.ref aD), .val (.int (0 : Int32))] [(.ref aB), (.ref aI)])) X43 hx rfl rfl rfl (pc0 := 100) (pc' := 103) (same := false) rfl (hb hby at_100) rfl (decide_eq_false fun q => ne_aI_aB (Value.ref.inj q)) (by decide) (by decide) k) ?_
      refine own_go (x' := T43.setTop (mkF m 106 #[.val (.int p0), .val (.int p1), .val (.ref aD), .val (.ref aI), .val (.ref aD), .val (.ref aD), .val (.int (0 : Int32))] [(.ref aD), (.ref aD)])) (fun _ k => XS.aload X43.here hx rfl (hb hby at_103) rfl rfl (XS.aloadN X43.here hx rfl (hb hby at_105) rfl rfl k)) ?_
      obtain ⟨cq44, kq44, q44a, q44b, q44c⟩ := isOf hZ e43 E_aD
      obtain ⟨_, _, ⟨T44, L44, k44, n44⟩, -, X44, ⟨Lc44, hQ44, l44, y44, z44⟩, st44⟩ := X43.virtualBack hx (y := (⟨"com/example/stratgen/stratgen/model/Type", "accepts", "(Lcom/example/stratgen/stratgen/model/Type;)Z"⟩ : MethodName)) (z := (⟨"com/example/stratgen/stratgen/model/Type", "accepts", "(Lcom/example/stratgen/stratgen/model/Type;)Z"⟩ : MethodName)) hown (mvT hZ (own_w hw 20 rfl)) (mvT hZ (own_w hw 21 rfl)) (notFace_of_selects (args := #[]) (mvT hZ (own_w hw 23 rfl))) (mvT hZ (own_w hw 23 rfl)) (mvT hZ (own_w hw 22 rfl)) (by decide) (backOf (W := 0) (rm4 l Z a0 hw [] aD aD aI aD h0 n0 Zs S_INT S_DOUBLE) hZ (own_w hw 24 rfl) (own_w hw 6 rfl) (by decide) (by decide)) q44a q44c (g := (mkF m 106 #[.val (.int p0), .val (.int p1), .val (.ref aD), .val (.ref aI), .val (.ref aD), .val (.ref aD), .val (.int (0 : Int32))] [(.ref aD), (.ref aD)])) rfl (by rw [hml]; rfl) (Steps.refl _) (argsL := [(.ref aD)]) (rest := []) (lenOf pd_3 rfl) rfl (by show 2 * 0 + _ ≤ _; exact Nat.le_of_eq rfl) (hb hby at_106) (fun _ _ => ⟨rfl, e43, (by decide : 0 + 0 ≤ _), (by decide : 0 + 0 ≤ _)⟩)
      dsimp only [Pt.U, Pt.locs, Pt.cells, Pt.slots] at X44 l44 y44 z44 st44 hQ44
      subst l44 y44 z44
      obtain ⟨hv44, Nq44, eq44⟩ := hQ44
      have hk44 : own_acc aD aD aI aD = 1 := by simp [own_acc, ne_aI_aD, ne_aI_aB, ne_aD_aB, ne_aI_aD.symm, ne_aI_aB.symm, ne_aD_aB.symm]
      rw [hk44] at hv44
      subst hv44
      replace Nf := Fr.app Nf Nq44
      refine own_go (x' := T44.setTop (mkF m 109 #[.val (.int p0), .val (.int p1), .val (.ref aD), .val (.ref aI), .val (.ref aD), .val (.ref aD), .val (.int (0 : Int32))] [(.int (1 : Int32))])) (fun _ k => st44.trans k) ?_
      refine own_go (x' := T44.setTop (mkF m 115 #[.val (.int p0), .val (.int p1), .val (.ref aD), .val (.ref aI), .val (.ref aD), .val (.ref aD), .val (.int (0 : Int32))] [(.ref aI), (.ref aD)])) (fun _ k => XS.ifNo X44.here hx rfl (hb hby at_109) rfl ((if0 _ _).trans (feq (by decide +kernel : ¬ ((1 : Int32) = (0 : Int32)))).1) (XS.aload X44.here hx rfl (hb hby at_112) rfl rfl (XS.aloadN X44.here hx rfl (hb hby at_114) rfl rfl k))) ?_
      obtain ⟨cq45, kq45, q45a, q45b, q45c⟩ := isOf hZ eq44 E_aD
      obtain ⟨_, _, ⟨T45, L45, k45, n45⟩, -, X45, ⟨Lc45, hQ45, l45, y45, z45⟩, st45⟩ := X44.virtualBack hx (y := (⟨"com/example/stratgen/stratgen/model/Type", "accepts", "(Lcom/example/stratgen/stratgen/model/Type;)Z"⟩ : MethodName)) (z := (⟨"com/example/stratgen/stratgen/model/Type", "accepts", "(Lcom/example/stratgen/stratgen/model/Type;)Z"⟩ : MethodName)) hown (mvT hZ (own_w hw 20 rfl)) (mvT hZ (own_w hw 21 rfl)) (notFace_of_selects (args := #[]) (mvT hZ (own_w hw 23 rfl))) (mvT hZ (own_w hw 23 rfl)) (mvT hZ (own_w hw 22 rfl)) (by decide) (backOf (W := 0) (rm4 l Z a0 hw [] aD aI aI aD h0 n0 Zs S_INT S_DOUBLE) hZ (own_w hw 24 rfl) (own_w hw 6 rfl) (by decide) (by decide)) q45a q45c (g := (mkF m 115 #[.val (.int p0), .val (.int p1), .val (.ref aD), .val (.ref aI), .val (.ref aD), .val (.ref aD), .val (.int (0 : Int32))] [(.ref aI), (.ref aD)])) rfl (by rw [hml]; rfl) (Steps.refl _) (argsL := [(.ref aI)]) (rest := []) (lenOf pd_3 rfl) rfl (by show 2 * 0 + _ ≤ _; exact Nat.le_of_eq rfl) (hb hby at_115) (fun _ _ => ⟨rfl, eq44, (by decide : 0 + 0 ≤ _), (by decide : 0 + 0 ≤ _)⟩)
      dsimp only [Pt.U, Pt.locs, Pt.cells, Pt.slots] at X45 l45 y45 z45 st45 hQ45
      subst l45 y45 z45
      obtain ⟨hv45, Nq45, eq45⟩ := hQ45
      have hk45 : own_acc aD aI aI aD = 1 := by simp [own_acc, ne_aI_aD, ne_aI_aB, ne_aD_aB, ne_aI_aD.symm, ne_aI_aB.symm, ne_aD_aB.symm]
      rw [hk45] at hv45
      subst hv45
      replace Nf := Fr.app Nf Nq45
      refine own_go (x' := T45.setTop (mkF m 118 #[.val (.int p0), .val (.int p1), .val (.ref aD), .val (.ref aI), .val (.ref aD), .val (.ref aD), .val (.int (0 : Int32))] [(.int (1 : Int32))])) (fun _ k => st45.trans k) ?_
      refine own_go (x' := T45.setTop (mkF m 124 #[.val (.int p0), .val (.int p1), .val (.ref aD), .val (.ref aI), .val (.ref aD), .val (.ref aD), .val (.int (0 : Int32))] [(.int (1 : Int32))])) (fun _ k => XS.ifYes X45.here hx rfl (pc0 := 118) (pc' := 123) rfl (hb hby at_118) rfl ((if0 _ _).trans (feq (by decide +kernel : ¬ ((1 : Int32) = (0 : Int32)))).2) (by decide) (by decide) (XS.iconst X45.here hx rfl (hb hby at_123) k)) ?_
      refine own_retN X45 hx hlk (t := .boolean) hret (by simp) (hb hby at_124) (w := (1 : Int32)) rfl ?_ (by decide) (by decide)
      rw [eq45]
      exact ⟨rfl, Nf⟩
    · refine own_go (x' := s₁.setTop (mkF m 1 #[.val (.int p0), .val (.int p1), .unset, .unset, .unset, .unset, .unset] [(.int p0)])) (fun _ k => XS.iloadN X0.here hx rfl (hb hby at_0) rfl k) ?_
      obtain ⟨_, _, ⟨T46, L46, k46, n46⟩, -, X46, ⟨Lc46, hQ46, l46, y46, z46⟩, st46⟩ := Jvm.LawKit.callS X0 hx (y := (⟨"com/example/stratgen/stratgen/model/TypeNumericResultPinLaw", "pick", "(I)Lcom/example/stratgen/stratgen/model/Type;"⟩ : MethodName)) hown (mvT hZ (own_w hw 0 rfl)) (mvT hZ (own_w hw 1 rfl)) (mvT hZ (own_w hw 2 rfl)) (mvT hZ (own_w hw 3 rfl)) (by decide) (backOf (W := 0) (rm1 l Z a0 hw [] p0 aI aD aB h0 n0 Zs S_INT S_DOUBLE S_BOOL) hZ (own_w hw 3 rfl) (own_w hw 2 rfl) (by decide) (by decide)) (g := (mkF m 1 #[.val (.int p0), .val (.int p1), .unset, .unset, .unset, .unset, .unset] [(.int p0)])) rfl (by rw [hml]; rfl) (argsL := [(.int p0)]) (rest := []) (lenOf pd_0 rfl) rfl (by show 2 * 0 + _ ≤ _; exact Nat.le_of_eq rfl) (hb hby at_1) (fun _ _ => ⟨rfl, e0, (by decide : 0 + 0 ≤ _), (by decide : 0 + 0 ≤ _)⟩)
      dsimp only [Pt.U, Pt.locs, Pt.cells, Pt.slots] at X46 l46 y46 z46 st46 hQ46
      subst l46 y46 z46
      obtain ⟨hv46, Nq46, eq46⟩ := hQ46
      have hk46 : own_pick (1 : Int32) aI aD aB = aD := by first | rfl | decide
      rw [hmp0, hk46] at hv46
      subst hv46
      replace Nf := Fr.app Nf Nq46
      refine own_go (x' := T46.setTop (mkF m 4 #[.val (.int p0), .val (.int p1), .unset, .unset, .unset, .unset, .unset] [(.ref aD)])) st46 ?_
      refine own_go (x' := T46.setTop (mkF m 6 #[.val (.int p0), .val (.int p1), .val (.ref aD), .unset, .unset, .unset, .unset] [(.int p1)])) (fun _ k => XS.astoreN X46.here hx rfl (hb hby at_4) rfl rfl (l' := #[.val (.int p0), .val (.int p1), .val (.ref aD), .unset, .unset, .unset, .unset]) rfl (XS.iloadN X46.here hx rfl (hb hby at_5) rfl k)) ?_
      obtain ⟨_, _, ⟨T47, L47, k47, n47⟩, -, X47, ⟨Lc47, hQ47, l47, y47, z47⟩, st47⟩ := Jvm.LawKit.callS X46 hx (y := (⟨"com/example/stratgen/stratgen/model/TypeNumericResultPinLaw", "pick", "(I)Lcom/example/stratgen/stratgen/model/Type;"⟩ : MethodName)) hown (mvT hZ (own_w hw 0 rfl)) (mvT hZ (own_w hw 1 rfl)) (mvT hZ (own_w hw 2 rfl)) (mvT hZ (own_w hw 3 rfl)) (by decide) (backOf (W := 0) (rm1 l Z a0 hw [] p1 aI aD aB h0 n0 Zs S_INT S_DOUBLE S_BOOL) hZ (own_w hw 3 rfl) (own_w hw 2 rfl) (by decide) (by decide)) (g := (mkF m 6 #[.val (.int p0), .val (.int p1), .val (.ref aD), .unset, .unset, .unset, .unset] [(.int p1)])) rfl (by rw [hml]; rfl) (argsL := [(.int p1)]) (rest := []) (lenOf pd_0 rfl) rfl (by show 2 * 0 + _ ≤ _; exact Nat.le_of_eq rfl) (hb hby at_6) (fun _ _ => ⟨rfl, eq46, (by decide : 0 + 0 ≤ _), (by decide : 0 + 0 ≤ _)⟩)
      dsimp only [Pt.U, Pt.locs, Pt.cells, Pt.slots] at X47 l47 y47 z47 st47 hQ47
      subst l47 y47 z47
      obtain ⟨hv47, Nq47, eq47⟩ := hQ47
      have hk47 : own_pick (1 : Int32) aI aD aB = aD := by first | rfl | decide
      rw [hmp1, hk47] at hv47
      subst hv47
      replace Nf := Fr.app Nf Nq47
      refine own_go (x' := T47.setTop (mkF m 9 #[.val (.int p0), .val (.int p1), .val (.ref aD), .unset, .unset, .unset, .unset] [(.ref aD)])) st47 ?_
      refine own_go (x' := T47.setTop (mkF m 12 #[.val (.int p0), .val (.int p1), .val (.ref aD), .val (.ref aD), .unset, .unset, .unset] [(.ref aD), (.ref aD)])) (fun _ k => XS.astoreN X47.here hx rfl (hb hby at_9) rfl rfl (l' := #[.val (.int p0), .val (.int p1), .val (.ref aD), .val (.ref aD), .unset, .unset, .unset]) rfl (XS.aloadN X47.here hx rfl (hb hby at_10) rfl rfl (XS.aloadN X47.here hx rfl (hb hby at_11) rfl rfl k))) ?_
      obtain ⟨_, _, ⟨T48, L48, k48, n48⟩, -, X48, ⟨Lc48, hQ48, l48, y48, z48⟩, st48⟩ := Jvm.LawKit.callS X47 hx (y := (⟨"com/example/stratgen/stratgen/model/Type", "numericResult", "(Lcom/example/stratgen/stratgen/model/Type;Lcom/example/stratgen/stratgen/model/Type;)Lcom/example/stratgen/stratgen/model/Type;"⟩ : MethodName)) hown (mvT hZ (own_w hw 8 rfl)) (mvT hZ (own_w hw 9 rfl)) (mvT hZ (own_w hw 6 rfl)) (mvT hZ (own_w hw 10 rfl)) (by decide) (backOf (W := 0) (rm2 l Z a0 hw [] aD aD aI aD h0 n0 Zs S_INT S_DOUBLE) hZ (own_w hw 10 rfl) (own_w hw 6 rfl) (by decide) (by decide)) (g := (mkF m 12 #[.val (.int p0), .val (.int p1), .val (.ref aD), .val (.ref aD), .unset, .unset, .unset] [(.ref aD), (.ref aD)])) rfl (by rw [hml]; rfl) (argsL := [(.ref aD), (.ref aD)]) (rest := []) (lenOf pd_1 rfl) rfl (by show 2 * 0 + _ ≤ _; exact Nat.le_of_eq rfl) (hb hby at_12) (fun _ _ => ⟨rfl, eq47, (by decide : 0 + 0 ≤ _), (by decide : 0 + 0 ≤ _)⟩)
      dsimp only [Pt.U, Pt.locs, Pt.cells, Pt.slots] at X48 l48 y48 z48 st48 hQ48
      subst l48 y48 z48
      obtain ⟨hv48, Nq48, eq48⟩ := hQ48
      have hk48 : own_num aD aD aI aD = aD := by simp [own_num, ne_aI_aD, ne_aI_aB, ne_aD_aB, ne_aI_aD.symm, ne_aI_aB.symm, ne_aD_aB.symm]
      rw [hk48] at hv48
      subst hv48
      replace Nf := Fr.app Nf Nq48
      refine own_go (x' := T48.setTop (mkF m 15 #[.val (.int p0), .val (.int p1), .val (.ref aD), .val (.ref aD), .unset, .unset, .unset] [(.ref aD)])) st48 ?_
      refine own_go (x' := T48.setTop (mkF m 19 #[.val (.int p0), .val (.int p1), .val (.ref aD), .val (.ref aD), .val (.ref aD), .unset, .unset] [(.ref aD), (.ref aD)])) (fun _ k => XS.astore X48.here hx rfl (hb hby at_15) rfl rfl (l' := #[.val (.int p0), .val (.int p1), .val (.ref aD), .val (.ref aD), .val (.ref aD), .unset, .unset]) rfl (XS.aloadN X48.here hx rfl (hb hby at_17) rfl rfl (XS.aloadN X48.here hx rfl (hb hby at_18) rfl rfl k))) ?_
      obtain ⟨_, _, ⟨T49, L49, k49, n49⟩, -, X49, ⟨Lc49, hQ49, l49, y49, z49⟩, st49⟩ := Jvm.LawKit.callS X48 hx (y := (⟨"com/example/stratgen/stratgen/model/Type", "numericResult", "(Lcom/example/stratgen/stratgen/model/Type;Lcom/example/stratgen/stratgen/model/Type;)Lcom/example/stratgen/stratgen/model/Type;"⟩ : MethodName)) hown (mvT hZ (own_w hw 8 rfl)) (mvT hZ (own_w hw 9 rfl)) (mvT hZ (own_w hw 6 rfl)) (mvT hZ (own_w hw 10 rfl)) (by decide) (backOf (W := 0) (rm2 l Z a0 hw [] aD aD aI aD h0 n0 Zs S_INT S_DOUBLE) hZ (own_w hw 10 rfl) (own_w hw 6 rfl) (by decide) (by decide)) (g := (mkF m 19 #[.val (.int p0), .val (.int p1), .val (.ref aD), .val (.ref aD), .val (.ref aD), .unset, .unset] [(.ref aD), (.ref aD)])) rfl (by rw [hml]; rfl) (argsL := [(.ref aD), (.ref aD)]) (rest := []) (lenOf pd_1 rfl) rfl (by show 2 * 0 + _ ≤ _; exact Nat.le_of_eq rfl) (hb hby at_19) (fun _ _ => ⟨rfl, eq48, (by decide : 0 + 0 ≤ _), (by decide : 0 + 0 ≤ _)⟩)
      dsimp only [Pt.U, Pt.locs, Pt.cells, Pt.slots] at X49 l49 y49 z49 st49 hQ49
      subst l49 y49 z49
      obtain ⟨hv49, Nq49, eq49⟩ := hQ49
      have hk49 : own_num aD aD aI aD = aD := by simp [own_num, ne_aI_aD, ne_aI_aB, ne_aD_aB, ne_aI_aD.symm, ne_aI_aB.symm, ne_aD_aB.symm]
      rw [hk49] at hv49
      subst hv49
      replace Nf := Fr.app Nf Nq49
      refine own_go (x' := T49.setTop (mkF m 22 #[.val (.int p0), .val (.int p1), .val (.ref aD), .val (.ref aD), .val (.ref aD), .unset, .unset] [(.ref aD)])) st49 ?_
      refine own_go (x' := T49.setTop (mkF m 33 #[.val (.int p0), .val (.int p1), .val (.ref aD), .val (.ref aD), .val (.ref aD), .val (.ref aD), .unset] [(.ref aD), (.ref aD)])) (fun _ k => XS.astore X49.here hx rfl (hb hby at_22) rfl rfl (l' := #[.val (.int p0), .val (.int p1), .val (.ref aD), .val (.ref aD), .val (.ref aD), .val (.ref aD), .unset]) rfl (XS.aload X49.here hx rfl (hb hby at_24) rfl rfl (XS.ifnullNo X49.here hx rfl (hb hby at_26) rfl (XS.aload X49.here hx rfl (hb hby at_29) rfl rfl (XS.aload X49.here hx rfl (hb hby at_31) rfl rfl k))))) ?_
      refine own_go (x' := T49.setTop (mkF m 38 #[.val (.int p0), .val (.int p1), .val (.ref aD), .val (.ref aD), .val (.ref aD), .val (.ref aD), .unset] [])) (fun _ k => Jvm.RoadKit.acmp (g := (mkF m 33 #[.val (.int p0), .val (.int p1), .val (.ref aD), .val (.ref aD), .val (.ref aD), .val (.ref aD), .unset] [(.ref aD), (.ref aD)])) X49 hx rfl rfl rfl (pc0 := 33) (pc' := 38) (same := true) rfl (hb hby at_33) rfl (decide_eq_true rfl) (by decide) (by decide) k) ?_
      refine own_go (x' := T49.setTop (mkF m 40 #[.val (.int p0), .val (.int p1), .val (.ref aD), .val (.ref aD), .val (.ref aD), .val (.ref aD), .unset] [(.ref aD)])) (fun _ k => XS.aload X49.here hx rfl (hb hby at_38) rfl rfl k) ?_
      obtain ⟨cq50, kq50, q50a, q50b, q50c⟩ := isOf hZ eq49 E_aD
      obtain ⟨_, _, ⟨T50, L50, k50, n50⟩, -, X50, ⟨Lc50, hQ50, l50, y50, z50⟩, st50⟩ := X49.virtualBack hx (y := (⟨"com/example/stratgen/stratgen/model/Type", "isNumeric", "()Z"⟩ : MethodName)) (z := (⟨"com/example/stratgen/stratgen/model/Type", "isNumeric", "()Z"⟩ : MethodName)) hown (mvT hZ (own_w hw 12 rfl)) (mvT hZ (own_w hw 13 rfl)) (notFace_of_selects (args := #[]) (mvT hZ (own_w hw 15 rfl))) (mvT hZ (own_w hw 15 rfl)) (mvT hZ (own_w hw 14 rfl)) (by decide) (backOf (W := 0) (rm3 l Z a0 hw [] aD aB h0 n0 Zs S_BOOL) hZ (own_w hw 16 rfl) (own_w hw 6 rfl) (by decide) (by decide)) q50a q50c (g := (mkF m 40 #[.val (.int p0), .val (.int p1), .val (.ref aD), .val (.ref aD), .val (.ref aD), .val (.ref aD), .unset] [(.ref aD)])) rfl (by rw [hml]; rfl) (Steps.refl _) (argsL := []) (rest := []) (lenOf pd_2 rfl) rfl (by show 2 * 0 + _ ≤ _; exact Nat.le_of_eq rfl) (hb hby at_40) (fun _ _ => ⟨rfl, eq49, (by decide : 0 + 0 ≤ _), (by decide : 0 + 0 ≤ _)⟩)
      dsimp only [Pt.U, Pt.locs, Pt.cells, Pt.slots] at X50 l50 y50 z50 st50 hQ50
      subst l50 y50 z50
      obtain ⟨hv50, Nq50, eq50⟩ := hQ50
      have hk50 : own_isn aD aB = 1 := by simp [own_isn, ne_aI_aD, ne_aI_aB, ne_aD_aB, ne_aI_aD.symm, ne_aI_aB.symm, ne_aD_aB.symm]
      rw [hk50] at hv50
      subst hv50
      replace Nf := Fr.app Nf Nq50
      refine own_go (x' := T50.setTop (mkF m 43 #[.val (.int p0), .val (.int p1), .val (.ref aD), .val (.ref aD), .val (.ref aD), .val (.ref aD), .unset] [(.int (1 : Int32))])) (fun _ k => st50.trans k) ?_
      refine own_go (x' := T50.setTop (mkF m 49 #[.val (.int p0), .val (.int p1), .val (.ref aD), .val (.ref aD), .val (.ref aD), .val (.ref aD), .unset] [(.ref aD)])) (fun _ k => XS.ifYes X50.here hx rfl (pc0 := 43) (pc' := 48) rfl (hb hby at_43) rfl ((if0 _ _).trans (feq (by decide +kernel : ¬ ((1 : Int32) = (0 : Int32)))).2) (by decide) (by decide) (XS.aloadN X50.here hx rfl (hb hby at_48) rfl rfl k)) ?_
      obtain ⟨T51, X51, e51, st51⟩ := getS2 X50 hx hZ hown (host := "") (Or.inl (own_w hw 5 rfl)) Via.refl eq50 S_INT (g := (mkF m 49 #[.val (.int p0), .val (.int p1), .val (.ref aD), .val (.ref aD), .val (.ref aD), .val (.ref aD), .unset] [(.ref aD)])) rfl (hb hby at_49)
      refine own_go (x' := T51.setTop (mkF m 52 #[.val (.int p0), .val (.int p1), .val (.ref aD), .val (.ref aD), .val (.ref aD), .val (.ref aD), .unset] [(.ref aI), (.ref aD)])) st51 ?_
      refine own_go (x' := T51.setTop (mkF m 66 #[.val (.int p0), .val (.int p1), .val (.ref aD), .val (.ref aD), .val (.ref aD), .val (.ref aD), .unset] [])) (fun _ k => Jvm.RoadKit.acmp (g := (mkF m 52 #[.val (.int p0), .val (.int p1), .val (.ref aD), .val (.ref aD), .val (.ref aD), .val (.ref aD), .unset] [(.ref aI), (.ref aD)])) X51 hx rfl rfl rfl (pc0 := 52) (pc' := 66) (same := false) rfl (hb hby at_52) rfl (decide_eq_false fun q => ne_aI_aD (Value.ref.inj q).symm) (by decide) (by decide) k) ?_
      refine own_go (x' := T51.setTop (mkF m 71 #[.val (.int p0), .val (.int p1), .val (.ref aD), .val (.ref aD), .val (.ref aD), .val (.ref aD), .val (.int (0 : Int32))] [(.ref aD)])) (fun _ k => XS.iconst X51.here hx rfl (hb hby at_66) (XS.istore X51.here hx rfl (hb hby at_67) rfl (l' := #[.val (.int p0), .val (.int p1), .val (.ref aD), .val (.ref aD), .val (.ref aD), .val (.ref aD), .val (.int (0 : Int32))]) rfl (XS.aload X51.here hx rfl (hb hby at_69) rfl rfl k))) ?_
      obtain ⟨T52, X52, e52, st52⟩ := getS2 X51 hx hZ hown (host := "") (Or.inl (own_w hw 5 rfl)) Via.refl e51 S_INT (g := (mkF m 71 #[.val (.int p0), .val (.int p1), .val (.ref aD), .val (.ref aD), .val (.ref aD), .val (.ref aD), .val (.int (0 : Int32))] [(.ref aD)])) rfl (hb hby at_71)
      refine own_go (x' := T52.setTop (mkF m 74 #[.val (.int p0), .val (.int p1), .val (.ref aD), .val (.ref aD), .val (.ref aD), .val (.ref aD), .val (.int (0 : Int32))] [(.ref aI), (.ref aD)])) st52 ?_
      refine own_go (x' := T52.setTop (mkF m 81 #[.val (.int p0), .val (.int p1), .val (.ref aD), .val (.ref aD), .val (.ref aD), .val (.ref aD), .val (.int (0 : Int32))] [])) (fun _ k => Jvm.RoadKit.acmp (g := (mkF m 74 #[.val (.int p0), .val (.int p1), .val (.ref aD), .val (.ref aD), .val (.ref aD), .val (.ref aD), .val (.int (0 : Int32))] [(.ref aI), (.ref aD)])) X52 hx rfl rfl rfl (pc0 := 74) (pc' := 81) (same := false) rfl (hb hby at_74) rfl (decide_eq_false fun q => ne_aI_aD (Value.ref.inj q).symm) (by decide) (by decide) k) ?_
      refine own_go (x' := T52.setTop (mkF m 90 #[.val (.int p0), .val (.int p1), .val (.ref aD), .val (.ref aD), .val (.ref aD), .val (.ref aD), .val (.int (0 : Int32))] [(.ref aD)])) (fun _ k => XS.iconst X52.here hx rfl (hb hby at_81) (XS.iload X52.here hx rfl (hb hby at_82) rfl (XS.icmpYes X52.here hx rfl (pc0 := 84) (pc' := 89) rfl (hb hby at_84) rfl (teq rfl).1 (by decide) (by decide) (XS.aloadN X52.here hx rfl (hb hby at_89) rfl rfl k)))) ?_
      obtain ⟨T53, X53, e53, st53⟩ := getS2 X52 hx hZ hown (host := "") (Or.inl (own_w hw 19 rfl)) Via.refl e52 S_BOOL (g := (mkF m 90 #[.val (.int p0), .val (.int p1), .val (.ref aD), .val (.ref aD), .val (.ref aD), .val (.ref aD), .val (.int (0 : Int32))] [(.ref aD)])) rfl (hb hby at_90)
      refine own_go (x' := T53.setTop (mkF m 93 #[.val (.int p0), .val (.int p1), .val (.ref aD), .val (.ref aD), .val (.ref aD), .val (.ref aD), .val (.int (0 : Int32))] [(.ref aB), (.ref aD)])) st53 ?_
      refine own_go (x' := T53.setTop (mkF m 96 #[.val (.int p0), .val (.int p1), .val (.ref aD), .val (.ref aD), .val (.ref aD), .val (.ref aD), .val (.int (0 : Int32))] [])) (fun _ k => Jvm.RoadKit.acmp (g := (mkF m 93 #[.val (.int p0), .val (.int p1), .val (.ref aD), .val (.ref aD), .val (.ref aD), .val (.ref aD), .val (.int (0 : Int32))] [(.ref aB), (.ref aD)])) X53 hx rfl rfl rfl (pc0 := 93) (pc' := 96) (same := false) rfl (hb hby at_93) rfl (decide_eq_false fun q => ne_aD_aB (Value.ref.inj q)) (by decide) (by decide) k) ?_
      refine own_go (x' := T53.setTop (mkF m 97 #[.val (.int p0), .val (.int p1), .val (.ref aD), .val (.ref aD), .val (.ref aD), .val (.ref aD), .val (.int (0 : Int32))] [(.ref aD)])) (fun _ k => XS.aloadN X53.here hx rfl (hb hby at_96) rfl rfl k) ?_
      obtain ⟨T54, X54, e54, st54⟩ := getS2 X53 hx hZ hown (host := "") (Or.inl (own_w hw 19 rfl)) Via.refl e53 S_BOOL (g := (mkF m 97 #[.val (.int p0), .val (.int p1), .val (.ref aD), .val (.ref aD), .val (.ref aD), .val (.ref aD), .val (.int (0 : Int32))] [(.ref aD)])) rfl (hb hby at_97)
      refine own_go (x' := T54.setTop (mkF m 100 #[.val (.int p0), .val (.int p1), .val (.ref aD), .val (.ref aD), .val (.ref aD), .val (.ref aD), .val (.int (0 : Int32))] [(.ref aB), (.ref aD)])) st54 ?_
      refine own_go (x' := T54.setTop (mkF m 103 #[.val (.int p0), .val (.int p1), .val (.ref aD), .val (.ref aD), .val (.ref aD), .val (.ref aD), .val (.int (0 : Int32))] [])) (fun _ k => Jvm.RoadKit.acmp (g := (mkF m 100 #[.val (.int p0), .val (.int p1), .val (.ref aD), .val (.ref aD), .val (.ref aD), .val (.ref aD), .val (.int (0 : Int32))] [(.ref aB), (.ref aD)])) X54 hx rfl rfl rfl (pc0 := 100) (pc' := 103) (same := false) rfl (hb hby at_100) rfl (decide_eq_false fun q => ne_aD_aB (Value.ref.inj q)) (by decide) (by decide) k) ?_
      refine own_go (x' := T54.setTop (mkF m 106 #[.val (.int p0), .val (.int p1), .val (.ref aD), .val (.ref aD), .val (.ref aD), .val (.ref aD), .val (.int (0 : Int32))] [(.ref aD), (.ref aD)])) (fun _ k => XS.aload X54.here hx rfl (hb hby at_103) rfl rfl (XS.aloadN X54.here hx rfl (hb hby at_105) rfl rfl k)) ?_
      obtain ⟨cq55, kq55, q55a, q55b, q55c⟩ := isOf hZ e54 E_aD
      obtain ⟨_, _, ⟨T55, L55, k55, n55⟩, -, X55, ⟨Lc55, hQ55, l55, y55, z55⟩, st55⟩ := X54.virtualBack hx (y := (⟨"com/example/stratgen/stratgen/model/Type", "accepts", "(Lcom/example/stratgen/stratgen/model/Type;)Z"⟩ : MethodName)) (z := (⟨"com/example/stratgen/stratgen/model/Type", "accepts", "(Lcom/example/stratgen/stratgen/model/Type;)Z"⟩ : MethodName)) hown (mvT hZ (own_w hw 20 rfl)) (mvT hZ (own_w hw 21 rfl)) (notFace_of_selects (args := #[]) (mvT hZ (own_w hw 23 rfl))) (mvT hZ (own_w hw 23 rfl)) (mvT hZ (own_w hw 22 rfl)) (by decide) (backOf (W := 0) (rm4 l Z a0 hw [] aD aD aI aD h0 n0 Zs S_INT S_DOUBLE) hZ (own_w hw 24 rfl) (own_w hw 6 rfl) (by decide) (by decide)) q55a q55c (g := (mkF m 106 #[.val (.int p0), .val (.int p1), .val (.ref aD), .val (.ref aD), .val (.ref aD), .val (.ref aD), .val (.int (0 : Int32))] [(.ref aD), (.ref aD)])) rfl (by rw [hml]; rfl) (Steps.refl _) (argsL := [(.ref aD)]) (rest := []) (lenOf pd_3 rfl) rfl (by show 2 * 0 + _ ≤ _; exact Nat.le_of_eq rfl) (hb hby at_106) (fun _ _ => ⟨rfl, e54, (by decide : 0 + 0 ≤ _), (by decide : 0 + 0 ≤ _)⟩)
      dsimp only [Pt.U, Pt.locs, Pt.cells, Pt.slots] at X55 l55 y55 z55 st55 hQ55
      subst l55 y55 z55
      obtain ⟨hv55, Nq55, eq55⟩ := hQ55
      have hk55 : own_acc aD aD aI aD = 1 := by simp [own_acc, ne_aI_aD, ne_aI_aB, ne_aD_aB, ne_aI_aD.symm, ne_aI_aB.symm, ne_aD_aB.symm]
      rw [hk55] at hv55
      subst hv55
      replace Nf := Fr.app Nf Nq55
      refine own_go (x' := T55.setTop (mkF m 109 #[.val (.int p0), .val (.int p1), .val (.ref aD), .val (.ref aD), .val (.ref aD), .val (.ref aD), .val (.int (0 : Int32))] [(.int (1 : Int32))])) (fun _ k => st55.trans k) ?_
      refine own_go (x' := T55.setTop (mkF m 115 #[.val (.int p0), .val (.int p1), .val (.ref aD), .val (.ref aD), .val (.ref aD), .val (.ref aD), .val (.int (0 : Int32))] [(.ref aD), (.ref aD)])) (fun _ k => XS.ifNo X55.here hx rfl (hb hby at_109) rfl ((if0 _ _).trans (feq (by decide +kernel : ¬ ((1 : Int32) = (0 : Int32)))).1) (XS.aload X55.here hx rfl (hb hby at_112) rfl rfl (XS.aloadN X55.here hx rfl (hb hby at_114) rfl rfl k))) ?_
      obtain ⟨cq56, kq56, q56a, q56b, q56c⟩ := isOf hZ eq55 E_aD
      obtain ⟨_, _, ⟨T56, L56, k56, n56⟩, -, X56, ⟨Lc56, hQ56, l56, y56, z56⟩, st56⟩ := X55.virtualBack hx (y := (⟨"com/example/stratgen/stratgen/model/Type", "accepts", "(Lcom/example/stratgen/stratgen/model/Type;)Z"⟩ : MethodName)) (z := (⟨"com/example/stratgen/stratgen/model/Type", "accepts", "(Lcom/example/stratgen/stratgen/model/Type;)Z"⟩ : MethodName)) hown (mvT hZ (own_w hw 20 rfl)) (mvT hZ (own_w hw 21 rfl)) (notFace_of_selects (args := #[]) (mvT hZ (own_w hw 23 rfl))) (mvT hZ (own_w hw 23 rfl)) (mvT hZ (own_w hw 22 rfl)) (by decide) (backOf (W := 0) (rm4 l Z a0 hw [] aD aD aI aD h0 n0 Zs S_INT S_DOUBLE) hZ (own_w hw 24 rfl) (own_w hw 6 rfl) (by decide) (by decide)) q56a q56c (g := (mkF m 115 #[.val (.int p0), .val (.int p1), .val (.ref aD), .val (.ref aD), .val (.ref aD), .val (.ref aD), .val (.int (0 : Int32))] [(.ref aD), (.ref aD)])) rfl (by rw [hml]; rfl) (Steps.refl _) (argsL := [(.ref aD)]) (rest := []) (lenOf pd_3 rfl) rfl (by show 2 * 0 + _ ≤ _; exact Nat.le_of_eq rfl) (hb hby at_115) (fun _ _ => ⟨rfl, eq55, (by decide : 0 + 0 ≤ _), (by decide : 0 + 0 ≤ _)⟩)
      dsimp only [Pt.U, Pt.locs, Pt.cells, Pt.slots] at X56 l56 y56 z56 st56 hQ56
      subst l56 y56 z56
      obtain ⟨hv56, Nq56, eq56⟩ := hQ56
      have hk56 : own_acc aD aD aI aD = 1 := by simp [own_acc, ne_aI_aD, ne_aI_aB, ne_aD_aB, ne_aI_aD.symm, ne_aI_aB.symm, ne_aD_aB.symm]
      rw [hk56] at hv56
      subst hv56
      replace Nf := Fr.app Nf Nq56
      refine own_go (x' := T56.setTop (mkF m 118 #[.val (.int p0), .val (.int p1), .val (.ref aD), .val (.ref aD), .val (.ref aD), .val (.ref aD), .val (.int (0 : Int32))] [(.int (1 : Int32))])) (fun _ k => st56.trans k) ?_
      refine own_go (x' := T56.setTop (mkF m 124 #[.val (.int p0), .val (.int p1), .val (.ref aD), .val (.ref aD), .val (.ref aD), .val (.ref aD), .val (.int (0 : Int32))] [(.int (1 : Int32))])) (fun _ k => XS.ifYes X56.here hx rfl (pc0 := 118) (pc' := 123) rfl (hb hby at_118) rfl ((if0 _ _).trans (feq (by decide +kernel : ¬ ((1 : Int32) = (0 : Int32)))).2) (by decide) (by decide) (XS.iconst X56.here hx rfl (hb hby at_123) k)) ?_
      refine own_retN X56 hx hlk (t := .boolean) hret (by simp) (hb hby at_124) (w := (1 : Int32)) rfl ?_ (by decide) (by decide)
      rw [eq56]
      exact ⟨rfl, Nf⟩
    · refine own_go (x' := s₁.setTop (mkF m 1 #[.val (.int p0), .val (.int p1), .unset, .unset, .unset, .unset, .unset] [(.int p0)])) (fun _ k => XS.iloadN X0.here hx rfl (hb hby at_0) rfl k) ?_
      obtain ⟨_, _, ⟨T57, L57, k57, n57⟩, -, X57, ⟨Lc57, hQ57, l57, y57, z57⟩, st57⟩ := Jvm.LawKit.callS X0 hx (y := (⟨"com/example/stratgen/stratgen/model/TypeNumericResultPinLaw", "pick", "(I)Lcom/example/stratgen/stratgen/model/Type;"⟩ : MethodName)) hown (mvT hZ (own_w hw 0 rfl)) (mvT hZ (own_w hw 1 rfl)) (mvT hZ (own_w hw 2 rfl)) (mvT hZ (own_w hw 3 rfl)) (by decide) (backOf (W := 0) (rm1 l Z a0 hw [] p0 aI aD aB h0 n0 Zs S_INT S_DOUBLE S_BOOL) hZ (own_w hw 3 rfl) (own_w hw 2 rfl) (by decide) (by decide)) (g := (mkF m 1 #[.val (.int p0), .val (.int p1), .unset, .unset, .unset, .unset, .unset] [(.int p0)])) rfl (by rw [hml]; rfl) (argsL := [(.int p0)]) (rest := []) (lenOf pd_0 rfl) rfl (by show 2 * 0 + _ ≤ _; exact Nat.le_of_eq rfl) (hb hby at_1) (fun _ _ => ⟨rfl, e0, (by decide : 0 + 0 ≤ _), (by decide : 0 + 0 ≤ _)⟩)
      dsimp only [Pt.U, Pt.locs, Pt.cells, Pt.slots] at X57 l57 y57 z57 st57 hQ57
      subst l57 y57 z57
      obtain ⟨hv57, Nq57, eq57⟩ := hQ57
      have hk57 : own_pick (1 : Int32) aI aD aB = aD := by first | rfl | decide
      rw [hmp0, hk57] at hv57
      subst hv57
      replace Nf := Fr.app Nf Nq57
      refine own_go (x' := T57.setTop (mkF m 4 #[.val (.int p0), .val (.int p1), .unset, .unset, .unset, .unset, .unset] [(.ref aD)])) st57 ?_
      refine own_go (x' := T57.setTop (mkF m 6 #[.val (.int p0), .val (.int p1), .val (.ref aD), .unset, .unset, .unset, .unset] [(.int p1)])) (fun _ k => XS.astoreN X57.here hx rfl (hb hby at_4) rfl rfl (l' := #[.val (.int p0), .val (.int p1), .val (.ref aD), .unset, .unset, .unset, .unset]) rfl (XS.iloadN X57.here hx rfl (hb hby at_5) rfl k)) ?_
      obtain ⟨_, _, ⟨T58, L58, k58, n58⟩, -, X58, ⟨Lc58, hQ58, l58, y58, z58⟩, st58⟩ := Jvm.LawKit.callS X57 hx (y := (⟨"com/example/stratgen/stratgen/model/TypeNumericResultPinLaw", "pick", "(I)Lcom/example/stratgen/stratgen/model/Type;"⟩ : MethodName)) hown (mvT hZ (own_w hw 0 rfl)) (mvT hZ (own_w hw 1 rfl)) (mvT hZ (own_w hw 2 rfl)) (mvT hZ (own_w hw 3 rfl)) (by decide) (backOf (W := 0) (rm1 l Z a0 hw [] p1 aI aD aB h0 n0 Zs S_INT S_DOUBLE S_BOOL) hZ (own_w hw 3 rfl) (own_w hw 2 rfl) (by decide) (by decide)) (g := (mkF m 6 #[.val (.int p0), .val (.int p1), .val (.ref aD), .unset, .unset, .unset, .unset] [(.int p1)])) rfl (by rw [hml]; rfl) (argsL := [(.int p1)]) (rest := []) (lenOf pd_0 rfl) rfl (by show 2 * 0 + _ ≤ _; exact Nat.le_of_eq rfl) (hb hby at_6) (fun _ _ => ⟨rfl, eq57, (by decide : 0 + 0 ≤ _), (by decide : 0 + 0 ≤ _)⟩)
      dsimp only [Pt.U, Pt.locs, Pt.cells, Pt.slots] at X58 l58 y58 z58 st58 hQ58
      subst l58 y58 z58
      obtain ⟨hv58, Nq58, eq58⟩ := hQ58
      have hk58 : own_pick (2 : Int32) aI aD aB = aB := by first | rfl | decide
      rw [hmp1, hk58] at hv58
      subst hv58
      replace Nf := Fr.app Nf Nq58
      refine own_go (x' := T58.setTop (mkF m 9 #[.val (.int p0), .val (.int p1), .val (.ref aD), .unset, .unset, .unset, .unset] [(.ref aB)])) st58 ?_
      refine own_go (x' := T58.setTop (mkF m 12 #[.val (.int p0), .val (.int p1), .val (.ref aD), .val (.ref aB), .unset, .unset, .unset] [(.ref aB), (.ref aD)])) (fun _ k => XS.astoreN X58.here hx rfl (hb hby at_9) rfl rfl (l' := #[.val (.int p0), .val (.int p1), .val (.ref aD), .val (.ref aB), .unset, .unset, .unset]) rfl (XS.aloadN X58.here hx rfl (hb hby at_10) rfl rfl (XS.aloadN X58.here hx rfl (hb hby at_11) rfl rfl k))) ?_
      obtain ⟨_, _, ⟨T59, L59, k59, n59⟩, -, X59, ⟨Lc59, hQ59, l59, y59, z59⟩, st59⟩ := Jvm.LawKit.callS X58 hx (y := (⟨"com/example/stratgen/stratgen/model/Type", "numericResult", "(Lcom/example/stratgen/stratgen/model/Type;Lcom/example/stratgen/stratgen/model/Type;)Lcom/example/stratgen/stratgen/model/Type;"⟩ : MethodName)) hown (mvT hZ (own_w hw 8 rfl)) (mvT hZ (own_w hw 9 rfl)) (mvT hZ (own_w hw 6 rfl)) (mvT hZ (own_w hw 10 rfl)) (by decide) (backOf (W := 0) (rm2 l Z a0 hw [] aD aB aI aD h0 n0 Zs S_INT S_DOUBLE) hZ (own_w hw 10 rfl) (own_w hw 6 rfl) (by decide) (by decide)) (g := (mkF m 12 #[.val (.int p0), .val (.int p1), .val (.ref aD), .val (.ref aB), .unset, .unset, .unset] [(.ref aB), (.ref aD)])) rfl (by rw [hml]; rfl) (argsL := [(.ref aD), (.ref aB)]) (rest := []) (lenOf pd_1 rfl) rfl (by show 2 * 0 + _ ≤ _; exact Nat.le_of_eq rfl) (hb hby at_12) (fun _ _ => ⟨rfl, eq58, (by decide : 0 + 0 ≤ _), (by decide : 0 + 0 ≤ _)⟩)
      dsimp only [Pt.U, Pt.locs, Pt.cells, Pt.slots] at X59 l59 y59 z59 st59 hQ59
      subst l59 y59 z59
      obtain ⟨hv59, Nq59, eq59⟩ := hQ59
      have hk59 : own_num aD aB aI aD = aD := by simp [own_num, ne_aI_aD, ne_aI_aB, ne_aD_aB, ne_aI_aD.symm, ne_aI_aB.symm, ne_aD_aB.symm]
      rw [hk59] at hv59
      subst hv59
      replace Nf := Fr.app Nf Nq59
      refine own_go (x' := T59.setTop (mkF m 15 #[.val (.int p0), .val (.int p1), .val (.ref aD), .val (.ref aB), .unset, .unset, .unset] [(.ref aD)])) st59 ?_
      refine own_go (x' := T59.setTop (mkF m 19 #[.val (.int p0), .val (.int p1), .val (.ref aD), .val (.ref aB), .val (.ref aD), .unset, .unset] [(.ref aD), (.ref aB)])) (fun _ k => XS.astore X59.here hx rfl (hb hby at_15) rfl rfl (l' := #[.val (.int p0), .val (.int p1), .val (.ref aD), .val (.ref aB), .val (.ref aD), .unset, .unset]) rfl (XS.aloadN X59.here hx rfl (hb hby at_17) rfl rfl (XS.aloadN X59.here hx rfl (hb hby at_18) rfl rfl k))) ?_
      obtain ⟨_, _, ⟨T60, L60, k60, n60⟩, -, X60, ⟨Lc60, hQ60, l60, y60, z60⟩, st60⟩ := Jvm.LawKit.callS X59 hx (y := (⟨"com/example/stratgen/stratgen/model/Type", "numericResult", "(Lcom/example/stratgen/stratgen/model/Type;Lcom/example/stratgen/stratgen/model/Type;)Lcom/example/stratgen/stratgen/model/Type;"⟩ : MethodName)) hown (mvT hZ (own_w hw 8 rfl)) (mvT hZ (own_w hw 9 rfl)) (mvT hZ (own_w hw 6 rfl)) (mvT hZ (own_w hw 10 rfl)) (by decide) (backOf (W := 0) (rm2 l Z a0 hw [] aB aD aI aD h0 n0 Zs S_INT S_DOUBLE) hZ (own_w hw 10 rfl) (own_w hw 6 rfl) (by decide) (by decide)) (g := (mkF m 19 #[.val (.int p0), .val (.int p1), .val (.ref aD), .val (.ref aB), .val (.ref aD), .unset, .unset] [(.ref aD), (.ref aB)])) rfl (by rw [hml]; rfl) (argsL := [(.ref aB), (.ref aD)]) (rest := []) (lenOf pd_1 rfl) rfl (by show 2 * 0 + _ ≤ _; exact Nat.le_of_eq rfl) (hb hby at_19) (fun _ _ => ⟨rfl, eq59, (by decide : 0 + 0 ≤ _), (by decide : 0 + 0 ≤ _)⟩)
      dsimp only [Pt.U, Pt.locs, Pt.cells, Pt.slots] at X60 l60 y60 z60 st60 hQ60
      subst l60 y60 z60
      obtain ⟨hv60, Nq60, eq60⟩ := hQ60
      have hk60 : own_num aB aD aI aD = aD := by simp [own_num, ne_aI_aD, ne_aI_aB, ne_aD_aB, ne_aI_aD.symm, ne_aI_aB.symm, ne_aD_aB.symm]
      rw [hk60] at hv60
      subst hv60
      replace Nf := Fr.app Nf Nq60
      refine own_go (x' := T60.setTop (mkF m 22 #[.val (.int p0), .val (.int p1), .val (.ref aD), .val (.ref aB), .val (.ref aD), .unset, .unset] [(.ref aD)])) st60 ?_
      refine own_go (x' := T60.setTop (mkF m 33 #[.val (.int p0), .val (.int p1), .val (.ref aD), .val (.ref aB), .val (.ref aD), .val (.ref aD), .unset] [(.ref aD), (.ref aD)])) (fun _ k => XS.astore X60.here hx rfl (hb hby at_22) rfl rfl (l' := #[.val (.int p0), .val (.int p1), .val (.ref aD), .val (.ref aB), .val (.ref aD), .val (.ref aD), .unset]) rfl (XS.aload X60.here hx rfl (hb hby at_24) rfl rfl (XS.ifnullNo X60.here hx rfl (hb hby at_26) rfl (XS.aload X60.here hx rfl (hb hby at_29) rfl rfl (XS.aload X60.here hx rfl (hb hby at_31) rfl rfl k))))) ?_
      refine own_go (x' := T60.setTop (mkF m 38 #[.val (.int p0), .val (.int p1), .val (.ref aD), .val (.ref aB), .val (.ref aD), .val (.ref aD), .unset] [])) (fun _ k => Jvm.RoadKit.acmp (g := (mkF m 33 #[.val (.int p0), .val (.int p1), .val (.ref aD), .val (.ref aB), .val (.ref aD), .val (.ref aD), .unset] [(.ref aD), (.ref aD)])) X60 hx rfl rfl rfl (pc0 := 33) (pc' := 38) (same := true) rfl (hb hby at_33) rfl (decide_eq_true rfl) (by decide) (by decide) k) ?_
      refine own_go (x' := T60.setTop (mkF m 40 #[.val (.int p0), .val (.int p1), .val (.ref aD), .val (.ref aB), .val (.ref aD), .val (.ref aD), .unset] [(.ref aD)])) (fun _ k => XS.aload X60.here hx rfl (hb hby at_38) rfl rfl k) ?_
      obtain ⟨cq61, kq61, q61a, q61b, q61c⟩ := isOf hZ eq60 E_aD
      obtain ⟨_, _, ⟨T61, L61, k61, n61⟩, -, X61, ⟨Lc61, hQ61, l61, y61, z61⟩, st61⟩ := X60.virtualBack hx (y := (⟨"com/example/stratgen/stratgen/model/Type", "isNumeric", "()Z"⟩ : MethodName)) (z := (⟨"com/example/stratgen/stratgen/model/Type", "isNumeric", "()Z"⟩ : MethodName)) hown (mvT hZ (own_w hw 12 rfl)) (mvT hZ (own_w hw 13 rfl)) (notFace_of_selects (args := #[]) (mvT hZ (own_w hw 15 rfl))) (mvT hZ (own_w hw 15 rfl)) (mvT hZ (own_w hw 14 rfl)) (by decide) (backOf (W := 0) (rm3 l Z a0 hw [] aD aB h0 n0 Zs S_BOOL) hZ (own_w hw 16 rfl) (own_w hw 6 rfl) (by decide) (by decide)) q61a q61c (g := (mkF m 40 #[.val (.int p0), .val (.int p1), .val (.ref aD), .val (.ref aB), .val (.ref aD), .val (.ref aD), .unset] [(.ref aD)])) rfl (by rw [hml]; rfl) (Steps.refl _) (argsL := []) (rest := []) (lenOf pd_2 rfl) rfl (by show 2 * 0 + _ ≤ _; exact Nat.le_of_eq rfl) (hb hby at_40) (fun _ _ => ⟨rfl, eq60, (by decide : 0 + 0 ≤ _), (by decide : 0 + 0 ≤ _)⟩)
      dsimp only [Pt.U, Pt.locs, Pt.cells, Pt.slots] at X61 l61 y61 z61 st61 hQ61
      subst l61 y61 z61
      obtain ⟨hv61, Nq61, eq61⟩ := hQ61
      have hk61 : own_isn aD aB = 1 := by simp [own_isn, ne_aI_aD, ne_aI_aB, ne_aD_aB, ne_aI_aD.symm, ne_aI_aB.symm, ne_aD_aB.symm]
      rw [hk61] at hv61
      subst hv61
      replace Nf := Fr.app Nf Nq61
      refine own_go (x' := T61.setTop (mkF m 43 #[.val (.int p0), .val (.int p1), .val (.ref aD), .val (.ref aB), .val (.ref aD), .val (.ref aD), .unset] [(.int (1 : Int32))])) (fun _ k => st61.trans k) ?_
      refine own_go (x' := T61.setTop (mkF m 49 #[.val (.int p0), .val (.int p1), .val (.ref aD), .val (.ref aB), .val (.ref aD), .val (.ref aD), .unset] [(.ref aD)])) (fun _ k => XS.ifYes X61.here hx rfl (pc0 := 43) (pc' := 48) rfl (hb hby at_43) rfl ((if0 _ _).trans (feq (by decide +kernel : ¬ ((1 : Int32) = (0 : Int32)))).2) (by decide) (by decide) (XS.aloadN X61.here hx rfl (hb hby at_48) rfl rfl k)) ?_
      obtain ⟨T62, X62, e62, st62⟩ := getS2 X61 hx hZ hown (host := "") (Or.inl (own_w hw 5 rfl)) Via.refl eq61 S_INT (g := (mkF m 49 #[.val (.int p0), .val (.int p1), .val (.ref aD), .val (.ref aB), .val (.ref aD), .val (.ref aD), .unset] [(.ref aD)])) rfl (hb hby at_49)
      refine own_go (x' := T62.setTop (mkF m 52 #[.val (.int p0), .val (.int p1), .val (.ref aD), .val (.ref aB), .val (.ref aD), .val (.ref aD), .unset] [(.ref aI), (.ref aD)])) st62 ?_
      refine own_go (x' := T62.setTop (mkF m 66 #[.val (.int p0), .val (.int p1), .val (.ref aD), .val (.ref aB), .val (.ref aD), .val (.ref aD), .unset] [])) (fun _ k => Jvm.RoadKit.acmp (g := (mkF m 52 #[.val (.int p0), .val (.int p1), .val (.ref aD), .val (.ref aB), .val (.ref aD), .val (.ref aD), .unset] [(.ref aI), (.ref aD)])) X62 hx rfl rfl rfl (pc0 := 52) (pc' := 66) (same := false) rfl (hb hby at_52) rfl (decide_eq_false fun q => ne_aI_aD (Value.ref.inj q).symm) (by decide) (by decide) k) ?_
      refine own_go (x' := T62.setTop (mkF m 71 #[.val (.int p0), .val (.int p1), .val (.ref aD), .val (.ref aB), .val (.ref aD), .val (.ref aD), .val (.int (0 : Int32))] [(.ref aD)])) (fun _ k => XS.iconst X62.here hx rfl (hb hby at_66) (XS.istore X62.here hx rfl (hb hby at_67) rfl (l' := #[.val (.int p0), .val (.int p1), .val (.ref aD), .val (.ref aB), .val (.ref aD), .val (.ref aD), .val (.int (0 : Int32))]) rfl (XS.aload X62.here hx rfl (hb hby at_69) rfl rfl k))) ?_
      obtain ⟨T63, X63, e63, st63⟩ := getS2 X62 hx hZ hown (host := "") (Or.inl (own_w hw 5 rfl)) Via.refl e62 S_INT (g := (mkF m 71 #[.val (.int p0), .val (.int p1), .val (.ref aD), .val (.ref aB), .val (.ref aD), .val (.ref aD), .val (.int (0 : Int32))] [(.ref aD)])) rfl (hb hby at_71)
      refine own_go (x' := T63.setTop (mkF m 74 #[.val (.int p0), .val (.int p1), .val (.ref aD), .val (.ref aB), .val (.ref aD), .val (.ref aD), .val (.int (0 : Int32))] [(.ref aI), (.ref aD)])) st63 ?_
      refine own_go (x' := T63.setTop (mkF m 81 #[.val (.int p0), .val (.int p1), .val (.ref aD), .val (.ref aB), .val (.ref aD), .val (.ref aD), .val (.int (0 : Int32))] [])) (fun _ k => Jvm.RoadKit.acmp (g := (mkF m 74 #[.val (.int p0), .val (.int p1), .val (.ref aD), .val (.ref aB), .val (.ref aD), .val (.ref aD), .val (.int (0 : Int32))] [(.ref aI), (.ref aD)])) X63 hx rfl rfl rfl (pc0 := 74) (pc' := 81) (same := false) rfl (hb hby at_74) rfl (decide_eq_false fun q => ne_aI_aD (Value.ref.inj q).symm) (by decide) (by decide) k) ?_
      refine own_go (x' := T63.setTop (mkF m 90 #[.val (.int p0), .val (.int p1), .val (.ref aD), .val (.ref aB), .val (.ref aD), .val (.ref aD), .val (.int (0 : Int32))] [(.ref aD)])) (fun _ k => XS.iconst X63.here hx rfl (hb hby at_81) (XS.iload X63.here hx rfl (hb hby at_82) rfl (XS.icmpYes X63.here hx rfl (pc0 := 84) (pc' := 89) rfl (hb hby at_84) rfl (teq rfl).1 (by decide) (by decide) (XS.aloadN X63.here hx rfl (hb hby at_89) rfl rfl k)))) ?_
      obtain ⟨T64, X64, e64, st64⟩ := getS2 X63 hx hZ hown (host := "") (Or.inl (own_w hw 19 rfl)) Via.refl e63 S_BOOL (g := (mkF m 90 #[.val (.int p0), .val (.int p1), .val (.ref aD), .val (.ref aB), .val (.ref aD), .val (.ref aD), .val (.int (0 : Int32))] [(.ref aD)])) rfl (hb hby at_90)
      refine own_go (x' := T64.setTop (mkF m 93 #[.val (.int p0), .val (.int p1), .val (.ref aD), .val (.ref aB), .val (.ref aD), .val (.ref aD), .val (.int (0 : Int32))] [(.ref aB), (.ref aD)])) st64 ?_
      refine own_go (x' := T64.setTop (mkF m 96 #[.val (.int p0), .val (.int p1), .val (.ref aD), .val (.ref aB), .val (.ref aD), .val (.ref aD), .val (.int (0 : Int32))] [])) (fun _ k => Jvm.RoadKit.acmp (g := (mkF m 93 #[.val (.int p0), .val (.int p1), .val (.ref aD), .val (.ref aB), .val (.ref aD), .val (.ref aD), .val (.int (0 : Int32))] [(.ref aB), (.ref aD)])) X64 hx rfl rfl rfl (pc0 := 93) (pc' := 96) (same := false) rfl (hb hby at_93) rfl (decide_eq_false fun q => ne_aD_aB (Value.ref.inj q)) (by decide) (by decide) k) ?_
      refine own_go (x' := T64.setTop (mkF m 97 #[.val (.int p0), .val (.int p1), .val (.ref aD), .val (.ref aB), .val (.ref aD), .val (.ref aD), .val (.int (0 : Int32))] [(.ref aB)])) (fun _ k => XS.aloadN X64.here hx rfl (hb hby at_96) rfl rfl k) ?_
      obtain ⟨T65, X65, e65, st65⟩ := getS2 X64 hx hZ hown (host := "") (Or.inl (own_w hw 19 rfl)) Via.refl e64 S_BOOL (g := (mkF m 97 #[.val (.int p0), .val (.int p1), .val (.ref aD), .val (.ref aB), .val (.ref aD), .val (.ref aD), .val (.int (0 : Int32))] [(.ref aB)])) rfl (hb hby at_97)
      refine own_go (x' := T65.setTop (mkF m 100 #[.val (.int p0), .val (.int p1), .val (.ref aD), .val (.ref aB), .val (.ref aD), .val (.ref aD), .val (.int (0 : Int32))] [(.ref aB), (.ref aB)])) st65 ?_
      refine own_go (x' := T65.setTop (mkF m 123 #[.val (.int p0), .val (.int p1), .val (.ref aD), .val (.ref aB), .val (.ref aD), .val (.ref aD), .val (.int (0 : Int32))] [])) (fun _ k => Jvm.RoadKit.acmp (g := (mkF m 100 #[.val (.int p0), .val (.int p1), .val (.ref aD), .val (.ref aB), .val (.ref aD), .val (.ref aD), .val (.int (0 : Int32))] [(.ref aB), (.ref aB)])) X65 hx rfl rfl rfl (pc0 := 100) (pc' := 123) (same := true) rfl (hb hby at_100) rfl (decide_eq_true rfl) (by decide) (by decide) k) ?_
      refine own_go (x' := T65.setTop (mkF m 124 #[.val (.int p0), .val (.int p1), .val (.ref aD), .val (.ref aB), .val (.ref aD), .val (.ref aD), .val (.int (0 : Int32))] [(.int (1 : Int32))])) (fun _ k => XS.iconst X65.here hx rfl (hb hby at_123) k) ?_
      refine own_retN X65 hx hlk (t := .boolean) hret (by simp) (hb hby at_124) (w := (1 : Int32)) rfl ?_ (by decide) (by decide)
      rw [e65]
      exact ⟨rfl, Nf⟩
  · rcases own_mod3 p1 with hmp1 | hmp1 | hmp1
    · refine own_go (x' := s₁.setTop (mkF m 1 #[.val (.int p0), .val (.int p1), .unset, .unset, .unset, .unset, .unset] [(.int p0)])) (fun _ k => XS.iloadN X0.here hx rfl (hb hby at_0) rfl k) ?_
      obtain ⟨_, _, ⟨T66, L66, k66, n66⟩, -, X66, ⟨Lc66, hQ66, l66, y66, z66⟩, st66⟩ := Jvm.LawKit.callS X0 hx (y := (⟨"com/example/stratgen/stratgen/model/TypeNumericResultPinLaw", "pick", "(I)Lcom/example/stratgen/stratgen/model/Type;"⟩ : MethodName)) hown (mvT hZ (own_w hw 0 rfl)) (mvT hZ (own_w hw 1 rfl)) (mvT hZ (own_w hw 2 rfl)) (mvT hZ (own_w hw 3 rfl)) (by decide) (backOf (W := 0) (rm1 l Z a0 hw [] p0 aI aD aB h0 n0 Zs S_INT S_DOUBLE S_BOOL) hZ (own_w hw 3 rfl) (own_w hw 2 rfl) (by decide) (by decide)) (g := (mkF m 1 #[.val (.int p0), .val (.int p1), .unset, .unset, .unset, .unset, .unset] [(.int p0)])) rfl (by rw [hml]; rfl) (argsL := [(.int p0)]) (rest := []) (lenOf pd_0 rfl) rfl (by show 2 * 0 + _ ≤ _; exact Nat.le_of_eq rfl) (hb hby at_1) (fun _ _ => ⟨rfl, e0, (by decide : 0 + 0 ≤ _), (by decide : 0 + 0 ≤ _)⟩)
      dsimp only [Pt.U, Pt.locs, Pt.cells, Pt.slots] at X66 l66 y66 z66 st66 hQ66
      subst l66 y66 z66
      obtain ⟨hv66, Nq66, eq66⟩ := hQ66
      have hk66 : own_pick (2 : Int32) aI aD aB = aB := by first | rfl | decide
      rw [hmp0, hk66] at hv66
      subst hv66
      replace Nf := Fr.app Nf Nq66
      refine own_go (x' := T66.setTop (mkF m 4 #[.val (.int p0), .val (.int p1), .unset, .unset, .unset, .unset, .unset] [(.ref aB)])) st66 ?_
      refine own_go (x' := T66.setTop (mkF m 6 #[.val (.int p0), .val (.int p1), .val (.ref aB), .unset, .unset, .unset, .unset] [(.int p1)])) (fun _ k => XS.astoreN X66.here hx rfl (hb hby at_4) rfl rfl (l' := #[.val (.int p0), .val (.int p1), .val (.ref aB), .unset, .unset, .unset, .unset]) rfl (XS.iloadN X66.here hx rfl (hb hby at_5) rfl k)) ?_
      obtain ⟨_, _, ⟨T67, L67, k67, n67⟩, -, X67, ⟨Lc67, hQ67, l67, y67, z67⟩, st67⟩ := Jvm.LawKit.callS X66 hx (y := (⟨"com/example/stratgen/stratgen/model/TypeNumericResultPinLaw", "pick", "(I)Lcom/example/stratgen/stratgen/model/Type;"⟩ : MethodName)) hown (mvT hZ (own_w hw 0 rfl)) (mvT hZ (own_w hw 1 rfl)) (mvT hZ (own_w hw 2 rfl)) (mvT hZ (own_w hw 3 rfl)) (by decide) (backOf (W := 0) (rm1 l Z a0 hw [] p1 aI aD aB h0 n0 Zs S_INT S_DOUBLE S_BOOL) hZ (own_w hw 3 rfl) (own_w hw 2 rfl) (by decide) (by decide)) (g := (mkF m 6 #[.val (.int p0), .val (.int p1), .val (.ref aB), .unset, .unset, .unset, .unset] [(.int p1)])) rfl (by rw [hml]; rfl) (argsL := [(.int p1)]) (rest := []) (lenOf pd_0 rfl) rfl (by show 2 * 0 + _ ≤ _; exact Nat.le_of_eq rfl) (hb hby at_6) (fun _ _ => ⟨rfl, eq66, (by decide : 0 + 0 ≤ _), (by decide : 0 + 0 ≤ _)⟩)
      dsimp only [Pt.U, Pt.locs, Pt.cells, Pt.slots] at X67 l67 y67 z67 st67 hQ67
      subst l67 y67 z67
      obtain ⟨hv67, Nq67, eq67⟩ := hQ67
      have hk67 : own_pick (0 : Int32) aI aD aB = aI := by first | rfl | decide
      rw [hmp1, hk67] at hv67
      subst hv67
      replace Nf := Fr.app Nf Nq67
      refine own_go (x' := T67.setTop (mkF m 9 #[.val (.int p0), .val (.int p1), .val (.ref aB), .unset, .unset, .unset, .unset] [(.ref aI)])) st67 ?_
      refine own_go (x' := T67.setTop (mkF m 12 #[.val (.int p0), .val (.int p1), .val (.ref aB), .val (.ref aI), .unset, .unset, .unset] [(.ref aI), (.ref aB)])) (fun _ k => XS.astoreN X67.here hx rfl (hb hby at_9) rfl rfl (l' := #[.val (.int p0), .val (.int p1), .val (.ref aB), .val (.ref aI), .unset, .unset, .unset]) rfl (XS.aloadN X67.here hx rfl (hb hby at_10) rfl rfl (XS.aloadN X67.here hx rfl (hb hby at_11) rfl rfl k))) ?_
      obtain ⟨_, _, ⟨T68, L68, k68, n68⟩, -, X68, ⟨Lc68, hQ68, l68, y68, z68⟩, st68⟩ := Jvm.LawKit.callS X67 hx (y := (⟨"com/example/stratgen/stratgen/model/Type", "numericResult", "(Lcom/example/stratgen/stratgen/model/Type;Lcom/example/stratgen/stratgen/model/Type;)Lcom/example/stratgen/stratgen/model/Type;"⟩ : MethodName)) hown (mvT hZ (own_w hw 8 rfl)) (mvT hZ (own_w hw 9 rfl)) (mvT hZ (own_w hw 6 rfl)) (mvT hZ (own_w hw 10 rfl)) (by decide) (backOf (W := 0) (rm2 l Z a0 hw [] aB aI aI aD h0 n0 Zs S_INT S_DOUBLE) hZ (own_w hw 10 rfl) (own_w hw 6 rfl) (by decide) (by decide)) (g := (mkF m 12 #[.val (.int p0), .val (.int p1), .val (.ref aB), .val (.ref aI), .unset, .unset, .unset] [(.ref aI), (.ref aB)])) rfl (by rw [hml]; rfl) (argsL := [(.ref aB), (.ref aI)]) (rest := []) (lenOf pd_1 rfl) rfl (by show 2 * 0 + _ ≤ _; exact Nat.le_of_eq rfl) (hb hby at_12) (fun _ _ => ⟨rfl, eq67, (by decide : 0 + 0 ≤ _), (by decide : 0 + 0 ≤ _)⟩)
      dsimp only [Pt.U, Pt.locs, Pt.cells, Pt.slots] at X68 l68 y68 z68 st68 hQ68
      subst l68 y68 z68
      obtain ⟨hv68, Nq68, eq68⟩ := hQ68
      have hk68 : own_num aB aI aI aD = aD := by simp [own_num, ne_aI_aD, ne_aI_aB, ne_aD_aB, ne_aI_aD.symm, ne_aI_aB.symm, ne_aD_aB.symm]
      rw [hk68] at hv68
      subst hv68
      replace Nf := Fr.app Nf Nq68
      refine own_go (x' := T68.setTop (mkF m 15 #[.val (.int p0), .val (.int p1), .val (.ref aB), .val (.ref aI), .unset, .unset, .unset] [(.ref aD)])) st68 ?_
      refine own_go (x' := T68.setTop (mkF m 19 #[.val (.int p0), .val (.int p1), .val (.ref aB), .val (.ref aI), .val (.ref aD), .unset, .unset] [(.ref aB), (.ref aI)])) (fun _ k => XS.astore X68.here hx rfl (hb hby at_15) rfl rfl (l' := #[.val (.int p0), .val (.int p1), .val (.ref aB), .val (.ref aI), .val (.ref aD), .unset, .unset]) rfl (XS.aloadN X68.here hx rfl (hb hby at_17) rfl rfl (XS.aloadN X68.here hx rfl (hb hby at_18) rfl rfl k))) ?_
      obtain ⟨_, _, ⟨T69, L69, k69, n69⟩, -, X69, ⟨Lc69, hQ69, l69, y69, z69⟩, st69⟩ := Jvm.LawKit.callS X68 hx (y := (⟨"com/example/stratgen/stratgen/model/Type", "numericResult", "(Lcom/example/stratgen/stratgen/model/Type;Lcom/example/stratgen/stratgen/model/Type;)Lcom/example/stratgen/stratgen/model/Type;"⟩ : MethodName)) hown (mvT hZ (own_w hw 8 rfl)) (mvT hZ (own_w hw 9 rfl)) (mvT hZ (own_w hw 6 rfl)) (mvT hZ (own_w hw 10 rfl)) (by decide) (backOf (W := 0) (rm2 l Z a0 hw [] aI aB aI aD h0 n0 Zs S_INT S_DOUBLE) hZ (own_w hw 10 rfl) (own_w hw 6 rfl) (by decide) (by decide)) (g := (mkF m 19 #[.val (.int p0), .val (.int p1), .val (.ref aB), .val (.ref aI), .val (.ref aD), .unset, .unset] [(.ref aB), (.ref aI)])) rfl (by rw [hml]; rfl) (argsL := [(.ref aI), (.ref aB)]) (rest := []) (lenOf pd_1 rfl) rfl (by show 2 * 0 + _ ≤ _; exact Nat.le_of_eq rfl) (hb hby at_19) (fun _ _ => ⟨rfl, eq68, (by decide : 0 + 0 ≤ _), (by decide : 0 + 0 ≤ _)⟩)
      dsimp only [Pt.U, Pt.locs, Pt.cells, Pt.slots] at X69 l69 y69 z69 st69 hQ69
      subst l69 y69 z69
      obtain ⟨hv69, Nq69, eq69⟩ := hQ69
      have hk69 : own_num aI aB aI aD = aD := by simp [own_num, ne_aI_aD, ne_aI_aB, ne_aD_aB, ne_aI_aD.symm, ne_aI_aB.symm, ne_aD_aB.symm]
      rw [hk69] at hv69
      subst hv69
      replace Nf := Fr.app Nf Nq69
      refine own_go (x' := T69.setTop (mkF m 22 #[.val (.int p0), .val (.int p1), .val (.ref aB), .val (.ref aI), .val (.ref aD), .unset, .unset] [(.ref aD)])) st69 ?_
      refine own_go (x' := T69.setTop (mkF m 33 #[.val (.int p0), .val (.int p1), .val (.ref aB), .val (.ref aI), .val (.ref aD), .val (.ref aD), .unset] [(.ref aD), (.ref aD)])) (fun _ k => XS.astore X69.here hx rfl (hb hby at_22) rfl rfl (l' := #[.val (.int p0), .val (.int p1), .val (.ref aB), .val (.ref aI), .val (.ref aD), .val (.ref aD), .unset]) rfl (XS.aload X69.here hx rfl (hb hby at_24) rfl rfl (XS.ifnullNo X69.here hx rfl (hb hby at_26) rfl (XS.aload X69.here hx rfl (hb hby at_29) rfl rfl (XS.aload X69.here hx rfl (hb hby at_31) rfl rfl k))))) ?_
      refine own_go (x' := T69.setTop (mkF m 38 #[.val (.int p0), .val (.int p1), .val (.ref aB), .val (.ref aI), .val (.ref aD), .val (.ref aD), .unset] [])) (fun _ k => Jvm.RoadKit.acmp (g := (mkF m 33 #[.val (.int p0), .val (.int p1), .val (.ref aB), .val (.ref aI), .val (.ref aD), .val (.ref aD), .unset] [(.ref aD), (.ref aD)])) X69 hx rfl rfl rfl (pc0 := 33) (pc' := 38) (same := true) rfl (hb hby at_33) rfl (decide_eq_true rfl) (by decide) (by decide) k) ?_
      refine own_go (x' := T69.setTop (mkF m 40 #[.val (.int p0), .val (.int p1), .val (.ref aB), .val (.ref aI), .val (.ref aD), .val (.ref aD), .unset] [(.ref aD)])) (fun _ k => XS.aload X69.here hx rfl (hb hby at_38) rfl rfl k) ?_
      obtain ⟨cq70, kq70, q70a, q70b, q70c⟩ := isOf hZ eq69 E_aD
      obtain ⟨_, _, ⟨T70, L70, k70, n70⟩, -, X70, ⟨Lc70, hQ70, l70, y70, z70⟩, st70⟩ := X69.virtualBack hx (y := (⟨"com/example/stratgen/stratgen/model/Type", "isNumeric", "()Z"⟩ : MethodName)) (z := (⟨"com/example/stratgen/stratgen/model/Type", "isNumeric", "()Z"⟩ : MethodName)) hown (mvT hZ (own_w hw 12 rfl)) (mvT hZ (own_w hw 13 rfl)) (notFace_of_selects (args := #[]) (mvT hZ (own_w hw 15 rfl))) (mvT hZ (own_w hw 15 rfl)) (mvT hZ (own_w hw 14 rfl)) (by decide) (backOf (W := 0) (rm3 l Z a0 hw [] aD aB h0 n0 Zs S_BOOL) hZ (own_w hw 16 rfl) (own_w hw 6 rfl) (by decide) (by decide)) q70a q70c (g := (mkF m 40 #[.val (.int p0), .val (.int p1), .val (.ref aB), .val (.ref aI), .val (.ref aD), .val (.ref aD), .unset] [(.ref aD)])) rfl (by rw [hml]; rfl) (Steps.refl _) (argsL := []) (rest := []) (lenOf pd_2 rfl) rfl (by show 2 * 0 + _ ≤ _; exact Nat.le_of_eq rfl) (hb hby at_40) (fun _ _ => ⟨rfl, eq69, (by decide : 0 + 0 ≤ _), (by decide : 0 + 0 ≤ _)⟩)
      dsimp only [Pt.U, Pt.locs, Pt.cells, Pt.slots] at X70 l70 y70 z70 st70 hQ70
      subst l70 y70 z70
      obtain ⟨hv70, Nq70, eq70⟩ := hQ70
      have hk70 : own_isn aD aB = 1 := by simp [own_isn, ne_aI_aD, ne_aI_aB, ne_aD_aB, ne_aI_aD.symm, ne_aI_aB.symm, ne_aD_aB.symm]
      rw [hk70] at hv70
      subst hv70
      replace Nf := Fr.app Nf Nq70
      refine own_go (x' := T70.setTop (mkF m 43 #[.val (.int p0), .val (.int p1), .val (.ref aB), .val (.ref aI), .val (.ref aD), .val (.ref aD), .unset] [(.int (1 : Int32))])) (fun _ k => st70.trans k) ?_
      refine own_go (x' := T70.setTop (mkF m 49 #[.val (.int p0), .val (.int p1), .val (.ref aB), .val (.ref aI), .val (.ref aD), .val (.ref aD), .unset] [(.ref aB)])) (fun _ k => XS.ifYes X70.here hx rfl (pc0 := 43) (pc' := 48) rfl (hb hby at_43) rfl ((if0 _ _).trans (feq (by decide +kernel : ¬ ((1 : Int32) = (0 : Int32)))).2) (by decide) (by decide) (XS.aloadN X70.here hx rfl (hb hby at_48) rfl rfl k)) ?_
      obtain ⟨T71, X71, e71, st71⟩ := getS2 X70 hx hZ hown (host := "") (Or.inl (own_w hw 5 rfl)) Via.refl eq70 S_INT (g := (mkF m 49 #[.val (.int p0), .val (.int p1), .val (.ref aB), .val (.ref aI), .val (.ref aD), .val (.ref aD), .unset] [(.ref aB)])) rfl (hb hby at_49)
      refine own_go (x' := T71.setTop (mkF m 52 #[.val (.int p0), .val (.int p1), .val (.ref aB), .val (.ref aI), .val (.ref aD), .val (.ref aD), .unset] [(.ref aI), (.ref aB)])) st71 ?_
      refine own_go (x' := T71.setTop (mkF m 66 #[.val (.int p0), .val (.int p1), .val (.ref aB), .val (.ref aI), .val (.ref aD), .val (.ref aD), .unset] [])) (fun _ k => Jvm.RoadKit.acmp (g := (mkF m 52 #[.val (.int p0), .val (.int p1), .val (.ref aB), .val (.ref aI), .val (.ref aD), .val (.ref aD), .unset] [(.ref aI), (.ref aB)])) X71 hx rfl rfl rfl (pc0 := 52) (pc' := 66) (same := false) rfl (hb hby at_52) rfl (decide_eq_false fun q => ne_aI_aB (Value.ref.inj q).symm) (by decide) (by decide) k) ?_
      refine own_go (x' := T71.setTop (mkF m 71 #[.val (.int p0), .val (.int p1), .val (.ref aB), .val (.ref aI), .val (.ref aD), .val (.ref aD), .val (.int (0 : Int32))] [(.ref aD)])) (fun _ k => XS.iconst X71.here hx rfl (hb hby at_66) (XS.istore X71.here hx rfl (hb hby at_67) rfl (l' := #[.val (.int p0), .val (.int p1), .val (.ref aB), .val (.ref aI), .val (.ref aD), .val (.ref aD), .val (.int (0 : Int32))]) rfl (XS.aload X71.here hx rfl (hb hby at_69) rfl rfl k))) ?_
      obtain ⟨T72, X72, e72, st72⟩ := getS2 X71 hx hZ hown (host := "") (Or.inl (own_w hw 5 rfl)) Via.refl e71 S_INT (g := (mkF m 71 #[.val (.int p0), .val (.int p1), .val (.ref aB), .val (.ref aI), .val (.ref aD), .val (.ref aD), .val (.int (0 : Int32))] [(.ref aD)])) rfl (hb hby at_71)
      refine own_go (x' := T72.setTop (mkF m 74 #[.val (.int p0), .val (.int p1), .val (.ref aB), .val (.ref aI), .val (.ref aD), .val (.ref aD), .val (.int (0 : Int32))] [(.ref aI), (.ref aD)])) st72 ?_
      refine own_go (x' := T72.setTop (mkF m 81 #[.val (.int p0), .val (.int p1), .val (.ref aB), .val (.ref aI), .val (.ref aD), .val (.ref aD), .val (.int (0 : Int32))] [])) (fun _ k => Jvm.RoadKit.acmp (g := (mkF m 74 #[.val (.int p0), .val (.int p1), .val (.ref aB), .val (.ref aI), .val (.ref aD), .val (.ref aD), .val (.int (0 : Int32))] [(.ref aI), (.ref aD)])) X72 hx rfl rfl rfl (pc0 := 74) (pc' := 81) (same := false) rfl (hb hby at_74) rfl (decide_eq_false fun q => ne_aI_aD (Value.ref.inj q).symm) (by decide) (by decide) k) ?_
      refine own_go (x' := T72.setTop (mkF m 90 #[.val (.int p0), .val (.int p1), .val (.ref aB), .val (.ref aI), .val (.ref aD), .val (.ref aD), .val (.int (0 : Int32))] [(.ref aB)])) (fun _ k => XS.iconst X72.here hx rfl (hb hby at_81) (XS.iload X72.here hx rfl (hb hby at_82) rfl (XS.icmpYes X72.here hx rfl (pc0 := 84) (pc' := 89) rfl (hb hby at_84) rfl (teq rfl).1 (by decide) (by decide) (XS.aloadN X72.here hx rfl (hb hby at_89) rfl rfl k)))) ?_
      obtain ⟨T73, X73, e73, st73⟩ := getS2 X72 hx hZ hown (host := "") (Or.inl (own_w hw 19 rfl)) Via.refl e72 S_BOOL (g := (mkF m 90 #[.val (.int p0), .val (.int p1), .val (.ref aB), .val (.ref aI), .val (.ref aD), .val (.ref aD), .val (.int (0 : Int32))] [(.ref aB)])) rfl (hb hby at_90)
      refine own_go (x' := T73.setTop (mkF m 93 #[.val (.int p0), .val (.int p1), .val (.ref aB), .val (.ref aI), .val (.ref aD), .val (.ref aD), .val (.int (0 : Int32))] [(.ref aB), (.ref aB)])) st73 ?_
      refine own_go (x' := T73.setTop (mkF m 123 #[.val (.int p0), .val (.int p1), .val (.ref aB), .val (.ref aI), .val (.ref aD), .val (.ref aD), .val (.int (0 : Int32))] [])) (fun _ k => Jvm.RoadKit.acmp (g := (mkF m 93 #[.val (.int p0), .val (.int p1), .val (.ref aB), .val (.ref aI), .val (.ref aD), .val (.ref aD), .val (.int (0 : Int32))] [(.ref aB), (.ref aB)])) X73 hx rfl rfl rfl (pc0 := 93) (pc' := 123) (same := true) rfl (hb hby at_93) rfl (decide_eq_true rfl) (by decide) (by decide) k) ?_
      refine own_go (x' := T73.setTop (mkF m 124 #[.val (.int p0), .val (.int p1), .val (.ref aB), .val (.ref aI), .val (.ref aD), .val (.ref aD), .val (.int (0 : Int32))] [(.int (1 : Int32))])) (fun _ k => XS.iconst X73.here hx rfl (hb hby at_123) k) ?_
      refine own_retN X73 hx hlk (t := .boolean) hret (by simp) (hb hby at_124) (w := (1 : Int32)) rfl ?_ (by decide) (by decide)
      rw [e73]
      exact ⟨rfl, Nf⟩
    · refine own_go (x' := s₁.setTop (mkF m 1 #[.val (.int p0), .val (.int p1), .unset, .unset, .unset, .unset, .unset] [(.int p0)])) (fun _ k => XS.iloadN X0.here hx rfl (hb hby at_0) rfl k) ?_
      obtain ⟨_, _, ⟨T74, L74, k74, n74⟩, -, X74, ⟨Lc74, hQ74, l74, y74, z74⟩, st74⟩ := Jvm.LawKit.callS X0 hx (y := (⟨"com/example/stratgen/stratgen/model/TypeNumericResultPinLaw", "pick", "(I)Lcom/example/stratgen/stratgen/model/Type;"⟩ : MethodName)) hown (mvT hZ (own_w hw 0 rfl)) (mvT hZ (own_w hw 1 rfl)) (mvT hZ (own_w hw 2 rfl)) (mvT hZ (own_w hw 3 rfl)) (by decide) (backOf (W := 0) (rm1 l Z a0 hw [] p0 aI aD aB h0 n0 Zs S_INT S_DOUBLE S_BOOL) hZ (own_w hw 3 rfl) (own_w hw 2 rfl) (by decide) (by decide)) (g := (mkF m 1 #[.val (.int p0), .val (.int p1), .unset, .unset, .unset, .unset, .unset] [(.int p0)])) rfl (by rw [hml]; rfl) (argsL := [(.int p0)]) (rest := []) (lenOf pd_0 rfl) rfl (by show 2 * 0 + _ ≤ _; exact Nat.le_of_eq rfl) (hb hby at_1) (fun _ _ => ⟨rfl, e0, (by decide : 0 + 0 ≤ _), (by decide : 0 + 0 ≤ _)⟩)
      dsimp only [Pt.U, Pt.locs, Pt.cells, Pt.slots] at X74 l74 y74 z74 st74 hQ74
      subst l74 y74 z74
      obtain ⟨hv74, Nq74, eq74⟩ := hQ74
      have hk74 : own_pick (2 : Int32) aI aD aB = aB := by first | rfl | decide
      rw [hmp0, hk74] at hv74
      subst hv74
      replace Nf := Fr.app Nf Nq74
      refine own_go (x' := T74.setTop (mkF m 4 #[.val (.int p0), .val (.int p1), .unset, .unset, .unset, .unset, .unset] [(.ref aB)])) st74 ?_
      refine own_go (x' := T74.setTop (mkF m 6 #[.val (.int p0), .val (.int p1), .val (.ref aB), .unset, .unset, .unset, .unset] [(.int p1)])) (fun _ k => XS.astoreN X74.here hx rfl (hb hby at_4) rfl rfl (l' := #[.val (.int p0), .val (.int p1), .val (.ref aB), .unset, .unset, .unset, .unset]) rfl (XS.iloadN X74.here hx rfl (hb hby at_5) rfl k)) ?_
      obtain ⟨_, _, ⟨T75, L75, k75, n75⟩, -, X75, ⟨Lc75, hQ75, l75, y75, z75⟩, st75⟩ := Jvm.LawKit.callS X74 hx (y := (⟨"com/example/stratgen/stratgen/model/TypeNumericResultPinLaw", "pick", "(I)Lcom/example/stratgen/stratgen/model/Type;"⟩ : MethodName)) hown (mvT hZ (own_w hw 0 rfl)) (mvT hZ (own_w hw 1 rfl)) (mvT hZ (own_w hw 2 rfl)) (mvT hZ (own_w hw 3 rfl)) (by decide) (backOf (W := 0) (rm1 l Z a0 hw [] p1 aI aD aB h0 n0 Zs S_INT S_DOUBLE S_BOOL) hZ (own_w hw 3 rfl) (own_w hw 2 rfl) (by decide) (by decide)) (g := (mkF m 6 #[.val (.int p0), .val (.int p1), .val (.ref aB), .unset, .unset, .unset, .unset] [(.int p1)])) rfl (by rw [hml]; rfl) (argsL := [(.int p1)]) (rest := []) (lenOf pd_0 rfl) rfl (by show 2 * 0 + _ ≤ _; exact Nat.le_of_eq rfl) (hb hby at_6) (fun _ _ => ⟨rfl, eq74, (by decide : 0 + 0 ≤ _), (by decide : 0 + 0 ≤ _)⟩)
      dsimp only [Pt.U, Pt.locs, Pt.cells, Pt.slots] at X75 l75 y75 z75 st75 hQ75
      subst l75 y75 z75
      obtain ⟨hv75, Nq75, eq75⟩ := hQ75
      have hk75 : own_pick (1 : Int32) aI aD aB = aD := by first | rfl | decide
      rw [hmp1, hk75] at hv75
      subst hv75
      replace Nf := Fr.app Nf Nq75
      refine own_go (x' := T75.setTop (mkF m 9 #[.val (.int p0), .val (.int p1), .val (.ref aB), .unset, .unset, .unset, .unset] [(.ref aD)])) st75 ?_
      refine own_go (x' := T75.setTop (mkF m 12 #[.val (.int p0), .val (.int p1), .val (.ref aB), .val (.ref aD), .unset, .unset, .unset] [(.ref aD), (.ref aB)])) (fun _ k => XS.astoreN X75.here hx rfl (hb hby at_9) rfl rfl (l' := #[.val (.int p0), .val (.int p1), .val (.ref aB), .val (.ref aD), .unset, .unset, .unset]) rfl (XS.aloadN X75.here hx rfl (hb hby at_10) rfl rfl (XS.aloadN X75.here hx rfl (hb hby at_11) rfl rfl k))) ?_
      obtain ⟨_, _, ⟨T76, L76, k76, n76⟩, -, X76, ⟨Lc76, hQ76, l76, y76, z76⟩, st76⟩ := Jvm.LawKit.callS X75 hx (y := (⟨"com/example/stratgen/stratgen/model/Type", "numericResult", "(Lcom/example/stratgen/stratgen/model/Type;Lcom/example/stratgen/stratgen/model/Type;)Lcom/example/stratgen/stratgen/model/Type;"⟩ : MethodName)) hown (mvT hZ (own_w hw 8 rfl)) (mvT hZ (own_w hw 9 rfl)) (mvT hZ (own_w hw 6 rfl)) (mvT hZ (own_w hw 10 rfl)) (by decide) (backOf (W := 0) (rm2 l Z a0 hw [] aB aD aI aD h0 n0 Zs S_INT S_DOUBLE) hZ (own_w hw 10 rfl) (own_w hw 6 rfl) (by decide) (by decide)) (g := (mkF m 12 #[.val (.int p0), .val (.int p1), .val (.ref aB), .val (.ref aD), .unset, .unset, .unset] [(.ref aD), (.ref aB)])) rfl (by rw [hml]; rfl) (argsL := [(.ref aB), (.ref aD)]) (rest := []) (lenOf pd_1 rfl) rfl (by show 2 * 0 + _ ≤ _; exact Nat.le_of_eq rfl) (hb hby at_12) (fun _ _ => ⟨rfl, eq75, (by decide : 0 + 0 ≤ _), (by decide : 0 + 0 ≤ _)⟩)
      dsimp only [Pt.U, Pt.locs, Pt.cells, Pt.slots] at X76 l76 y76 z76 st76 hQ76
      subst l76 y76 z76
      obtain ⟨hv76, Nq76, eq76⟩ := hQ76
      have hk76 : own_num aB aD aI aD = aD := by simp [own_num, ne_aI_aD, ne_aI_aB, ne_aD_aB, ne_aI_aD.symm, ne_aI_aB.symm, ne_aD_aB.symm]
      rw [hk76] at hv76
      subst hv76
      replace Nf := Fr.app Nf Nq76
      refine own_go (x' := T76.setTop (mkF m 15 #[.val (.int p0), .val (.int p1), .val (.ref aB), .val (.ref aD), .unset, .unset, .unset] [(.ref aD)])) st76 ?_
      refine own_go (x' := T76.setTop (mkF m 19 #[.val (.int p0), .val (.int p1), .val (.ref aB), .val (.ref aD), .val (.ref aD), .unset, .unset] [(.ref aB), (.ref aD)])) (fun _ k => XS.astore X76.here hx rfl (hb hby at_15) rfl rfl (l' := #[.val (.int p0), .val (.int p1), .val (.ref aB), .val (.ref aD), .val (.ref aD), .unset, .unset]) rfl (XS.aloadN X76.here hx rfl (hb hby at_17) rfl rfl (XS.aloadN X76.here hx rfl (hb hby at_18) rfl rfl k))) ?_
      obtain ⟨_, _, ⟨T77, L77, k77, n77⟩, -, X77, ⟨Lc77, hQ77, l77, y77, z77⟩, st77⟩ := Jvm.LawKit.callS X76 hx (y := (⟨"com/example/stratgen/stratgen/model/Type", "numericResult", "(Lcom/example/stratgen/stratgen/model/Type;Lcom/example/stratgen/stratgen/model/Type;)Lcom/example/stratgen/stratgen/model/Type;"⟩ : MethodName)) hown (mvT hZ (own_w hw 8 rfl)) (mvT hZ (own_w hw 9 rfl)) (mvT hZ (own_w hw 6 rfl)) (mvT hZ (own_w hw 10 rfl)) (by decide) (backOf (W := 0) (rm2 l Z a0 hw [] aD aB aI aD h0 n0 Zs S_INT S_DOUBLE) hZ (own_w hw 10 rfl) (own_w hw 6 rfl) (by decide) (by decide)) (g := (mkF m 19 #[.val (.int p0), .val (.int p1), .val (.ref aB), .val (.ref aD), .val (.ref aD), .unset, .unset] [(.ref aB), (.ref aD)])) rfl (by rw [hml]; rfl) (argsL := [(.ref aD), (.ref aB)]) (rest := []) (lenOf pd_1 rfl) rfl (by show 2 * 0 + _ ≤ _; exact Nat.le_of_eq rfl) (hb hby at_19) (fun _ _ => ⟨rfl, eq76, (by decide : 0 + 0 ≤ _), (by decide : 0 + 0 ≤ _)⟩)
      dsimp only [Pt.U, Pt.locs, Pt.cells, Pt.slots] at X77 l77 y77 z77 st77 hQ77
      subst l77 y77 z77
      obtain ⟨hv77, Nq77, eq77⟩ := hQ77
      have hk77 : own_num aD aB aI aD = aD := by simp [own_num, ne_aI_aD, ne_aI_aB, ne_aD_aB, ne_aI_aD.symm, ne_aI_aB.symm, ne_aD_aB.symm]
      rw [hk77] at hv77
      subst hv77
      replace Nf := Fr.app Nf Nq77
      refine own_go (x' := T77.setTop (mkF m 22 #[.val (.int p0), .val (.int p1), .val (.ref aB), .val (.ref aD), .val (.ref aD), .unset, .unset] [(.ref aD)])) st77 ?_
      refine own_go (x' := T77.setTop (mkF m 33 #[.val (.int p0), .val (.int p1), .val (.ref aB), .val (.ref aD), .val (.ref aD), .val (.ref aD), .unset] [(.ref aD), (.ref aD)])) (fun _ k => XS.astore X77.here hx rfl (hb hby at_22) rfl rfl (l' := #[.val (.int p0), .val (.int p1), .val (.ref aB), .val (.ref aD), .val (.ref aD), .val (.ref aD), .unset]) rfl (XS.aload X77.here hx rfl (hb hby at_24) rfl rfl (XS.ifnullNo X77.here hx rfl (hb hby at_26) rfl (XS.aload X77.here hx rfl (hb hby at_29) rfl rfl (XS.aload X77.here hx rfl (hb hby at_31) rfl rfl k))))) ?_
      refine own_go (x' := T77.setTop (mkF m 38 #[.val (.int p0), .val (.int p1), .val (.ref aB), .val (.ref aD), .val (.ref aD), .val (.ref aD), .unset] [])) (fun _ k => Jvm.RoadKit.acmp (g := (mkF m 33 #[.val (.int p0), .val (.int p1), .val (.ref aB), .val (.ref aD), .val (.ref aD), .val (.ref aD), .unset] [(.ref aD), (.ref aD)])) X77 hx rfl rfl rfl (pc0 := 33) (pc' := 38) (same := true) rfl (hb hby at_33) rfl (decide_eq_true rfl) (by decide) (by decide) k) ?_
      refine own_go (x' := T77.setTop (mkF m 40 #[.val (.int p0), .val (.int p1), .val (.ref aB), .val (.ref aD), .val (.ref aD), .val (.ref aD), .unset] [(.ref aD)])) (fun _ k => XS.aload X77.here hx rfl (hb hby at_38) rfl rfl k) ?_
      obtain ⟨cq78, kq78, q78a, q78b, q78c⟩ := isOf hZ eq77 E_aD
      obtain ⟨_, _, ⟨T78, L78, k78, n78⟩, -, X78, ⟨Lc78, hQ78, l78, y78, z78⟩, st78⟩ := X77.virtualBack hx (y := (⟨"com/example/stratgen/stratgen/model/Type", "isNumeric", "()Z"⟩ : MethodName)) (z := (⟨"com/example/stratgen/stratgen/model/Type", "isNumeric", "()Z"⟩ : MethodName)) hown (mvT hZ (own_w hw 12 rfl)) (mvT hZ (own_w hw 13 rfl)) (notFace_of_selects (args := #[]) (mvT hZ (own_w hw 15 rfl))) (mvT hZ (own_w hw 15 rfl)) (mvT hZ (own_w hw 14 rfl)) (by decide) (backOf (W := 0) (rm3 l Z a0 hw [] aD aB h0 n0 Zs S_BOOL) hZ (own_w hw 16 rfl) (own_w hw 6 rfl) (by decide) (by decide)) q78a q78c (g := (mkF m 40 #[.val (.int p0), .val (.int p1), .val (.ref aB), .val (.ref aD), .val (.ref aD), .val (.ref aD), .unset] [(.ref aD)])) rfl (by rw [hml]; rfl) (Steps.refl _) (argsL := []) (rest := []) (lenOf pd_2 rfl) rfl (by show 2 * 0 + _ ≤ _; exact Nat.le_of_eq rfl) (hb hby at_40) (fun _ _ => ⟨rfl, eq77, (by decide : 0 + 0 ≤ _), (by decide : 0 + 0 ≤ _)⟩)
      dsimp only [Pt.U, Pt.locs, Pt.cells, Pt.slots] at X78 l78 y78 z78 st78 hQ78
      subst l78 y78 z78
      obtain ⟨hv78, Nq78, eq78⟩ := hQ78
      have hk78 : own_isn aD aB = 1 := by simp [own_isn, ne_aI_aD, ne_aI_aB, ne_aD_aB, ne_aI_aD.symm, ne_aI_aB.symm, ne_aD_aB.symm]
      rw [hk78] at hv78
      subst hv78
      replace Nf := Fr.app Nf Nq78
      refine own_go (x' := T78.setTop (mkF m 43 #[.val (.int p0), .val (.int p1), .val (.ref aB), .val (.ref aD), .val (.ref aD), .val (.ref aD), .unset] [(.int (1 : Int32))])) (fun _ k => st78.trans k) ?_
      refine own_go (x' := T78.setTop (mkF m 49 #[.val (.int p0), .val (.int p1), .val (.ref aB), .val (.ref aD), .val (.ref aD), .val (.ref aD), .unset] [(.ref aB)])) (fun _ k => XS.ifYes X78.here hx rfl (pc0 := 43) (pc' := 48) rfl (hb hby at_43) rfl ((if0 _ _).trans (feq (by decide +kernel : ¬ ((1 : Int32) = (0 : Int32)))).2) (by decide) (by decide) (XS.aloadN X78.here hx rfl (hb hby at_48) rfl rfl k)) ?_
      obtain ⟨T79, X79, e79, st79⟩ := getS2 X78 hx hZ hown (host := "") (Or.inl (own_w hw 5 rfl)) Via.refl eq78 S_INT (g := (mkF m 49 #[.val (.int p0), .val (.int p1), .val (.ref aB), .val (.ref aD), .val (.ref aD), .val (.ref aD), .unset] [(.ref aB)])) rfl (hb hby at_49)
      refine own_go (x' := T79.setTop (mkF m 52 #[.val (.int p0), .val (.int p1), .val (.ref aB), .val (.ref aD), .val (.ref aD), .val (.ref aD), .unset] [(.ref aI), (.ref aB)])) st79 ?_
      refine own_go (x' := T79.setTop (mkF m 66 #[.val (.int p0), .val (.int p1), .val (.ref aB), .val (.ref aD), .val (.ref aD), .val (.ref aD), .unset] [])) (fun _ k => Jvm.RoadKit.acmp (g := (mkF m 52 #[.val (.int p0), .val (.int p1), .val (.ref aB), .val (.ref aD), .val (.ref aD), .val (.ref aD), .unset] [(.ref aI), (.ref aB)])) X79 hx rfl rfl rfl (pc0 := 52) (pc' := 66) (same := false) rfl (hb hby at_52) rfl (decide_eq_false fun q => ne_aI_aB (Value.ref.inj q).symm) (by decide) (by decide) k) ?_
      refine own_go (x' := T79.setTop (mkF m 71 #[.val (.int p0), .val (.int p1), .val (.ref aB), .val (.ref aD), .val (.ref aD), .val (.ref aD), .val (.int (0 : Int32))] [(.ref aD)])) (fun _ k => XS.iconst X79.here hx rfl (hb hby at_66) (XS.istore X79.here hx rfl (hb hby at_67) rfl (l' := #[.val (.int p0), .val (.int p1), .val (.ref aB), .val (.ref aD), .val (.ref aD), .val (.ref aD), .val (.int (0 : Int32))]) rfl (XS.aload X79.here hx rfl (hb hby at_69) rfl rfl k))) ?_
      obtain ⟨T80, X80, e80, st80⟩ := getS2 X79 hx hZ hown (host := "") (Or.inl (own_w hw 5 rfl)) Via.refl e79 S_INT (g := (mkF m 71 #[.val (.int p0), .val (.int p1), .val (.ref aB), .val (.ref aD), .val (.ref aD), .val (.ref aD), .val (.int (0 : Int32))] [(.ref aD)])) rfl (hb hby at_71)
      refine own_go (x' := T80.setTop (mkF m 74 #[.val (.int p0), .val (.int p1), .val (.ref aB), .val (.ref aD), .val (.ref aD), .val (.ref aD), .val (.int (0 : Int32))] [(.ref aI), (.ref aD)])) st80 ?_
      refine own_go (x' := T80.setTop (mkF m 81 #[.val (.int p0), .val (.int p1), .val (.ref aB), .val (.ref aD), .val (.ref aD), .val (.ref aD), .val (.int (0 : Int32))] [])) (fun _ k => Jvm.RoadKit.acmp (g := (mkF m 74 #[.val (.int p0), .val (.int p1), .val (.ref aB), .val (.ref aD), .val (.ref aD), .val (.ref aD), .val (.int (0 : Int32))] [(.ref aI), (.ref aD)])) X80 hx rfl rfl rfl (pc0 := 74) (pc' := 81) (same := false) rfl (hb hby at_74) rfl (decide_eq_false fun q => ne_aI_aD (Value.ref.inj q).symm) (by decide) (by decide) k) ?_
      refine own_go (x' := T80.setTop (mkF m 90 #[.val (.int p0), .val (.int p1), .val (.ref aB), .val (.ref aD), .val (.ref aD), .val (.ref aD), .val (.int (0 : Int32))] [(.ref aB)])) (fun _ k => XS.iconst X80.here hx rfl (hb hby at_81) (XS.iload X80.here hx rfl (hb hby at_82) rfl (XS.icmpYes X80.here hx rfl (pc0 := 84) (pc' := 89) rfl (hb hby at_84) rfl (teq rfl).1 (by decide) (by decide) (XS.aloadN X80.here hx rfl (hb hby at_89) rfl rfl k)))) ?_
      obtain ⟨T81, X81, e81, st81⟩ := getS2 X80 hx hZ hown (host := "") (Or.inl (own_w hw 19 rfl)) Via.refl e80 S_BOOL (g := (mkF m 90 #[.val (.int p0), .val (.int p1), .val (.ref aB), .val (.ref aD), .val (.ref aD), .val (.ref aD), .val (.int (0 : Int32))] [(.ref aB)])) rfl (hb hby at_90)
      refine own_go (x' := T81.setTop (mkF m 93 #[.val (.int p0), .val (.int p1), .val (.ref aB), .val (.ref aD), .val (.ref aD), .val (.ref aD), .val (.int (0 : Int32))] [(.ref aB), (.ref aB)])) st81 ?_
      refine own_go (x' := T81.setTop (mkF m 123 #[.val (.int p0), .val (.int p1), .val (.ref aB), .val (.ref aD), .val (.ref aD), .val (.ref aD), .val (.int (0 : Int32))] [])) (fun _ k => Jvm.RoadKit.acmp (g := (mkF m 93 #[.val (.int p0), .val (.int p1), .val (.ref aB), .val (.ref aD), .val (.ref aD), .val (.ref aD), .val (.int (0 : Int32))] [(.ref aB), (.ref aB)])) X81 hx rfl rfl rfl (pc0 := 93) (pc' := 123) (same := true) rfl (hb hby at_93) rfl (decide_eq_true rfl) (by decide) (by decide) k) ?_
      refine own_go (x' := T81.setTop (mkF m 124 #[.val (.int p0), .val (.int p1), .val (.ref aB), .val (.ref aD), .val (.ref aD), .val (.ref aD), .val (.int (0 : Int32))] [(.int (1 : Int32))])) (fun _ k => XS.iconst X81.here hx rfl (hb hby at_123) k) ?_
      refine own_retN X81 hx hlk (t := .boolean) hret (by simp) (hb hby at_124) (w := (1 : Int32)) rfl ?_ (by decide) (by decide)
      rw [e81]
      exact ⟨rfl, Nf⟩
    · refine own_go (x' := s₁.setTop (mkF m 1 #[.val (.int p0), .val (.int p1), .unset, .unset, .unset, .unset, .unset] [(.int p0)])) (fun _ k => XS.iloadN X0.here hx rfl (hb hby at_0) rfl k) ?_
      obtain ⟨_, _, ⟨T82, L82, k82, n82⟩, -, X82, ⟨Lc82, hQ82, l82, y82, z82⟩, st82⟩ := Jvm.LawKit.callS X0 hx (y := (⟨"com/example/stratgen/stratgen/model/TypeNumericResultPinLaw", "pick", "(I)Lcom/example/stratgen/stratgen/model/Type;"⟩ : MethodName)) hown (mvT hZ (own_w hw 0 rfl)) (mvT hZ (own_w hw 1 rfl)) (mvT hZ (own_w hw 2 rfl)) (mvT hZ (own_w hw 3 rfl)) (by decide) (backOf (W := 0) (rm1 l Z a0 hw [] p0 aI aD aB h0 n0 Zs S_INT S_DOUBLE S_BOOL) hZ (own_w hw 3 rfl) (own_w hw 2 rfl) (by decide) (by decide)) (g := (mkF m 1 #[.val (.int p0), .val (.int p1), .unset, .unset, .unset, .unset, .unset] [(.int p0)])) rfl (by rw [hml]; rfl) (argsL := [(.int p0)]) (rest := []) (lenOf pd_0 rfl) rfl (by show 2 * 0 + _ ≤ _; exact Nat.le_of_eq rfl) (hb hby at_1) (fun _ _ => ⟨rfl, e0, (by decide : 0 + 0 ≤ _), (by decide : 0 + 0 ≤ _)⟩)
      dsimp only [Pt.U, Pt.locs, Pt.cells, Pt.slots] at X82 l82 y82 z82 st82 hQ82
      subst l82 y82 z82
      obtain ⟨hv82, Nq82, eq82⟩ := hQ82
      have hk82 : own_pick (2 : Int32) aI aD aB = aB := by first | rfl | decide
      rw [hmp0, hk82] at hv82
      subst hv82
      replace Nf := Fr.app Nf Nq82
      refine own_go (x' := T82.setTop (mkF m 4 #[.val (.int p0), .val (.int p1), .unset, .unset, .unset, .unset, .unset] [(.ref aB)])) st82 ?_
      refine own_go (x' := T82.setTop (mkF m 6 #[.val (.int p0), .val (.int p1), .val (.ref aB), .unset, .unset, .unset, .unset] [(.int p1)])) (fun _ k => XS.astoreN X82.here hx rfl (hb hby at_4) rfl rfl (l' := #[.val (.int p0), .val (.int p1), .val (.ref aB), .unset, .unset, .unset, .unset]) rfl (XS.iloadN X82.here hx rfl (hb hby at_5) rfl k)) ?_
      obtain ⟨_, _, ⟨T83, L83, k83, n83⟩, -, X83, ⟨Lc83, hQ83, l83, y83, z83⟩, st83⟩ := Jvm.LawKit.callS X82 hx (y := (⟨"com/example/stratgen/stratgen/model/TypeNumericResultPinLaw", "pick", "(I)Lcom/example/stratgen/stratgen/model/Type;"⟩ : MethodName)) hown (mvT hZ (own_w hw 0 rfl)) (mvT hZ (own_w hw 1 rfl)) (mvT hZ (own_w hw 2 rfl)) (mvT hZ (own_w hw 3 rfl)) (by decide) (backOf (W := 0) (rm1 l Z a0 hw [] p1 aI aD aB h0 n0 Zs S_INT S_DOUBLE S_BOOL) hZ (own_w hw 3 rfl) (own_w hw 2 rfl) (by decide) (by decide)) (g := (mkF m 6 #[.val (.int p0), .val (.int p1), .val (.ref aB), .unset, .unset, .unset, .unset] [(.int p1)])) rfl (by rw [hml]; rfl) (argsL := [(.int p1)]) (rest := []) (lenOf pd_0 rfl) rfl (by show 2 * 0 + _ ≤ _; exact Nat.le_of_eq rfl) (hb hby at_6) (fun _ _ => ⟨rfl, eq82, (by decide : 0 + 0 ≤ _), (by decide : 0 + 0 ≤ _)⟩)
      dsimp only [Pt.U, Pt.locs, Pt.cells, Pt.slots] at X83 l83 y83 z83 st83 hQ83
      subst l83 y83 z83
      obtain ⟨hv83, Nq83, eq83⟩ := hQ83
      have hk83 : own_pick (2 : Int32) aI aD aB = aB := by first | rfl | decide
      rw [hmp1, hk83] at hv83
      subst hv83
      replace Nf := Fr.app Nf Nq83
      refine own_go (x' := T83.setTop (mkF m 9 #[.val (.int p0), .val (.int p1), .val (.ref aB), .unset, .unset, .unset, .unset] [(.ref aB)])) st83 ?_
      refine own_go (x' := T83.setTop (mkF m 12 #[.val (.int p0), .val (.int p1), .val (.ref aB), .val (.ref aB), .unset, .unset, .unset] [(.ref aB), (.ref aB)])) (fun _ k => XS.astoreN X83.here hx rfl (hb hby at_9) rfl rfl (l' := #[.val (.int p0), .val (.int p1), .val (.ref aB), .val (.ref aB), .unset, .unset, .unset]) rfl (XS.aloadN X83.here hx rfl (hb hby at_10) rfl rfl (XS.aloadN X83.here hx rfl (hb hby at_11) rfl rfl k))) ?_
      obtain ⟨_, _, ⟨T84, L84, k84, n84⟩, -, X84, ⟨Lc84, hQ84, l84, y84, z84⟩, st84⟩ := Jvm.LawKit.callS X83 hx (y := (⟨"com/example/stratgen/stratgen/model/Type", "numericResult", "(Lcom/example/stratgen/stratgen/model/Type;Lcom/example/stratgen/stratgen/model/Type;)Lcom/example/stratgen/stratgen/model/Type;"⟩ : MethodName)) hown (mvT hZ (own_w hw 8 rfl)) (mvT hZ (own_w hw 9 rfl)) (mvT hZ (own_w hw 6 rfl)) (mvT hZ (own_w hw 10 rfl)) (by decide) (backOf (W := 0) (rm2 l Z a0 hw [] aB aB aI aD h0 n0 Zs S_INT S_DOUBLE) hZ (own_w hw 10 rfl) (own_w hw 6 rfl) (by decide) (by decide)) (g := (mkF m 12 #[.val (.int p0), .val (.int p1), .val (.ref aB), .val (.ref aB), .unset, .unset, .unset] [(.ref aB), (.ref aB)])) rfl (by rw [hml]; rfl) (argsL := [(.ref aB), (.ref aB)]) (rest := []) (lenOf pd_1 rfl) rfl (by show 2 * 0 + _ ≤ _; exact Nat.le_of_eq rfl) (hb hby at_12) (fun _ _ => ⟨rfl, eq83, (by decide : 0 + 0 ≤ _), (by decide : 0 + 0 ≤ _)⟩)
      dsimp only [Pt.U, Pt.locs, Pt.cells, Pt.slots] at X84 l84 y84 z84 st84 hQ84
      subst l84 y84 z84
      obtain ⟨hv84, Nq84, eq84⟩ := hQ84
      have hk84 : own_num aB aB aI aD = aD := by simp [own_num, ne_aI_aD, ne_aI_aB, ne_aD_aB, ne_aI_aD.symm, ne_aI_aB.symm, ne_aD_aB.symm]
      rw [hk84] at hv84
      subst hv84
      replace Nf := Fr.app Nf Nq84
      refine own_go (x' := T84.setTop (mkF m 15 #[.val (.int p0), .val (.int p1), .val (.ref aB), .val (.ref aB), .unset, .unset, .unset] [(.ref aD)])) st84 ?_
      refine own_go (x' := T84.setTop (mkF m 19 #[.val (.int p0), .val (.int p1), .val (.ref aB), .val (.ref aB), .val (.ref aD), .unset, .unset] [(.ref aB), (.ref aB)])) (fun _ k => XS.astore X84.here hx rfl (hb hby at_15) rfl rfl (l' := #[.val (.int p0), .val (.int p1), .val (.ref aB), .val (.ref aB), .val (.ref aD), .unset, .unset]) rfl (XS.aloadN X84.here hx rfl (hb hby at_17) rfl rfl (XS.aloadN X84.here hx rfl (hb hby at_18) rfl rfl k))) ?_
      obtain ⟨_, _, ⟨T85, L85, k85, n85⟩, -, X85, ⟨Lc85, hQ85, l85, y85, z85⟩, st85⟩ := Jvm.LawKit.callS X84 hx (y := (⟨"com/example/stratgen/stratgen/model/Type", "numericResult", "(Lcom/example/stratgen/stratgen/model/Type;Lcom/example/stratgen/stratgen/model/Type;)Lcom/example/stratgen/stratgen/model/Type;"⟩ : MethodName)) hown (mvT hZ (own_w hw 8 rfl)) (mvT hZ (own_w hw 9 rfl)) (mvT hZ (own_w hw 6 rfl)) (mvT hZ (own_w hw 10 rfl)) (by decide) (backOf (W := 0) (rm2 l Z a0 hw [] aB aB aI aD h0 n0 Zs S_INT S_DOUBLE) hZ (own_w hw 10 rfl) (own_w hw 6 rfl) (by decide) (by decide)) (g := (mkF m 19 #[.val (.int p0), .val (.int p1), .val (.ref aB), .val (.ref aB), .val (.ref aD), .unset, .unset] [(.ref aB), (.ref aB)])) rfl (by rw [hml]; rfl) (argsL := [(.ref aB), (.ref aB)]) (rest := []) (lenOf pd_1 rfl) rfl (by show 2 * 0 + _ ≤ _; exact Nat.le_of_eq rfl) (hb hby at_19) (fun _ _ => ⟨rfl, eq84, (by decide : 0 + 0 ≤ _), (by decide : 0 + 0 ≤ _)⟩)
      dsimp only [Pt.U, Pt.locs, Pt.cells, Pt.slots] at X85 l85 y85 z85 st85 hQ85
      subst l85 y85 z85
      obtain ⟨hv85, Nq85, eq85⟩ := hQ85
      have hk85 : own_num aB aB aI aD = aD := by simp [own_num, ne_aI_aD, ne_aI_aB, ne_aD_aB, ne_aI_aD.symm, ne_aI_aB.symm, ne_aD_aB.symm]
      rw [hk85] at hv85
      subst hv85
      replace Nf := Fr.app Nf Nq85
      refine own_go (x' := T85.setTop (mkF m 22 #[.val (.int p0), .val (.int p1), .val (.ref aB), .val (.ref aB), .val (.ref aD), .unset, .unset] [(.ref aD)])) st85 ?_
      refine own_go (x' := T85.setTop (mkF m 33 #[.val (.int p0), .val (.int p1), .val (.ref aB), .val (.ref aB), .val (.ref aD), .val (.ref aD), .unset] [(.ref aD), (.ref aD)])) (fun _ k => XS.astore X85.here hx rfl (hb hby at_22) rfl rfl (l' := #[.val (.int p0), .val (.int p1), .val (.ref aB), .val (.ref aB), .val (.ref aD), .val (.ref aD), .unset]) rfl (XS.aload X85.here hx rfl (hb hby at_24) rfl rfl (XS.ifnullNo X85.here hx rfl (hb hby at_26) rfl (XS.aload X85.here hx rfl (hb hby at_29) rfl rfl (XS.aload X85.here hx rfl (hb hby at_31) rfl rfl k))))) ?_
      refine own_go (x' := T85.setTop (mkF m 38 #[.val (.int p0), .val (.int p1), .val (.ref aB), .val (.ref aB), .val (.ref aD), .val (.ref aD), .unset] [])) (fun _ k => Jvm.RoadKit.acmp (g := (mkF m 33 #[.val (.int p0), .val (.int p1), .val (.ref aB), .val (.ref aB), .val (.ref aD), .val (.ref aD), .unset] [(.ref aD), (.ref aD)])) X85 hx rfl rfl rfl (pc0 := 33) (pc' := 38) (same := true) rfl (hb hby at_33) rfl (decide_eq_true rfl) (by decide) (by decide) k) ?_
      refine own_go (x' := T85.setTop (mkF m 40 #[.val (.int p0), .val (.int p1), .val (.ref aB), .val (.ref aB), .val (.ref aD), .val (.ref aD), .unset] [(.ref aD)])) (fun _ k => XS.aload X85.here hx rfl (hb hby at_38) rfl rfl k) ?_
      obtain ⟨cq86, kq86, q86a, q86b, q86c⟩ := isOf hZ eq85 E_aD
      obtain ⟨_, _, ⟨T86, L86, k86, n86⟩, -, X86, ⟨Lc86, hQ86, l86, y86, z86⟩, st86⟩ := X85.virtualBack hx (y := (⟨"com/example/stratgen/stratgen/model/Type", "isNumeric", "()Z"⟩ : MethodName)) (z := (⟨"com/example/stratgen/stratgen/model/Type", "isNumeric", "()Z"⟩ : MethodName)) hown (mvT hZ (own_w hw 12 rfl)) (mvT hZ (own_w hw 13 rfl)) (notFace_of_selects (args := #[]) (mvT hZ (own_w hw 15 rfl))) (mvT hZ (own_w hw 15 rfl)) (mvT hZ (own_w hw 14 rfl)) (by decide) (backOf (W := 0) (rm3 l Z a0 hw [] aD aB h0 n0 Zs S_BOOL) hZ (own_w hw 16 rfl) (own_w hw 6 rfl) (by decide) (by decide)) q86a q86c (g := (mkF m 40 #[.val (.int p0), .val (.int p1), .val (.ref aB), .val (.ref aB), .val (.ref aD), .val (.ref aD), .unset] [(.ref aD)])) rfl (by rw [hml]; rfl) (Steps.refl _) (argsL := []) (rest := []) (lenOf pd_2 rfl) rfl (by show 2 * 0 + _ ≤ _; exact Nat.le_of_eq rfl) (hb hby at_40) (fun _ _ => ⟨rfl, eq85, (by decide : 0 + 0 ≤ _), (by decide : 0 + 0 ≤ _)⟩)
      dsimp only [Pt.U, Pt.locs, Pt.cells, Pt.slots] at X86 l86 y86 z86 st86 hQ86
      subst l86 y86 z86
      obtain ⟨hv86, Nq86, eq86⟩ := hQ86
      have hk86 : own_isn aD aB = 1 := by simp [own_isn, ne_aI_aD, ne_aI_aB, ne_aD_aB, ne_aI_aD.symm, ne_aI_aB.symm, ne_aD_aB.symm]
      rw [hk86] at hv86
      subst hv86
      replace Nf := Fr.app Nf Nq86
      refine own_go (x' := T86.setTop (mkF m 43 #[.val (.int p0), .val (.int p1), .val (.ref aB), .val (.ref aB), .val (.ref aD), .val (.ref aD), .unset] [(.int (1 : Int32))])) (fun _ k => st86.trans k) ?_
      refine own_go (x' := T86.setTop (mkF m 49 #[.val (.int p0), .val (.int p1), .val (.ref aB), .val (.ref aB), .val (.ref aD), .val (.ref aD), .unset] [(.ref aB)])) (fun _ k => XS.ifYes X86.here hx rfl (pc0 := 43) (pc' := 48) rfl (hb hby at_43) rfl ((if0 _ _).trans (feq (by decide +kernel : ¬ ((1 : Int32) = (0 : Int32)))).2) (by decide) (by decide) (XS.aloadN X86.here hx rfl (hb hby at_48) rfl rfl k)) ?_
      obtain ⟨T87, X87, e87, st87⟩ := getS2 X86 hx hZ hown (host := "") (Or.inl (own_w hw 5 rfl)) Via.refl eq86 S_INT (g := (mkF m 49 #[.val (.int p0), .val (.int p1), .val (.ref aB), .val (.ref aB), .val (.ref aD), .val (.ref aD), .unset] [(.ref aB)])) rfl (hb hby at_49)
      refine own_go (x' := T87.setTop (mkF m 52 #[.val (.int p0), .val (.int p1), .val (.ref aB), .val (.ref aB), .val (.ref aD), .val (.ref aD), .unset] [(.ref aI), (.ref aB)])) st87 ?_
      refine own_go (x' := T87.setTop (mkF m 66 #[.val (.int p0), .val (.int p1), .val (.ref aB), .val (.ref aB), .val (.ref aD), .val (.ref aD), .unset] [])) (fun _ k => Jvm.RoadKit.acmp (g := (mkF m 52 #[.val (.int p0), .val (.int p1), .val (.ref aB), .val (.ref aB), .val (.ref aD), .val (.ref aD), .unset] [(.ref aI), (.ref aB)])) X87 hx rfl rfl rfl (pc0 := 52) (pc' := 66) (same := false) rfl (hb hby at_52) rfl (decide_eq_false fun q => ne_aI_aB (Value.ref.inj q).symm) (by decide) (by decide) k) ?_
      refine own_go (x' := T87.setTop (mkF m 71 #[.val (.int p0), .val (.int p1), .val (.ref aB), .val (.ref aB), .val (.ref aD), .val (.ref aD), .val (.int (0 : Int32))] [(.ref aD)])) (fun _ k => XS.iconst X87.here hx rfl (hb hby at_66) (XS.istore X87.here hx rfl (hb hby at_67) rfl (l' := #[.val (.int p0), .val (.int p1), .val (.ref aB), .val (.ref aB), .val (.ref aD), .val (.ref aD), .val (.int (0 : Int32))]) rfl (XS.aload X87.here hx rfl (hb hby at_69) rfl rfl k))) ?_
      obtain ⟨T88, X88, e88, st88⟩ := getS2 X87 hx hZ hown (host := "") (Or.inl (own_w hw 5 rfl)) Via.refl e87 S_INT (g := (mkF m 71 #[.val (.int p0), .val (.int p1), .val (.ref aB), .val (.ref aB), .val (.ref aD), .val (.ref aD), .val (.int (0 : Int32))] [(.ref aD)])) rfl (hb hby at_71)
      refine own_go (x' := T88.setTop (mkF m 74 #[.val (.int p0), .val (.int p1), .val (.ref aB), .val (.ref aB), .val (.ref aD), .val (.ref aD), .val (.int (0 : Int32))] [(.ref aI), (.ref aD)])) st88 ?_
      refine own_go (x' := T88.setTop (mkF m 81 #[.val (.int p0), .val (.int p1), .val (.ref aB), .val (.ref aB), .val (.ref aD), .val (.ref aD), .val (.int (0 : Int32))] [])) (fun _ k => Jvm.RoadKit.acmp (g := (mkF m 74 #[.val (.int p0), .val (.int p1), .val (.ref aB), .val (.ref aB), .val (.ref aD), .val (.ref aD), .val (.int (0 : Int32))] [(.ref aI), (.ref aD)])) X88 hx rfl rfl rfl (pc0 := 74) (pc' := 81) (same := false) rfl (hb hby at_74) rfl (decide_eq_false fun q => ne_aI_aD (Value.ref.inj q).symm) (by decide) (by decide) k) ?_
      refine own_go (x' := T88.setTop (mkF m 90 #[.val (.int p0), .val (.int p1), .val (.ref aB), .val (.ref aB), .val (.ref aD), .val (.ref aD), .val (.int (0 : Int32))] [(.ref aB)])) (fun _ k => XS.iconst X88.here hx rfl (hb hby at_81) (XS.iload X88.here hx rfl (hb hby at_82) rfl (XS.icmpYes X88.here hx rfl (pc0 := 84) (pc' := 89) rfl (hb hby at_84) rfl (teq rfl).1 (by decide) (by decide) (XS.aloadN X88.here hx rfl (hb hby at_89) rfl rfl k)))) ?_
      obtain ⟨T89, X89, e89, st89⟩ := getS2 X88 hx hZ hown (host := "") (Or.inl (own_w hw 19 rfl)) Via.refl e88 S_BOOL (g := (mkF m 90 #[.val (.int p0), .val (.int p1), .val (.ref aB), .val (.ref aB), .val (.ref aD), .val (.ref aD), .val (.int (0 : Int32))] [(.ref aB)])) rfl (hb hby at_90)
      refine own_go (x' := T89.setTop (mkF m 93 #[.val (.int p0), .val (.int p1), .val (.ref aB), .val (.ref aB), .val (.ref aD), .val (.ref aD), .val (.int (0 : Int32))] [(.ref aB), (.ref aB)])) st89 ?_
      refine own_go (x' := T89.setTop (mkF m 123 #[.val (.int p0), .val (.int p1), .val (.ref aB), .val (.ref aB), .val (.ref aD), .val (.ref aD), .val (.int (0 : Int32))] [])) (fun _ k => Jvm.RoadKit.acmp (g := (mkF m 93 #[.val (.int p0), .val (.int p1), .val (.ref aB), .val (.ref aB), .val (.ref aD), .val (.ref aD), .val (.int (0 : Int32))] [(.ref aB), (.ref aB)])) X89 hx rfl rfl rfl (pc0 := 93) (pc' := 123) (same := true) rfl (hb hby at_93) rfl (decide_eq_true rfl) (by decide) (by decide) k) ?_
      refine own_go (x' := T89.setTop (mkF m 124 #[.val (.int p0), .val (.int p1), .val (.ref aB), .val (.ref aB), .val (.ref aD), .val (.ref aD), .val (.int (0 : Int32))] [(.int (1 : Int32))])) (fun _ k => XS.iconst X89.here hx rfl (hb hby at_123) k) ?_
      refine own_retN X89 hx hlk (t := .boolean) hret (by simp) (hb hby at_124) (w := (1 : Int32)) rfl ?_ (by decide) (by decide)
      rw [e89]
      exact ⟨rfl, Nf⟩
set_option maxRecDepth 65536 in
set_option maxHeartbeats 40000000 in
theorem comes_1 {Post : Tables → Env → Array Value → State → Outcome → State → Prop} (hpost : ∀ tb e args s v u, (limb_1_1.after args s (.returned v) u = true ∧ limb_1_2.after args s (.returned v) u = true ∧ True) → FrameEnd s (.returned v) u (Jvm.fieldLocs frame_1_writes args s ++ Jvm.arrayLocs frame_1_arrays args s ++ Jvm.staticLocs frame_1_statics s) 0 0 → Post tb e args s (.returned v) u) :
    ArmFor flags0 classFile x code maxLocals ret World_1 tables_1 room_1 Calls_1 rest_1 Pre_1 Post := by
  intro l hfl _ _ p e ha hc hk s m args below hf hA hF happ hP
  obtain ⟨hcalls, hrest, hpre⟩ := hP
  obtain ⟨-, -, -, hnamed, -, -, -, hat⟩ := (Spec.applies_iff hf).mp happ
  obtain ⟨hg, hn⟩ := and_e (Cond.before_iff.mp (show (Jvm.Cond.and given_1 narrow_1).before args s = true from hpre))
  obtain ⟨gg1, gg2⟩ := and_e hg
  obtain ⟨gg3, gg4⟩ := and_e gg2
  obtain ⟨w0, w1, rfl⟩ : ∃ w0 w1 : Value, args = #[w0, w1] := by
    have hs : args.size = 2 := by simpa [Cond.value, given_1] using gg1
    obtain ⟨L⟩ := args
    match L, hs with
    | [w0, w1], _ => exact ⟨w0, w1, rfl⟩
  have hw := fun d (hd : d ∈ tables_1) => atoms_spec (ws := Jvm.Cond.code x code maxLocals ret :: tables_1) hat d (List.mem_cons_of_mem _ hd)
  have hfit : Fit s := fun {y c} hc i hi => by
    obtain ⟨ha, rfl⟩ := Array.getElem?_eq_some_iff.mp hc
    have q := List.all_eq_true.mp ((Array.all_eq_true_iff_forall_mem.mp hF) _ (Array.getElem_mem ha)) i (List.mem_range.mpr hi)
    simpa [Array.getElem?_eq_getElem hi] using q
  obtain ⟨i0, ei0⟩ := is_v gg3
  obtain rfl : w0 = (.int i0) := Option.some.inj ei0
  obtain ⟨i1, ei1⟩ := is_v gg4
  obtain rfl : w1 = (.int i1) := Option.some.inj ei1
  obtain ⟨hn1, hn2⟩ := and_e hn
  obtain ⟨hn3, hn4⟩ := and_e hn2
  obtain ⟨hn5, hn6⟩ := and_e hn4
  obtain ⟨hn7, hn8⟩ := and_e hn6
  obtain ⟨hn9, hn10⟩ := and_e hn8
  obtain ⟨aI, ev_INT⟩ := exa_v hn1
  have S_INT : Sta s s.heap "com/example/stratgen/stratgen/model/Type" "INT" "Lcom/example/stratgen/stratgen/model/Type;" (.ref aI) := Sta.start ev_INT (Or.inr ⟨(own_w hw 6 rfl), (own_w hw 7 rfl)⟩)
  have E_aI : Exa s s.heap aI "com/example/stratgen/stratgen/model/Type" := Exa.start ev_INT hn1
  obtain ⟨aB, ev_BOOL⟩ := exa_v hn3
  have S_BOOL : Sta s s.heap "com/example/stratgen/stratgen/model/Type" "BOOL" "Lcom/example/stratgen/stratgen/model/Type;" (.ref aB) := Sta.start ev_BOOL (Or.inr ⟨(own_w hw 6 rfl), (own_w hw 18 rfl)⟩)
  have E_aB : Exa s s.heap aB "com/example/stratgen/stratgen/model/Type" := Exa.start ev_BOOL hn3
  obtain ⟨aD, ev_DOUBLE⟩ := exa_v hn9
  have S_DOUBLE : Sta s s.heap "com/example/stratgen/stratgen/model/Type" "DOUBLE" "Lcom/example/stratgen/stratgen/model/Type;" (.ref aD) := Sta.start ev_DOUBLE (Or.inr ⟨(own_w hw 6 rfl), (own_w hw 26 rfl)⟩)
  have E_aD : Exa s s.heap aD "com/example/stratgen/stratgen/model/Type" := Exa.start ev_DOUBLE hn9
  have F_aI_ordinal : Fld s s.heap aI "java/lang/Enum" "ordinal" "I" (.int (0 : Int32)) := own_fldI ev_INT hn5
  have F_aB_ordinal : Fld s s.heap aB "java/lang/Enum" "ordinal" "I" (.int (2 : Int32)) := own_fldI ev_BOOL hn7
  have F_aD_ordinal : Fld s s.heap aD "java/lang/Enum" "ordinal" "I" (.int (1 : Int32)) := own_fldI ev_DOUBLE hn10
  have ne_aI_aD : aI ≠ aD := F_aI_ordinal.ne F_aD_ordinal (by decide)
  have ne_aI_aB : aI ≠ aB := F_aI_ordinal.ne F_aB_ordinal (by decide)
  have ne_aD_aB : aD ≠ aB := F_aD_ordinal.ne F_aB_ordinal (by decide)
  obtain ⟨n, o, h1, h2, h3, _, L, rfl, ⟨rfl, N⟩, hq⟩ := rm0 l s _ hw tables_1 i0 i1 aI aD aB s.heap s.heap.size (Nat.le_refl _) S_INT S_DOUBLE S_BOOL E_aI E_aD E_aB ne_aI_aD ne_aI_aB ne_aD_aB p e ha hc hk s m _ below hf ((Spec.applies_iff_loose hf).mp happ).1 ⟨rfl, State.Warmed39.refl s, rfl⟩ trivial
  refine ⟨n, _, h1, h2, h3, hpost _ _ _ _ _ _ ⟨Cond.after_iff.mpr rfl, Cond.after_iff.mpr (eq_i res_at (Term.int_eval (1)) rfl), trivial⟩ ⟨hq.1, hq.2.1, (hq.2.2.sift fun y hy => Or.inr (N y hy)).mono (by decide) (by decide)⟩⟩
theorem main_1_1 : Claimed_1_1 := comes_1 fun _ _ _ _ _ _ h hF => ⟨h.1, hF⟩
theorem main_1_2 : Claimed_1_2 := comes_1 fun _ _ _ _ _ _ h hF => ⟨h.2.1, hF⟩
end Jvm.Pilot.@@N@@
namespace Jvm.Pilot.@@N@@
open Jvm Jvm.ClassFile Sem Op Lib Jvm.Free Jvm.Stand Jvm.Pilot.@@N@@.Jvm.D
/-! MADE BY PROGRAM (witnessworld.py) out of the Statement's table words and the real class files: 12 classes; the members and pool entries that the words name. The judged class is class 1, her method 2. -/
namespace start1
open Jvm.ClassFile
def u (s : String) : CpInfo := .utf8 (stringToUtf16 s)
/-- a pool by its gaps: so many unusable entries, then the entry; so many at the end -/
def gap : Nat → List CpInfo → List CpInfo
  | 0, r => r
  | n + 1, r => .unusable :: gap n r
def poolList (es : List (Nat × CpInfo)) (last : Nat) : List CpInfo := es.foldr (fun e r => gap e.1 (e.2 :: r)) (gap last [])
def pool (es : List (Nat × CpInfo)) (last : Nat) : Array CpInfo := ⟨poolList es last⟩
def fileOf (pool : Array CpInfo) (this : Nat) (attrs : Array Attribute := #[]) (ms : Array MethodInfo := #[]) (fl : Nat := 33) (sup : Nat := 0) (ifs : Array Nat := #[]) (fds : Array FieldInfo := #[]) : ClassFile where
  minorVersion := 0
  majorVersion := 65
  constantPool := pool
  accessFlags := fl
  thisClass := this
  superClass := sup
  interfaces := ifs
  fields := fds
  methods := ms
  attributes := attrs
def plain (name : String) (sup : Option ClassId) : Class where
  name := name
  kind := .ordinary
  loader := none
  accessFlags := 33
  super := sup
  interfaces := #[]
  cf := none
  fields := #[]
  methods := #[]
  instanceTypes := #[]
  staticTypes := #[]
  resolved := #[]
  callSites := []
  init := .initialized
  statics := none
  mirror := none

def pool0 : Array CpInfo := pool [(5, u "<init>"), (0, u "()V"), (1, .class_ 10), (1, u "java/lang/Object")] 113

def k0m0 : Method := { name := "<init>", desc := "()V", sig := { parameters := [], returnType := none }, accessFlags := 1, code := none }
/-- java/lang/Object -/
def k0 : Class := { plain "java/lang/Object" none with
  accessFlags := 33
  interfaces := #[]
  cf := some (fileOf pool0 8 #[] #[{ accessFlags := 1, nameIndex := 5, descriptorIndex := 6, attributes := #[] }] 33 0 #[] #[])
  fields := #[]
  methods := #[k0m0]
  instanceTypes := #[]
  staticTypes := #[]
  resolved := Array.replicate 124 none
  statics := none }

def pool1 : Array CpInfo := pool [(2, .class_ 4), (1, u "java/lang/Object"), (0, u "<init>"), (0, u "()V"), (0, .integer 2147483647), (0, .fieldref 9 10), (0, .class_ 11), (0, .nameAndType 12 13), (0, u "com/example/stratgen/stratgen/model/Type"), (0, u "INT"), (0, u "Lcom/example/stratgen/stratgen/model/Type;"), (0, .fieldref 9 15), (0, .nameAndType 16 13), (0, u "DOUBLE"), (0, .fieldref 9 18), (0, .nameAndType 19 13), (0, u "BOOL"), (0, .methodref 21 22), (0, .class_ 23), (0, .nameAndType 24 25), (0, u "com/example/stratgen/stratgen/model/TypeNumericResultPinLaw"), (0, u "pick"), (0, u "(I)Lcom/example/stratgen/stratgen/model/Type;"), (0, .methodref 9 27), (0, .nameAndType 28 29), (0, u "numericResult"), (0, u "(Lcom/example/stratgen/stratgen/model/Type;Lcom/example/stratgen/stratgen/model/Type;)Lcom/example/stratgen/stratgen/model/Type;"), (0, .methodref 9 31), (0, .nameAndType 32 33), (0, u "isNumeric"), (0, u "()Z"), (0, .methodref 9 35), (0, .nameAndType 36 37), (0, u "accepts"), (0, u "(Lcom/example/stratgen/stratgen/model/Type;)Z"), (3, u "law"), (0, u "(II)Z")] 2

def k1m0 : Method := { name := "<init>", desc := "()V", sig := { parameters := [], returnType := none }, accessFlags := 1, code := none }
def k1c1 : Code := { maxStack := 2, maxLocals := 2, code := method_2_code, exceptionTable := #[], attributes := #[] }
def k1m1 : Method := { name := "pick", desc := "(I)Lcom/example/stratgen/stratgen/model/Type;", sig := { parameters := [.int], returnType := some (.object "com/example/stratgen/stratgen/model/Type") }, accessFlags := 10, code := some k1c1 }
def k1c2 : Code := { maxStack := 2, maxLocals := 7, code := code, exceptionTable := #[], attributes := #[] }
def k1m2 : Method := { name := "law", desc := "(II)Z", sig := { parameters := [.int, .int], returnType := some .boolean }, accessFlags := 9, code := some k1c2 }
/-- com/example/stratgen/stratgen/model/TypeNumericResultPinLaw -/
def k1 : Class := { plain "com/example/stratgen/stratgen/model/TypeNumericResultPinLaw" (some 0) with
  accessFlags := 49
  interfaces := #[]
  cf := some (fileOf pool1 21 #[] #[{ accessFlags := 1, nameIndex := 5, descriptorIndex := 6, attributes := #[] }, { accessFlags := 10, nameIndex := 24, descriptorIndex := 25, attributes := #[] }, { accessFlags := 9, nameIndex := 41, descriptorIndex := 42, attributes := #[] }] 49 2 #[] #[])
  fields := #[]
  methods := #[k1m0, k1m1, k1m2]
  instanceTypes := #[]
  staticTypes := #[]
  resolved := Array.replicate 45 none
  statics := none }

def pool2 : Array CpInfo := pool [(1, .class_ 2), (0, u "java/lang/constant/Constable"), (0, .class_ 4), (0, u "java/lang/Object")] 6

/-- java/lang/constant/Constable -/
def k2 : Class := { plain "java/lang/constant/Constable" (some 0) with
  accessFlags := 1537
  interfaces := #[]
  cf := some (fileOf pool2 1 #[] #[] 1537 3 #[] #[])
  fields := #[]
  methods := #[]
  instanceTypes := #[]
  staticTypes := #[]
  resolved := Array.replicate 11 none
  statics := none }

def pool3 : Array CpInfo := pool [(1, .class_ 2), (0, u "java/lang/Comparable"), (0, .class_ 4), (0, u "java/lang/Object")] 7

/-- java/lang/Comparable -/
def k3 : Class := { plain "java/lang/Comparable" (some 0) with
  accessFlags := 1537
  interfaces := #[]
  cf := some (fileOf pool3 1 #[] #[] 1537 3 #[] #[])
  fields := #[]
  methods := #[]
  instanceTypes := #[]
  staticTypes := #[]
  resolved := Array.replicate 12 none
  statics := none }

def pool4 : Array CpInfo := pool [(1, .class_ 2), (0, u "java/io/Serializable"), (0, .class_ 4), (0, u "java/lang/Object")] 2

/-- java/io/Serializable -/
def k4 : Class := { plain "java/io/Serializable" (some 0) with
  accessFlags := 1537
  interfaces := #[]
  cf := some (fileOf pool4 1 #[] #[] 1537 3 #[] #[])
  fields := #[]
  methods := #[]
  instanceTypes := #[]
  staticTypes := #[]
  resolved := Array.replicate 7 none
  statics := none }

def pool5 : Array CpInfo := pool [(2, .class_ 4), (1, u "java/lang/Enum"), (0, u "name"), (0, u "Ljava/lang/String;"), (2, u "ordinal"), (0, u "I"), (1, .class_ 14), (1, u "java/lang/Object"), (4, u "hash"), (86, .class_ 108), (1, u "java/lang/Enum$EnumDesc"), (2, .class_ 112), (0, u "java/lang/constant/Constable"), (0, .class_ 114), (0, u "java/lang/Comparable"), (0, .class_ 116), (0, u "java/io/Serializable")] 87

/-- java/lang/Enum -/
def k5 : Class := { plain "java/lang/Enum" (some 0) with
  accessFlags := 1057
  interfaces := #[2, 3, 4]
  cf := some (fileOf pool5 2 #[.nestMembers #[106]] #[] 1057 12 #[111, 113, 115] #[{ accessFlags := 18, nameIndex := 5, descriptorIndex := 6, attributes := #[] }, { accessFlags := 18, nameIndex := 9, descriptorIndex := 10, attributes := #[] }, { accessFlags := 2, nameIndex := 19, descriptorIndex := 10, attributes := #[] }])
  fields := #[{ name := "name", type := (.object "java/lang/String"), accessFlags := 18, slot := 0, constantValue := 0 }, { name := "ordinal", type := .int, accessFlags := 18, slot := 1, constantValue := 0 }, { name := "hash", type := .int, accessFlags := 2, slot := 2, constantValue := 0 }]
  methods := #[]
  instanceTypes := #[(.object "java/lang/String"), .int, .int]
  staticTypes := #[]
  resolved := Array.replicate 204 none
  statics := none }

def pool6 : Array CpInfo := pool [(1, .class_ 2), (0, u "com/example/stratgen/stratgen/model/Type"), (0, .fieldref 1 4), (0, .nameAndType 5 6), (0, u "INT"), (0, u "Lcom/example/stratgen/stratgen/model/Type;"), (0, .fieldref 1 8), (0, .nameAndType 9 6), (0, u "DOUBLE"), (0, .fieldref 1 11), (0, .nameAndType 12 6), (0, u "BOOL"), (2, u "$VALUES"), (0, u "[Lcom/example/stratgen/stratgen/model/Type;"), (6, .class_ 25), (1, u "java/lang/Enum"), (8, u "keyword"), (0, u "Ljava/lang/String;"), (24, u "isNumeric"), (0, u "()Z"), (1, u "accepts"), (0, u "(Lcom/example/stratgen/stratgen/model/Type;)Z"), (0, u "numericResult"), (0, u "(Lcom/example/stratgen/stratgen/model/Type;Lcom/example/stratgen/stratgen/model/Type;)Lcom/example/stratgen/stratgen/model/Type;")] 5

def k6c0 : Code := { maxStack := 2, maxLocals := 1, code := prog_96_method_5_code, exceptionTable := #[], attributes := #[] }
def k6m0 : Method := { name := "isNumeric", desc := "()Z", sig := { parameters := [], returnType := some .boolean }, accessFlags := 1, code := some k6c0 }
def k6c1 : Code := { maxStack := 2, maxLocals := 2, code := prog_96_method_6_code, exceptionTable := #[], attributes := #[] }
def k6m1 : Method := { name := "accepts", desc := "(Lcom/example/stratgen/stratgen/model/Type;)Z", sig := { parameters := [(.object "com/example/stratgen/stratgen/model/Type")], returnType := some .boolean }, accessFlags := 1, code := some k6c1 }
def k6c2 : Code := { maxStack := 2, maxLocals := 3, code := prog_96_method_7_code, exceptionTable := #[], attributes := #[] }
def k6m2 : Method := { name := "numericResult", desc := "(Lcom/example/stratgen/stratgen/model/Type;Lcom/example/stratgen/stratgen/model/Type;)Lcom/example/stratgen/stratgen/model/Type;", sig := { parameters := [(.object "com/example/stratgen/stratgen/model/Type"), (.object "com/example/stratgen/stratgen/model/Type")], returnType := some (.object "com/example/stratgen/stratgen/model/Type") }, accessFlags := 9, code := some k6c2 }
/-- com/example/stratgen/stratgen/model/Type -/
def k6 : Class := { plain "com/example/stratgen/stratgen/model/Type" (some 5) with
  accessFlags := 16433
  interfaces := #[]
  cf := some (fileOf pool6 1 #[] #[{ accessFlags := 1, nameIndex := 60, descriptorIndex := 61, attributes := #[] }, { accessFlags := 1, nameIndex := 63, descriptorIndex := 64, attributes := #[] }, { accessFlags := 9, nameIndex := 65, descriptorIndex := 66, attributes := #[] }] 16433 23 #[] #[{ accessFlags := 16409, nameIndex := 5, descriptorIndex := 6, attributes := #[] }, { accessFlags := 16409, nameIndex := 9, descriptorIndex := 6, attributes := #[] }, { accessFlags := 16409, nameIndex := 12, descriptorIndex := 6, attributes := #[] }, { accessFlags := 18, nameIndex := 34, descriptorIndex := 35, attributes := #[] }, { accessFlags := 4122, nameIndex := 15, descriptorIndex := 16, attributes := #[] }])
  fields := #[{ name := "INT", type := (.object "com/example/stratgen/stratgen/model/Type"), accessFlags := 16409, slot := 0, constantValue := 0 }, { name := "DOUBLE", type := (.object "com/example/stratgen/stratgen/model/Type"), accessFlags := 16409, slot := 1, constantValue := 0 }, { name := "BOOL", type := (.object "com/example/stratgen/stratgen/model/Type"), accessFlags := 16409, slot := 2, constantValue := 0 }, { name := "keyword", type := (.object "java/lang/String"), accessFlags := 18, slot := 3, constantValue := 0 }, { name := "$VALUES", type := (.array (.object "com/example/stratgen/stratgen/model/Type")), accessFlags := 4122, slot := 3, constantValue := 0 }]
  methods := #[k6m0, k6m1, k6m2]
  instanceTypes := #[(.object "java/lang/String"), .int, .int, (.object "java/lang/String")]
  staticTypes := #[(.object "com/example/stratgen/stratgen/model/Type"), (.object "com/example/stratgen/stratgen/model/Type"), (.object "com/example/stratgen/stratgen/model/Type"), (.array (.object "com/example/stratgen/stratgen/model/Type"))]
  resolved := Array.replicate 72 none
  statics := some 0 }

def pool7 : Array CpInfo := pool [(1, u "java/lang/Cloneable"), (0, .class_ 1), (0, u "java/lang/Object"), (0, .class_ 3)] 3

/-- java/lang/Cloneable -/
def k7 : Class := { plain "java/lang/Cloneable" (some 0) with
  accessFlags := 1537
  interfaces := #[]
  cf := some (fileOf pool7 2 #[] #[] 1537 4 #[] #[])
  fields := #[]
  methods := #[]
  instanceTypes := #[]
  staticTypes := #[]
  resolved := Array.replicate 8 none
  statics := none }

/-- the primitive byte -/
def k8 : Class := { plain "byte" none with kind := .primitive 'B', accessFlags := 0x411 }
/-- [B -/
def k9 : Class := { plain "[B" (some 0) with kind := .array 8 .byte, interfaces := #[7, 4], accessFlags := 1041 }

/-- the primitive int -/
def k10 : Class := { plain "int" none with kind := .primitive 'I', accessFlags := 0x411 }
/-- [I -/
def k11 : Class := { plain "[I" (some 0) with kind := .array 10 .int, interfaces := #[7, 4], accessFlags := 1041 }

def heap : Heap := #[{ cls := 6, slots := #[.ref 1, .ref 2, .ref 3, .null], vm := .statics 6 },
  { cls := 6, slots := #[.null, .int 0, .int 0, .null], vm := .none },
  { cls := 6, slots := #[.null, .int 1, .int 0, .null], vm := .none },
  { cls := 6, slots := #[.null, .int 2, .int 0, .null], vm := .none }]
def classes : Array Class := #[k0, k1, k2, k3, k4, k5, k6, k7, k8, k9, k10, k11]
def interned : List (Array UInt16 × Addr) := []
def slotsUsed : Nat := 16
def theMethod : MethodId := ⟨1, 2⟩
def args0 : Array Value := #[.int 1, .int 2]
def aboutOver (below : List Frame) : State where
  vm := { classes := classes, interned := interned.toArray }
  heap := heap
  slotsUsed := slotsUsed
  threads := #[{ frames := .invoking theMethod args0 :: below }]
def below0 : List Frame := [.native { method := ⟨0, 0⟩, args := #[] }]
def about1 : State := aboutOver below0
def p0 : Program := .bare "" "" ""
def e0 : Env := launch0.env 0 0 0
theorem w_frames : about1.frames = Frame.invoking theMethod args0 :: below0 := rfl
set_option maxRecDepth 65536 in
theorem w_args : argsFit about1.vm theMethod args0 = true := by decide +kernel
set_option maxRecDepth 65536 in
theorem w_heap : heapFits about1 = true := by decide +kernel
set_option maxRecDepth 65536 in
theorem w_runnable : about1.curStatus? = some .runnable := by decide +kernel
set_option maxRecDepth 65536 in
theorem w_alone : about1.alone = true := by decide +kernel
set_option maxRecDepth 65536 in
theorem w_named : about1.methodNamed? x = some theMethod := by decide +kernel
set_option maxRecDepth 65536 in
theorem w_hears : about1.hears theMethod below0 = true := by decide +kernel
set_option maxRecDepth 65536 in
theorem w_ripe : about1.ripe theMethod args0 below0 = true := by decide +kernel
theorem w_running : about1.status = .running := rfl
set_option maxRecDepth 65536 in
theorem w_room : about1.hasRoom e0.platform room_1 = true :=
  launch0.hasRoom_least _ room_1 (by decide +kernel) (by decide +kernel) (by decide +kernel) (by decide +kernel) (by decide +kernel) (by decide +kernel)
theorem allAtoms_all (ts : List Jvm.Cond) (a : Array Jvm.Value) (st : Jvm.State) : (allAtoms ts).before a st = ts.all (fun c => c.before a st) := by
  induction ts with
  | nil => rfl
  | cons c t ih =>
    show (Jvm.Cond.and c (allAtoms t)).before a st = _
    rw [Jvm.Cond.before_and, ih, List.all_cons]
def words1 : List Jvm.Cond := Jvm.Cond.code x code maxLocals ret :: tables_1
/-- a 'code' word, met by the world's own term for the bytes: nothing is compared byte by byte -/
theorem code_word {y : MethodName} {bytes : ByteArray} {mx : Nat} {rt : Option FieldType} {a : Array Value} {s : State} {m : MethodId} {meth : Method} {c : Code} (h1 : s.methodNamed? y = some m) (h2 : s.vm.method? m = some meth) (h3 : meth.code = some c) (h4 : c.code = bytes)
    (h5 : (c.maxLocals == mx && c.exceptionTable.isEmpty && decide (c.maxStack ≤ mostOperands) && decide (meth.sig.returnType = rt) && !meth.locks && decide (parseMethodDescriptor y.desc = some meth.sig)) = true) : (Jvm.Cond.code y bytes mx rt).before a s = true := by
  simp only [Bool.and_eq_true, beq_iff_eq, Bool.not_eq_true', decide_eq_true_eq] at h5
  obtain ⟨⟨⟨⟨⟨g1, g2⟩, g3⟩, g4⟩, g5⟩, g6⟩ := h5
  simp [Cond.before, Cond.holds, Cond.value, h1, h2, h3, h4, g1, g2, g3, g4, g5, g6]
def isCode : Jvm.Cond → Bool
  | .code _ _ _ _ => true
  | _ => false
theorem all_split {L : List Jvm.Cond} {P : Jvm.Cond → Bool} (h1 : L.all (fun c => isCode c || P c) = true) (h2 : ∀ c ∈ L.filter isCode, P c = true) : L.all P = true := by
  refine List.all_eq_true.mpr fun c hc => ?_
  have h := List.all_eq_true.mp h1 c hc
  rcases Bool.eq_false_or_eq_true (isCode c) with hi | hi
  · exact h2 c (List.mem_filter.mpr ⟨hc, hi⟩)
  · simpa [hi] using h
set_option maxRecDepth 65536 in
theorem w_c0 : (Jvm.Cond.code x code maxLocals ret).before args0 about1 = true := code_word (m := ⟨1, 2⟩) (meth := k1m2) (c := k1c2) (by decide +kernel) rfl rfl rfl (by decide +kernel)
set_option maxRecDepth 65536 in
theorem w_c1 : (Jvm.Cond.code ({ cls := "com/example/stratgen/stratgen/model/TypeNumericResultPinLaw", name := "pick", desc := "(I)Lcom/example/stratgen/stratgen/model/Type;" } : Jvm.MethodName) method_2_code (2 : Nat) (Option.some (Jvm.ClassFile.FieldType.object "com/example/stratgen/stratgen/model/Type"))).before args0 about1 = true := code_word (m := ⟨1, 1⟩) (meth := k1m1) (c := k1c1) (by decide +kernel) rfl rfl rfl (by decide +kernel)
set_option maxRecDepth 65536 in
theorem w_c2 : (Jvm.Cond.code ({ cls := "com/example/stratgen/stratgen/model/Type", name := "numericResult", desc := "(Lcom/example/stratgen/stratgen/model/Type;Lcom/example/stratgen/stratgen/model/Type;)Lcom/example/stratgen/stratgen/model/Type;" } : Jvm.MethodName) prog_96_method_7_code (3 : Nat) (Option.some (Jvm.ClassFile.FieldType.object "com/example/stratgen/stratgen/model/Type"))).before args0 about1 = true := code_word (m := ⟨6, 2⟩) (meth := k6m2) (c := k6c2) (by decide +kernel) rfl rfl rfl (by decide +kernel)
set_option maxRecDepth 65536 in
theorem w_c3 : (Jvm.Cond.code ({ cls := "com/example/stratgen/stratgen/model/Type", name := "isNumeric", desc := "()Z" } : Jvm.MethodName) prog_96_method_5_code (1 : Nat) (Option.some Jvm.ClassFile.FieldType.boolean)).before args0 about1 = true := code_word (m := ⟨6, 0⟩) (meth := k6m0) (c := k6c0) (by decide +kernel) rfl rfl rfl (by decide +kernel)
set_option maxRecDepth 65536 in
theorem w_c4 : (Jvm.Cond.code ({ cls := "com/example/stratgen/stratgen/model/Type", name := "accepts", desc := "(Lcom/example/stratgen/stratgen/model/Type;)Z" } : Jvm.MethodName) prog_96_method_6_code (2 : Nat) (Option.some Jvm.ClassFile.FieldType.boolean)).before args0 about1 = true := code_word (m := ⟨6, 1⟩) (meth := k6m1) (c := k6c1) (by decide +kernel) rfl rfl rfl (by decide +kernel)
def codes1 : List Jvm.Cond := [Jvm.Cond.code x code maxLocals ret, Jvm.Cond.code ({ cls := "com/example/stratgen/stratgen/model/TypeNumericResultPinLaw", name := "pick", desc := "(I)Lcom/example/stratgen/stratgen/model/Type;" } : Jvm.MethodName) method_2_code (2 : Nat) (Option.some (Jvm.ClassFile.FieldType.object "com/example/stratgen/stratgen/model/Type")), Jvm.Cond.code ({ cls := "com/example/stratgen/stratgen/model/Type", name := "numericResult", desc := "(Lcom/example/stratgen/stratgen/model/Type;Lcom/example/stratgen/stratgen/model/Type;)Lcom/example/stratgen/stratgen/model/Type;" } : Jvm.MethodName) prog_96_method_7_code (3 : Nat) (Option.some (Jvm.ClassFile.FieldType.object "com/example/stratgen/stratgen/model/Type")), Jvm.Cond.code ({ cls := "com/example/stratgen/stratgen/model/Type", name := "isNumeric", desc := "()Z" } : Jvm.MethodName) prog_96_method_5_code (1 : Nat) (Option.some Jvm.ClassFile.FieldType.boolean), Jvm.Cond.code ({ cls := "com/example/stratgen/stratgen/model/Type", name := "accepts", desc := "(Lcom/example/stratgen/stratgen/model/Type;)Z" } : Jvm.MethodName) prog_96_method_6_code (2 : Nat) (Option.some Jvm.ClassFile.FieldType.boolean)]
set_option maxRecDepth 65536 in
theorem codes_eq : words1.filter isCode = codes1 := rfl
theorem w_codes : ∀ c ∈ words1.filter isCode, c.before args0 about1 = true := by
  rw [codes_eq]
  intro c hc
  simp only [codes1, List.mem_cons, List.not_mem_nil, or_false] at hc
  rcases hc with rfl | rfl | rfl | rfl | rfl
  · exact w_c0
  · exact w_c1
  · exact w_c2
  · exact w_c3
  · exact w_c4
set_option maxRecDepth 65536 in
theorem w_t1 : (words1.take 24).all (fun c => isCode c || c.before args0 about1) = true := by decide +kernel
set_option maxRecDepth 65536 in
theorem w_t2 : (words1.drop 24).all (fun c => isCode c || c.before args0 about1) = true := by decide +kernel
theorem w_tables : (allAtoms (Jvm.Cond.code x code maxLocals ret :: tables_1)).before args0 about1 = true := by
  rw [allAtoms_all]
  show words1.all (fun c => c.before args0 about1) = true
  refine all_split ?_ w_codes
  rw [← List.take_append_drop 24 words1, List.all_append, w_t1, w_t2]
  rfl
set_option maxRecDepth 65536 in
theorem w_case : (Jvm.Cond.and given_1 narrow_1).before args0 about1 = true := by decide +kernel
theorem w_applies : (headSpec (Jvm.Cond.code x code maxLocals ret :: tables_1) room_1).applies x e0.platform about1 = true :=
  (Spec.applies_iff w_frames).mpr ⟨w_running, w_runnable, w_alone, w_named, w_hears, w_ripe, w_room, w_tables⟩
theorem atStart : AtStart classFile x code maxLocals ret World_1 tables_1 room_1 Calls_1 rest_1 Pre_1 launch0 p0 e0 about1 theMethod args0 below0 :=
  ⟨lists_1, trivial, launch0.admits_env _ _ _, launch0.least_env, fairChoices_fair.cas, fairChoices_fair.clock, w_frames, w_args, w_heap, w_applies, trivial, trivial, w_case⟩
end start1
theorem witness_1 : WitnessClaimed_1 := ⟨start1.p0, start1.e0, start1.about1, start1.theMethod, start1.args0, start1.below0, start1.atStart⟩
end Jvm.Pilot.@@N@@
