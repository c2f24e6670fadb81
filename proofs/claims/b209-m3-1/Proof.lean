import JvmDerived
import JvmDerived.Pilot.@@N@@Statement
import JvmDerived.Pilot.@@N@@Code
set_option linter.unusedVariables false
set_option linter.unusedSimpArgs false
namespace Jvm.Pilot.@@N@@
open Jvm Jvm.ClassFile Sem Op Lib Jvm.Free Jvm.Stand Jvm.LawKit Jvm.RoadKit Bundle Jvm.Pilot.@@N@@.Jvm.D
section OwnKit
variable {p : Program} {l : Launch} {e : Env} {R : Room} {s : State} {m : MethodId} {args : Array Value} {below : List Frame} {meth : Method} {c : Code} {T : State} {locs : List Loc} {cells slots : Nat} {Q : Option Value → Heap → List Loc → Prop} {C S : Nat}
/-- from x the run ends, returning, with what Q says -/
def own_End (p : Program) (e : Env) (below : List Frame) (s : State) (Q : Option Value → Heap → List Loc → Prop) (C S : Nat) (x : State) : Prop :=
  ∃ t o, Steps p.tables e below x t ∧ t.status = .running ∧ Ended t below o ∧ ∃ v L, o = .returned v ∧ Q v t.heap L ∧ FrameEnd s o t L C S
theorem own_go {x x' : State} (h : ∀ t, Steps p.tables e below x' t → Steps p.tables e below x t) (k : own_End p e below s Q C S x') : own_End p e below s Q C S x := by
  obtain ⟨t, o, h1, h2⟩ := k
  exact ⟨t, o, h t h1, h2⟩
theorem own_mono {Q' : Option Value → Heap → List Loc → Prop} {x : State} (h : ∀ v h L, Q v h L → Q' v h L) (k : own_End p e below s Q C S x) : own_End p e below s Q' C S x := by
  obtain ⟨t, o, h1, h2, h3, v, L, h4, h5, h6⟩ := k
  exact ⟨t, o, h1, h2, h3, v, L, h4, h _ _ _ h5, h6⟩
theorem own_out (X : Stand p l e R s m args below meth c T locs cells slots) (hlk : meth.locks = false) {v : Option Value} (hv : meth.sig.returnType = none → v = none) {x : State}
    (h : ∀ fs, (∀ (f : JFrame) (acts : List Action), f.method = m → f.locked = none → f.entered = [] → (doReturn e (T.setTop f) acts v).1 = T.setFrames fs) → Steps p.tables e below x (T.setFrames fs))
    (hq : Q v T.heap locs) (hc : cells ≤ C) (hs : slots ≤ S) : own_End p e below s Q C S x := by
  obtain ⟨fs, hr, hrun, hended, hW, hsame⟩ := X.leave hv hlk
  exact ⟨_, _, h fs hr, hrun, hended, _, _, rfl, hq, ⟨_, rfl⟩, hW, hsame.mono hc hs⟩
theorem own_retV (X : Stand p l e R s m args below meth c T locs cells slots) (hx : p.tables.exec = Jvm.exec) (hlk : meth.locks = false) {pc : Nat} {Ls : Array Slot} (hret : meth.sig.returnType = none) (hd : decode c.code pc = .ok (.return_, 1))
    (hq : Q none T.heap locs) (hc : cells ≤ C) (hs : slots ≤ S) : own_End p e below s Q C S (T.setTop (mkF m pc Ls [])) :=
  own_out X hlk (fun _ => rfl) (fun fs hr => X.returnOut hx hret hd hr) hq hc hs
theorem own_retN (X : Stand p l e R s m args below meth c T locs cells slots) (hx : p.tables.exec = Jvm.exec) (hlk : meth.locks = false) {pc : Nat} {Ls : Array Slot} {z w : Int32} {t : FieldType} {rest : List Value} (hret : meth.sig.returnType = some t) (ht : t = .boolean ∨ t = .byte ∨ t = .char ∨ t = .short) (hd : decode c.code pc = .ok (.ireturn, 1))
    (hz : nar t z = w) (hq : Q (some (.int w)) T.heap locs) (hc : cells ≤ C) (hs : slots ≤ S) : own_End p e below s Q C S (T.setTop (mkF m pc Ls (.int z :: rest))) := by
  subst hz
  exact own_out X hlk (fun h => by rw [hret] at h; cases h) (fun fs hr => retN X hx hret ht hd hr) hq hc hs
theorem own_retI (X : Stand p l e R s m args below meth c T locs cells slots) (hx : p.tables.exec = Jvm.exec) (hlk : meth.locks = false) {pc : Nat} {Ls : Array Slot} {z : Int32} {rest : List Value} (hret : meth.sig.returnType = some .int) (hd : decode c.code pc = .ok (.ireturn, 1))
    (hq : Q (some (.int z)) T.heap locs) (hc : cells ≤ C) (hs : slots ≤ S) : own_End p e below s Q C S (T.setTop (mkF m pc Ls (.int z :: rest))) :=
  own_out X hlk (fun h => by rw [hret] at h; cases h) (fun fs hr => retOut X hx hret rfl (Or.inl ⟨rfl, Or.inl rfl, _, rfl⟩) hd hr) hq hc hs
theorem own_retJ (X : Stand p l e R s m args below meth c T locs cells slots) (hx : p.tables.exec = Jvm.exec) (hlk : meth.locks = false) {pc : Nat} {Ls : Array Slot} {z : Int64} {rest : List Value} (hret : meth.sig.returnType = some .long) (hd : decode c.code pc = .ok (.lreturn, 1))
    (hq : Q (some (.long z)) T.heap locs) (hc : cells ≤ C) (hs : slots ≤ S) : own_End p e below s Q C S (T.setTop (mkF m pc Ls (.long z :: rest))) :=
  own_out X hlk (fun h => by rw [hret] at h; cases h) (fun fs hr => retOut X hx hret rfl (Or.inr (Or.inl ⟨rfl, rfl, _, rfl⟩)) hd hr) hq hc hs
theorem own_retR (X : Stand p l e R s m args below meth c T locs cells slots) (hx : p.tables.exec = Jvm.exec) (hlk : meth.locks = false) {pc : Nat} {Ls : Array Slot} {z : Value} {t : FieldType} {rest : List Value} (hret : meth.sig.returnType = some t) (ht : t.isReference = true) (hv : z.isRef = true) (hd : decode c.code pc = .ok (.areturn, 1))
    (hq : Q (some z) T.heap locs) (hc : cells ≤ C) (hs : slots ≤ S) : own_End p e below s Q C S (T.setTop (mkF m pc Ls (z :: rest))) :=
  own_out X hlk (fun h => by rw [hret] at h; cases h) (fun fs hr => retOut X hx hret (by cases t <;> first | rfl | cases ht) (Or.inr (Or.inr (Or.inr (Or.inr ⟨rfl, ht, hv⟩)))) hd hr) hq hc hs
theorem own_w {a0 : Array Value} {Z : State} (hw : ∀ d ∈ tables_1, d.before a0 Z = true) (i : Nat) {d : Jvm.Cond} (h : tables_1[i]? = some d) : d.before a0 Z = true := hw _ (List.mem_of_getElem? h)
end OwnKit
theorem own_fldI {args : Array Value} {s : State} {t : Term} {a : Addr} {C n d : String} {k : Int32} (ev : t.eval args s none [] s = some (.ref a)) (h : (Jvm.Cond.eq (.field t C n d) (.int k)).value args s none s [] = some true) : Fld s s.heap a C n d (.int k) := by
  have e := fld_at (C := C) (n := n) (dd := d) ev
  cases hv : s.fieldOf? a C n d with
  | none => simp only [Jvm.Cond.value, e, hv, Term.int_eval] at h; cases h
  | some v =>
    have q : v = .int k := by
      cases v <;> simp [Jvm.Cond.value, e, hv, Term.int_eval] at h ⊢
      exact h
    rw [q] at hv
    exact Fld.start hv
theorem own_fldJ {args : Array Value} {s : State} {t : Term} {a : Addr} {C n d : String} {k : Int64} (ev : t.eval args s none [] s = some (.ref a)) (h : (Jvm.Cond.eq (.field t C n d) (.long k)).value args s none s [] = some true) : Fld s s.heap a C n d (.long k) := by
  have e := fld_at (C := C) (n := n) (dd := d) ev
  cases hv : s.fieldOf? a C n d with
  | none => simp only [Jvm.Cond.value, e, hv, long_at] at h; cases h
  | some v =>
    have q : v = .long k := by
      cases v <;> simp [Jvm.Cond.value, e, hv, long_at] at h ⊢
      exact h
    rw [q] at hv
    exact Fld.start hv
def own_lo_0 (p0 : Int32) : Int32 := (if p0 = (1 : Int32) then (4 : Int32) else (if p0 = (2 : Int32) then (1 : Int32) else (if p0 = (3 : Int32) then (1 : Int32) else (if p0 = (4 : Int32) then (2 : Int32) else (if p0 = (5 : Int32) then (1 : Int32) else (0 : Int32))))))
theorem d2_0 : decode method_4_code 0 = .ok (.iload_n 0, 1) := by decide +kernel
theorem d2_1 : decode method_4_code 1 = .ok (.iconst 1, 1) := by decide +kernel
theorem d2_2 : decode method_4_code 2 = .ok (.if_icmp .ne 5, 3) := by decide +kernel
theorem d2_5 : decode method_4_code 5 = .ok (.iconst 4, 1) := by decide +kernel
theorem d2_6 : decode method_4_code 6 = .ok (.ireturn, 1) := by decide +kernel
theorem d2_7 : decode method_4_code 7 = .ok (.iload_n 0, 1) := by decide +kernel
theorem d2_8 : decode method_4_code 8 = .ok (.iconst 2, 1) := by decide +kernel
theorem d2_9 : decode method_4_code 9 = .ok (.if_icmp .ne 5, 3) := by decide +kernel
theorem d2_12 : decode method_4_code 12 = .ok (.iconst 1, 1) := by decide +kernel
theorem d2_13 : decode method_4_code 13 = .ok (.ireturn, 1) := by decide +kernel
theorem d2_14 : decode method_4_code 14 = .ok (.iload_n 0, 1) := by decide +kernel
theorem d2_15 : decode method_4_code 15 = .ok (.iconst 3, 1) := by decide +kernel
theorem d2_16 : decode method_4_code 16 = .ok (.if_icmp .ne 5, 3) := by decide +kernel
theorem d2_19 : decode method_4_code 19 = .ok (.iconst 1, 1) := by decide +kernel
theorem d2_20 : decode method_4_code 20 = .ok (.ireturn, 1) := by decide +kernel
theorem d2_21 : decode method_4_code 21 = .ok (.iload_n 0, 1) := by decide +kernel
theorem d2_22 : decode method_4_code 22 = .ok (.iconst 4, 1) := by decide +kernel
theorem d2_23 : decode method_4_code 23 = .ok (.if_icmp .ne 5, 3) := by decide +kernel
theorem d2_26 : decode method_4_code 26 = .ok (.iconst 2, 1) := by decide +kernel
theorem d2_27 : decode method_4_code 27 = .ok (.ireturn, 1) := by decide +kernel
theorem d2_28 : decode method_4_code 28 = .ok (.iload_n 0, 1) := by decide +kernel
theorem d2_29 : decode method_4_code 29 = .ok (.iconst 5, 1) := by decide +kernel
theorem d2_30 : decode method_4_code 30 = .ok (.if_icmp .ne 5, 3) := by decide +kernel
theorem d2_33 : decode method_4_code 33 = .ok (.iconst 1, 1) := by decide +kernel
theorem d2_34 : decode method_4_code 34 = .ok (.ireturn, 1) := by decide +kernel
theorem d2_35 : decode method_4_code 35 = .ok (.iconst 0, 1) := by decide +kernel
theorem d2_36 : decode method_4_code 36 = .ok (.ireturn, 1) := by decide +kernel
def Q_rm2 (Z : State) (p0 : Int32) (h0 : Heap) (n0 : Nat) (v : Option Value) (h : Heap) (L : List Loc) : Prop := v = some (.int (own_lo_0 p0)) ∧ Fr n0 L ∧ h = h0
theorem pn_rm2 : plainName "com/example/hale_log/halelog/protocol/ApiKeySupportsPinLaw" = true := by first | (simp [plainName, overriddenIn]; done) | decide +kernel
theorem ef_rm2 (m : MethodId) (x0 : Int32) : entryFrame m #[(.int x0)] 1 = mkF m 0 #[.val (.int x0)] [] := by first | (simp [entryFrame, mkF, argsToLocals, Value.category]; done) | rfl
set_option maxRecDepth 65536 in
set_option maxHeartbeats 40000000 in
theorem rm2 (l : Launch) (Z : State) (a0 : Array Value) (hw : ∀ d ∈ tables_1, d.before a0 Z = true) (ws : List Jvm.Cond) (p0 : Int32) (h0 : Heap) (n0 : Nat) (Z0 : n0 ≤ h0.size) :
    MetFree l (⟨"com/example/hale_log/halelog/protocol/ApiKeySupportsPinLaw", "lo", "(I)I"⟩ : MethodName) (head1 (Jvm.Cond.code (⟨"com/example/hale_log/halelog/protocol/ApiKeySupportsPinLaw", "lo", "(I)I"⟩ : MethodName) method_4_code 1 (some .int) :: ws) ({ frames := 0, cells := 0, slots := 0, locals := 0 } : Room)) (fun a U => a = #[(.int p0)] ∧ Z.Warmed39 U.vm ∧ U.heap = h0) (fun _ _ _ _ _ => True) (fun _ U o U' => ∃ v L, o = .returned v ∧ (Q_rm2 Z p0 h0 n0) v U'.heap L ∧ FrameEnd U o U' L ({ frames := 0, cells := 0, slots := 0, locals := 0 } : Room).cells ({ frames := 0, cells := 0, slots := 0, locals := 0 } : Room).slots) := by
  refine MetFree.of_bodySF (plainFor_of_name pn_rm2) hisR ?_
  intro p e s m args below meth c s₁ Bd hml0 hP hK
  obtain ⟨rfl, hZ, hh⟩ := hP
  have hx := Bd.exec
  have hby := Bd.bytes
  have hlk := BodyLoose.notSynchronized Bd
  have hret := Bd.returns
  have hml : c.maxLocals = 1 := hml0
  have hown : s.vm.findClass "com/example/hale_log/halelog/protocol/ApiKeySupportsPinLaw" = some m.cls := findClass_of_methodNamed Bd.named
  have hnm := (name_of_methodNamed Bd.named Bd.method).1
  have X0 : Stand p l e ({ frames := 0, cells := 0, slots := 0, locals := 0 } : Room) s m #[(.int p0)] below meth c s₁ [] 0 0 := Stand.of_body Bd
  have e0 : s₁.heap = h0 := by rw [← hh, Bd.state]; rfl
  have Nf := Fr.nil n0
  have Zs := Z0
  have Kp : Keep h0 h0 [] := Keep.refl _ _
  show own_End p e below s (Q_rm2 Z p0 h0 n0) ({ frames := 0, cells := 0, slots := 0, locals := 0 } : Room).cells ({ frames := 0, cells := 0, slots := 0, locals := 0 } : Room).slots (s₁.setTop (entryFrame m #[(.int p0)] 1))
  refine own_go (x' := s₁.setTop (mkF m 0 #[.val (.int p0)] [])) (fun t k => castTop (ef_rm2 m p0) k) ?_
  have hF : own_lo_0 p0 = own_lo_0 p0 := rfl
  refine own_go (x' := s₁.setTop (mkF m 2 #[.val (.int p0)] [(.int (1 : Int32)), (.int p0)])) (fun _ k => XS.iloadN X0.here hx rfl (hb hby d2_0) rfl (XS.iconst X0.here hx rfl (hb hby d2_1) k)) ?_
  by_cases hc2 : p0 = (1 : Int32)
  · refine own_go (x' := s₁.setTop (mkF m 6 #[.val (.int p0)] [(.int (4 : Int32))])) (fun _ k => XS.icmpNo X0.here hx rfl (hb hby d2_2) rfl (teq hc2).2 (XS.iconst X0.here hx rfl (hb hby d2_5) k)) ?_
    refine own_retI X0 hx hlk hret (hb hby d2_6) ?_ (by decide) (by decide)
    rw [e0]
    exact ⟨by rw [hF]; simp only [own_lo_0, if_pos hc2], Nf, rfl⟩
  · refine own_go (x' := s₁.setTop (mkF m 9 #[.val (.int p0)] [(.int (2 : Int32)), (.int p0)])) (fun _ k => XS.icmpYes X0.here hx rfl (pc0 := 2) (pc' := 7) rfl (hb hby d2_2) rfl (feq hc2).2 (by decide) (by decide) (XS.iloadN X0.here hx rfl (hb hby d2_7) rfl (XS.iconst X0.here hx rfl (hb hby d2_8) k))) ?_
    by_cases hc9 : p0 = (2 : Int32)
    · refine own_go (x' := s₁.setTop (mkF m 13 #[.val (.int p0)] [(.int (1 : Int32))])) (fun _ k => XS.icmpNo X0.here hx rfl (hb hby d2_9) rfl (teq hc9).2 (XS.iconst X0.here hx rfl (hb hby d2_12) k)) ?_
      refine own_retI X0 hx hlk hret (hb hby d2_13) ?_ (by decide) (by decide)
      rw [e0]
      exact ⟨by rw [hF]; simp only [own_lo_0, if_neg hc2, if_pos hc9], Nf, rfl⟩
    · refine own_go (x' := s₁.setTop (mkF m 16 #[.val (.int p0)] [(.int (3 : Int32)), (.int p0)])) (fun _ k => XS.icmpYes X0.here hx rfl (pc0 := 9) (pc' := 14) rfl (hb hby d2_9) rfl (feq hc9).2 (by decide) (by decide) (XS.iloadN X0.here hx rfl (hb hby d2_14) rfl (XS.iconst X0.here hx rfl (hb hby d2_15) k))) ?_
      by_cases hc16 : p0 = (3 : Int32)
      · refine own_go (x' := s₁.setTop (mkF m 20 #[.val (.int p0)] [(.int (1 : Int32))])) (fun _ k => XS.icmpNo X0.here hx rfl (hb hby d2_16) rfl (teq hc16).2 (XS.iconst X0.here hx rfl (hb hby d2_19) k)) ?_
        refine own_retI X0 hx hlk hret (hb hby d2_20) ?_ (by decide) (by decide)
        rw [e0]
        exact ⟨by rw [hF]; simp only [own_lo_0, if_neg hc2, if_neg hc9, if_pos hc16], Nf, rfl⟩
      · refine own_go (x' := s₁.setTop (mkF m 23 #[.val (.int p0)] [(.int (4 : Int32)), (.int p0)])) (fun _ k => XS.icmpYes X0.here hx rfl (pc0 := 16) (pc' := 21) rfl (hb hby d2_16) rfl (feq hc16).2 (by decide) (by decide) (XS.iloadN X0.here hx rfl (hb hby d2_21) rfl (XS.iconst X0.here hx rfl (hb hby d2_22) k))) ?_
        by_cases hc23 : p0 = (4 : Int32)
        · refine own_go (x' := s₁.setTop (mkF m 27 #[.val (.int p0)] [(.int (2 : Int32))])) (fun _ k => XS.icmpNo X0.here hx rfl (hb hby d2_23) rfl (teq hc23).2 (XS.iconst X0.here hx rfl (hb hby d2_26) k)) ?_
          refine own_retI X0 hx hlk hret (hb hby d2_27) ?_ (by decide) (by decide)
          rw [e0]
          exact ⟨by rw [hF]; simp only [own_lo_0, if_neg hc2, if_neg hc9, if_neg hc16, if_pos hc23], Nf, rfl⟩
        · refine own_go (x' := s₁.setTop (mkF m 30 #[.val (.int p0)] [(.int (5 : Int32)), (.int p0)])) (fun _ k => XS.icmpYes X0.here hx rfl (pc0 := 23) (pc' := 28) rfl (hb hby d2_23) rfl (feq hc23).2 (by decide) (by decide) (XS.iloadN X0.here hx rfl (hb hby d2_28) rfl (XS.iconst X0.here hx rfl (hb hby d2_29) k))) ?_
          by_cases hc30 : p0 = (5 : Int32)
          · refine own_go (x' := s₁.setTop (mkF m 34 #[.val (.int p0)] [(.int (1 : Int32))])) (fun _ k => XS.icmpNo X0.here hx rfl (hb hby d2_30) rfl (teq hc30).2 (XS.iconst X0.here hx rfl (hb hby d2_33) k)) ?_
            refine own_retI X0 hx hlk hret (hb hby d2_34) ?_ (by decide) (by decide)
            rw [e0]
            exact ⟨by rw [hF]; simp only [own_lo_0, if_neg hc2, if_neg hc9, if_neg hc16, if_neg hc23, if_pos hc30], Nf, rfl⟩
          · refine own_go (x' := s₁.setTop (mkF m 36 #[.val (.int p0)] [(.int (0 : Int32))])) (fun _ k => XS.icmpYes X0.here hx rfl (pc0 := 30) (pc' := 35) rfl (hb hby d2_30) rfl (feq hc30).2 (by decide) (by decide) (XS.iconst X0.here hx rfl (hb hby d2_35) k)) ?_
            refine own_retI X0 hx hlk hret (hb hby d2_36) ?_ (by decide) (by decide)
            rw [e0]
            exact ⟨by rw [hF]; simp only [own_lo_0, if_neg hc2, if_neg hc9, if_neg hc16, if_neg hc23, if_neg hc30], Nf, rfl⟩
def own_hi_0 (p0 : Int32) : Int32 := (if p0 = (0 : Int32) then (7 : Int32) else (if p0 = (1 : Int32) then (11 : Int32) else (if p0 = (2 : Int32) then (2 : Int32) else (if p0 = (3 : Int32) then (4 : Int32) else (if p0 = (4 : Int32) then (7 : Int32) else (if p0 = (5 : Int32) then (7 : Int32) else (if p0 = (6 : Int32) then (2 : Int32) else (if p0 = (7 : Int32) then (5 : Int32) else (if p0 = (8 : Int32) then (3 : Int32) else (if p0 = (9 : Int32) then (2 : Int32) else (if p0 = (10 : Int32) then (3 : Int32) else (if p0 = (11 : Int32) then (3 : Int32) else (4 : Int32)))))))))))))
theorem d3_0 : decode method_5_code 0 = .ok (.iload_n 0, 1) := by decide +kernel
theorem d3_1 : decode method_5_code 1 = .ok (.ifCond .ne 6, 3) := by decide +kernel
theorem d3_4 : decode method_5_code 4 = .ok (.bipush 7, 2) := by decide +kernel
theorem d3_6 : decode method_5_code 6 = .ok (.ireturn, 1) := by decide +kernel
theorem d3_7 : decode method_5_code 7 = .ok (.iload_n 0, 1) := by decide +kernel
theorem d3_8 : decode method_5_code 8 = .ok (.iconst 1, 1) := by decide +kernel
theorem d3_9 : decode method_5_code 9 = .ok (.if_icmp .ne 6, 3) := by decide +kernel
theorem d3_12 : decode method_5_code 12 = .ok (.bipush 11, 2) := by decide +kernel
theorem d3_14 : decode method_5_code 14 = .ok (.ireturn, 1) := by decide +kernel
theorem d3_15 : decode method_5_code 15 = .ok (.iload_n 0, 1) := by decide +kernel
theorem d3_16 : decode method_5_code 16 = .ok (.iconst 2, 1) := by decide +kernel
theorem d3_17 : decode method_5_code 17 = .ok (.if_icmp .ne 5, 3) := by decide +kernel
theorem d3_20 : decode method_5_code 20 = .ok (.iconst 2, 1) := by decide +kernel
theorem d3_21 : decode method_5_code 21 = .ok (.ireturn, 1) := by decide +kernel
theorem d3_22 : decode method_5_code 22 = .ok (.iload_n 0, 1) := by decide +kernel
theorem d3_23 : decode method_5_code 23 = .ok (.iconst 3, 1) := by decide +kernel
theorem d3_24 : decode method_5_code 24 = .ok (.if_icmp .ne 5, 3) := by decide +kernel
theorem d3_27 : decode method_5_code 27 = .ok (.iconst 4, 1) := by decide +kernel
theorem d3_28 : decode method_5_code 28 = .ok (.ireturn, 1) := by decide +kernel
theorem d3_29 : decode method_5_code 29 = .ok (.iload_n 0, 1) := by decide +kernel
theorem d3_30 : decode method_5_code 30 = .ok (.iconst 4, 1) := by decide +kernel
theorem d3_31 : decode method_5_code 31 = .ok (.if_icmp .ne 6, 3) := by decide +kernel
theorem d3_34 : decode method_5_code 34 = .ok (.bipush 7, 2) := by decide +kernel
theorem d3_36 : decode method_5_code 36 = .ok (.ireturn, 1) := by decide +kernel
theorem d3_37 : decode method_5_code 37 = .ok (.iload_n 0, 1) := by decide +kernel
theorem d3_38 : decode method_5_code 38 = .ok (.iconst 5, 1) := by decide +kernel
theorem d3_39 : decode method_5_code 39 = .ok (.if_icmp .ne 6, 3) := by decide +kernel
theorem d3_42 : decode method_5_code 42 = .ok (.bipush 7, 2) := by decide +kernel
theorem d3_44 : decode method_5_code 44 = .ok (.ireturn, 1) := by decide +kernel
theorem d3_45 : decode method_5_code 45 = .ok (.iload_n 0, 1) := by decide +kernel
theorem d3_46 : decode method_5_code 46 = .ok (.bipush 6, 2) := by decide +kernel
theorem d3_48 : decode method_5_code 48 = .ok (.if_icmp .ne 5, 3) := by decide +kernel
theorem d3_51 : decode method_5_code 51 = .ok (.iconst 2, 1) := by decide +kernel
theorem d3_52 : decode method_5_code 52 = .ok (.ireturn, 1) := by decide +kernel
theorem d3_53 : decode method_5_code 53 = .ok (.iload_n 0, 1) := by decide +kernel
theorem d3_54 : decode method_5_code 54 = .ok (.bipush 7, 2) := by decide +kernel
theorem d3_56 : decode method_5_code 56 = .ok (.if_icmp .ne 5, 3) := by decide +kernel
theorem d3_59 : decode method_5_code 59 = .ok (.iconst 5, 1) := by decide +kernel
theorem d3_60 : decode method_5_code 60 = .ok (.ireturn, 1) := by decide +kernel
theorem d3_61 : decode method_5_code 61 = .ok (.iload_n 0, 1) := by decide +kernel
theorem d3_62 : decode method_5_code 62 = .ok (.bipush 8, 2) := by decide +kernel
theorem d3_64 : decode method_5_code 64 = .ok (.if_icmp .ne 5, 3) := by decide +kernel
theorem d3_67 : decode method_5_code 67 = .ok (.iconst 3, 1) := by decide +kernel
theorem d3_68 : decode method_5_code 68 = .ok (.ireturn, 1) := by decide +kernel
theorem d3_69 : decode method_5_code 69 = .ok (.iload_n 0, 1) := by decide +kernel
theorem d3_70 : decode method_5_code 70 = .ok (.bipush 9, 2) := by decide +kernel
theorem d3_72 : decode method_5_code 72 = .ok (.if_icmp .ne 5, 3) := by decide +kernel
theorem d3_75 : decode method_5_code 75 = .ok (.iconst 2, 1) := by decide +kernel
theorem d3_76 : decode method_5_code 76 = .ok (.ireturn, 1) := by decide +kernel
theorem d3_77 : decode method_5_code 77 = .ok (.iload_n 0, 1) := by decide +kernel
theorem d3_78 : decode method_5_code 78 = .ok (.bipush 10, 2) := by decide +kernel
theorem d3_80 : decode method_5_code 80 = .ok (.if_icmp .ne 5, 3) := by decide +kernel
theorem d3_83 : decode method_5_code 83 = .ok (.iconst 3, 1) := by decide +kernel
theorem d3_84 : decode method_5_code 84 = .ok (.ireturn, 1) := by decide +kernel
theorem d3_85 : decode method_5_code 85 = .ok (.iload_n 0, 1) := by decide +kernel
theorem d3_86 : decode method_5_code 86 = .ok (.bipush 11, 2) := by decide +kernel
theorem d3_88 : decode method_5_code 88 = .ok (.if_icmp .ne 5, 3) := by decide +kernel
theorem d3_91 : decode method_5_code 91 = .ok (.iconst 3, 1) := by decide +kernel
theorem d3_92 : decode method_5_code 92 = .ok (.ireturn, 1) := by decide +kernel
theorem d3_93 : decode method_5_code 93 = .ok (.iconst 4, 1) := by decide +kernel
theorem d3_94 : decode method_5_code 94 = .ok (.ireturn, 1) := by decide +kernel
def Q_rm3 (Z : State) (p0 : Int32) (h0 : Heap) (n0 : Nat) (v : Option Value) (h : Heap) (L : List Loc) : Prop := v = some (.int (own_hi_0 p0)) ∧ Fr n0 L ∧ h = h0
theorem pn_rm3 : plainName "com/example/hale_log/halelog/protocol/ApiKeySupportsPinLaw" = true := by first | (simp [plainName, overriddenIn]; done) | decide +kernel
theorem ef_rm3 (m : MethodId) (x0 : Int32) : entryFrame m #[(.int x0)] 1 = mkF m 0 #[.val (.int x0)] [] := by first | (simp [entryFrame, mkF, argsToLocals, Value.category]; done) | rfl
set_option maxRecDepth 65536 in
set_option maxHeartbeats 40000000 in
theorem rm3 (l : Launch) (Z : State) (a0 : Array Value) (hw : ∀ d ∈ tables_1, d.before a0 Z = true) (ws : List Jvm.Cond) (p0 : Int32) (h0 : Heap) (n0 : Nat) (Z0 : n0 ≤ h0.size) :
    MetFree l (⟨"com/example/hale_log/halelog/protocol/ApiKeySupportsPinLaw", "hi", "(I)I"⟩ : MethodName) (head1 (Jvm.Cond.code (⟨"com/example/hale_log/halelog/protocol/ApiKeySupportsPinLaw", "hi", "(I)I"⟩ : MethodName) method_5_code 1 (some .int) :: ws) ({ frames := 0, cells := 0, slots := 0, locals := 0 } : Room)) (fun a U => a = #[(.int p0)] ∧ Z.Warmed39 U.vm ∧ U.heap = h0) (fun _ _ _ _ _ => True) (fun _ U o U' => ∃ v L, o = .returned v ∧ (Q_rm3 Z p0 h0 n0) v U'.heap L ∧ FrameEnd U o U' L ({ frames := 0, cells := 0, slots := 0, locals := 0 } : Room).cells ({ frames := 0, cells := 0, slots := 0, locals := 0 } : Room).slots) := by
  refine MetFree.of_bodySF (plainFor_of_name pn_rm3) hisR ?_
  intro p e s m args below meth c s₁ Bd hml0 hP hK
  obtain ⟨rfl, hZ, hh⟩ := hP
  have hx := Bd.exec
  have hby := Bd.bytes
  have hlk := BodyLoose.notSynchronized Bd
  have hret := Bd.returns
  have hml : c.maxLocals = 1 := hml0
  have hown : s.vm.findClass "com/example/hale_log/halelog/protocol/ApiKeySupportsPinLaw" = some m.cls := findClass_of_methodNamed Bd.named
  have hnm := (name_of_methodNamed Bd.named Bd.method).1
  have X0 : Stand p l e ({ frames := 0, cells := 0, slots := 0, locals := 0 } : Room) s m #[(.int p0)] below meth c s₁ [] 0 0 := Stand.of_body Bd
  have e0 : s₁.heap = h0 := by rw [← hh, Bd.state]; rfl
  have Nf := Fr.nil n0
  have Zs := Z0
  have Kp : Keep h0 h0 [] := Keep.refl _ _
  show own_End p e below s (Q_rm3 Z p0 h0 n0) ({ frames := 0, cells := 0, slots := 0, locals := 0 } : Room).cells ({ frames := 0, cells := 0, slots := 0, locals := 0 } : Room).slots (s₁.setTop (entryFrame m #[(.int p0)] 1))
  refine own_go (x' := s₁.setTop (mkF m 0 #[.val (.int p0)] [])) (fun t k => castTop (ef_rm3 m p0) k) ?_
  have hF : own_hi_0 p0 = own_hi_0 p0 := rfl
  refine own_go (x' := s₁.setTop (mkF m 1 #[.val (.int p0)] [(.int p0)])) (fun _ k => XS.iloadN X0.here hx rfl (hb hby d3_0) rfl k) ?_
  by_cases hc1 : p0 = (0 : Int32)
  · refine own_go (x' := s₁.setTop (mkF m 6 #[.val (.int p0)] [(.int (7 : Int32))])) (fun _ k => XS.ifNo X0.here hx rfl (hb hby d3_1) rfl ((if0 _ _).trans (teq hc1).2) (XS.bipush X0.here hx rfl (hb hby d3_4) k)) ?_
    refine own_retI X0 hx hlk hret (hb hby d3_6) ?_ (by decide) (by decide)
    rw [e0]
    exact ⟨by rw [hF]; simp only [own_hi_0, if_pos hc1], Nf, rfl⟩
  · refine own_go (x' := s₁.setTop (mkF m 9 #[.val (.int p0)] [(.int (1 : Int32)), (.int p0)])) (fun _ k => XS.ifYes X0.here hx rfl (pc0 := 1) (pc' := 7) rfl (hb hby d3_1) rfl ((if0 _ _).trans (feq hc1).2) (by decide) (by decide) (XS.iloadN X0.here hx rfl (hb hby d3_7) rfl (XS.iconst X0.here hx rfl (hb hby d3_8) k))) ?_
    by_cases hc9 : p0 = (1 : Int32)
    · refine own_go (x' := s₁.setTop (mkF m 14 #[.val (.int p0)] [(.int (11 : Int32))])) (fun _ k => XS.icmpNo X0.here hx rfl (hb hby d3_9) rfl (teq hc9).2 (XS.bipush X0.here hx rfl (hb hby d3_12) k)) ?_
      refine own_retI X0 hx hlk hret (hb hby d3_14) ?_ (by decide) (by decide)
      rw [e0]
      exact ⟨by rw [hF]; simp only [own_hi_0, if_neg hc1, if_pos hc9], Nf, rfl⟩
    · refine own_go (x' := s₁.setTop (mkF m 17 #[.val (.int p0)] [(.int (2 : Int32)), (.int p0)])) (fun _ k => XS.icmpYes X0.here hx rfl (pc0 := 9) (pc' := 15) rfl (hb hby d3_9) rfl (feq hc9).2 (by decide) (by decide) (XS.iloadN X0.here hx rfl (hb hby d3_15) rfl (XS.iconst X0.here hx rfl (hb hby d3_16) k))) ?_
      by_cases hc17 : p0 = (2 : Int32)
      · refine own_go (x' := s₁.setTop (mkF m 21 #[.val (.int p0)] [(.int (2 : Int32))])) (fun _ k => XS.icmpNo X0.here hx rfl (hb hby d3_17) rfl (teq hc17).2 (XS.iconst X0.here hx rfl (hb hby d3_20) k)) ?_
        refine own_retI X0 hx hlk hret (hb hby d3_21) ?_ (by decide) (by decide)
        rw [e0]
        exact ⟨by rw [hF]; simp only [own_hi_0, if_neg hc1, if_neg hc9, if_pos hc17], Nf, rfl⟩
      · refine own_go (x' := s₁.setTop (mkF m 24 #[.val (.int p0)] [(.int (3 : Int32)), (.int p0)])) (fun _ k => XS.icmpYes X0.here hx rfl (pc0 := 17) (pc' := 22) rfl (hb hby d3_17) rfl (feq hc17).2 (by decide) (by decide) (XS.iloadN X0.here hx rfl (hb hby d3_22) rfl (XS.iconst X0.here hx rfl (hb hby d3_23) k))) ?_
        by_cases hc24 : p0 = (3 : Int32)
        · refine own_go (x' := s₁.setTop (mkF m 28 #[.val (.int p0)] [(.int (4 : Int32))])) (fun _ k => XS.icmpNo X0.here hx rfl (hb hby d3_24) rfl (teq hc24).2 (XS.iconst X0.here hx rfl (hb hby d3_27) k)) ?_
          refine own_retI X0 hx hlk hret (hb hby d3_28) ?_ (by decide) (by decide)
          rw [e0]
          exact ⟨by rw [hF]; simp only [own_hi_0, if_neg hc1, if_neg hc9, if_neg hc17, if_pos hc24], Nf, rfl⟩
        · refine own_go (x' := s₁.setTop (mkF m 31 #[.val (.int p0)] [(.int (4 : Int32)), (.int p0)])) (fun _ k => XS.icmpYes X0.here hx rfl (pc0 := 24) (pc' := 29) rfl (hb hby d3_24) rfl (feq hc24).2 (by decide) (by decide) (XS.iloadN X0.here hx rfl (hb hby d3_29) rfl (XS.iconst X0.here hx rfl (hb hby d3_30) k))) ?_
          by_cases hc31 : p0 = (4 : Int32)
          · refine own_go (x' := s₁.setTop (mkF m 36 #[.val (.int p0)] [(.int (7 : Int32))])) (fun _ k => XS.icmpNo X0.here hx rfl (hb hby d3_31) rfl (teq hc31).2 (XS.bipush X0.here hx rfl (hb hby d3_34) k)) ?_
            refine own_retI X0 hx hlk hret (hb hby d3_36) ?_ (by decide) (by decide)
            rw [e0]
            exact ⟨by rw [hF]; simp only [own_hi_0, if_neg hc1, if_neg hc9, if_neg hc17, if_neg hc24, if_pos hc31], Nf, rfl⟩
          · refine own_go (x' := s₁.setTop (mkF m 39 #[.val (.int p0)] [(.int (5 : Int32)), (.int p0)])) (fun _ k => XS.icmpYes X0.here hx rfl (pc0 := 31) (pc' := 37) rfl (hb hby d3_31) rfl (feq hc31).2 (by decide) (by decide) (XS.iloadN X0.here hx rfl (hb hby d3_37) rfl (XS.iconst X0.here hx rfl (hb hby d3_38) k))) ?_
            by_cases hc39 : p0 = (5 : Int32)
            · refine own_go (x' := s₁.setTop (mkF m 44 #[.val (.int p0)] [(.int (7 : Int32))])) (fun _ k => XS.icmpNo X0.here hx rfl (hb hby d3_39) rfl (teq hc39).2 (XS.bipush X0.here hx rfl (hb hby d3_42) k)) ?_
              refine own_retI X0 hx hlk hret (hb hby d3_44) ?_ (by decide) (by decide)
              rw [e0]
              exact ⟨by rw [hF]; simp only [own_hi_0, if_neg hc1, if_neg hc9, if_neg hc17, if_neg hc24, if_neg hc31, if_pos hc39], Nf, rfl⟩
            · refine own_go (x' := s₁.setTop (mkF m 48 #[.val (.int p0)] [(.int (6 : Int32)), (.int p0)])) (fun _ k => XS.icmpYes X0.here hx rfl (pc0 := 39) (pc' := 45) rfl (hb hby d3_39) rfl (feq hc39).2 (by decide) (by decide) (XS.iloadN X0.here hx rfl (hb hby d3_45) rfl (XS.bipush X0.here hx rfl (hb hby d3_46) k))) ?_
              by_cases hc48 : p0 = (6 : Int32)
              · refine own_go (x' := s₁.setTop (mkF m 52 #[.val (.int p0)] [(.int (2 : Int32))])) (fun _ k => XS.icmpNo X0.here hx rfl (hb hby d3_48) rfl (teq hc48).2 (XS.iconst X0.here hx rfl (hb hby d3_51) k)) ?_
                refine own_retI X0 hx hlk hret (hb hby d3_52) ?_ (by decide) (by decide)
                rw [e0]
                exact ⟨by rw [hF]; simp only [own_hi_0, if_neg hc1, if_neg hc9, if_neg hc17, if_neg hc24, if_neg hc31, if_neg hc39, if_pos hc48], Nf, rfl⟩
              · refine own_go (x' := s₁.setTop (mkF m 56 #[.val (.int p0)] [(.int (7 : Int32)), (.int p0)])) (fun _ k => XS.icmpYes X0.here hx rfl (pc0 := 48) (pc' := 53) rfl (hb hby d3_48) rfl (feq hc48).2 (by decide) (by decide) (XS.iloadN X0.here hx rfl (hb hby d3_53) rfl (XS.bipush X0.here hx rfl (hb hby d3_54) k))) ?_
                by_cases hc56 : p0 = (7 : Int32)
                · refine own_go (x' := s₁.setTop (mkF m 60 #[.val (.int p0)] [(.int (5 : Int32))])) (fun _ k => XS.icmpNo X0.here hx rfl (hb hby d3_56) rfl (teq hc56).2 (XS.iconst X0.here hx rfl (hb hby d3_59) k)) ?_
                  refine own_retI X0 hx hlk hret (hb hby d3_60) ?_ (by decide) (by decide)
                  rw [e0]
                  exact ⟨by rw [hF]; simp only [own_hi_0, if_neg hc1, if_neg hc9, if_neg hc17, if_neg hc24, if_neg hc31, if_neg hc39, if_neg hc48, if_pos hc56], Nf, rfl⟩
                · refine own_go (x' := s₁.setTop (mkF m 64 #[.val (.int p0)] [(.int (8 : Int32)), (.int p0)])) (fun _ k => XS.icmpYes X0.here hx rfl (pc0 := 56) (pc' := 61) rfl (hb hby d3_56) rfl (feq hc56).2 (by decide) (by decide) (XS.iloadN X0.here hx rfl (hb hby d3_61) rfl (XS.bipush X0.here hx rfl (hb hby d3_62) k))) ?_
                  by_cases hc64 : p0 = (8 : Int32)
                  · refine own_go (x' := s₁.setTop (mkF m 68 #[.val (.int p0)] [(.int (3 : Int32))])) (fun _ k => XS.icmpNo X0.here hx rfl (hb hby d3_64) rfl (teq hc64).2 (XS.iconst X0.here hx rfl (hb hby d3_67) k)) ?_
                    refine own_retI X0 hx hlk hret (hb hby d3_68) ?_ (by decide) (by decide)
                    rw [e0]
                    exact ⟨by rw [hF]; simp only [own_hi_0, if_neg hc1, if_neg hc9, if_neg hc17, if_neg hc24, if_neg hc31, if_neg hc39, if_neg hc48, if_neg hc56, if_pos hc64], Nf, rfl⟩
                  · refine own_go (x' := s₁.setTop (mkF m 72 #[.val (.int p0)] [(.int (9 : Int32)), (.int p0)])) (fun _ k => XS.icmpYes X0.here hx rfl (pc0 := 64) (pc' := 69) rfl (hb hby d3_64) rfl (feq hc64).2 (by decide) (by decide) (XS.iloadN X0.here hx rfl (hb hby d3_69) rfl (XS.bipush X0.here hx rfl (hb hby d3_70) k))) ?_
                    by_cases hc72 : p0 = (9 : Int32)
                    · refine own_go (x' := s₁.setTop (mkF m 76 #[.val (.int p0)] [(.int (2 : Int32))])) (fun _ k => XS.icmpNo X0.here hx rfl (hb hby d3_72) rfl (teq hc72).2 (XS.iconst X0.here hx rfl (hb hby d3_75) k)) ?_
                      refine own_retI X0 hx hlk hret (hb hby d3_76) ?_ (by decide) (by decide)
                      rw [e0]
                      exact ⟨by rw [hF]; simp only [own_hi_0, if_neg hc1, if_neg hc9, if_neg hc17, if_neg hc24, if_neg hc31, if_neg hc39, if_neg hc48, if_neg hc56, if_neg hc64, if_pos hc72], Nf, rfl⟩
                    · refine own_go (x' := s₁.setTop (mkF m 80 #[.val (.int p0)] [(.int (10 : Int32)), (.int p0)])) (fun _ k => XS.icmpYes X0.here hx rfl (pc0 := 72) (pc' := 77) rfl (hb hby d3_72) rfl (feq hc72).2 (by decide) (by decide) (XS.iloadN X0.here hx rfl (hb hby d3_77) rfl (XS.bipush X0.here hx rfl (hb hby d3_78) k))) ?_
                      by_cases hc80 : p0 = (10 : Int32)
                      · refine own_go (x' := s₁.setTop (mkF m 84 #[.val (.int p0)] [(.int (3 : Int32))])) (fun _ k => XS.icmpNo X0.here hx rfl (hb hby d3_80) rfl (teq hc80).2 (XS.iconst X0.here hx rfl (hb hby d3_83) k)) ?_
                        refine own_retI X0 hx hlk hret (hb hby d3_84) ?_ (by decide) (by decide)
                        rw [e0]
                        exact ⟨by rw [hF]; simp only [own_hi_0, if_neg hc1, if_neg hc9, if_neg hc17, if_neg hc24, if_neg hc31, if_neg hc39, if_neg hc48, if_neg hc56, if_neg hc64, if_neg hc72, if_pos hc80], Nf, rfl⟩
                      · refine own_go (x' := s₁.setTop (mkF m 88 #[.val (.int p0)] [(.int (11 : Int32)), (.int p0)])) (fun _ k => XS.icmpYes X0.here hx rfl (pc0 := 80) (pc' := 85) rfl (hb hby d3_80) rfl (feq hc80).2 (by decide) (by decide) (XS.iloadN X0.here hx rfl (hb hby d3_85) rfl (XS.bipush X0.here hx rfl (hb hby d3_86) k))) ?_
                        by_cases hc88 : p0 = (11 : Int32)
                        · refine own_go (x' := s₁.setTop (mkF m 92 #[.val (.int p0)] [(.int (3 : Int32))])) (fun _ k => XS.icmpNo X0.here hx rfl (hb hby d3_88) rfl (teq hc88).2 (XS.iconst X0.here hx rfl (hb hby d3_91) k)) ?_
                          refine own_retI X0 hx hlk hret (hb hby d3_92) ?_ (by decide) (by decide)
                          rw [e0]
                          exact ⟨by rw [hF]; simp only [own_hi_0, if_neg hc1, if_neg hc9, if_neg hc17, if_neg hc24, if_neg hc31, if_neg hc39, if_neg hc48, if_neg hc56, if_neg hc64, if_neg hc72, if_neg hc80, if_pos hc88], Nf, rfl⟩
                        · refine own_go (x' := s₁.setTop (mkF m 94 #[.val (.int p0)] [(.int (4 : Int32))])) (fun _ k => XS.icmpYes X0.here hx rfl (pc0 := 88) (pc' := 93) rfl (hb hby d3_88) rfl (feq hc88).2 (by decide) (by decide) (XS.iconst X0.here hx rfl (hb hby d3_93) k)) ?_
                          refine own_retI X0 hx hlk hret (hb hby d3_94) ?_ (by decide) (by decide)
                          rw [e0]
                          exact ⟨by rw [hF]; simp only [own_hi_0, if_neg hc1, if_neg hc9, if_neg hc17, if_neg hc24, if_neg hc31, if_neg hc39, if_neg hc48, if_neg hc56, if_neg hc64, if_neg hc72, if_neg hc80, if_neg hc88], Nf, rfl⟩
theorem d1_0 : decode method_3_code 0 = .ok (.iload_n 0, 1) := by decide +kernel
theorem d1_1 : decode method_3_code 1 = .ok (.ifCond .ne 7, 3) := by decide +kernel
theorem d1_4 : decode method_3_code 4 = .ok (.getstatic 27, 3) := by decide +kernel
theorem d1_7 : decode method_3_code 7 = .ok (.areturn, 1) := by decide +kernel
theorem d1_8 : decode method_3_code 8 = .ok (.iload_n 0, 1) := by decide +kernel
theorem d1_9 : decode method_3_code 9 = .ok (.iconst 1, 1) := by decide +kernel
theorem d1_10 : decode method_3_code 10 = .ok (.if_icmp .ne 7, 3) := by decide +kernel
theorem d1_13 : decode method_3_code 13 = .ok (.getstatic 31, 3) := by decide +kernel
theorem d1_16 : decode method_3_code 16 = .ok (.areturn, 1) := by decide +kernel
theorem d1_17 : decode method_3_code 17 = .ok (.iload_n 0, 1) := by decide +kernel
theorem d1_18 : decode method_3_code 18 = .ok (.iconst 2, 1) := by decide +kernel
theorem d1_19 : decode method_3_code 19 = .ok (.if_icmp .ne 7, 3) := by decide +kernel
theorem d1_22 : decode method_3_code 22 = .ok (.getstatic 34, 3) := by decide +kernel
theorem d1_25 : decode method_3_code 25 = .ok (.areturn, 1) := by decide +kernel
theorem d1_26 : decode method_3_code 26 = .ok (.iload_n 0, 1) := by decide +kernel
theorem d1_27 : decode method_3_code 27 = .ok (.iconst 3, 1) := by decide +kernel
theorem d1_28 : decode method_3_code 28 = .ok (.if_icmp .ne 7, 3) := by decide +kernel
theorem d1_31 : decode method_3_code 31 = .ok (.getstatic 37, 3) := by decide +kernel
theorem d1_34 : decode method_3_code 34 = .ok (.areturn, 1) := by decide +kernel
theorem d1_35 : decode method_3_code 35 = .ok (.iload_n 0, 1) := by decide +kernel
theorem d1_36 : decode method_3_code 36 = .ok (.iconst 4, 1) := by decide +kernel
theorem d1_37 : decode method_3_code 37 = .ok (.if_icmp .ne 7, 3) := by decide +kernel
theorem d1_40 : decode method_3_code 40 = .ok (.getstatic 40, 3) := by decide +kernel
theorem d1_43 : decode method_3_code 43 = .ok (.areturn, 1) := by decide +kernel
theorem d1_44 : decode method_3_code 44 = .ok (.iload_n 0, 1) := by decide +kernel
theorem d1_45 : decode method_3_code 45 = .ok (.iconst 5, 1) := by decide +kernel
theorem d1_46 : decode method_3_code 46 = .ok (.if_icmp .ne 7, 3) := by decide +kernel
theorem d1_49 : decode method_3_code 49 = .ok (.getstatic 43, 3) := by decide +kernel
theorem d1_52 : decode method_3_code 52 = .ok (.areturn, 1) := by decide +kernel
theorem d1_53 : decode method_3_code 53 = .ok (.iload_n 0, 1) := by decide +kernel
theorem d1_54 : decode method_3_code 54 = .ok (.bipush 6, 2) := by decide +kernel
theorem d1_56 : decode method_3_code 56 = .ok (.if_icmp .ne 7, 3) := by decide +kernel
theorem d1_59 : decode method_3_code 59 = .ok (.getstatic 46, 3) := by decide +kernel
theorem d1_62 : decode method_3_code 62 = .ok (.areturn, 1) := by decide +kernel
theorem d1_63 : decode method_3_code 63 = .ok (.iload_n 0, 1) := by decide +kernel
theorem d1_64 : decode method_3_code 64 = .ok (.bipush 7, 2) := by decide +kernel
theorem d1_66 : decode method_3_code 66 = .ok (.if_icmp .ne 7, 3) := by decide +kernel
theorem d1_69 : decode method_3_code 69 = .ok (.getstatic 49, 3) := by decide +kernel
theorem d1_72 : decode method_3_code 72 = .ok (.areturn, 1) := by decide +kernel
theorem d1_73 : decode method_3_code 73 = .ok (.iload_n 0, 1) := by decide +kernel
theorem d1_74 : decode method_3_code 74 = .ok (.bipush 8, 2) := by decide +kernel
theorem d1_76 : decode method_3_code 76 = .ok (.if_icmp .ne 7, 3) := by decide +kernel
theorem d1_79 : decode method_3_code 79 = .ok (.getstatic 52, 3) := by decide +kernel
theorem d1_82 : decode method_3_code 82 = .ok (.areturn, 1) := by decide +kernel
theorem d1_83 : decode method_3_code 83 = .ok (.iload_n 0, 1) := by decide +kernel
theorem d1_84 : decode method_3_code 84 = .ok (.bipush 9, 2) := by decide +kernel
theorem d1_86 : decode method_3_code 86 = .ok (.if_icmp .ne 7, 3) := by decide +kernel
theorem d1_89 : decode method_3_code 89 = .ok (.getstatic 55, 3) := by decide +kernel
theorem d1_92 : decode method_3_code 92 = .ok (.areturn, 1) := by decide +kernel
theorem d1_93 : decode method_3_code 93 = .ok (.iload_n 0, 1) := by decide +kernel
theorem d1_94 : decode method_3_code 94 = .ok (.bipush 10, 2) := by decide +kernel
theorem d1_96 : decode method_3_code 96 = .ok (.if_icmp .ne 7, 3) := by decide +kernel
theorem d1_99 : decode method_3_code 99 = .ok (.getstatic 58, 3) := by decide +kernel
theorem d1_102 : decode method_3_code 102 = .ok (.areturn, 1) := by decide +kernel
theorem d1_103 : decode method_3_code 103 = .ok (.iload_n 0, 1) := by decide +kernel
theorem d1_104 : decode method_3_code 104 = .ok (.bipush 11, 2) := by decide +kernel
theorem d1_106 : decode method_3_code 106 = .ok (.if_icmp .ne 7, 3) := by decide +kernel
theorem d1_109 : decode method_3_code 109 = .ok (.getstatic 61, 3) := by decide +kernel
theorem d1_112 : decode method_3_code 112 = .ok (.areturn, 1) := by decide +kernel
theorem d1_113 : decode method_3_code 113 = .ok (.getstatic 64, 3) := by decide +kernel
theorem d1_116 : decode method_3_code 116 = .ok (.areturn, 1) := by decide +kernel
def Q_rm1 (Z : State) (p0 : Int32) (h0 : Heap) (n0 : Nat) (v : Option Value) (h : Heap) (L : List Loc) : Prop := ∃ a : Addr, v = some (.ref a) ∧ Fr n0 L ∧ h = h0 ∧ Exa Z h0 a "com/example/hale_log/halelog/protocol/ApiKey" ∧ Fld Z h0 a "com/example/hale_log/halelog/protocol/ApiKey" "minVersion" "S" (.int (own_lo_0 p0)) ∧ Fld Z h0 a "com/example/hale_log/halelog/protocol/ApiKey" "maxVersion" "S" (.int (own_hi_0 p0))
theorem pn_rm1 : plainName "com/example/hale_log/halelog/protocol/ApiKeySupportsPinLaw" = true := by first | (simp [plainName, overriddenIn]; done) | decide +kernel
theorem ef_rm1 (m : MethodId) (x0 : Int32) : entryFrame m #[(.int x0)] 1 = mkF m 0 #[.val (.int x0)] [] := by first | (simp [entryFrame, mkF, argsToLocals, Value.category]; done) | rfl
set_option maxRecDepth 65536 in
set_option maxHeartbeats 40000000 in
theorem rm1 (l : Launch) (Z : State) (a0 : Array Value) (hw : ∀ d ∈ tables_1, d.before a0 Z = true) (ws : List Jvm.Cond) (p0 : Int32) (h0 : Heap) (n0 : Nat) (Z0 : n0 ≤ h0.size) (G_PRODUCE : ∃ a : Addr, Sta Z h0 "com/example/hale_log/halelog/protocol/ApiKey" "PRODUCE" "Lcom/example/hale_log/halelog/protocol/ApiKey;" (.ref a) ∧ Exa Z h0 a "com/example/hale_log/halelog/protocol/ApiKey" ∧ Fld Z h0 a "com/example/hale_log/halelog/protocol/ApiKey" "minVersion" "S" (.int (0 : Int32)) ∧ Fld Z h0 a "com/example/hale_log/halelog/protocol/ApiKey" "maxVersion" "S" (.int (7 : Int32))) (G_FETCH : ∃ a : Addr, Sta Z h0 "com/example/hale_log/halelog/protocol/ApiKey" "FETCH" "Lcom/example/hale_log/halelog/protocol/ApiKey;" (.ref a) ∧ Exa Z h0 a "com/example/hale_log/halelog/protocol/ApiKey" ∧ Fld Z h0 a "com/example/hale_log/halelog/protocol/ApiKey" "minVersion" "S" (.int (4 : Int32)) ∧ Fld Z h0 a "com/example/hale_log/halelog/protocol/ApiKey" "maxVersion" "S" (.int (11 : Int32))) (G_LIST_OFFSETS : ∃ a : Addr, Sta Z h0 "com/example/hale_log/halelog/protocol/ApiKey" "LIST_OFFSETS" "Lcom/example/hale_log/halelog/protocol/ApiKey;" (.ref a) ∧ Exa Z h0 a "com/example/hale_log/halelog/protocol/ApiKey" ∧ Fld Z h0 a "com/example/hale_log/halelog/protocol/ApiKey" "minVersion" "S" (.int (1 : Int32)) ∧ Fld Z h0 a "com/example/hale_log/halelog/protocol/ApiKey" "maxVersion" "S" (.int (2 : Int32))) (G_METADATA : ∃ a : Addr, Sta Z h0 "com/example/hale_log/halelog/protocol/ApiKey" "METADATA" "Lcom/example/hale_log/halelog/protocol/ApiKey;" (.ref a) ∧ Exa Z h0 a "com/example/hale_log/halelog/protocol/ApiKey" ∧ Fld Z h0 a "com/example/hale_log/halelog/protocol/ApiKey" "minVersion" "S" (.int (1 : Int32)) ∧ Fld Z h0 a "com/example/hale_log/halelog/protocol/ApiKey" "maxVersion" "S" (.int (4 : Int32))) (G_OFFSET_COMMIT : ∃ a : Addr, Sta Z h0 "com/example/hale_log/halelog/protocol/ApiKey" "OFFSET_COMMIT" "Lcom/example/hale_log/halelog/protocol/ApiKey;" (.ref a) ∧ Exa Z h0 a "com/example/hale_log/halelog/protocol/ApiKey" ∧ Fld Z h0 a "com/example/hale_log/halelog/protocol/ApiKey" "minVersion" "S" (.int (2 : Int32)) ∧ Fld Z h0 a "com/example/hale_log/halelog/protocol/ApiKey" "maxVersion" "S" (.int (7 : Int32))) (G_OFFSET_FETCH : ∃ a : Addr, Sta Z h0 "com/example/hale_log/halelog/protocol/ApiKey" "OFFSET_FETCH" "Lcom/example/hale_log/halelog/protocol/ApiKey;" (.ref a) ∧ Exa Z h0 a "com/example/hale_log/halelog/protocol/ApiKey" ∧ Fld Z h0 a "com/example/hale_log/halelog/protocol/ApiKey" "minVersion" "S" (.int (1 : Int32)) ∧ Fld Z h0 a "com/example/hale_log/halelog/protocol/ApiKey" "maxVersion" "S" (.int (7 : Int32))) (G_FIND_COORDINATOR : ∃ a : Addr, Sta Z h0 "com/example/hale_log/halelog/protocol/ApiKey" "FIND_COORDINATOR" "Lcom/example/hale_log/halelog/protocol/ApiKey;" (.ref a) ∧ Exa Z h0 a "com/example/hale_log/halelog/protocol/ApiKey" ∧ Fld Z h0 a "com/example/hale_log/halelog/protocol/ApiKey" "minVersion" "S" (.int (0 : Int32)) ∧ Fld Z h0 a "com/example/hale_log/halelog/protocol/ApiKey" "maxVersion" "S" (.int (2 : Int32))) (G_JOIN_GROUP : ∃ a : Addr, Sta Z h0 "com/example/hale_log/halelog/protocol/ApiKey" "JOIN_GROUP" "Lcom/example/hale_log/halelog/protocol/ApiKey;" (.ref a) ∧ Exa Z h0 a "com/example/hale_log/halelog/protocol/ApiKey" ∧ Fld Z h0 a "com/example/hale_log/halelog/protocol/ApiKey" "minVersion" "S" (.int (0 : Int32)) ∧ Fld Z h0 a "com/example/hale_log/halelog/protocol/ApiKey" "maxVersion" "S" (.int (5 : Int32))) (G_HEARTBEAT : ∃ a : Addr, Sta Z h0 "com/example/hale_log/halelog/protocol/ApiKey" "HEARTBEAT" "Lcom/example/hale_log/halelog/protocol/ApiKey;" (.ref a) ∧ Exa Z h0 a "com/example/hale_log/halelog/protocol/ApiKey" ∧ Fld Z h0 a "com/example/hale_log/halelog/protocol/ApiKey" "minVersion" "S" (.int (0 : Int32)) ∧ Fld Z h0 a "com/example/hale_log/halelog/protocol/ApiKey" "maxVersion" "S" (.int (3 : Int32))) (G_LEAVE_GROUP : ∃ a : Addr, Sta Z h0 "com/example/hale_log/halelog/protocol/ApiKey" "LEAVE_GROUP" "Lcom/example/hale_log/halelog/protocol/ApiKey;" (.ref a) ∧ Exa Z h0 a "com/example/hale_log/halelog/protocol/ApiKey" ∧ Fld Z h0 a "com/example/hale_log/halelog/protocol/ApiKey" "minVersion" "S" (.int (0 : Int32)) ∧ Fld Z h0 a "com/example/hale_log/halelog/protocol/ApiKey" "maxVersion" "S" (.int (2 : Int32))) (G_SYNC_GROUP : ∃ a : Addr, Sta Z h0 "com/example/hale_log/halelog/protocol/ApiKey" "SYNC_GROUP" "Lcom/example/hale_log/halelog/protocol/ApiKey;" (.ref a) ∧ Exa Z h0 a "com/example/hale_log/halelog/protocol/ApiKey" ∧ Fld Z h0 a "com/example/hale_log/halelog/protocol/ApiKey" "minVersion" "S" (.int (0 : Int32)) ∧ Fld Z h0 a "com/example/hale_log/halelog/protocol/ApiKey" "maxVersion" "S" (.int (3 : Int32))) (G_API_VERSIONS : ∃ a : Addr, Sta Z h0 "com/example/hale_log/halelog/protocol/ApiKey" "API_VERSIONS" "Lcom/example/hale_log/halelog/protocol/ApiKey;" (.ref a) ∧ Exa Z h0 a "com/example/hale_log/halelog/protocol/ApiKey" ∧ Fld Z h0 a "com/example/hale_log/halelog/protocol/ApiKey" "minVersion" "S" (.int (0 : Int32)) ∧ Fld Z h0 a "com/example/hale_log/halelog/protocol/ApiKey" "maxVersion" "S" (.int (3 : Int32))) (G_INIT_PRODUCER_ID : ∃ a : Addr, Sta Z h0 "com/example/hale_log/halelog/protocol/ApiKey" "INIT_PRODUCER_ID" "Lcom/example/hale_log/halelog/protocol/ApiKey;" (.ref a) ∧ Exa Z h0 a "com/example/hale_log/halelog/protocol/ApiKey" ∧ Fld Z h0 a "com/example/hale_log/halelog/protocol/ApiKey" "minVersion" "S" (.int (0 : Int32)) ∧ Fld Z h0 a "com/example/hale_log/halelog/protocol/ApiKey" "maxVersion" "S" (.int (4 : Int32))) :
    MetFree l (⟨"com/example/hale_log/halelog/protocol/ApiKeySupportsPinLaw", "pick", "(I)Lcom/example/hale_log/halelog/protocol/ApiKey;"⟩ : MethodName) (head1 (Jvm.Cond.code (⟨"com/example/hale_log/halelog/protocol/ApiKeySupportsPinLaw", "pick", "(I)Lcom/example/hale_log/halelog/protocol/ApiKey;"⟩ : MethodName) method_3_code 1 (some (.object "com/example/hale_log/halelog/protocol/ApiKey")) :: ws) ({ frames := 0, cells := 0, slots := 0, locals := 0 } : Room)) (fun a U => a = #[(.int p0)] ∧ Z.Warmed39 U.vm ∧ U.heap = h0) (fun _ _ _ _ _ => True) (fun _ U o U' => ∃ v L, o = .returned v ∧ (Q_rm1 Z p0 h0 n0) v U'.heap L ∧ FrameEnd U o U' L ({ frames := 0, cells := 0, slots := 0, locals := 0 } : Room).cells ({ frames := 0, cells := 0, slots := 0, locals := 0 } : Room).slots) := by
  refine MetFree.of_bodySF (plainFor_of_name pn_rm1) hisR ?_
  intro p e s m args below meth c s₁ Bd hml0 hP hK
  obtain ⟨rfl, hZ, hh⟩ := hP
  have hx := Bd.exec
  have hby := Bd.bytes
  have hlk := BodyLoose.notSynchronized Bd
  have hret := Bd.returns
  have hml : c.maxLocals = 1 := hml0
  have hown : s.vm.findClass "com/example/hale_log/halelog/protocol/ApiKeySupportsPinLaw" = some m.cls := findClass_of_methodNamed Bd.named
  have hnm := (name_of_methodNamed Bd.named Bd.method).1
  have X0 : Stand p l e ({ frames := 0, cells := 0, slots := 0, locals := 0 } : Room) s m #[(.int p0)] below meth c s₁ [] 0 0 := Stand.of_body Bd
  have e0 : s₁.heap = h0 := by rw [← hh, Bd.state]; rfl
  have Nf := Fr.nil n0
  have Zs := Z0
  have Kp : Keep h0 h0 [] := Keep.refl _ _
  obtain ⟨a_PRODUCE, S_PRODUCE, E_PRODUCE, m_PRODUCE, M_PRODUCE⟩ := G_PRODUCE
  obtain ⟨a_FETCH, S_FETCH, E_FETCH, m_FETCH, M_FETCH⟩ := G_FETCH
  obtain ⟨a_LIST_OFFSETS, S_LIST_OFFSETS, E_LIST_OFFSETS, m_LIST_OFFSETS, M_LIST_OFFSETS⟩ := G_LIST_OFFSETS
  obtain ⟨a_METADATA, S_METADATA, E_METADATA, m_METADATA, M_METADATA⟩ := G_METADATA
  obtain ⟨a_OFFSET_COMMIT, S_OFFSET_COMMIT, E_OFFSET_COMMIT, m_OFFSET_COMMIT, M_OFFSET_COMMIT⟩ := G_OFFSET_COMMIT
  obtain ⟨a_OFFSET_FETCH, S_OFFSET_FETCH, E_OFFSET_FETCH, m_OFFSET_FETCH, M_OFFSET_FETCH⟩ := G_OFFSET_FETCH
  obtain ⟨a_FIND_COORDINATOR, S_FIND_COORDINATOR, E_FIND_COORDINATOR, m_FIND_COORDINATOR, M_FIND_COORDINATOR⟩ := G_FIND_COORDINATOR
  obtain ⟨a_JOIN_GROUP, S_JOIN_GROUP, E_JOIN_GROUP, m_JOIN_GROUP, M_JOIN_GROUP⟩ := G_JOIN_GROUP
  obtain ⟨a_HEARTBEAT, S_HEARTBEAT, E_HEARTBEAT, m_HEARTBEAT, M_HEARTBEAT⟩ := G_HEARTBEAT
  obtain ⟨a_LEAVE_GROUP, S_LEAVE_GROUP, E_LEAVE_GROUP, m_LEAVE_GROUP, M_LEAVE_GROUP⟩ := G_LEAVE_GROUP
  obtain ⟨a_SYNC_GROUP, S_SYNC_GROUP, E_SYNC_GROUP, m_SYNC_GROUP, M_SYNC_GROUP⟩ := G_SYNC_GROUP
  obtain ⟨a_API_VERSIONS, S_API_VERSIONS, E_API_VERSIONS, m_API_VERSIONS, M_API_VERSIONS⟩ := G_API_VERSIONS
  obtain ⟨a_INIT_PRODUCER_ID, S_INIT_PRODUCER_ID, E_INIT_PRODUCER_ID, m_INIT_PRODUCER_ID, M_INIT_PRODUCER_ID⟩ := G_INIT_PRODUCER_ID
  show own_End p e below s (Q_rm1 Z p0 h0 n0) ({ frames := 0, cells := 0, slots := 0, locals := 0 } : Room).cells ({ frames := 0, cells := 0, slots := 0, locals := 0 } : Room).slots (s₁.setTop (entryFrame m #[(.int p0)] 1))
  refine own_go (x' := s₁.setTop (mkF m 0 #[.val (.int p0)] [])) (fun t k => castTop (ef_rm1 m p0) k) ?_
  refine own_go (x' := s₁.setTop (mkF m 1 #[.val (.int p0)] [(.int p0)])) (fun _ k => XS.iloadN X0.here hx rfl (hb hby d1_0) rfl k) ?_
  by_cases hc1 : p0 = (0 : Int32)
  · refine own_go (x' := s₁.setTop (mkF m 4 #[.val (.int p0)] [])) (fun _ k => XS.ifNo X0.here hx rfl (hb hby d1_1) rfl ((if0 _ _).trans (teq hc1).2) k) ?_
    obtain ⟨T1, X1, e1, st1⟩ := getS2 X0 hx hZ hown (host := "") (Or.inl (own_w hw 5 rfl)) Via.refl e0 S_PRODUCE (g := (mkF m 4 #[.val (.int p0)] [])) rfl (hb hby d1_4)
    refine own_go (x' := T1.setTop (mkF m 7 #[.val (.int p0)] [(.ref a_PRODUCE)])) st1 ?_
    refine own_retR X1 hx hlk hret rfl rfl (hb hby d1_7) ?_ (by decide) (by decide)
    rw [e1]
    refine ⟨_, rfl, Nf, rfl, E_PRODUCE, ?_, ?_⟩
    · rw [(show own_lo_0 p0 = 0 from by rw [hc1]; rfl)]; exact m_PRODUCE
    · rw [(show own_hi_0 p0 = 7 from by rw [hc1]; rfl)]; exact M_PRODUCE
  · refine own_go (x' := s₁.setTop (mkF m 10 #[.val (.int p0)] [(.int (1 : Int32)), (.int p0)])) (fun _ k => XS.ifYes X0.here hx rfl (pc0 := 1) (pc' := 8) rfl (hb hby d1_1) rfl ((if0 _ _).trans (feq hc1).2) (by decide) (by decide) (XS.iloadN X0.here hx rfl (hb hby d1_8) rfl (XS.iconst X0.here hx rfl (hb hby d1_9) k))) ?_
    by_cases hc10 : p0 = (1 : Int32)
    · refine own_go (x' := s₁.setTop (mkF m 13 #[.val (.int p0)] [])) (fun _ k => XS.icmpNo X0.here hx rfl (hb hby d1_10) rfl (teq hc10).2 k) ?_
      obtain ⟨T2, X2, e2, st2⟩ := getS2 X0 hx hZ hown (host := "") (Or.inl (own_w hw 23 rfl)) Via.refl e0 S_FETCH (g := (mkF m 13 #[.val (.int p0)] [])) rfl (hb hby d1_13)
      refine own_go (x' := T2.setTop (mkF m 16 #[.val (.int p0)] [(.ref a_FETCH)])) st2 ?_
      refine own_retR X2 hx hlk hret rfl rfl (hb hby d1_16) ?_ (by decide) (by decide)
      rw [e2]
      refine ⟨_, rfl, Nf, rfl, E_FETCH, ?_, ?_⟩
      · rw [(show own_lo_0 p0 = 4 from by rw [hc10]; rfl)]; exact m_FETCH
      · rw [(show own_hi_0 p0 = 11 from by rw [hc10]; rfl)]; exact M_FETCH
    · refine own_go (x' := s₁.setTop (mkF m 19 #[.val (.int p0)] [(.int (2 : Int32)), (.int p0)])) (fun _ k => XS.icmpYes X0.here hx rfl (pc0 := 10) (pc' := 17) rfl (hb hby d1_10) rfl (feq hc10).2 (by decide) (by decide) (XS.iloadN X0.here hx rfl (hb hby d1_17) rfl (XS.iconst X0.here hx rfl (hb hby d1_18) k))) ?_
      by_cases hc19 : p0 = (2 : Int32)
      · refine own_go (x' := s₁.setTop (mkF m 22 #[.val (.int p0)] [])) (fun _ k => XS.icmpNo X0.here hx rfl (hb hby d1_19) rfl (teq hc19).2 k) ?_
        obtain ⟨T3, X3, e3, st3⟩ := getS2 X0 hx hZ hown (host := "") (Or.inl (own_w hw 39 rfl)) Via.refl e0 S_LIST_OFFSETS (g := (mkF m 22 #[.val (.int p0)] [])) rfl (hb hby d1_22)
        refine own_go (x' := T3.setTop (mkF m 25 #[.val (.int p0)] [(.ref a_LIST_OFFSETS)])) st3 ?_
        refine own_retR X3 hx hlk hret rfl rfl (hb hby d1_25) ?_ (by decide) (by decide)
        rw [e3]
        refine ⟨_, rfl, Nf, rfl, E_LIST_OFFSETS, ?_, ?_⟩
        · rw [(show own_lo_0 p0 = 1 from by rw [hc19]; rfl)]; exact m_LIST_OFFSETS
        · rw [(show own_hi_0 p0 = 2 from by rw [hc19]; rfl)]; exact M_LIST_OFFSETS
      · refine own_go (x' := s₁.setTop (mkF m 28 #[.val (.int p0)] [(.int (3 : Int32)), (.int p0)])) (fun _ k => XS.icmpYes X0.here hx rfl (pc0 := 19) (pc' := 26) rfl (hb hby d1_19) rfl (feq hc19).2 (by decide) (by decide) (XS.iloadN X0.here hx rfl (hb hby d1_26) rfl (XS.iconst X0.here hx rfl (hb hby d1_27) k))) ?_
        by_cases hc28 : p0 = (3 : Int32)
        · refine own_go (x' := s₁.setTop (mkF m 31 #[.val (.int p0)] [])) (fun _ k => XS.icmpNo X0.here hx rfl (hb hby d1_28) rfl (teq hc28).2 k) ?_
          obtain ⟨T4, X4, e4, st4⟩ := getS2 X0 hx hZ hown (host := "") (Or.inl (own_w hw 27 rfl)) Via.refl e0 S_METADATA (g := (mkF m 31 #[.val (.int p0)] [])) rfl (hb hby d1_31)
          refine own_go (x' := T4.setTop (mkF m 34 #[.val (.int p0)] [(.ref a_METADATA)])) st4 ?_
          refine own_retR X4 hx hlk hret rfl rfl (hb hby d1_34) ?_ (by decide) (by decide)
          rw [e4]
          refine ⟨_, rfl, Nf, rfl, E_METADATA, ?_, ?_⟩
          · rw [(show own_lo_0 p0 = 1 from by rw [hc28]; rfl)]; exact m_METADATA
          · rw [(show own_hi_0 p0 = 4 from by rw [hc28]; rfl)]; exact M_METADATA
        · refine own_go (x' := s₁.setTop (mkF m 37 #[.val (.int p0)] [(.int (4 : Int32)), (.int p0)])) (fun _ k => XS.icmpYes X0.here hx rfl (pc0 := 28) (pc' := 35) rfl (hb hby d1_28) rfl (feq hc28).2 (by decide) (by decide) (XS.iloadN X0.here hx rfl (hb hby d1_35) rfl (XS.iconst X0.here hx rfl (hb hby d1_36) k))) ?_
          by_cases hc37 : p0 = (4 : Int32)
          · refine own_go (x' := s₁.setTop (mkF m 40 #[.val (.int p0)] [])) (fun _ k => XS.icmpNo X0.here hx rfl (hb hby d1_37) rfl (teq hc37).2 k) ?_
            obtain ⟨T5, X5, e5, st5⟩ := getS2 X0 hx hZ hown (host := "") (Or.inl (own_w hw 25 rfl)) Via.refl e0 S_OFFSET_COMMIT (g := (mkF m 40 #[.val (.int p0)] [])) rfl (hb hby d1_40)
            refine own_go (x' := T5.setTop (mkF m 43 #[.val (.int p0)] [(.ref a_OFFSET_COMMIT)])) st5 ?_
            refine own_retR X5 hx hlk hret rfl rfl (hb hby d1_43) ?_ (by decide) (by decide)
            rw [e5]
            refine ⟨_, rfl, Nf, rfl, E_OFFSET_COMMIT, ?_, ?_⟩
            · rw [(show own_lo_0 p0 = 2 from by rw [hc37]; rfl)]; exact m_OFFSET_COMMIT
            · rw [(show own_hi_0 p0 = 7 from by rw [hc37]; rfl)]; exact M_OFFSET_COMMIT
          · refine own_go (x' := s₁.setTop (mkF m 46 #[.val (.int p0)] [(.int (5 : Int32)), (.int p0)])) (fun _ k => XS.icmpYes X0.here hx rfl (pc0 := 37) (pc' := 44) rfl (hb hby d1_37) rfl (feq hc37).2 (by decide) (by decide) (XS.iloadN X0.here hx rfl (hb hby d1_44) rfl (XS.iconst X0.here hx rfl (hb hby d1_45) k))) ?_
            by_cases hc46 : p0 = (5 : Int32)
            · refine own_go (x' := s₁.setTop (mkF m 49 #[.val (.int p0)] [])) (fun _ k => XS.icmpNo X0.here hx rfl (hb hby d1_46) rfl (teq hc46).2 k) ?_
              obtain ⟨T6, X6, e6, st6⟩ := getS2 X0 hx hZ hown (host := "") (Or.inl (own_w hw 31 rfl)) Via.refl e0 S_OFFSET_FETCH (g := (mkF m 49 #[.val (.int p0)] [])) rfl (hb hby d1_49)
              refine own_go (x' := T6.setTop (mkF m 52 #[.val (.int p0)] [(.ref a_OFFSET_FETCH)])) st6 ?_
              refine own_retR X6 hx hlk hret rfl rfl (hb hby d1_52) ?_ (by decide) (by decide)
              rw [e6]
              refine ⟨_, rfl, Nf, rfl, E_OFFSET_FETCH, ?_, ?_⟩
              · rw [(show own_lo_0 p0 = 1 from by rw [hc46]; rfl)]; exact m_OFFSET_FETCH
              · rw [(show own_hi_0 p0 = 7 from by rw [hc46]; rfl)]; exact M_OFFSET_FETCH
            · refine own_go (x' := s₁.setTop (mkF m 56 #[.val (.int p0)] [(.int (6 : Int32)), (.int p0)])) (fun _ k => XS.icmpYes X0.here hx rfl (pc0 := 46) (pc' := 53) rfl (hb hby d1_46) rfl (feq hc46).2 (by decide) (by decide) (XS.iloadN X0.here hx rfl (hb hby d1_53) rfl (XS.bipush X0.here hx rfl (hb hby d1_54) k))) ?_
              by_cases hc56 : p0 = (6 : Int32)
              · refine own_go (x' := s₁.setTop (mkF m 59 #[.val (.int p0)] [])) (fun _ k => XS.icmpNo X0.here hx rfl (hb hby d1_56) rfl (teq hc56).2 k) ?_
                obtain ⟨T7, X7, e7, st7⟩ := getS2 X0 hx hZ hown (host := "") (Or.inl (own_w hw 33 rfl)) Via.refl e0 S_FIND_COORDINATOR (g := (mkF m 59 #[.val (.int p0)] [])) rfl (hb hby d1_59)
                refine own_go (x' := T7.setTop (mkF m 62 #[.val (.int p0)] [(.ref a_FIND_COORDINATOR)])) st7 ?_
                refine own_retR X7 hx hlk hret rfl rfl (hb hby d1_62) ?_ (by decide) (by decide)
                rw [e7]
                refine ⟨_, rfl, Nf, rfl, E_FIND_COORDINATOR, ?_, ?_⟩
                · rw [(show own_lo_0 p0 = 0 from by rw [hc56]; rfl)]; exact m_FIND_COORDINATOR
                · rw [(show own_hi_0 p0 = 2 from by rw [hc56]; rfl)]; exact M_FIND_COORDINATOR
              · refine own_go (x' := s₁.setTop (mkF m 66 #[.val (.int p0)] [(.int (7 : Int32)), (.int p0)])) (fun _ k => XS.icmpYes X0.here hx rfl (pc0 := 56) (pc' := 63) rfl (hb hby d1_56) rfl (feq hc56).2 (by decide) (by decide) (XS.iloadN X0.here hx rfl (hb hby d1_63) rfl (XS.bipush X0.here hx rfl (hb hby d1_64) k))) ?_
                by_cases hc66 : p0 = (7 : Int32)
                · refine own_go (x' := s₁.setTop (mkF m 69 #[.val (.int p0)] [])) (fun _ k => XS.icmpNo X0.here hx rfl (hb hby d1_66) rfl (teq hc66).2 k) ?_
                  obtain ⟨T8, X8, e8, st8⟩ := getS2 X0 hx hZ hown (host := "") (Or.inl (own_w hw 45 rfl)) Via.refl e0 S_JOIN_GROUP (g := (mkF m 69 #[.val (.int p0)] [])) rfl (hb hby d1_69)
                  refine own_go (x' := T8.setTop (mkF m 72 #[.val (.int p0)] [(.ref a_JOIN_GROUP)])) st8 ?_
                  refine own_retR X8 hx hlk hret rfl rfl (hb hby d1_72) ?_ (by decide) (by decide)
                  rw [e8]
                  refine ⟨_, rfl, Nf, rfl, E_JOIN_GROUP, ?_, ?_⟩
                  · rw [(show own_lo_0 p0 = 0 from by rw [hc66]; rfl)]; exact m_JOIN_GROUP
                  · rw [(show own_hi_0 p0 = 5 from by rw [hc66]; rfl)]; exact M_JOIN_GROUP
                · refine own_go (x' := s₁.setTop (mkF m 76 #[.val (.int p0)] [(.int (8 : Int32)), (.int p0)])) (fun _ k => XS.icmpYes X0.here hx rfl (pc0 := 66) (pc' := 73) rfl (hb hby d1_66) rfl (feq hc66).2 (by decide) (by decide) (XS.iloadN X0.here hx rfl (hb hby d1_73) rfl (XS.bipush X0.here hx rfl (hb hby d1_74) k))) ?_
                  by_cases hc76 : p0 = (8 : Int32)
                  · refine own_go (x' := s₁.setTop (mkF m 79 #[.val (.int p0)] [])) (fun _ k => XS.icmpNo X0.here hx rfl (hb hby d1_76) rfl (teq hc76).2 k) ?_
                    obtain ⟨T9, X9, e9, st9⟩ := getS2 X0 hx hZ hown (host := "") (Or.inl (own_w hw 35 rfl)) Via.refl e0 S_HEARTBEAT (g := (mkF m 79 #[.val (.int p0)] [])) rfl (hb hby d1_79)
                    refine own_go (x' := T9.setTop (mkF m 82 #[.val (.int p0)] [(.ref a_HEARTBEAT)])) st9 ?_
                    refine own_retR X9 hx hlk hret rfl rfl (hb hby d1_82) ?_ (by decide) (by decide)
                    rw [e9]
                    refine ⟨_, rfl, Nf, rfl, E_HEARTBEAT, ?_, ?_⟩
                    · rw [(show own_lo_0 p0 = 0 from by rw [hc76]; rfl)]; exact m_HEARTBEAT
                    · rw [(show own_hi_0 p0 = 3 from by rw [hc76]; rfl)]; exact M_HEARTBEAT
                  · refine own_go (x' := s₁.setTop (mkF m 86 #[.val (.int p0)] [(.int (9 : Int32)), (.int p0)])) (fun _ k => XS.icmpYes X0.here hx rfl (pc0 := 76) (pc' := 83) rfl (hb hby d1_76) rfl (feq hc76).2 (by decide) (by decide) (XS.iloadN X0.here hx rfl (hb hby d1_83) rfl (XS.bipush X0.here hx rfl (hb hby d1_84) k))) ?_
                    by_cases hc86 : p0 = (9 : Int32)
                    · refine own_go (x' := s₁.setTop (mkF m 89 #[.val (.int p0)] [])) (fun _ k => XS.icmpNo X0.here hx rfl (hb hby d1_86) rfl (teq hc86).2 k) ?_
                      obtain ⟨T10, X10, e10, st10⟩ := getS2 X0 hx hZ hown (host := "") (Or.inl (own_w hw 29 rfl)) Via.refl e0 S_LEAVE_GROUP (g := (mkF m 89 #[.val (.int p0)] [])) rfl (hb hby d1_89)
                      refine own_go (x' := T10.setTop (mkF m 92 #[.val (.int p0)] [(.ref a_LEAVE_GROUP)])) st10 ?_
                      refine own_retR X10 hx hlk hret rfl rfl (hb hby d1_92) ?_ (by decide) (by decide)
                      rw [e10]
                      refine ⟨_, rfl, Nf, rfl, E_LEAVE_GROUP, ?_, ?_⟩
                      · rw [(show own_lo_0 p0 = 0 from by rw [hc86]; rfl)]; exact m_LEAVE_GROUP
                      · rw [(show own_hi_0 p0 = 2 from by rw [hc86]; rfl)]; exact M_LEAVE_GROUP
                    · refine own_go (x' := s₁.setTop (mkF m 96 #[.val (.int p0)] [(.int (10 : Int32)), (.int p0)])) (fun _ k => XS.icmpYes X0.here hx rfl (pc0 := 86) (pc' := 93) rfl (hb hby d1_86) rfl (feq hc86).2 (by decide) (by decide) (XS.iloadN X0.here hx rfl (hb hby d1_93) rfl (XS.bipush X0.here hx rfl (hb hby d1_94) k))) ?_
                      by_cases hc96 : p0 = (10 : Int32)
                      · refine own_go (x' := s₁.setTop (mkF m 99 #[.val (.int p0)] [])) (fun _ k => XS.icmpNo X0.here hx rfl (hb hby d1_96) rfl (teq hc96).2 k) ?_
                        obtain ⟨T11, X11, e11, st11⟩ := getS2 X0 hx hZ hown (host := "") (Or.inl (own_w hw 41 rfl)) Via.refl e0 S_SYNC_GROUP (g := (mkF m 99 #[.val (.int p0)] [])) rfl (hb hby d1_99)
                        refine own_go (x' := T11.setTop (mkF m 102 #[.val (.int p0)] [(.ref a_SYNC_GROUP)])) st11 ?_
                        refine own_retR X11 hx hlk hret rfl rfl (hb hby d1_102) ?_ (by decide) (by decide)
                        rw [e11]
                        refine ⟨_, rfl, Nf, rfl, E_SYNC_GROUP, ?_, ?_⟩
                        · rw [(show own_lo_0 p0 = 0 from by rw [hc96]; rfl)]; exact m_SYNC_GROUP
                        · rw [(show own_hi_0 p0 = 3 from by rw [hc96]; rfl)]; exact M_SYNC_GROUP
                      · refine own_go (x' := s₁.setTop (mkF m 106 #[.val (.int p0)] [(.int (11 : Int32)), (.int p0)])) (fun _ k => XS.icmpYes X0.here hx rfl (pc0 := 96) (pc' := 103) rfl (hb hby d1_96) rfl (feq hc96).2 (by decide) (by decide) (XS.iloadN X0.here hx rfl (hb hby d1_103) rfl (XS.bipush X0.here hx rfl (hb hby d1_104) k))) ?_
                        by_cases hc106 : p0 = (11 : Int32)
                        · refine own_go (x' := s₁.setTop (mkF m 109 #[.val (.int p0)] [])) (fun _ k => XS.icmpNo X0.here hx rfl (hb hby d1_106) rfl (teq hc106).2 k) ?_
                          obtain ⟨T12, X12, e12, st12⟩ := getS2 X0 hx hZ hown (host := "") (Or.inl (own_w hw 43 rfl)) Via.refl e0 S_API_VERSIONS (g := (mkF m 109 #[.val (.int p0)] [])) rfl (hb hby d1_109)
                          refine own_go (x' := T12.setTop (mkF m 112 #[.val (.int p0)] [(.ref a_API_VERSIONS)])) st12 ?_
                          refine own_retR X12 hx hlk hret rfl rfl (hb hby d1_112) ?_ (by decide) (by decide)
                          rw [e12]
                          refine ⟨_, rfl, Nf, rfl, E_API_VERSIONS, ?_, ?_⟩
                          · rw [(show own_lo_0 p0 = 0 from by rw [hc106]; rfl)]; exact m_API_VERSIONS
                          · rw [(show own_hi_0 p0 = 3 from by rw [hc106]; rfl)]; exact M_API_VERSIONS
                        · refine own_go (x' := s₁.setTop (mkF m 113 #[.val (.int p0)] [])) (fun _ k => XS.icmpYes X0.here hx rfl (pc0 := 106) (pc' := 113) rfl (hb hby d1_106) rfl (feq hc106).2 (by decide) (by decide) k) ?_
                          obtain ⟨T13, X13, e13, st13⟩ := getS2 X0 hx hZ hown (host := "") (Or.inl (own_w hw 37 rfl)) Via.refl e0 S_INIT_PRODUCER_ID (g := (mkF m 113 #[.val (.int p0)] [])) rfl (hb hby d1_113)
                          refine own_go (x' := T13.setTop (mkF m 116 #[.val (.int p0)] [(.ref a_INIT_PRODUCER_ID)])) st13 ?_
                          refine own_retR X13 hx hlk hret rfl rfl (hb hby d1_116) ?_ (by decide) (by decide)
                          rw [e13]
                          refine ⟨_, rfl, Nf, rfl, E_INIT_PRODUCER_ID, ?_, ?_⟩
                          · rw [(show own_lo_0 p0 = 0 from by simp only [own_lo_0, if_neg hc1, if_neg hc10, if_neg hc19, if_neg hc28, if_neg hc37, if_neg hc46, if_neg hc56, if_neg hc66, if_neg hc76, if_neg hc86, if_neg hc96, if_neg hc106])]; exact m_INIT_PRODUCER_ID
                          · rw [(show own_hi_0 p0 = 4 from by simp only [own_hi_0, if_neg hc1, if_neg hc10, if_neg hc19, if_neg hc28, if_neg hc37, if_neg hc46, if_neg hc56, if_neg hc66, if_neg hc76, if_neg hc86, if_neg hc96, if_neg hc106])]; exact M_INIT_PRODUCER_ID
def own_sup (t lo hi : Int32) : Int32 := if t < lo then 0 else if hi < t then 0 else 1
theorem d4_0 : decode prog_18_method_8_code 0 = .ok (.iload_n 1, 1) := by decide +kernel
theorem d4_1 : decode prog_18_method_8_code 1 = .ok (.aload_n 0, 1) := by decide +kernel
theorem d4_2 : decode prog_18_method_8_code 2 = .ok (.getfield 66, 3) := by decide +kernel
theorem d4_5 : decode prog_18_method_8_code 5 = .ok (.if_icmp .lt 15, 3) := by decide +kernel
theorem d4_8 : decode prog_18_method_8_code 8 = .ok (.iload_n 1, 1) := by decide +kernel
theorem d4_9 : decode prog_18_method_8_code 9 = .ok (.aload_n 0, 1) := by decide +kernel
theorem d4_10 : decode prog_18_method_8_code 10 = .ok (.getfield 69, 3) := by decide +kernel
theorem d4_13 : decode prog_18_method_8_code 13 = .ok (.if_icmp .gt 7, 3) := by decide +kernel
theorem d4_16 : decode prog_18_method_8_code 16 = .ok (.iconst 1, 1) := by decide +kernel
theorem d4_17 : decode prog_18_method_8_code 17 = .ok (.goto 4, 3) := by decide +kernel
theorem d4_20 : decode prog_18_method_8_code 20 = .ok (.iconst 0, 1) := by decide +kernel
theorem d4_21 : decode prog_18_method_8_code 21 = .ok (.ireturn, 1) := by decide +kernel
def Q_rm4 (Z : State) (ao0 : Addr) (p1 : Int32) (u : Int32) (r : Int32) (h0 : Heap) (n0 : Nat) (v : Option Value) (h : Heap) (L : List Loc) : Prop := v = some (.int (own_sup p1 u r)) ∧ Fr n0 L ∧ h = h0
theorem pn_rm4 : plainName "com/example/hale_log/halelog/protocol/ApiKey" = true := by first | (simp [plainName, overriddenIn]; done) | decide +kernel
theorem ef_rm4 (m : MethodId) (x0 : Addr) (x1 : Int32) : entryFrame m #[(.ref x0), (.int x1)] 2 = mkF m 0 #[.val (.ref x0), .val (.int x1)] [] := by first | (simp [entryFrame, mkF, argsToLocals, Value.category]; done) | rfl
set_option maxRecDepth 65536 in
set_option maxHeartbeats 40000000 in
theorem rm4 (l : Launch) (Z : State) (a0 : Array Value) (hw : ∀ d ∈ tables_1, d.before a0 Z = true) (ws : List Jvm.Cond) (ao0 : Addr) (p1 : Int32) (u : Int32) (r : Int32) (h0 : Heap) (n0 : Nat) (Z0 : n0 ≤ h0.size) (F_ao0_minVersion : Fld Z h0 ao0 "com/example/hale_log/halelog/protocol/ApiKey" "minVersion" "S" (.int u)) (F_ao0_maxVersion : Fld Z h0 ao0 "com/example/hale_log/halelog/protocol/ApiKey" "maxVersion" "S" (.int r)) :
    MetFree l (⟨"com/example/hale_log/halelog/protocol/ApiKey", "supports", "(S)Z"⟩ : MethodName) (head1 (Jvm.Cond.code (⟨"com/example/hale_log/halelog/protocol/ApiKey", "supports", "(S)Z"⟩ : MethodName) prog_18_method_8_code 2 (some .boolean) :: ws) ({ frames := 0, cells := 0, slots := 0, locals := 0 } : Room)) (fun a U => a = #[(.ref ao0), (.int p1)] ∧ Z.Warmed39 U.vm ∧ U.heap = h0) (fun _ _ _ _ _ => True) (fun _ U o U' => ∃ v L, o = .returned v ∧ (Q_rm4 Z ao0 p1 u r h0 n0) v U'.heap L ∧ FrameEnd U o U' L ({ frames := 0, cells := 0, slots := 0, locals := 0 } : Room).cells ({ frames := 0, cells := 0, slots := 0, locals := 0 } : Room).slots) := by
  refine MetFree.of_bodySF (plainFor_of_name pn_rm4) hisR ?_
  intro p e s m args below meth c s₁ Bd hml0 hP hK
  obtain ⟨rfl, hZ, hh⟩ := hP
  have hx := Bd.exec
  have hby := Bd.bytes
  have hlk := BodyLoose.notSynchronized Bd
  have hret := Bd.returns
  have hml : c.maxLocals = 2 := hml0
  have hown : s.vm.findClass "com/example/hale_log/halelog/protocol/ApiKey" = some m.cls := findClass_of_methodNamed Bd.named
  have hnm := (name_of_methodNamed Bd.named Bd.method).1
  have X0 : Stand p l e ({ frames := 0, cells := 0, slots := 0, locals := 0 } : Room) s m #[(.ref ao0), (.int p1)] below meth c s₁ [] 0 0 := Stand.of_body Bd
  have e0 : s₁.heap = h0 := by rw [← hh, Bd.state]; rfl
  have Nf := Fr.nil n0
  have Zs := Z0
  have Kp : Keep h0 h0 [] := Keep.refl _ _
  show own_End p e below s (Q_rm4 Z ao0 p1 u r h0 n0) ({ frames := 0, cells := 0, slots := 0, locals := 0 } : Room).cells ({ frames := 0, cells := 0, slots := 0, locals := 0 } : Room).slots (s₁.setTop (entryFrame m #[(.ref ao0), (.int p1)] 2))
  refine own_go (x' := s₁.setTop (mkF m 0 #[.val (.ref ao0), .val (.int p1)] [])) (fun t k => castTop (ef_rm4 m ao0 p1) k) ?_
  refine own_go (x' := s₁.setTop (mkF m 2 #[.val (.ref ao0), .val (.int p1)] [(.ref ao0), (.int p1)])) (fun _ k => XS.iloadN X0.here hx rfl (hb hby d4_0) rfl (XS.aloadN X0.here hx rfl (hb hby d4_1) rfl rfl k)) ?_
  obtain ⟨T1, X1, e1, st1⟩ := getF X0 hx hZ hown (host := "") (Or.inl (own_w hw 19 rfl)) Via.refl e0 F_ao0_minVersion (g := (mkF m 2 #[.val (.ref ao0), .val (.int p1)] [(.ref ao0), (.int p1)])) rfl rfl (hb hby d4_2)
  refine own_go (x' := T1.setTop (mkF m 5 #[.val (.ref ao0), .val (.int p1)] [(.int u), (.int p1)])) st1 ?_
  by_cases hc5 : p1 < u
  · refine own_go (x' := T1.setTop (mkF m 21 #[.val (.ref ao0), .val (.int p1)] [(.int (0 : Int32))])) (fun _ k => XS.icmpYes X1.here hx rfl (pc0 := 5) (pc' := 20) rfl (hb hby d4_5) rfl (tlt hc5).1 (by decide) (by decide) (XS.iconst X1.here hx rfl (hb hby d4_20) k)) ?_
    refine own_retN X1 hx hlk (t := .boolean) hret (by simp) (hb hby d4_21) (w := (0 : Int32)) rfl ?_ (by decide) (by decide)
    rw [e1]
    exact ⟨by simp only [own_sup, if_pos hc5], Nf, rfl⟩
  · refine own_go (x' := T1.setTop (mkF m 10 #[.val (.ref ao0), .val (.int p1)] [(.ref ao0), (.int p1)])) (fun _ k => XS.icmpNo X1.here hx rfl (hb hby d4_5) rfl (flt hc5).1 (XS.iloadN X1.here hx rfl (hb hby d4_8) rfl (XS.aloadN X1.here hx rfl (hb hby d4_9) rfl rfl k))) ?_
    obtain ⟨T2, X2, e2, st2⟩ := getF X1 hx hZ hown (host := "") (Or.inl (own_w hw 21 rfl)) Via.refl e1 F_ao0_maxVersion (g := (mkF m 10 #[.val (.ref ao0), .val (.int p1)] [(.ref ao0), (.int p1)])) rfl rfl (hb hby d4_10)
    refine own_go (x' := T2.setTop (mkF m 13 #[.val (.ref ao0), .val (.int p1)] [(.int r), (.int p1)])) st2 ?_
    by_cases hc13 : r < p1
    · refine own_go (x' := T2.setTop (mkF m 21 #[.val (.ref ao0), .val (.int p1)] [(.int (0 : Int32))])) (fun _ k => XS.icmpYes X2.here hx rfl (pc0 := 13) (pc' := 20) rfl (hb hby d4_13) rfl (tlt hc13).2.2.1 (by decide) (by decide) (XS.iconst X2.here hx rfl (hb hby d4_20) k)) ?_
      refine own_retN X2 hx hlk (t := .boolean) hret (by simp) (hb hby d4_21) (w := (0 : Int32)) rfl ?_ (by decide) (by decide)
      rw [e2]
      exact ⟨by simp only [own_sup, if_neg hc5, if_pos hc13], Nf, rfl⟩
    · refine own_go (x' := T2.setTop (mkF m 21 #[.val (.ref ao0), .val (.int p1)] [(.int (1 : Int32))])) (fun _ k => XS.icmpNo X2.here hx rfl (hb hby d4_13) rfl (flt hc13).2.2.1 (XS.iconst X2.here hx rfl (hb hby d4_16) (XS.goto X2.here hx rfl (pc0 := 17) (pc' := 21) rfl (hb hby d4_17) (by decide) (by decide) k))) ?_
      refine own_retN X2 hx hlk (t := .boolean) hret (by simp) (hb hby d4_21) (w := (1 : Int32)) rfl ?_ (by decide) (by decide)
      rw [e2]
      exact ⟨by simp only [own_sup, if_neg hc5, if_neg hc13], Nf, rfl⟩
theorem own_al (t lo hi : Int32) : (own_sup t lo hi = 1 ∧ lo.toInt ≤ t.toInt ∧ t.toInt ≤ hi.toInt) ∨ (own_sup t lo hi = 0 ∧ (t.toInt < lo.toInt ∨ hi.toInt < t.toInt)) := by
  by_cases h1 : t < lo
  · exact Or.inr ⟨if_pos h1, Or.inl (Int32.lt_iff_toInt_lt.mp h1)⟩
  · by_cases h2 : hi < t
    · exact Or.inr ⟨(if_neg h1).trans (if_pos h2), Or.inr (Int32.lt_iff_toInt_lt.mp h2)⟩
    · have := mt Int32.lt_iff_toInt_lt.mpr h1
      have := mt Int32.lt_iff_toInt_lt.mpr h2
      exact Or.inl ⟨(if_neg h1).trans (if_neg h2), by omega, by omega⟩
theorem own_b (k : Int32) : 0 ≤ (own_lo_0 k).toInt ∧ (own_lo_0 k).toInt ≤ (own_hi_0 k).toInt ∧ (own_hi_0 k).toInt ≤ 11 := by
  by_cases e0 : k = 0
  · subst e0; decide
  by_cases e1 : k = 1
  · subst e1; decide
  by_cases e2 : k = 2
  · subst e2; decide
  by_cases e3 : k = 3
  · subst e3; decide
  by_cases e4 : k = 4
  · subst e4; decide
  by_cases e5 : k = 5
  · subst e5; decide
  by_cases e6 : k = 6
  · subst e6; decide
  by_cases e7 : k = 7
  · subst e7; decide
  by_cases e8 : k = 8
  · subst e8; decide
  by_cases e9 : k = 9
  · subst e9; decide
  by_cases e10 : k = 10
  · subst e10; decide
  by_cases e11 : k = 11
  · subst e11; decide
  simp only [own_lo_0, own_hi_0, if_neg e0, if_neg e1, if_neg e2, if_neg e3, if_neg e4, if_neg e5, if_neg e6, if_neg e7, if_neg e8, if_neg e9, if_neg e10, if_neg e11]
  decide
theorem own_in1 (k : Int32) : ¬ own_sup (own_lo_0 k).toInt16.toInt32 (own_lo_0 k) (own_hi_0 k) = 0 := by
  have b := own_b k
  have s := c_i2s (own_lo_0 k)
  rcases own_al (own_lo_0 k).toInt16.toInt32 (own_lo_0 k) (own_hi_0 k) with h | h
  · rw [h.1]; decide
  · omega
theorem own_in2 (k : Int32) : ¬ own_sup (own_hi_0 k).toInt16.toInt32 (own_lo_0 k) (own_hi_0 k) = 0 := by
  have b := own_b k
  have s := c_i2s (own_hi_0 k)
  rcases own_al (own_hi_0 k).toInt16.toInt32 (own_lo_0 k) (own_hi_0 k) with h | h
  · rw [h.1]; decide
  · omega
theorem own_out1 (k : Int32) : own_sup (own_lo_0 k - 1).toInt16.toInt32 (own_lo_0 k) (own_hi_0 k) = 0 := by
  have b := own_b k
  have s := c_i2s (own_lo_0 k - 1)
  have u := c_isub (own_lo_0 k) 1
  have r := rng32 (own_lo_0 k - 1)
  have o : (1 : Int32).toInt = 1 := by decide
  rcases own_al (own_lo_0 k - 1).toInt16.toInt32 (own_lo_0 k) (own_hi_0 k) with h | h
  · omega
  · exact h.1
theorem own_out2 (k : Int32) : own_sup (own_hi_0 k + 1).toInt16.toInt32 (own_lo_0 k) (own_hi_0 k) = 0 := by
  have b := own_b k
  have s := c_i2s (own_hi_0 k + 1)
  have u := c_iadd (own_hi_0 k) 1
  have r := rng32 (own_hi_0 k + 1)
  have o : (1 : Int32).toInt = 1 := by decide
  rcases own_al (own_hi_0 k + 1).toInt16.toInt32 (own_lo_0 k) (own_hi_0 k) with h | h
  · omega
  · exact h.1
theorem pd_0 : parseMethodDescriptor "(I)Lcom/example/hale_log/halelog/protocol/ApiKey;" = some ⟨[.int], some (.object "com/example/hale_log/halelog/protocol/ApiKey")⟩ := by decide +kernel
theorem pd_1 : parseMethodDescriptor "(I)I" = some ⟨[.int], some .int⟩ := by decide +kernel
theorem pd_2 : parseMethodDescriptor "(S)Z" = some ⟨[.short], some .boolean⟩ := by decide +kernel
def Q_rm0 (Z : State) (p0 : Int32) (p1 : Int32) (h0 : Heap) (n0 : Nat) (v : Option Value) (h : Heap) (L : List Loc) : Prop := v = some (.int 1) ∧ Fr n0 L
theorem pn_rm0 : plainName "com/example/hale_log/halelog/protocol/ApiKeySupportsPinLaw" = true := by first | (simp [plainName, overriddenIn]; done) | decide +kernel
theorem ef_rm0 (m : MethodId) (x0 : Int32) (x1 : Int32) : entryFrame m #[(.int x0), (.int x1)] maxLocals = mkF m 0 #[.val (.int x0), .val (.int x1), .unset, .unset, .unset, .unset, .unset, .unset, .unset, .unset] [] := by first | (simp [entryFrame, mkF, argsToLocals, Value.category, maxLocals]; done) | rfl
set_option maxRecDepth 65536 in
set_option maxHeartbeats 40000000 in
theorem rm0 (l : Launch) (Z : State) (a0 : Array Value) (hw : ∀ d ∈ tables_1, d.before a0 Z = true) (ws : List Jvm.Cond) (p0 : Int32) (p1 : Int32) (h0 : Heap) (n0 : Nat) (Z0 : n0 ≤ h0.size) (G_PRODUCE : ∃ a : Addr, Sta Z h0 "com/example/hale_log/halelog/protocol/ApiKey" "PRODUCE" "Lcom/example/hale_log/halelog/protocol/ApiKey;" (.ref a) ∧ Exa Z h0 a "com/example/hale_log/halelog/protocol/ApiKey" ∧ Fld Z h0 a "com/example/hale_log/halelog/protocol/ApiKey" "minVersion" "S" (.int (0 : Int32)) ∧ Fld Z h0 a "com/example/hale_log/halelog/protocol/ApiKey" "maxVersion" "S" (.int (7 : Int32))) (G_FETCH : ∃ a : Addr, Sta Z h0 "com/example/hale_log/halelog/protocol/ApiKey" "FETCH" "Lcom/example/hale_log/halelog/protocol/ApiKey;" (.ref a) ∧ Exa Z h0 a "com/example/hale_log/halelog/protocol/ApiKey" ∧ Fld Z h0 a "com/example/hale_log/halelog/protocol/ApiKey" "minVersion" "S" (.int (4 : Int32)) ∧ Fld Z h0 a "com/example/hale_log/halelog/protocol/ApiKey" "maxVersion" "S" (.int (11 : Int32))) (G_LIST_OFFSETS : ∃ a : Addr, Sta Z h0 "com/example/hale_log/halelog/protocol/ApiKey" "LIST_OFFSETS" "Lcom/example/hale_log/halelog/protocol/ApiKey;" (.ref a) ∧ Exa Z h0 a "com/example/hale_log/halelog/protocol/ApiKey" ∧ Fld Z h0 a "com/example/hale_log/halelog/protocol/ApiKey" "minVersion" "S" (.int (1 : Int32)) ∧ Fld Z h0 a "com/example/hale_log/halelog/protocol/ApiKey" "maxVersion" "S" (.int (2 : Int32))) (G_METADATA : ∃ a : Addr, Sta Z h0 "com/example/hale_log/halelog/protocol/ApiKey" "METADATA" "Lcom/example/hale_log/halelog/protocol/ApiKey;" (.ref a) ∧ Exa Z h0 a "com/example/hale_log/halelog/protocol/ApiKey" ∧ Fld Z h0 a "com/example/hale_log/halelog/protocol/ApiKey" "minVersion" "S" (.int (1 : Int32)) ∧ Fld Z h0 a "com/example/hale_log/halelog/protocol/ApiKey" "maxVersion" "S" (.int (4 : Int32))) (G_OFFSET_COMMIT : ∃ a : Addr, Sta Z h0 "com/example/hale_log/halelog/protocol/ApiKey" "OFFSET_COMMIT" "Lcom/example/hale_log/halelog/protocol/ApiKey;" (.ref a) ∧ Exa Z h0 a "com/example/hale_log/halelog/protocol/ApiKey" ∧ Fld Z h0 a "com/example/hale_log/halelog/protocol/ApiKey" "minVersion" "S" (.int (2 : Int32)) ∧ Fld Z h0 a "com/example/hale_log/halelog/protocol/ApiKey" "maxVersion" "S" (.int (7 : Int32))) (G_OFFSET_FETCH : ∃ a : Addr, Sta Z h0 "com/example/hale_log/halelog/protocol/ApiKey" "OFFSET_FETCH" "Lcom/example/hale_log/halelog/protocol/ApiKey;" (.ref a) ∧ Exa Z h0 a "com/example/hale_log/halelog/protocol/ApiKey" ∧ Fld Z h0 a "com/example/hale_log/halelog/protocol/ApiKey" "minVersion" "S" (.int (1 : Int32)) ∧ Fld Z h0 a "com/example/hale_log/halelog/protocol/ApiKey" "maxVersion" "S" (.int (7 : Int32))) (G_FIND_COORDINATOR : ∃ a : Addr, Sta Z h0 "com/example/hale_log/halelog/protocol/ApiKey" "FIND_COORDINATOR" "Lcom/example/hale_log/halelog/protocol/ApiKey;" (.ref a) ∧ Exa Z h0 a "com/example/hale_log/halelog/protocol/ApiKey" ∧ Fld Z h0 a "com/example/hale_log/halelog/protocol/ApiKey" "minVersion" "S" (.int (0 : Int32)) ∧ Fld Z h0 a "com/example/hale_log/halelog/protocol/ApiKey" "maxVersion" "S" (.int (2 : Int32))) (G_JOIN_GROUP : ∃ a : Addr, Sta Z h0 "com/example/hale_log/halelog/protocol/ApiKey" "JOIN_GROUP" "Lcom/example/hale_log/halelog/protocol/ApiKey;" (.ref a) ∧ Exa Z h0 a "com/example/hale_log/halelog/protocol/ApiKey" ∧ Fld Z h0 a "com/example/hale_log/halelog/protocol/ApiKey" "minVersion" "S" (.int (0 : Int32)) ∧ Fld Z h0 a "com/example/hale_log/halelog/protocol/ApiKey" "maxVersion" "S" (.int (5 : Int32))) (G_HEARTBEAT : ∃ a : Addr, Sta Z h0 "com/example/hale_log/halelog/protocol/ApiKey" "HEARTBEAT" "Lcom/example/hale_log/halelog/protocol/ApiKey;" (.ref a) ∧ Exa Z h0 a "com/example/hale_log/halelog/protocol/ApiKey" ∧ Fld Z h0 a "com/example/hale_log/halelog/protocol/ApiKey" "minVersion" "S" (.int (0 : Int32)) ∧ Fld Z h0 a "com/example/hale_log/halelog/protocol/ApiKey" "maxVersion" "S" (.int (3 : Int32))) (G_LEAVE_GROUP : ∃ a : Addr, Sta Z h0 "com/example/hale_log/halelog/protocol/ApiKey" "LEAVE_GROUP" "Lcom/example/hale_log/halelog/protocol/ApiKey;" (.ref a) ∧ Exa Z h0 a "com/example/hale_log/halelog/protocol/ApiKey" ∧ Fld Z h0 a "com/example/hale_log/halelog/protocol/ApiKey" "minVersion" "S" (.int (0 : Int32)) ∧ Fld Z h0 a "com/example/hale_log/halelog/protocol/ApiKey" "maxVersion" "S" (.int (2 : Int32))) (G_SYNC_GROUP : ∃ a : Addr, Sta Z h0 "com/example/hale_log/halelog/protocol/ApiKey" "SYNC_GROUP" "Lcom/example/hale_log/halelog/protocol/ApiKey;" (.ref a) ∧ Exa Z h0 a "com/example/hale_log/halelog/protocol/ApiKey" ∧ Fld Z h0 a "com/example/hale_log/halelog/protocol/ApiKey" "minVersion" "S" (.int (0 : Int32)) ∧ Fld Z h0 a "com/example/hale_log/halelog/protocol/ApiKey" "maxVersion" "S" (.int (3 : Int32))) (G_API_VERSIONS : ∃ a : Addr, Sta Z h0 "com/example/hale_log/halelog/protocol/ApiKey" "API_VERSIONS" "Lcom/example/hale_log/halelog/protocol/ApiKey;" (.ref a) ∧ Exa Z h0 a "com/example/hale_log/halelog/protocol/ApiKey" ∧ Fld Z h0 a "com/example/hale_log/halelog/protocol/ApiKey" "minVersion" "S" (.int (0 : Int32)) ∧ Fld Z h0 a "com/example/hale_log/halelog/protocol/ApiKey" "maxVersion" "S" (.int (3 : Int32))) (G_INIT_PRODUCER_ID : ∃ a : Addr, Sta Z h0 "com/example/hale_log/halelog/protocol/ApiKey" "INIT_PRODUCER_ID" "Lcom/example/hale_log/halelog/protocol/ApiKey;" (.ref a) ∧ Exa Z h0 a "com/example/hale_log/halelog/protocol/ApiKey" ∧ Fld Z h0 a "com/example/hale_log/halelog/protocol/ApiKey" "minVersion" "S" (.int (0 : Int32)) ∧ Fld Z h0 a "com/example/hale_log/halelog/protocol/ApiKey" "maxVersion" "S" (.int (4 : Int32))) :
    MetFree l x (head1 (Jvm.Cond.code x code maxLocals ret :: ws) room_1) (fun a U => a = #[(.int p0), (.int p1)] ∧ Z.Warmed39 U.vm ∧ U.heap = h0) (fun _ _ _ _ _ => True) (fun _ U o U' => ∃ v L, o = .returned v ∧ (Q_rm0 Z p0 p1 h0 n0) v U'.heap L ∧ FrameEnd U o U' L room_1.cells room_1.slots) := by
  refine MetFree.of_bodySF (plainFor_of_name pn_rm0) hisR ?_
  intro p e s m args below meth c s₁ Bd hml0 hP hK
  obtain ⟨rfl, hZ, hh⟩ := hP
  have hx := Bd.exec
  have hby := Bd.bytes
  have hlk := BodyLoose.notSynchronized Bd
  have hret := Bd.returns
  have hml : c.maxLocals = 10 := hml0
  have hown : s.vm.findClass "com/example/hale_log/halelog/protocol/ApiKeySupportsPinLaw" = some m.cls := findClass_of_methodNamed Bd.named
  have hnm := (name_of_methodNamed Bd.named Bd.method).1
  have X0 : Stand p l e room_1 s m #[(.int p0), (.int p1)] below meth c s₁ [] 0 0 := Stand.of_body Bd
  have e0 : s₁.heap = h0 := by rw [← hh, Bd.state]; rfl
  have Nf := Fr.nil n0
  have Zs := Z0
  have Kp : Keep h0 h0 [] := Keep.refl _ _
  show own_End p e below s (Q_rm0 Z p0 p1 h0 n0) room_1.cells room_1.slots (s₁.setTop (entryFrame m #[(.int p0), (.int p1)] maxLocals))
  refine own_go (x' := s₁.setTop (mkF m 0 #[.val (.int p0), .val (.int p1), .unset, .unset, .unset, .unset, .unset, .unset, .unset, .unset] [])) (fun t k => castTop (ef_rm0 m p0 p1) k) ?_
  refine own_go (x' := s₁.setTop (mkF m 1 #[.val (.int p0), .val (.int p1), .unset, .unset, .unset, .unset, .unset, .unset, .unset, .unset] [(.int p0)])) (fun _ k => XS.iloadN X0.here hx rfl (hb hby at_0) rfl k) ?_
  refine own_go (x' := s₁.setTop (mkF m 3 #[.val (.int p0), .val (.int p1), .unset, .unset, .unset, .unset, .unset, .unset, .unset, .unset] [(.int (2147483647 : Int32)), (.int p0)])) (fun t k => X0.ldcInt hx hown (mvT hZ (own_w hw 0 rfl)) (g := (mkF m 1 #[.val (.int p0), .val (.int p1), .unset, .unset, .unset, .unset, .unset, .unset, .unset, .unset] [(.int p0)])) rfl (hb hby at_1) t k) ?_
  refine own_go (x' := s₁.setTop (mkF m 9 #[.val (.int p0), .val (.int p1), .val (.int ((p0 &&& (2147483647 : Int32)) % (13 : Int32))), .unset, .unset, .unset, .unset, .unset, .unset, .unset] [(.int ((p0 &&& (2147483647 : Int32)) % (13 : Int32)))])) (fun _ k => XS.iand X0.here hx rfl (hb hby at_3) rfl (XS.bipush X0.here hx rfl (hb hby at_4) (iremM X0 hx rfl (hb hby at_6) rfl (by decide) (XS.istoreN X0.here hx rfl (hb hby at_7) rfl (l' := #[.val (.int p0), .val (.int p1), .val (.int ((p0 &&& (2147483647 : Int32)) % (13 : Int32))), .unset, .unset, .unset, .unset, .unset, .unset, .unset]) rfl (XS.iloadN X0.here hx rfl (hb hby at_8) rfl k))))) ?_
  obtain ⟨_, _, ⟨T1, L1, k1, n1⟩, -, X1, ⟨Lc1, hQ1, l1, y1, z1⟩, st1⟩ := Jvm.LawKit.callS X0 hx (y := (⟨"com/example/hale_log/halelog/protocol/ApiKeySupportsPinLaw", "pick", "(I)Lcom/example/hale_log/halelog/protocol/ApiKey;"⟩ : MethodName)) hown (mvT hZ (own_w hw 1 rfl)) (mvT hZ (own_w hw 2 rfl)) (mvT hZ (own_w hw 3 rfl)) (mvT hZ (own_w hw 4 rfl)) (by decide) (backOf (W := 0) (rm1 l Z a0 hw [] ((p0 &&& (2147483647 : Int32)) % (13 : Int32)) h0 n0 Zs G_PRODUCE G_FETCH G_LIST_OFFSETS G_METADATA G_OFFSET_COMMIT G_OFFSET_FETCH G_FIND_COORDINATOR G_JOIN_GROUP G_HEARTBEAT G_LEAVE_GROUP G_SYNC_GROUP G_API_VERSIONS G_INIT_PRODUCER_ID) hZ (own_w hw 4 rfl) (own_w hw 3 rfl) (by decide) (by decide)) (g := (mkF m 9 #[.val (.int p0), .val (.int p1), .val (.int ((p0 &&& (2147483647 : Int32)) % (13 : Int32))), .unset, .unset, .unset, .unset, .unset, .unset, .unset] [(.int ((p0 &&& (2147483647 : Int32)) % (13 : Int32)))])) rfl (by rw [hml]; rfl) (argsL := [(.int ((p0 &&& (2147483647 : Int32)) % (13 : Int32)))]) (rest := []) (lenOf pd_0 rfl) rfl (by show 2 * 0 + _ ≤ _; exact Nat.le_of_eq rfl) (hb hby at_9) (fun _ _ => ⟨rfl, e0, (by decide : 0 + 0 ≤ _), (by decide : 0 + 0 ≤ _)⟩)
  dsimp only [Pt.U, Pt.locs, Pt.cells, Pt.slots] at X1 l1 y1 z1 st1 hQ1
  subst l1 y1 z1
  obtain ⟨b1, hv1, Nq1, eq1, E_b1, F_b1_minVersion, F_b1_maxVersion⟩ := hQ1
  subst hv1
  replace Nf := Fr.app Nf Nq1
  refine own_go (x' := T1.setTop (mkF m 12 #[.val (.int p0), .val (.int p1), .val (.int ((p0 &&& (2147483647 : Int32)) % (13 : Int32))), .unset, .unset, .unset, .unset, .unset, .unset, .unset] [(.ref b1)])) st1 ?_
  refine own_go (x' := T1.setTop (mkF m 14 #[.val (.int p0), .val (.int p1), .val (.int ((p0 &&& (2147483647 : Int32)) % (13 : Int32))), .val (.ref b1), .unset, .unset, .unset, .unset, .unset, .unset] [(.int ((p0 &&& (2147483647 : Int32)) % (13 : Int32)))])) (fun _ k => XS.astoreN X1.here hx rfl (hb hby at_12) rfl rfl (l' := #[.val (.int p0), .val (.int p1), .val (.int ((p0 &&& (2147483647 : Int32)) % (13 : Int32))), .val (.ref b1), .unset, .unset, .unset, .unset, .unset, .unset]) rfl (XS.iloadN X1.here hx rfl (hb hby at_13) rfl k)) ?_
  obtain ⟨_, _, ⟨T2, L2, k2, n2⟩, -, X2, ⟨Lc2, hQ2, l2, y2, z2⟩, st2⟩ := Jvm.LawKit.callS X1 hx (y := (⟨"com/example/hale_log/halelog/protocol/ApiKeySupportsPinLaw", "lo", "(I)I"⟩ : MethodName)) hown (mvT hZ (own_w hw 8 rfl)) (mvT hZ (own_w hw 9 rfl)) (mvT hZ (own_w hw 3 rfl)) (mvT hZ (own_w hw 10 rfl)) (by decide) (backOf (W := 0) (rm2 l Z a0 hw [] ((p0 &&& (2147483647 : Int32)) % (13 : Int32)) h0 n0 Zs ) hZ (own_w hw 10 rfl) (own_w hw 3 rfl) (by decide) (by decide)) (g := (mkF m 14 #[.val (.int p0), .val (.int p1), .val (.int ((p0 &&& (2147483647 : Int32)) % (13 : Int32))), .val (.ref b1), .unset, .unset, .unset, .unset, .unset, .unset] [(.int ((p0 &&& (2147483647 : Int32)) % (13 : Int32)))])) rfl (by rw [hml]; rfl) (argsL := [(.int ((p0 &&& (2147483647 : Int32)) % (13 : Int32)))]) (rest := []) (lenOf pd_1 rfl) rfl (by show 2 * 0 + _ ≤ _; exact Nat.le_of_eq rfl) (hb hby at_14) (fun _ _ => ⟨rfl, eq1, (by decide : 0 + 0 ≤ _), (by decide : 0 + 0 ≤ _)⟩)
  dsimp only [Pt.U, Pt.locs, Pt.cells, Pt.slots] at X2 l2 y2 z2 st2 hQ2
  subst l2 y2 z2
  obtain ⟨hv2, Nq2, eq2⟩ := hQ2
  subst hv2
  replace Nf := Fr.app Nf Nq2
  refine own_go (x' := T2.setTop (mkF m 17 #[.val (.int p0), .val (.int p1), .val (.int ((p0 &&& (2147483647 : Int32)) % (13 : Int32))), .val (.ref b1), .unset, .unset, .unset, .unset, .unset, .unset] [(.int (own_lo_0 ((p0 &&& (2147483647 : Int32)) % (13 : Int32))))])) st2 ?_
  refine own_go (x' := T2.setTop (mkF m 20 #[.val (.int p0), .val (.int p1), .val (.int ((p0 &&& (2147483647 : Int32)) % (13 : Int32))), .val (.ref b1), .val (.int (own_lo_0 ((p0 &&& (2147483647 : Int32)) % (13 : Int32)))), .unset, .unset, .unset, .unset, .unset] [(.int ((p0 &&& (2147483647 : Int32)) % (13 : Int32)))])) (fun _ k => XS.istore X2.here hx rfl (hb hby at_17) rfl (l' := #[.val (.int p0), .val (.int p1), .val (.int ((p0 &&& (2147483647 : Int32)) % (13 : Int32))), .val (.ref b1), .val (.int (own_lo_0 ((p0 &&& (2147483647 : Int32)) % (13 : Int32)))), .unset, .unset, .unset, .unset, .unset]) rfl (XS.iloadN X2.here hx rfl (hb hby at_19) rfl k)) ?_
  obtain ⟨_, _, ⟨T3, L3, k3, n3⟩, -, X3, ⟨Lc3, hQ3, l3, y3, z3⟩, st3⟩ := Jvm.LawKit.callS X2 hx (y := (⟨"com/example/hale_log/halelog/protocol/ApiKeySupportsPinLaw", "hi", "(I)I"⟩ : MethodName)) hown (mvT hZ (own_w hw 11 rfl)) (mvT hZ (own_w hw 12 rfl)) (mvT hZ (own_w hw 3 rfl)) (mvT hZ (own_w hw 13 rfl)) (by decide) (backOf (W := 0) (rm3 l Z a0 hw [] ((p0 &&& (2147483647 : Int32)) % (13 : Int32)) h0 n0 Zs ) hZ (own_w hw 13 rfl) (own_w hw 3 rfl) (by decide) (by decide)) (g := (mkF m 20 #[.val (.int p0), .val (.int p1), .val (.int ((p0 &&& (2147483647 : Int32)) % (13 : Int32))), .val (.ref b1), .val (.int (own_lo_0 ((p0 &&& (2147483647 : Int32)) % (13 : Int32)))), .unset, .unset, .unset, .unset, .unset] [(.int ((p0 &&& (2147483647 : Int32)) % (13 : Int32)))])) rfl (by rw [hml]; rfl) (argsL := [(.int ((p0 &&& (2147483647 : Int32)) % (13 : Int32)))]) (rest := []) (lenOf pd_1 rfl) rfl (by show 2 * 0 + _ ≤ _; exact Nat.le_of_eq rfl) (hb hby at_20) (fun _ _ => ⟨rfl, eq2, (by decide : 0 + 0 ≤ _), (by decide : 0 + 0 ≤ _)⟩)
  dsimp only [Pt.U, Pt.locs, Pt.cells, Pt.slots] at X3 l3 y3 z3 st3 hQ3
  subst l3 y3 z3
  obtain ⟨hv3, Nq3, eq3⟩ := hQ3
  subst hv3
  replace Nf := Fr.app Nf Nq3
  refine own_go (x' := T3.setTop (mkF m 23 #[.val (.int p0), .val (.int p1), .val (.int ((p0 &&& (2147483647 : Int32)) % (13 : Int32))), .val (.ref b1), .val (.int (own_lo_0 ((p0 &&& (2147483647 : Int32)) % (13 : Int32)))), .unset, .unset, .unset, .unset, .unset] [(.int (own_hi_0 ((p0 &&& (2147483647 : Int32)) % (13 : Int32))))])) st3 ?_
  refine own_go (x' := T3.setTop (mkF m 33 #[.val (.int p0), .val (.int p1), .val (.int ((p0 &&& (2147483647 : Int32)) % (13 : Int32))), .val (.ref b1), .val (.int (own_lo_0 ((p0 &&& (2147483647 : Int32)) % (13 : Int32)))), .val (.int (own_hi_0 ((p0 &&& (2147483647 : Int32)) % (13 : Int32)))), .val (.int (p1.toInt16.toInt32)), .unset, .unset, .unset] [(.int (own_lo_0 ((p0 &&& (2147483647 : Int32)) % (13 : Int32)))), (.int (p1.toInt16.toInt32))])) (fun _ k => XS.istore X3.here hx rfl (hb hby at_23) rfl (l' := #[.val (.int p0), .val (.int p1), .val (.int ((p0 &&& (2147483647 : Int32)) % (13 : Int32))), .val (.ref b1), .val (.int (own_lo_0 ((p0 &&& (2147483647 : Int32)) % (13 : Int32)))), .val (.int (own_hi_0 ((p0 &&& (2147483647 : Int32)) % (13 : Int32)))), .unset, .unset, .unset, .unset]) rfl (XS.iloadN X3.here hx rfl (hb hby at_25) rfl (XS.i2s X3.here hx rfl (hb hby at_26) rfl (XS.istore X3.here hx rfl (hb hby at_27) rfl (l' := #[.val (.int p0), .val (.int p1), .val (.int ((p0 &&& (2147483647 : Int32)) % (13 : Int32))), .val (.ref b1), .val (.int (own_lo_0 ((p0 &&& (2147483647 : Int32)) % (13 : Int32)))), .val (.int (own_hi_0 ((p0 &&& (2147483647 : Int32)) % (13 : Int32)))), .val (.int (p1.toInt16.toInt32)), .unset, .unset, .unset]) rfl (XS.iload X3.here hx rfl (hb hby at_29) rfl (XS.iload X3.here hx rfl (hb hby at_31) rfl k)))))) ?_
  have mg33_6 : ∀ t, Steps p.tables e below (T3.setTop (mkF m 48 #[.val (.int p0), .val (.int p1), .val (.int ((p0 &&& (2147483647 : Int32)) % (13 : Int32))), .val (.ref b1), .val (.int (own_lo_0 ((p0 &&& (2147483647 : Int32)) % (13 : Int32)))), .val (.int (own_hi_0 ((p0 &&& (2147483647 : Int32)) % (13 : Int32)))), .val (.int (p1.toInt16.toInt32)), .unset, .unset, .unset] [(.int (if (p1.toInt16.toInt32) < (own_lo_0 ((p0 &&& (2147483647 : Int32)) % (13 : Int32))) then (0 : Int32) else (if (own_hi_0 ((p0 &&& (2147483647 : Int32)) % (13 : Int32))) < (p1.toInt16.toInt32) then (0 : Int32) else (1 : Int32))))])) t → Steps p.tables e below (T3.setTop (mkF m 33 #[.val (.int p0), .val (.int p1), .val (.int ((p0 &&& (2147483647 : Int32)) % (13 : Int32))), .val (.ref b1), .val (.int (own_lo_0 ((p0 &&& (2147483647 : Int32)) % (13 : Int32)))), .val (.int (own_hi_0 ((p0 &&& (2147483647 : Int32)) % (13 : Int32)))), .val (.int (p1.toInt16.toInt32)), .unset, .unset, .unset] [(.int (own_lo_0 ((p0 &&& (2147483647 : Int32)) % (13 : Int32)))), (.int (p1.toInt16.toInt32))])) t := by
    intro t k
    by_cases hm33_4 : (p1.toInt16.toInt32) < (own_lo_0 ((p0 &&& (2147483647 : Int32)) % (13 : Int32)))
    · simp only [if_pos hm33_4] at k
      exact XS.icmpYes X3.here hx rfl (pc0 := 33) (pc' := 47) rfl (hb hby at_33) rfl (tlt hm33_4).1 (by decide) (by decide) (XS.iconst X3.here hx rfl (hb hby at_47) k)
    · by_cases hm40_5 : (own_hi_0 ((p0 &&& (2147483647 : Int32)) % (13 : Int32))) < (p1.toInt16.toInt32)
      · simp only [if_neg hm33_4, if_pos hm40_5] at k
        exact XS.icmpNo X3.here hx rfl (hb hby at_33) rfl (flt hm33_4).1 (XS.iload X3.here hx rfl (hb hby at_36) rfl (XS.iload X3.here hx rfl (hb hby at_38) rfl (XS.icmpYes X3.here hx rfl (pc0 := 40) (pc' := 47) rfl (hb hby at_40) rfl (tlt hm40_5).2.2.1 (by decide) (by decide) (XS.iconst X3.here hx rfl (hb hby at_47) k))))
      · simp only [if_neg hm33_4, if_neg hm40_5] at k
        exact XS.icmpNo X3.here hx rfl (hb hby at_33) rfl (flt hm33_4).1 (XS.iload X3.here hx rfl (hb hby at_36) rfl (XS.iload X3.here hx rfl (hb hby at_38) rfl (XS.icmpNo X3.here hx rfl (hb hby at_40) rfl (flt hm40_5).2.2.1 (XS.iconst X3.here hx rfl (hb hby at_43) (XS.goto X3.here hx rfl (pc0 := 44) (pc' := 48) rfl (hb hby at_44) (by decide) (by decide) k)))))
  refine own_go (x' := T3.setTop (mkF m 48 #[.val (.int p0), .val (.int p1), .val (.int ((p0 &&& (2147483647 : Int32)) % (13 : Int32))), .val (.ref b1), .val (.int (own_lo_0 ((p0 &&& (2147483647 : Int32)) % (13 : Int32)))), .val (.int (own_hi_0 ((p0 &&& (2147483647 : Int32)) % (13 : Int32)))), .val (.int (p1.toInt16.toInt32)), .unset, .unset, .unset] [(.int (if (p1.toInt16.toInt32) < (own_lo_0 ((p0 &&& (2147483647 : Int32)) % (13 : Int32))) then (0 : Int32) else (if (own_hi_0 ((p0 &&& (2147483647 : Int32)) % (13 : Int32))) < (p1.toInt16.toInt32) then (0 : Int32) else (1 : Int32))))])) mg33_6 ?_
  refine own_go (x' := T3.setTop (mkF m 53 #[.val (.int p0), .val (.int p1), .val (.int ((p0 &&& (2147483647 : Int32)) % (13 : Int32))), .val (.ref b1), .val (.int (own_lo_0 ((p0 &&& (2147483647 : Int32)) % (13 : Int32)))), .val (.int (own_hi_0 ((p0 &&& (2147483647 : Int32)) % (13 : Int32)))), .val (.int (p1.toInt16.toInt32)), .val (.int (if (p1.toInt16.toInt32) < (own_lo_0 ((p0 &&& (2147483647 : Int32)) % (13 : Int32))) then (0 : Int32) else (if (own_hi_0 ((p0 &&& (2147483647 : Int32)) % (13 : Int32))) < (p1.toInt16.toInt32) then (0 : Int32) else (1 : Int32)))), .unset, .unset] [(.int (p1.toInt16.toInt32)), (.ref b1)])) (fun _ k => XS.istore X3.here hx rfl (hb hby at_48) rfl (l' := #[.val (.int p0), .val (.int p1), .val (.int ((p0 &&& (2147483647 : Int32)) % (13 : Int32))), .val (.ref b1), .val (.int (own_lo_0 ((p0 &&& (2147483647 : Int32)) % (13 : Int32)))), .val (.int (own_hi_0 ((p0 &&& (2147483647 : Int32)) % (13 : Int32)))), .val (.int (p1.toInt16.toInt32)), .val (.int (if (p1.toInt16.toInt32) < (own_lo_0 ((p0 &&& (2147483647 : Int32)) % (13 : Int32))) then (0 : Int32) else (if (own_hi_0 ((p0 &&& (2147483647 : Int32)) % (13 : Int32))) < (p1.toInt16.toInt32) then (0 : Int32) else (1 : Int32)))), .unset, .unset]) rfl (XS.aloadN X3.here hx rfl (hb hby at_50) rfl rfl (XS.iload X3.here hx rfl (hb hby at_51) rfl k))) ?_
  obtain ⟨cq7, kq7, q7a, q7b, q7c⟩ := isOf hZ eq3 E_b1
  obtain ⟨_, _, ⟨T7, L7, k7, n7⟩, -, X7, ⟨Lc7, hQ7, l7, y7, z7⟩, st7⟩ := X3.virtualBack hx (y := (⟨"com/example/hale_log/halelog/protocol/ApiKey", "supports", "(S)Z"⟩ : MethodName)) (z := (⟨"com/example/hale_log/halelog/protocol/ApiKey", "supports", "(S)Z"⟩ : MethodName)) hown (mvT hZ (own_w hw 14 rfl)) (mvT hZ (own_w hw 15 rfl)) (notFace_of_selects (args := #[]) (mvT hZ (own_w hw 17 rfl))) (mvT hZ (own_w hw 17 rfl)) (mvT hZ (own_w hw 16 rfl)) (by decide) (backOf (W := 0) (rm4 l Z a0 hw [] b1 (p1.toInt16.toInt32) (own_lo_0 ((p0 &&& (2147483647 : Int32)) % (13 : Int32))) (own_hi_0 ((p0 &&& (2147483647 : Int32)) % (13 : Int32))) h0 n0 Zs F_b1_minVersion F_b1_maxVersion) hZ (own_w hw 18 rfl) (own_w hw 6 rfl) (by decide) (by decide)) q7a q7c (g := (mkF m 53 #[.val (.int p0), .val (.int p1), .val (.int ((p0 &&& (2147483647 : Int32)) % (13 : Int32))), .val (.ref b1), .val (.int (own_lo_0 ((p0 &&& (2147483647 : Int32)) % (13 : Int32)))), .val (.int (own_hi_0 ((p0 &&& (2147483647 : Int32)) % (13 : Int32)))), .val (.int (p1.toInt16.toInt32)), .val (.int (if (p1.toInt16.toInt32) < (own_lo_0 ((p0 &&& (2147483647 : Int32)) % (13 : Int32))) then (0 : Int32) else (if (own_hi_0 ((p0 &&& (2147483647 : Int32)) % (13 : Int32))) < (p1.toInt16.toInt32) then (0 : Int32) else (1 : Int32)))), .unset, .unset] [(.int (p1.toInt16.toInt32)), (.ref b1)])) rfl (by rw [hml]; rfl) (Steps.refl _) (argsL := [(.int (p1.toInt16.toInt32))]) (rest := []) (lenOf pd_2 rfl) rfl (by show 2 * 0 + _ ≤ _; exact Nat.le_of_eq rfl) (hb hby at_53) (fun _ _ => ⟨rfl, eq3, (by decide : 0 + 0 ≤ _), (by decide : 0 + 0 ≤ _)⟩)
  dsimp only [Pt.U, Pt.locs, Pt.cells, Pt.slots] at X7 l7 y7 z7 st7 hQ7
  subst l7 y7 z7
  obtain ⟨hv7, Nq7, eq7⟩ := hQ7
  subst hv7
  replace Nf := Fr.app Nf Nq7
  refine own_go (x' := T7.setTop (mkF m 56 #[.val (.int p0), .val (.int p1), .val (.int ((p0 &&& (2147483647 : Int32)) % (13 : Int32))), .val (.ref b1), .val (.int (own_lo_0 ((p0 &&& (2147483647 : Int32)) % (13 : Int32)))), .val (.int (own_hi_0 ((p0 &&& (2147483647 : Int32)) % (13 : Int32)))), .val (.int (p1.toInt16.toInt32)), .val (.int (if (p1.toInt16.toInt32) < (own_lo_0 ((p0 &&& (2147483647 : Int32)) % (13 : Int32))) then (0 : Int32) else (if (own_hi_0 ((p0 &&& (2147483647 : Int32)) % (13 : Int32))) < (p1.toInt16.toInt32) then (0 : Int32) else (1 : Int32)))), .unset, .unset] [(.int (own_sup (p1.toInt16.toInt32) (own_lo_0 ((p0 &&& (2147483647 : Int32)) % (13 : Int32))) (own_hi_0 ((p0 &&& (2147483647 : Int32)) % (13 : Int32)))))])) (fun _ k => st7.trans k) ?_
  refine own_go (x' := T7.setTop (mkF m 68 #[.val (.int p0), .val (.int p1), .val (.int ((p0 &&& (2147483647 : Int32)) % (13 : Int32))), .val (.ref b1), .val (.int (own_lo_0 ((p0 &&& (2147483647 : Int32)) % (13 : Int32)))), .val (.int (own_hi_0 ((p0 &&& (2147483647 : Int32)) % (13 : Int32)))), .val (.int (p1.toInt16.toInt32)), .val (.int (if (p1.toInt16.toInt32) < (own_lo_0 ((p0 &&& (2147483647 : Int32)) % (13 : Int32))) then (0 : Int32) else (if (own_hi_0 ((p0 &&& (2147483647 : Int32)) % (13 : Int32))) < (p1.toInt16.toInt32) then (0 : Int32) else (1 : Int32)))), .unset, .unset] [(.int p1), (.int ((own_lo_0 ((p0 &&& (2147483647 : Int32)) % (13 : Int32))) - (2 : Int32)))])) (fun _ k => XS.iload X7.here hx rfl (hb hby at_56) rfl (XS.icmpYes X7.here hx rfl (pc0 := 58) (pc' := 63) rfl (hb hby at_58) rfl (teq (show (own_sup (p1.toInt16.toInt32) (own_lo_0 ((p0 &&& (2147483647 : Int32)) % (13 : Int32))) (own_hi_0 ((p0 &&& (2147483647 : Int32)) % (13 : Int32)))) = (if (p1.toInt16.toInt32) < (own_lo_0 ((p0 &&& (2147483647 : Int32)) % (13 : Int32))) then (0 : Int32) else (if (own_hi_0 ((p0 &&& (2147483647 : Int32)) % (13 : Int32))) < (p1.toInt16.toInt32) then (0 : Int32) else (1 : Int32))) from rfl)).1 (by decide) (by decide) (XS.iload X7.here hx rfl (hb hby at_63) rfl (XS.iconst X7.here hx rfl (hb hby at_65) (XS.isub X7.here hx rfl (hb hby at_66) rfl (XS.iloadN X7.here hx rfl (hb hby at_67) rfl k)))))) ?_
  refine own_go (x' := T7.setTop (mkF m 76 #[.val (.int p0), .val (.int p1), .val (.int ((p0 &&& (2147483647 : Int32)) % (13 : Int32))), .val (.ref b1), .val (.int (own_lo_0 ((p0 &&& (2147483647 : Int32)) % (13 : Int32)))), .val (.int (own_hi_0 ((p0 &&& (2147483647 : Int32)) % (13 : Int32)))), .val (.int (p1.toInt16.toInt32)), .val (.int (if (p1.toInt16.toInt32) < (own_lo_0 ((p0 &&& (2147483647 : Int32)) % (13 : Int32))) then (0 : Int32) else (if (own_hi_0 ((p0 &&& (2147483647 : Int32)) % (13 : Int32))) < (p1.toInt16.toInt32) then (0 : Int32) else (1 : Int32)))), .unset, .unset] [(.int ((((own_lo_0 ((p0 &&& (2147483647 : Int32)) % (13 : Int32))) - (2 : Int32)) + (((p1.toUInt32 >>> ((16 : Int32) &&& 31).toUInt32).toInt32) &&& (15 : Int32))).toInt16.toInt32))])) (fun _ k => XS.bipush X7.here hx rfl (hb hby at_68) (XS.iushr X7.here hx rfl (hb hby at_70) rfl (XS.bipush X7.here hx rfl (hb hby at_71) (XS.iand X7.here hx rfl (hb hby at_73) rfl (XS.iadd X7.here hx rfl (hb hby at_74) rfl (XS.i2s X7.here hx rfl (hb hby at_75) rfl k)))))) ?_
  refine own_go (x' := T7.setTop (mkF m 82 #[.val (.int p0), .val (.int p1), .val (.int ((p0 &&& (2147483647 : Int32)) % (13 : Int32))), .val (.ref b1), .val (.int (own_lo_0 ((p0 &&& (2147483647 : Int32)) % (13 : Int32)))), .val (.int (own_hi_0 ((p0 &&& (2147483647 : Int32)) % (13 : Int32)))), .val (.int (p1.toInt16.toInt32)), .val (.int (if (p1.toInt16.toInt32) < (own_lo_0 ((p0 &&& (2147483647 : Int32)) % (13 : Int32))) then (0 : Int32) else (if (own_hi_0 ((p0 &&& (2147483647 : Int32)) % (13 : Int32))) < (p1.toInt16.toInt32) then (0 : Int32) else (1 : Int32)))), .val (.int ((((own_lo_0 ((p0 &&& (2147483647 : Int32)) % (13 : Int32))) - (2 : Int32)) + (((p1.toUInt32 >>> ((16 : Int32) &&& 31).toUInt32).toInt32) &&& (15 : Int32))).toInt16.toInt32)), .unset] [(.int (own_lo_0 ((p0 &&& (2147483647 : Int32)) % (13 : Int32)))), (.int ((((own_lo_0 ((p0 &&& (2147483647 : Int32)) % (13 : Int32))) - (2 : Int32)) + (((p1.toUInt32 >>> ((16 : Int32) &&& 31).toUInt32).toInt32) &&& (15 : Int32))).toInt16.toInt32))])) (fun _ k => XS.istore X7.here hx rfl (hb hby at_76) rfl (l' := #[.val (.int p0), .val (.int p1), .val (.int ((p0 &&& (2147483647 : Int32)) % (13 : Int32))), .val (.ref b1), .val (.int (own_lo_0 ((p0 &&& (2147483647 : Int32)) % (13 : Int32)))), .val (.int (own_hi_0 ((p0 &&& (2147483647 : Int32)) % (13 : Int32)))), .val (.int (p1.toInt16.toInt32)), .val (.int (if (p1.toInt16.toInt32) < (own_lo_0 ((p0 &&& (2147483647 : Int32)) % (13 : Int32))) then (0 : Int32) else (if (own_hi_0 ((p0 &&& (2147483647 : Int32)) % (13 : Int32))) < (p1.toInt16.toInt32) then (0 : Int32) else (1 : Int32)))), .val (.int ((((own_lo_0 ((p0 &&& (2147483647 : Int32)) % (13 : Int32))) - (2 : Int32)) + (((p1.toUInt32 >>> ((16 : Int32) &&& 31).toUInt32).toInt32) &&& (15 : Int32))).toInt16.toInt32)), .unset]) rfl (XS.iload X7.here hx rfl (hb hby at_78) rfl (XS.iload X7.here hx rfl (hb hby at_80) rfl k))) ?_
  have mg82_10 : ∀ t, Steps p.tables e below (T7.setTop (mkF m 97 #[.val (.int p0), .val (.int p1), .val (.int ((p0 &&& (2147483647 : Int32)) % (13 : Int32))), .val (.ref b1), .val (.int (own_lo_0 ((p0 &&& (2147483647 : Int32)) % (13 : Int32)))), .val (.int (own_hi_0 ((p0 &&& (2147483647 : Int32)) % (13 : Int32)))), .val (.int (p1.toInt16.toInt32)), .val (.int (if (p1.toInt16.toInt32) < (own_lo_0 ((p0 &&& (2147483647 : Int32)) % (13 : Int32))) then (0 : Int32) else (if (own_hi_0 ((p0 &&& (2147483647 : Int32)) % (13 : Int32))) < (p1.toInt16.toInt32) then (0 : Int32) else (1 : Int32)))), .val (.int ((((own_lo_0 ((p0 &&& (2147483647 : Int32)) % (13 : Int32))) - (2 : Int32)) + (((p1.toUInt32 >>> ((16 : Int32) &&& 31).toUInt32).toInt32) &&& (15 : Int32))).toInt16.toInt32)), .unset] [(.int (if ((((own_lo_0 ((p0 &&& (2147483647 : Int32)) % (13 : Int32))) - (2 : Int32)) + (((p1.toUInt32 >>> ((16 : Int32) &&& 31).toUInt32).toInt32) &&& (15 : Int32))).toInt16.toInt32) < (own_lo_0 ((p0 &&& (2147483647 : Int32)) % (13 : Int32))) then (0 : Int32) else (if (own_hi_0 ((p0 &&& (2147483647 : Int32)) % (13 : Int32))) < ((((own_lo_0 ((p0 &&& (2147483647 : Int32)) % (13 : Int32))) - (2 : Int32)) + (((p1.toUInt32 >>> ((16 : Int32) &&& 31).toUInt32).toInt32) &&& (15 : Int32))).toInt16.toInt32) then (0 : Int32) else (1 : Int32))))])) t → Steps p.tables e below (T7.setTop (mkF m 82 #[.val (.int p0), .val (.int p1), .val (.int ((p0 &&& (2147483647 : Int32)) % (13 : Int32))), .val (.ref b1), .val (.int (own_lo_0 ((p0 &&& (2147483647 : Int32)) % (13 : Int32)))), .val (.int (own_hi_0 ((p0 &&& (2147483647 : Int32)) % (13 : Int32)))), .val (.int (p1.toInt16.toInt32)), .val (.int (if (p1.toInt16.toInt32) < (own_lo_0 ((p0 &&& (2147483647 : Int32)) % (13 : Int32))) then (0 : Int32) else (if (own_hi_0 ((p0 &&& (2147483647 : Int32)) % (13 : Int32))) < (p1.toInt16.toInt32) then (0 : Int32) else (1 : Int32)))), .val (.int ((((own_lo_0 ((p0 &&& (2147483647 : Int32)) % (13 : Int32))) - (2 : Int32)) + (((p1.toUInt32 >>> ((16 : Int32) &&& 31).toUInt32).toInt32) &&& (15 : Int32))).toInt16.toInt32)), .unset] [(.int (own_lo_0 ((p0 &&& (2147483647 : Int32)) % (13 : Int32)))), (.int ((((own_lo_0 ((p0 &&& (2147483647 : Int32)) % (13 : Int32))) - (2 : Int32)) + (((p1.toUInt32 >>> ((16 : Int32) &&& 31).toUInt32).toInt32) &&& (15 : Int32))).toInt16.toInt32))])) t := by
    intro t k
    by_cases hm82_8 : ((((own_lo_0 ((p0 &&& (2147483647 : Int32)) % (13 : Int32))) - (2 : Int32)) + (((p1.toUInt32 >>> ((16 : Int32) &&& 31).toUInt32).toInt32) &&& (15 : Int32))).toInt16.toInt32) < (own_lo_0 ((p0 &&& (2147483647 : Int32)) % (13 : Int32)))
    · simp only [if_pos hm82_8] at k
      exact XS.icmpYes X7.here hx rfl (pc0 := 82) (pc' := 96) rfl (hb hby at_82) rfl (tlt hm82_8).1 (by decide) (by decide) (XS.iconst X7.here hx rfl (hb hby at_96) k)
    · by_cases hm89_9 : (own_hi_0 ((p0 &&& (2147483647 : Int32)) % (13 : Int32))) < ((((own_lo_0 ((p0 &&& (2147483647 : Int32)) % (13 : Int32))) - (2 : Int32)) + (((p1.toUInt32 >>> ((16 : Int32) &&& 31).toUInt32).toInt32) &&& (15 : Int32))).toInt16.toInt32)
      · simp only [if_neg hm82_8, if_pos hm89_9] at k
        exact XS.icmpNo X7.here hx rfl (hb hby at_82) rfl (flt hm82_8).1 (XS.iload X7.here hx rfl (hb hby at_85) rfl (XS.iload X7.here hx rfl (hb hby at_87) rfl (XS.icmpYes X7.here hx rfl (pc0 := 89) (pc' := 96) rfl (hb hby at_89) rfl (tlt hm89_9).2.2.1 (by decide) (by decide) (XS.iconst X7.here hx rfl (hb hby at_96) k))))
      · simp only [if_neg hm82_8, if_neg hm89_9] at k
        exact XS.icmpNo X7.here hx rfl (hb hby at_82) rfl (flt hm82_8).1 (XS.iload X7.here hx rfl (hb hby at_85) rfl (XS.iload X7.here hx rfl (hb hby at_87) rfl (XS.icmpNo X7.here hx rfl (hb hby at_89) rfl (flt hm89_9).2.2.1 (XS.iconst X7.here hx rfl (hb hby at_92) (XS.goto X7.here hx rfl (pc0 := 93) (pc' := 97) rfl (hb hby at_93) (by decide) (by decide) k)))))
  refine own_go (x' := T7.setTop (mkF m 97 #[.val (.int p0), .val (.int p1), .val (.int ((p0 &&& (2147483647 : Int32)) % (13 : Int32))), .val (.ref b1), .val (.int (own_lo_0 ((p0 &&& (2147483647 : Int32)) % (13 : Int32)))), .val (.int (own_hi_0 ((p0 &&& (2147483647 : Int32)) % (13 : Int32)))), .val (.int (p1.toInt16.toInt32)), .val (.int (if (p1.toInt16.toInt32) < (own_lo_0 ((p0 &&& (2147483647 : Int32)) % (13 : Int32))) then (0 : Int32) else (if (own_hi_0 ((p0 &&& (2147483647 : Int32)) % (13 : Int32))) < (p1.toInt16.toInt32) then (0 : Int32) else (1 : Int32)))), .val (.int ((((own_lo_0 ((p0 &&& (2147483647 : Int32)) % (13 : Int32))) - (2 : Int32)) + (((p1.toUInt32 >>> ((16 : Int32) &&& 31).toUInt32).toInt32) &&& (15 : Int32))).toInt16.toInt32)), .unset] [(.int (if ((((own_lo_0 ((p0 &&& (2147483647 : Int32)) % (13 : Int32))) - (2 : Int32)) + (((p1.toUInt32 >>> ((16 : Int32) &&& 31).toUInt32).toInt32) &&& (15 : Int32))).toInt16.toInt32) < (own_lo_0 ((p0 &&& (2147483647 : Int32)) % (13 : Int32))) then (0 : Int32) else (if (own_hi_0 ((p0 &&& (2147483647 : Int32)) % (13 : Int32))) < ((((own_lo_0 ((p0 &&& (2147483647 : Int32)) % (13 : Int32))) - (2 : Int32)) + (((p1.toUInt32 >>> ((16 : Int32) &&& 31).toUInt32).toInt32) &&& (15 : Int32))).toInt16.toInt32) then (0 : Int32) else (1 : Int32))))])) mg82_10 ?_
  refine own_go (x' := T7.setTop (mkF m 102 #[.val (.int p0), .val (.int p1), .val (.int ((p0 &&& (2147483647 : Int32)) % (13 : Int32))), .val (.ref b1), .val (.int (own_lo_0 ((p0 &&& (2147483647 : Int32)) % (13 : Int32)))), .val (.int (own_hi_0 ((p0 &&& (2147483647 : Int32)) % (13 : Int32)))), .val (.int (p1.toInt16.toInt32)), .val (.int (if (p1.toInt16.toInt32) < (own_lo_0 ((p0 &&& (2147483647 : Int32)) % (13 : Int32))) then (0 : Int32) else (if (own_hi_0 ((p0 &&& (2147483647 : Int32)) % (13 : Int32))) < (p1.toInt16.toInt32) then (0 : Int32) else (1 : Int32)))), .val (.int ((((own_lo_0 ((p0 &&& (2147483647 : Int32)) % (13 : Int32))) - (2 : Int32)) + (((p1.toUInt32 >>> ((16 : Int32) &&& 31).toUInt32).toInt32) &&& (15 : Int32))).toInt16.toInt32)), .val (.int (if ((((own_lo_0 ((p0 &&& (2147483647 : Int32)) % (13 : Int32))) - (2 : Int32)) + (((p1.toUInt32 >>> ((16 : Int32) &&& 31).toUInt32).toInt32) &&& (15 : Int32))).toInt16.toInt32) < (own_lo_0 ((p0 &&& (2147483647 : Int32)) % (13 : Int32))) then (0 : Int32) else (if (own_hi_0 ((p0 &&& (2147483647 : Int32)) % (13 : Int32))) < ((((own_lo_0 ((p0 &&& (2147483647 : Int32)) % (13 : Int32))) - (2 : Int32)) + (((p1.toUInt32 >>> ((16 : Int32) &&& 31).toUInt32).toInt32) &&& (15 : Int32))).toInt16.toInt32) then (0 : Int32) else (1 : Int32))))] [(.int ((((own_lo_0 ((p0 &&& (2147483647 : Int32)) % (13 : Int32))) - (2 : Int32)) + (((p1.toUInt32 >>> ((16 : Int32) &&& 31).toUInt32).toInt32) &&& (15 : Int32))).toInt16.toInt32)), (.ref b1)])) (fun _ k => XS.istore X7.here hx rfl (hb hby at_97) rfl (l' := #[.val (.int p0), .val (.int p1), .val (.int ((p0 &&& (2147483647 : Int32)) % (13 : Int32))), .val (.ref b1), .val (.int (own_lo_0 ((p0 &&& (2147483647 : Int32)) % (13 : Int32)))), .val (.int (own_hi_0 ((p0 &&& (2147483647 : Int32)) % (13 : Int32)))), .val (.int (p1.toInt16.toInt32)), .val (.int (if (p1.toInt16.toInt32) < (own_lo_0 ((p0 &&& (2147483647 : Int32)) % (13 : Int32))) then (0 : Int32) else (if (own_hi_0 ((p0 &&& (2147483647 : Int32)) % (13 : Int32))) < (p1.toInt16.toInt32) then (0 : Int32) else (1 : Int32)))), .val (.int ((((own_lo_0 ((p0 &&& (2147483647 : Int32)) % (13 : Int32))) - (2 : Int32)) + (((p1.toUInt32 >>> ((16 : Int32) &&& 31).toUInt32).toInt32) &&& (15 : Int32))).toInt16.toInt32)), .val (.int (if ((((own_lo_0 ((p0 &&& (2147483647 : Int32)) % (13 : Int32))) - (2 : Int32)) + (((p1.toUInt32 >>> ((16 : Int32) &&& 31).toUInt32).toInt32) &&& (15 : Int32))).toInt16.toInt32) < (own_lo_0 ((p0 &&& (2147483647 : Int32)) % (13 : Int32))) then (0 : Int32) else (if (own_hi_0 ((p0 &&& (2147483647 : Int32)) % (13 : Int32))) < ((((own_lo_0 ((p0 &&& (2147483647 : Int32)) % (13 : Int32))) - (2 : Int32)) + (((p1.toUInt32 >>> ((16 : Int32) &&& 31).toUInt32).toInt32) &&& (15 : Int32))).toInt16.toInt32) then (0 : Int32) else (1 : Int32))))]) rfl (XS.aloadN X7.here hx rfl (hb hby at_99) rfl rfl (XS.iload X7.here hx rfl (hb hby at_100) rfl k))) ?_
  obtain ⟨cq11, kq11, q11a, q11b, q11c⟩ := isOf hZ eq7 E_b1
  obtain ⟨_, _, ⟨T11, L11, k11, n11⟩, -, X11, ⟨Lc11, hQ11, l11, y11, z11⟩, st11⟩ := X7.virtualBack hx (y := (⟨"com/example/hale_log/halelog/protocol/ApiKey", "supports", "(S)Z"⟩ : MethodName)) (z := (⟨"com/example/hale_log/halelog/protocol/ApiKey", "supports", "(S)Z"⟩ : MethodName)) hown (mvT hZ (own_w hw 14 rfl)) (mvT hZ (own_w hw 15 rfl)) (notFace_of_selects (args := #[]) (mvT hZ (own_w hw 17 rfl))) (mvT hZ (own_w hw 17 rfl)) (mvT hZ (own_w hw 16 rfl)) (by decide) (backOf (W := 0) (rm4 l Z a0 hw [] b1 ((((own_lo_0 ((p0 &&& (2147483647 : Int32)) % (13 : Int32))) - (2 : Int32)) + (((p1.toUInt32 >>> ((16 : Int32) &&& 31).toUInt32).toInt32) &&& (15 : Int32))).toInt16.toInt32) (own_lo_0 ((p0 &&& (2147483647 : Int32)) % (13 : Int32))) (own_hi_0 ((p0 &&& (2147483647 : Int32)) % (13 : Int32))) h0 n0 Zs F_b1_minVersion F_b1_maxVersion) hZ (own_w hw 18 rfl) (own_w hw 6 rfl) (by decide) (by decide)) q11a q11c (g := (mkF m 102 #[.val (.int p0), .val (.int p1), .val (.int ((p0 &&& (2147483647 : Int32)) % (13 : Int32))), .val (.ref b1), .val (.int (own_lo_0 ((p0 &&& (2147483647 : Int32)) % (13 : Int32)))), .val (.int (own_hi_0 ((p0 &&& (2147483647 : Int32)) % (13 : Int32)))), .val (.int (p1.toInt16.toInt32)), .val (.int (if (p1.toInt16.toInt32) < (own_lo_0 ((p0 &&& (2147483647 : Int32)) % (13 : Int32))) then (0 : Int32) else (if (own_hi_0 ((p0 &&& (2147483647 : Int32)) % (13 : Int32))) < (p1.toInt16.toInt32) then (0 : Int32) else (1 : Int32)))), .val (.int ((((own_lo_0 ((p0 &&& (2147483647 : Int32)) % (13 : Int32))) - (2 : Int32)) + (((p1.toUInt32 >>> ((16 : Int32) &&& 31).toUInt32).toInt32) &&& (15 : Int32))).toInt16.toInt32)), .val (.int (if ((((own_lo_0 ((p0 &&& (2147483647 : Int32)) % (13 : Int32))) - (2 : Int32)) + (((p1.toUInt32 >>> ((16 : Int32) &&& 31).toUInt32).toInt32) &&& (15 : Int32))).toInt16.toInt32) < (own_lo_0 ((p0 &&& (2147483647 : Int32)) % (13 : Int32))) then (0 : Int32) else (if (own_hi_0 ((p0 &&& (2147483647 : Int32)) % (13 : Int32))) < ((((own_lo_0 ((p0 &&& (2147483647 : Int32)) % (13 : Int32))) - (2 : Int32)) + (((p1.toUInt32 >>> ((16 : Int32) &&& 31).toUInt32).toInt32) &&& (15 : Int32))).toInt16.toInt32) then (0 : Int32) else (1 : Int32))))] [(.int ((((own_lo_0 ((p0 &&& (2147483647 : Int32)) % (13 : Int32))) - (2 : Int32)) + (((p1.toUInt32 >>> ((16 : Int32) &&& 31).toUInt32).toInt32) &&& (15 : Int32))).toInt16.toInt32)), (.ref b1)])) rfl (by rw [hml]; rfl) (Steps.refl _) (argsL := [(.int ((((own_lo_0 ((p0 &&& (2147483647 : Int32)) % (13 : Int32))) - (2 : Int32)) + (((p1.toUInt32 >>> ((16 : Int32) &&& 31).toUInt32).toInt32) &&& (15 : Int32))).toInt16.toInt32))]) (rest := []) (lenOf pd_2 rfl) rfl (by show 2 * 0 + _ ≤ _; exact Nat.le_of_eq rfl) (hb hby at_102) (fun _ _ => ⟨rfl, eq7, (by decide : 0 + 0 ≤ _), (by decide : 0 + 0 ≤ _)⟩)
  dsimp only [Pt.U, Pt.locs, Pt.cells, Pt.slots] at X11 l11 y11 z11 st11 hQ11
  subst l11 y11 z11
  obtain ⟨hv11, Nq11, eq11⟩ := hQ11
  subst hv11
  replace Nf := Fr.app Nf Nq11
  refine own_go (x' := T11.setTop (mkF m 105 #[.val (.int p0), .val (.int p1), .val (.int ((p0 &&& (2147483647 : Int32)) % (13 : Int32))), .val (.ref b1), .val (.int (own_lo_0 ((p0 &&& (2147483647 : Int32)) % (13 : Int32)))), .val (.int (own_hi_0 ((p0 &&& (2147483647 : Int32)) % (13 : Int32)))), .val (.int (p1.toInt16.toInt32)), .val (.int (if (p1.toInt16.toInt32) < (own_lo_0 ((p0 &&& (2147483647 : Int32)) % (13 : Int32))) then (0 : Int32) else (if (own_hi_0 ((p0 &&& (2147483647 : Int32)) % (13 : Int32))) < (p1.toInt16.toInt32) then (0 : Int32) else (1 : Int32)))), .val (.int ((((own_lo_0 ((p0 &&& (2147483647 : Int32)) % (13 : Int32))) - (2 : Int32)) + (((p1.toUInt32 >>> ((16 : Int32) &&& 31).toUInt32).toInt32) &&& (15 : Int32))).toInt16.toInt32)), .val (.int (if ((((own_lo_0 ((p0 &&& (2147483647 : Int32)) % (13 : Int32))) - (2 : Int32)) + (((p1.toUInt32 >>> ((16 : Int32) &&& 31).toUInt32).toInt32) &&& (15 : Int32))).toInt16.toInt32) < (own_lo_0 ((p0 &&& (2147483647 : Int32)) % (13 : Int32))) then (0 : Int32) else (if (own_hi_0 ((p0 &&& (2147483647 : Int32)) % (13 : Int32))) < ((((own_lo_0 ((p0 &&& (2147483647 : Int32)) % (13 : Int32))) - (2 : Int32)) + (((p1.toUInt32 >>> ((16 : Int32) &&& 31).toUInt32).toInt32) &&& (15 : Int32))).toInt16.toInt32) then (0 : Int32) else (1 : Int32))))] [(.int (own_sup ((((own_lo_0 ((p0 &&& (2147483647 : Int32)) % (13 : Int32))) - (2 : Int32)) + (((p1.toUInt32 >>> ((16 : Int32) &&& 31).toUInt32).toInt32) &&& (15 : Int32))).toInt16.toInt32) (own_lo_0 ((p0 &&& (2147483647 : Int32)) % (13 : Int32))) (own_hi_0 ((p0 &&& (2147483647 : Int32)) % (13 : Int32)))))])) (fun _ k => st11.trans k) ?_
  refine own_go (x' := T11.setTop (mkF m 116 #[.val (.int p0), .val (.int p1), .val (.int ((p0 &&& (2147483647 : Int32)) % (13 : Int32))), .val (.ref b1), .val (.int (own_lo_0 ((p0 &&& (2147483647 : Int32)) % (13 : Int32)))), .val (.int (own_hi_0 ((p0 &&& (2147483647 : Int32)) % (13 : Int32)))), .val (.int (p1.toInt16.toInt32)), .val (.int (if (p1.toInt16.toInt32) < (own_lo_0 ((p0 &&& (2147483647 : Int32)) % (13 : Int32))) then (0 : Int32) else (if (own_hi_0 ((p0 &&& (2147483647 : Int32)) % (13 : Int32))) < (p1.toInt16.toInt32) then (0 : Int32) else (1 : Int32)))), .val (.int ((((own_lo_0 ((p0 &&& (2147483647 : Int32)) % (13 : Int32))) - (2 : Int32)) + (((p1.toUInt32 >>> ((16 : Int32) &&& 31).toUInt32).toInt32) &&& (15 : Int32))).toInt16.toInt32)), .val (.int (if ((((own_lo_0 ((p0 &&& (2147483647 : Int32)) % (13 : Int32))) - (2 : Int32)) + (((p1.toUInt32 >>> ((16 : Int32) &&& 31).toUInt32).toInt32) &&& (15 : Int32))).toInt16.toInt32) < (own_lo_0 ((p0 &&& (2147483647 : Int32)) % (13 : Int32))) then (0 : Int32) else (if (own_hi_0 ((p0 &&& (2147483647 : Int32)) % (13 : Int32))) < ((((own_lo_0 ((p0 &&& (2147483647 : Int32)) % (13 : Int32))) - (2 : Int32)) + (((p1.toUInt32 >>> ((16 : Int32) &&& 31).toUInt32).toInt32) &&& (15 : Int32))).toInt16.toInt32) then (0 : Int32) else (1 : Int32))))] [(.int ((own_lo_0 ((p0 &&& (2147483647 : Int32)) % (13 : Int32))).toInt16.toInt32)), (.ref b1)])) (fun _ k => XS.iload X11.here hx rfl (hb hby at_105) rfl (XS.icmpYes X11.here hx rfl (pc0 := 107) (pc' := 112) rfl (hb hby at_107) rfl (teq (show (own_sup ((((own_lo_0 ((p0 &&& (2147483647 : Int32)) % (13 : Int32))) - (2 : Int32)) + (((p1.toUInt32 >>> ((16 : Int32) &&& 31).toUInt32).toInt32) &&& (15 : Int32))).toInt16.toInt32) (own_lo_0 ((p0 &&& (2147483647 : Int32)) % (13 : Int32))) (own_hi_0 ((p0 &&& (2147483647 : Int32)) % (13 : Int32)))) = (if ((((own_lo_0 ((p0 &&& (2147483647 : Int32)) % (13 : Int32))) - (2 : Int32)) + (((p1.toUInt32 >>> ((16 : Int32) &&& 31).toUInt32).toInt32) &&& (15 : Int32))).toInt16.toInt32) < (own_lo_0 ((p0 &&& (2147483647 : Int32)) % (13 : Int32))) then (0 : Int32) else (if (own_hi_0 ((p0 &&& (2147483647 : Int32)) % (13 : Int32))) < ((((own_lo_0 ((p0 &&& (2147483647 : Int32)) % (13 : Int32))) - (2 : Int32)) + (((p1.toUInt32 >>> ((16 : Int32) &&& 31).toUInt32).toInt32) &&& (15 : Int32))).toInt16.toInt32) then (0 : Int32) else (1 : Int32))) from rfl)).1 (by decide) (by decide) (XS.aloadN X11.here hx rfl (hb hby at_112) rfl rfl (XS.iload X11.here hx rfl (hb hby at_113) rfl (XS.i2s X11.here hx rfl (hb hby at_115) rfl k))))) ?_
  obtain ⟨cq12, kq12, q12a, q12b, q12c⟩ := isOf hZ eq11 E_b1
  obtain ⟨_, _, ⟨T12, L12, k12, n12⟩, -, X12, ⟨Lc12, hQ12, l12, y12, z12⟩, st12⟩ := X11.virtualBack hx (y := (⟨"com/example/hale_log/halelog/protocol/ApiKey", "supports", "(S)Z"⟩ : MethodName)) (z := (⟨"com/example/hale_log/halelog/protocol/ApiKey", "supports", "(S)Z"⟩ : MethodName)) hown (mvT hZ (own_w hw 14 rfl)) (mvT hZ (own_w hw 15 rfl)) (notFace_of_selects (args := #[]) (mvT hZ (own_w hw 17 rfl))) (mvT hZ (own_w hw 17 rfl)) (mvT hZ (own_w hw 16 rfl)) (by decide) (backOf (W := 0) (rm4 l Z a0 hw [] b1 ((own_lo_0 ((p0 &&& (2147483647 : Int32)) % (13 : Int32))).toInt16.toInt32) (own_lo_0 ((p0 &&& (2147483647 : Int32)) % (13 : Int32))) (own_hi_0 ((p0 &&& (2147483647 : Int32)) % (13 : Int32))) h0 n0 Zs F_b1_minVersion F_b1_maxVersion) hZ (own_w hw 18 rfl) (own_w hw 6 rfl) (by decide) (by decide)) q12a q12c (g := (mkF m 116 #[.val (.int p0), .val (.int p1), .val (.int ((p0 &&& (2147483647 : Int32)) % (13 : Int32))), .val (.ref b1), .val (.int (own_lo_0 ((p0 &&& (2147483647 : Int32)) % (13 : Int32)))), .val (.int (own_hi_0 ((p0 &&& (2147483647 : Int32)) % (13 : Int32)))), .val (.int (p1.toInt16.toInt32)), .val (.int (if (p1.toInt16.toInt32) < (own_lo_0 ((p0 &&& (2147483647 : Int32)) % (13 : Int32))) then (0 : Int32) else (if (own_hi_0 ((p0 &&& (2147483647 : Int32)) % (13 : Int32))) < (p1.toInt16.toInt32) then (0 : Int32) else (1 : Int32)))), .val (.int ((((own_lo_0 ((p0 &&& (2147483647 : Int32)) % (13 : Int32))) - (2 : Int32)) + (((p1.toUInt32 >>> ((16 : Int32) &&& 31).toUInt32).toInt32) &&& (15 : Int32))).toInt16.toInt32)), .val (.int (if ((((own_lo_0 ((p0 &&& (2147483647 : Int32)) % (13 : Int32))) - (2 : Int32)) + (((p1.toUInt32 >>> ((16 : Int32) &&& 31).toUInt32).toInt32) &&& (15 : Int32))).toInt16.toInt32) < (own_lo_0 ((p0 &&& (2147483647 : Int32)) % (13 : Int32))) then (0 : Int32) else (if (own_hi_0 ((p0 &&& (2147483647 : Int32)) % (13 : Int32))) < ((((own_lo_0 ((p0 &&& (2147483647 : Int32)) % (13 : Int32))) - (2 : Int32)) + (((p1.toUInt32 >>> ((16 : Int32) &&& 31).toUInt32).toInt32) &&& (15 : Int32))).toInt16.toInt32) then (0 : Int32) else (1 : Int32))))] [(.int ((own_lo_0 ((p0 &&& (2147483647 : Int32)) % (13 : Int32))).toInt16.toInt32)), (.ref b1)])) rfl (by rw [hml]; rfl) (Steps.refl _) (argsL := [(.int ((own_lo_0 ((p0 &&& (2147483647 : Int32)) % (13 : Int32))).toInt16.toInt32))]) (rest := []) (lenOf pd_2 rfl) rfl (by show 2 * 0 + _ ≤ _; exact Nat.le_of_eq rfl) (hb hby at_116) (fun _ _ => ⟨rfl, eq11, (by decide : 0 + 0 ≤ _), (by decide : 0 + 0 ≤ _)⟩)
  dsimp only [Pt.U, Pt.locs, Pt.cells, Pt.slots] at X12 l12 y12 z12 st12 hQ12
  subst l12 y12 z12
  obtain ⟨hv12, Nq12, eq12⟩ := hQ12
  subst hv12
  replace Nf := Fr.app Nf Nq12
  refine own_go (x' := T12.setTop (mkF m 119 #[.val (.int p0), .val (.int p1), .val (.int ((p0 &&& (2147483647 : Int32)) % (13 : Int32))), .val (.ref b1), .val (.int (own_lo_0 ((p0 &&& (2147483647 : Int32)) % (13 : Int32)))), .val (.int (own_hi_0 ((p0 &&& (2147483647 : Int32)) % (13 : Int32)))), .val (.int (p1.toInt16.toInt32)), .val (.int (if (p1.toInt16.toInt32) < (own_lo_0 ((p0 &&& (2147483647 : Int32)) % (13 : Int32))) then (0 : Int32) else (if (own_hi_0 ((p0 &&& (2147483647 : Int32)) % (13 : Int32))) < (p1.toInt16.toInt32) then (0 : Int32) else (1 : Int32)))), .val (.int ((((own_lo_0 ((p0 &&& (2147483647 : Int32)) % (13 : Int32))) - (2 : Int32)) + (((p1.toUInt32 >>> ((16 : Int32) &&& 31).toUInt32).toInt32) &&& (15 : Int32))).toInt16.toInt32)), .val (.int (if ((((own_lo_0 ((p0 &&& (2147483647 : Int32)) % (13 : Int32))) - (2 : Int32)) + (((p1.toUInt32 >>> ((16 : Int32) &&& 31).toUInt32).toInt32) &&& (15 : Int32))).toInt16.toInt32) < (own_lo_0 ((p0 &&& (2147483647 : Int32)) % (13 : Int32))) then (0 : Int32) else (if (own_hi_0 ((p0 &&& (2147483647 : Int32)) % (13 : Int32))) < ((((own_lo_0 ((p0 &&& (2147483647 : Int32)) % (13 : Int32))) - (2 : Int32)) + (((p1.toUInt32 >>> ((16 : Int32) &&& 31).toUInt32).toInt32) &&& (15 : Int32))).toInt16.toInt32) then (0 : Int32) else (1 : Int32))))] [(.int (own_sup ((own_lo_0 ((p0 &&& (2147483647 : Int32)) % (13 : Int32))).toInt16.toInt32) (own_lo_0 ((p0 &&& (2147483647 : Int32)) % (13 : Int32))) (own_hi_0 ((p0 &&& (2147483647 : Int32)) % (13 : Int32)))))])) (fun _ k => st12.trans k) ?_
  refine own_go (x' := T12.setTop (mkF m 128 #[.val (.int p0), .val (.int p1), .val (.int ((p0 &&& (2147483647 : Int32)) % (13 : Int32))), .val (.ref b1), .val (.int (own_lo_0 ((p0 &&& (2147483647 : Int32)) % (13 : Int32)))), .val (.int (own_hi_0 ((p0 &&& (2147483647 : Int32)) % (13 : Int32)))), .val (.int (p1.toInt16.toInt32)), .val (.int (if (p1.toInt16.toInt32) < (own_lo_0 ((p0 &&& (2147483647 : Int32)) % (13 : Int32))) then (0 : Int32) else (if (own_hi_0 ((p0 &&& (2147483647 : Int32)) % (13 : Int32))) < (p1.toInt16.toInt32) then (0 : Int32) else (1 : Int32)))), .val (.int ((((own_lo_0 ((p0 &&& (2147483647 : Int32)) % (13 : Int32))) - (2 : Int32)) + (((p1.toUInt32 >>> ((16 : Int32) &&& 31).toUInt32).toInt32) &&& (15 : Int32))).toInt16.toInt32)), .val (.int (if ((((own_lo_0 ((p0 &&& (2147483647 : Int32)) % (13 : Int32))) - (2 : Int32)) + (((p1.toUInt32 >>> ((16 : Int32) &&& 31).toUInt32).toInt32) &&& (15 : Int32))).toInt16.toInt32) < (own_lo_0 ((p0 &&& (2147483647 : Int32)) % (13 : Int32))) then (0 : Int32) else (if (own_hi_0 ((p0 &&& (2147483647 : Int32)) % (13 : Int32))) < ((((own_lo_0 ((p0 &&& (2147483647 : Int32)) % (13 : Int32))) - (2 : Int32)) + (((p1.toUInt32 >>> ((16 : Int32) &&& 31).toUInt32).toInt32) &&& (15 : Int32))).toInt16.toInt32) then (0 : Int32) else (1 : Int32))))] [(.int ((own_hi_0 ((p0 &&& (2147483647 : Int32)) % (13 : Int32))).toInt16.toInt32)), (.ref b1)])) (fun _ k => XS.ifYes X12.here hx rfl (pc0 := 119) (pc' := 124) rfl (hb hby at_119) rfl ((if0 _ _).trans (feq (own_in1 ((p0 &&& (2147483647 : Int32)) % (13 : Int32)))).2) (by decide) (by decide) (XS.aloadN X12.here hx rfl (hb hby at_124) rfl rfl (XS.iload X12.here hx rfl (hb hby at_125) rfl (XS.i2s X12.here hx rfl (hb hby at_127) rfl k)))) ?_
  obtain ⟨cq13, kq13, q13a, q13b, q13c⟩ := isOf hZ eq12 E_b1
  obtain ⟨_, _, ⟨T13, L13, k13, n13⟩, -, X13, ⟨Lc13, hQ13, l13, y13, z13⟩, st13⟩ := X12.virtualBack hx (y := (⟨"com/example/hale_log/halelog/protocol/ApiKey", "supports", "(S)Z"⟩ : MethodName)) (z := (⟨"com/example/hale_log/halelog/protocol/ApiKey", "supports", "(S)Z"⟩ : MethodName)) hown (mvT hZ (own_w hw 14 rfl)) (mvT hZ (own_w hw 15 rfl)) (notFace_of_selects (args := #[]) (mvT hZ (own_w hw 17 rfl))) (mvT hZ (own_w hw 17 rfl)) (mvT hZ (own_w hw 16 rfl)) (by decide) (backOf (W := 0) (rm4 l Z a0 hw [] b1 ((own_hi_0 ((p0 &&& (2147483647 : Int32)) % (13 : Int32))).toInt16.toInt32) (own_lo_0 ((p0 &&& (2147483647 : Int32)) % (13 : Int32))) (own_hi_0 ((p0 &&& (2147483647 : Int32)) % (13 : Int32))) h0 n0 Zs F_b1_minVersion F_b1_maxVersion) hZ (own_w hw 18 rfl) (own_w hw 6 rfl) (by decide) (by decide)) q13a q13c (g := (mkF m 128 #[.val (.int p0), .val (.int p1), .val (.int ((p0 &&& (2147483647 : Int32)) % (13 : Int32))), .val (.ref b1), .val (.int (own_lo_0 ((p0 &&& (2147483647 : Int32)) % (13 : Int32)))), .val (.int (own_hi_0 ((p0 &&& (2147483647 : Int32)) % (13 : Int32)))), .val (.int (p1.toInt16.toInt32)), .val (.int (if (p1.toInt16.toInt32) < (own_lo_0 ((p0 &&& (2147483647 : Int32)) % (13 : Int32))) then (0 : Int32) else (if (own_hi_0 ((p0 &&& (2147483647 : Int32)) % (13 : Int32))) < (p1.toInt16.toInt32) then (0 : Int32) else (1 : Int32)))), .val (.int ((((own_lo_0 ((p0 &&& (2147483647 : Int32)) % (13 : Int32))) - (2 : Int32)) + (((p1.toUInt32 >>> ((16 : Int32) &&& 31).toUInt32).toInt32) &&& (15 : Int32))).toInt16.toInt32)), .val (.int (if ((((own_lo_0 ((p0 &&& (2147483647 : Int32)) % (13 : Int32))) - (2 : Int32)) + (((p1.toUInt32 >>> ((16 : Int32) &&& 31).toUInt32).toInt32) &&& (15 : Int32))).toInt16.toInt32) < (own_lo_0 ((p0 &&& (2147483647 : Int32)) % (13 : Int32))) then (0 : Int32) else (if (own_hi_0 ((p0 &&& (2147483647 : Int32)) % (13 : Int32))) < ((((own_lo_0 ((p0 &&& (2147483647 : Int32)) % (13 : Int32))) - (2 : Int32)) + (((p1.toUInt32 >>> ((16 : Int32) &&& 31).toUInt32).toInt32) &&& (15 : Int32))).toInt16.toInt32) then (0 : Int32) else (1 : Int32))))] [(.int ((own_hi_0 ((p0 &&& (2147483647 : Int32)) % (13 : Int32))).toInt16.toInt32)), (.ref b1)])) rfl (by rw [hml]; rfl) (Steps.refl _) (argsL := [(.int ((own_hi_0 ((p0 &&& (2147483647 : Int32)) % (13 : Int32))).toInt16.toInt32))]) (rest := []) (lenOf pd_2 rfl) rfl (by show 2 * 0 + _ ≤ _; exact Nat.le_of_eq rfl) (hb hby at_128) (fun _ _ => ⟨rfl, eq12, (by decide : 0 + 0 ≤ _), (by decide : 0 + 0 ≤ _)⟩)
  dsimp only [Pt.U, Pt.locs, Pt.cells, Pt.slots] at X13 l13 y13 z13 st13 hQ13
  subst l13 y13 z13
  obtain ⟨hv13, Nq13, eq13⟩ := hQ13
  subst hv13
  replace Nf := Fr.app Nf Nq13
  refine own_go (x' := T13.setTop (mkF m 131 #[.val (.int p0), .val (.int p1), .val (.int ((p0 &&& (2147483647 : Int32)) % (13 : Int32))), .val (.ref b1), .val (.int (own_lo_0 ((p0 &&& (2147483647 : Int32)) % (13 : Int32)))), .val (.int (own_hi_0 ((p0 &&& (2147483647 : Int32)) % (13 : Int32)))), .val (.int (p1.toInt16.toInt32)), .val (.int (if (p1.toInt16.toInt32) < (own_lo_0 ((p0 &&& (2147483647 : Int32)) % (13 : Int32))) then (0 : Int32) else (if (own_hi_0 ((p0 &&& (2147483647 : Int32)) % (13 : Int32))) < (p1.toInt16.toInt32) then (0 : Int32) else (1 : Int32)))), .val (.int ((((own_lo_0 ((p0 &&& (2147483647 : Int32)) % (13 : Int32))) - (2 : Int32)) + (((p1.toUInt32 >>> ((16 : Int32) &&& 31).toUInt32).toInt32) &&& (15 : Int32))).toInt16.toInt32)), .val (.int (if ((((own_lo_0 ((p0 &&& (2147483647 : Int32)) % (13 : Int32))) - (2 : Int32)) + (((p1.toUInt32 >>> ((16 : Int32) &&& 31).toUInt32).toInt32) &&& (15 : Int32))).toInt16.toInt32) < (own_lo_0 ((p0 &&& (2147483647 : Int32)) % (13 : Int32))) then (0 : Int32) else (if (own_hi_0 ((p0 &&& (2147483647 : Int32)) % (13 : Int32))) < ((((own_lo_0 ((p0 &&& (2147483647 : Int32)) % (13 : Int32))) - (2 : Int32)) + (((p1.toUInt32 >>> ((16 : Int32) &&& 31).toUInt32).toInt32) &&& (15 : Int32))).toInt16.toInt32) then (0 : Int32) else (1 : Int32))))] [(.int (own_sup ((own_hi_0 ((p0 &&& (2147483647 : Int32)) % (13 : Int32))).toInt16.toInt32) (own_lo_0 ((p0 &&& (2147483647 : Int32)) % (13 : Int32))) (own_hi_0 ((p0 &&& (2147483647 : Int32)) % (13 : Int32)))))])) (fun _ k => st13.trans k) ?_
  refine own_go (x' := T13.setTop (mkF m 142 #[.val (.int p0), .val (.int p1), .val (.int ((p0 &&& (2147483647 : Int32)) % (13 : Int32))), .val (.ref b1), .val (.int (own_lo_0 ((p0 &&& (2147483647 : Int32)) % (13 : Int32)))), .val (.int (own_hi_0 ((p0 &&& (2147483647 : Int32)) % (13 : Int32)))), .val (.int (p1.toInt16.toInt32)), .val (.int (if (p1.toInt16.toInt32) < (own_lo_0 ((p0 &&& (2147483647 : Int32)) % (13 : Int32))) then (0 : Int32) else (if (own_hi_0 ((p0 &&& (2147483647 : Int32)) % (13 : Int32))) < (p1.toInt16.toInt32) then (0 : Int32) else (1 : Int32)))), .val (.int ((((own_lo_0 ((p0 &&& (2147483647 : Int32)) % (13 : Int32))) - (2 : Int32)) + (((p1.toUInt32 >>> ((16 : Int32) &&& 31).toUInt32).toInt32) &&& (15 : Int32))).toInt16.toInt32)), .val (.int (if ((((own_lo_0 ((p0 &&& (2147483647 : Int32)) % (13 : Int32))) - (2 : Int32)) + (((p1.toUInt32 >>> ((16 : Int32) &&& 31).toUInt32).toInt32) &&& (15 : Int32))).toInt16.toInt32) < (own_lo_0 ((p0 &&& (2147483647 : Int32)) % (13 : Int32))) then (0 : Int32) else (if (own_hi_0 ((p0 &&& (2147483647 : Int32)) % (13 : Int32))) < ((((own_lo_0 ((p0 &&& (2147483647 : Int32)) % (13 : Int32))) - (2 : Int32)) + (((p1.toUInt32 >>> ((16 : Int32) &&& 31).toUInt32).toInt32) &&& (15 : Int32))).toInt16.toInt32) then (0 : Int32) else (1 : Int32))))] [(.int (((own_lo_0 ((p0 &&& (2147483647 : Int32)) % (13 : Int32))) - (1 : Int32)).toInt16.toInt32)), (.ref b1)])) (fun _ k => XS.ifYes X13.here hx rfl (pc0 := 131) (pc' := 136) rfl (hb hby at_131) rfl ((if0 _ _).trans (feq (own_in2 ((p0 &&& (2147483647 : Int32)) % (13 : Int32)))).2) (by decide) (by decide) (XS.aloadN X13.here hx rfl (hb hby at_136) rfl rfl (XS.iload X13.here hx rfl (hb hby at_137) rfl (XS.iconst X13.here hx rfl (hb hby at_139) (XS.isub X13.here hx rfl (hb hby at_140) rfl (XS.i2s X13.here hx rfl (hb hby at_141) rfl k)))))) ?_
  obtain ⟨cq14, kq14, q14a, q14b, q14c⟩ := isOf hZ eq13 E_b1
  obtain ⟨_, _, ⟨T14, L14, k14, n14⟩, -, X14, ⟨Lc14, hQ14, l14, y14, z14⟩, st14⟩ := X13.virtualBack hx (y := (⟨"com/example/hale_log/halelog/protocol/ApiKey", "supports", "(S)Z"⟩ : MethodName)) (z := (⟨"com/example/hale_log/halelog/protocol/ApiKey", "supports", "(S)Z"⟩ : MethodName)) hown (mvT hZ (own_w hw 14 rfl)) (mvT hZ (own_w hw 15 rfl)) (notFace_of_selects (args := #[]) (mvT hZ (own_w hw 17 rfl))) (mvT hZ (own_w hw 17 rfl)) (mvT hZ (own_w hw 16 rfl)) (by decide) (backOf (W := 0) (rm4 l Z a0 hw [] b1 (((own_lo_0 ((p0 &&& (2147483647 : Int32)) % (13 : Int32))) - (1 : Int32)).toInt16.toInt32) (own_lo_0 ((p0 &&& (2147483647 : Int32)) % (13 : Int32))) (own_hi_0 ((p0 &&& (2147483647 : Int32)) % (13 : Int32))) h0 n0 Zs F_b1_minVersion F_b1_maxVersion) hZ (own_w hw 18 rfl) (own_w hw 6 rfl) (by decide) (by decide)) q14a q14c (g := (mkF m 142 #[.val (.int p0), .val (.int p1), .val (.int ((p0 &&& (2147483647 : Int32)) % (13 : Int32))), .val (.ref b1), .val (.int (own_lo_0 ((p0 &&& (2147483647 : Int32)) % (13 : Int32)))), .val (.int (own_hi_0 ((p0 &&& (2147483647 : Int32)) % (13 : Int32)))), .val (.int (p1.toInt16.toInt32)), .val (.int (if (p1.toInt16.toInt32) < (own_lo_0 ((p0 &&& (2147483647 : Int32)) % (13 : Int32))) then (0 : Int32) else (if (own_hi_0 ((p0 &&& (2147483647 : Int32)) % (13 : Int32))) < (p1.toInt16.toInt32) then (0 : Int32) else (1 : Int32)))), .val (.int ((((own_lo_0 ((p0 &&& (2147483647 : Int32)) % (13 : Int32))) - (2 : Int32)) + (((p1.toUInt32 >>> ((16 : Int32) &&& 31).toUInt32).toInt32) &&& (15 : Int32))).toInt16.toInt32)), .val (.int (if ((((own_lo_0 ((p0 &&& (2147483647 : Int32)) % (13 : Int32))) - (2 : Int32)) + (((p1.toUInt32 >>> ((16 : Int32) &&& 31).toUInt32).toInt32) &&& (15 : Int32))).toInt16.toInt32) < (own_lo_0 ((p0 &&& (2147483647 : Int32)) % (13 : Int32))) then (0 : Int32) else (if (own_hi_0 ((p0 &&& (2147483647 : Int32)) % (13 : Int32))) < ((((own_lo_0 ((p0 &&& (2147483647 : Int32)) % (13 : Int32))) - (2 : Int32)) + (((p1.toUInt32 >>> ((16 : Int32) &&& 31).toUInt32).toInt32) &&& (15 : Int32))).toInt16.toInt32) then (0 : Int32) else (1 : Int32))))] [(.int (((own_lo_0 ((p0 &&& (2147483647 : Int32)) % (13 : Int32))) - (1 : Int32)).toInt16.toInt32)), (.ref b1)])) rfl (by rw [hml]; rfl) (Steps.refl _) (argsL := [(.int (((own_lo_0 ((p0 &&& (2147483647 : Int32)) % (13 : Int32))) - (1 : Int32)).toInt16.toInt32))]) (rest := []) (lenOf pd_2 rfl) rfl (by show 2 * 0 + _ ≤ _; exact Nat.le_of_eq rfl) (hb hby at_142) (fun _ _ => ⟨rfl, eq13, (by decide : 0 + 0 ≤ _), (by decide : 0 + 0 ≤ _)⟩)
  dsimp only [Pt.U, Pt.locs, Pt.cells, Pt.slots] at X14 l14 y14 z14 st14 hQ14
  subst l14 y14 z14
  obtain ⟨hv14, Nq14, eq14⟩ := hQ14
  subst hv14
  replace Nf := Fr.app Nf Nq14
  refine own_go (x' := T14.setTop (mkF m 145 #[.val (.int p0), .val (.int p1), .val (.int ((p0 &&& (2147483647 : Int32)) % (13 : Int32))), .val (.ref b1), .val (.int (own_lo_0 ((p0 &&& (2147483647 : Int32)) % (13 : Int32)))), .val (.int (own_hi_0 ((p0 &&& (2147483647 : Int32)) % (13 : Int32)))), .val (.int (p1.toInt16.toInt32)), .val (.int (if (p1.toInt16.toInt32) < (own_lo_0 ((p0 &&& (2147483647 : Int32)) % (13 : Int32))) then (0 : Int32) else (if (own_hi_0 ((p0 &&& (2147483647 : Int32)) % (13 : Int32))) < (p1.toInt16.toInt32) then (0 : Int32) else (1 : Int32)))), .val (.int ((((own_lo_0 ((p0 &&& (2147483647 : Int32)) % (13 : Int32))) - (2 : Int32)) + (((p1.toUInt32 >>> ((16 : Int32) &&& 31).toUInt32).toInt32) &&& (15 : Int32))).toInt16.toInt32)), .val (.int (if ((((own_lo_0 ((p0 &&& (2147483647 : Int32)) % (13 : Int32))) - (2 : Int32)) + (((p1.toUInt32 >>> ((16 : Int32) &&& 31).toUInt32).toInt32) &&& (15 : Int32))).toInt16.toInt32) < (own_lo_0 ((p0 &&& (2147483647 : Int32)) % (13 : Int32))) then (0 : Int32) else (if (own_hi_0 ((p0 &&& (2147483647 : Int32)) % (13 : Int32))) < ((((own_lo_0 ((p0 &&& (2147483647 : Int32)) % (13 : Int32))) - (2 : Int32)) + (((p1.toUInt32 >>> ((16 : Int32) &&& 31).toUInt32).toInt32) &&& (15 : Int32))).toInt16.toInt32) then (0 : Int32) else (1 : Int32))))] [(.int (own_sup (((own_lo_0 ((p0 &&& (2147483647 : Int32)) % (13 : Int32))) - (1 : Int32)).toInt16.toInt32) (own_lo_0 ((p0 &&& (2147483647 : Int32)) % (13 : Int32))) (own_hi_0 ((p0 &&& (2147483647 : Int32)) % (13 : Int32)))))])) (fun _ k => st14.trans k) ?_
  refine own_go (x' := T14.setTop (mkF m 156 #[.val (.int p0), .val (.int p1), .val (.int ((p0 &&& (2147483647 : Int32)) % (13 : Int32))), .val (.ref b1), .val (.int (own_lo_0 ((p0 &&& (2147483647 : Int32)) % (13 : Int32)))), .val (.int (own_hi_0 ((p0 &&& (2147483647 : Int32)) % (13 : Int32)))), .val (.int (p1.toInt16.toInt32)), .val (.int (if (p1.toInt16.toInt32) < (own_lo_0 ((p0 &&& (2147483647 : Int32)) % (13 : Int32))) then (0 : Int32) else (if (own_hi_0 ((p0 &&& (2147483647 : Int32)) % (13 : Int32))) < (p1.toInt16.toInt32) then (0 : Int32) else (1 : Int32)))), .val (.int ((((own_lo_0 ((p0 &&& (2147483647 : Int32)) % (13 : Int32))) - (2 : Int32)) + (((p1.toUInt32 >>> ((16 : Int32) &&& 31).toUInt32).toInt32) &&& (15 : Int32))).toInt16.toInt32)), .val (.int (if ((((own_lo_0 ((p0 &&& (2147483647 : Int32)) % (13 : Int32))) - (2 : Int32)) + (((p1.toUInt32 >>> ((16 : Int32) &&& 31).toUInt32).toInt32) &&& (15 : Int32))).toInt16.toInt32) < (own_lo_0 ((p0 &&& (2147483647 : Int32)) % (13 : Int32))) then (0 : Int32) else (if (own_hi_0 ((p0 &&& (2147483647 : Int32)) % (13 : Int32))) < ((((own_lo_0 ((p0 &&& (2147483647 : Int32)) % (13 : Int32))) - (2 : Int32)) + (((p1.toUInt32 >>> ((16 : Int32) &&& 31).toUInt32).toInt32) &&& (15 : Int32))).toInt16.toInt32) then (0 : Int32) else (1 : Int32))))] [(.int (((own_hi_0 ((p0 &&& (2147483647 : Int32)) % (13 : Int32))) + (1 : Int32)).toInt16.toInt32)), (.ref b1)])) (fun _ k => XS.ifYes X14.here hx rfl (pc0 := 145) (pc' := 150) rfl (hb hby at_145) rfl ((if0 _ _).trans (teq (own_out1 ((p0 &&& (2147483647 : Int32)) % (13 : Int32)))).1) (by decide) (by decide) (XS.aloadN X14.here hx rfl (hb hby at_150) rfl rfl (XS.iload X14.here hx rfl (hb hby at_151) rfl (XS.iconst X14.here hx rfl (hb hby at_153) (XS.iadd X14.here hx rfl (hb hby at_154) rfl (XS.i2s X14.here hx rfl (hb hby at_155) rfl k)))))) ?_
  obtain ⟨cq15, kq15, q15a, q15b, q15c⟩ := isOf hZ eq14 E_b1
  obtain ⟨_, _, ⟨T15, L15, k15, n15⟩, -, X15, ⟨Lc15, hQ15, l15, y15, z15⟩, st15⟩ := X14.virtualBack hx (y := (⟨"com/example/hale_log/halelog/protocol/ApiKey", "supports", "(S)Z"⟩ : MethodName)) (z := (⟨"com/example/hale_log/halelog/protocol/ApiKey", "supports", "(S)Z"⟩ : MethodName)) hown (mvT hZ (own_w hw 14 rfl)) (mvT hZ (own_w hw 15 rfl)) (notFace_of_selects (args := #[]) (mvT hZ (own_w hw 17 rfl))) (mvT hZ (own_w hw 17 rfl)) (mvT hZ (own_w hw 16 rfl)) (by decide) (backOf (W := 0) (rm4 l Z a0 hw [] b1 (((own_hi_0 ((p0 &&& (2147483647 : Int32)) % (13 : Int32))) + (1 : Int32)).toInt16.toInt32) (own_lo_0 ((p0 &&& (2147483647 : Int32)) % (13 : Int32))) (own_hi_0 ((p0 &&& (2147483647 : Int32)) % (13 : Int32))) h0 n0 Zs F_b1_minVersion F_b1_maxVersion) hZ (own_w hw 18 rfl) (own_w hw 6 rfl) (by decide) (by decide)) q15a q15c (g := (mkF m 156 #[.val (.int p0), .val (.int p1), .val (.int ((p0 &&& (2147483647 : Int32)) % (13 : Int32))), .val (.ref b1), .val (.int (own_lo_0 ((p0 &&& (2147483647 : Int32)) % (13 : Int32)))), .val (.int (own_hi_0 ((p0 &&& (2147483647 : Int32)) % (13 : Int32)))), .val (.int (p1.toInt16.toInt32)), .val (.int (if (p1.toInt16.toInt32) < (own_lo_0 ((p0 &&& (2147483647 : Int32)) % (13 : Int32))) then (0 : Int32) else (if (own_hi_0 ((p0 &&& (2147483647 : Int32)) % (13 : Int32))) < (p1.toInt16.toInt32) then (0 : Int32) else (1 : Int32)))), .val (.int ((((own_lo_0 ((p0 &&& (2147483647 : Int32)) % (13 : Int32))) - (2 : Int32)) + (((p1.toUInt32 >>> ((16 : Int32) &&& 31).toUInt32).toInt32) &&& (15 : Int32))).toInt16.toInt32)), .val (.int (if ((((own_lo_0 ((p0 &&& (2147483647 : Int32)) % (13 : Int32))) - (2 : Int32)) + (((p1.toUInt32 >>> ((16 : Int32) &&& 31).toUInt32).toInt32) &&& (15 : Int32))).toInt16.toInt32) < (own_lo_0 ((p0 &&& (2147483647 : Int32)) % (13 : Int32))) then (0 : Int32) else (if (own_hi_0 ((p0 &&& (2147483647 : Int32)) % (13 : Int32))) < ((((own_lo_0 ((p0 &&& (2147483647 : Int32)) % (13 : Int32))) - (2 : Int32)) + (((p1.toUInt32 >>> ((16 : Int32) &&& 31).toUInt32).toInt32) &&& (15 : Int32))).toInt16.toInt32) then (0 : Int32) else (1 : Int32))))] [(.int (((own_hi_0 ((p0 &&& (2147483647 : Int32)) % (13 : Int32))) + (1 : Int32)).toInt16.toInt32)), (.ref b1)])) rfl (by rw [hml]; rfl) (Steps.refl _) (argsL := [(.int (((own_hi_0 ((p0 &&& (2147483647 : Int32)) % (13 : Int32))) + (1 : Int32)).toInt16.toInt32))]) (rest := []) (lenOf pd_2 rfl) rfl (by show 2 * 0 + _ ≤ _; exact Nat.le_of_eq rfl) (hb hby at_156) (fun _ _ => ⟨rfl, eq14, (by decide : 0 + 0 ≤ _), (by decide : 0 + 0 ≤ _)⟩)
  dsimp only [Pt.U, Pt.locs, Pt.cells, Pt.slots] at X15 l15 y15 z15 st15 hQ15
  subst l15 y15 z15
  obtain ⟨hv15, Nq15, eq15⟩ := hQ15
  subst hv15
  replace Nf := Fr.app Nf Nq15
  refine own_go (x' := T15.setTop (mkF m 159 #[.val (.int p0), .val (.int p1), .val (.int ((p0 &&& (2147483647 : Int32)) % (13 : Int32))), .val (.ref b1), .val (.int (own_lo_0 ((p0 &&& (2147483647 : Int32)) % (13 : Int32)))), .val (.int (own_hi_0 ((p0 &&& (2147483647 : Int32)) % (13 : Int32)))), .val (.int (p1.toInt16.toInt32)), .val (.int (if (p1.toInt16.toInt32) < (own_lo_0 ((p0 &&& (2147483647 : Int32)) % (13 : Int32))) then (0 : Int32) else (if (own_hi_0 ((p0 &&& (2147483647 : Int32)) % (13 : Int32))) < (p1.toInt16.toInt32) then (0 : Int32) else (1 : Int32)))), .val (.int ((((own_lo_0 ((p0 &&& (2147483647 : Int32)) % (13 : Int32))) - (2 : Int32)) + (((p1.toUInt32 >>> ((16 : Int32) &&& 31).toUInt32).toInt32) &&& (15 : Int32))).toInt16.toInt32)), .val (.int (if ((((own_lo_0 ((p0 &&& (2147483647 : Int32)) % (13 : Int32))) - (2 : Int32)) + (((p1.toUInt32 >>> ((16 : Int32) &&& 31).toUInt32).toInt32) &&& (15 : Int32))).toInt16.toInt32) < (own_lo_0 ((p0 &&& (2147483647 : Int32)) % (13 : Int32))) then (0 : Int32) else (if (own_hi_0 ((p0 &&& (2147483647 : Int32)) % (13 : Int32))) < ((((own_lo_0 ((p0 &&& (2147483647 : Int32)) % (13 : Int32))) - (2 : Int32)) + (((p1.toUInt32 >>> ((16 : Int32) &&& 31).toUInt32).toInt32) &&& (15 : Int32))).toInt16.toInt32) then (0 : Int32) else (1 : Int32))))] [(.int (own_sup (((own_hi_0 ((p0 &&& (2147483647 : Int32)) % (13 : Int32))) + (1 : Int32)).toInt16.toInt32) (own_lo_0 ((p0 &&& (2147483647 : Int32)) % (13 : Int32))) (own_hi_0 ((p0 &&& (2147483647 : Int32)) % (13 : Int32)))))])) (fun _ k => st15.trans k) ?_
  refine own_go (x' := T15.setTop (mkF m 165 #[.val (.int p0), .val (.int p1), .val (.int ((p0 &&& (2147483647 : Int32)) % (13 : Int32))), .val (.ref b1), .val (.int (own_lo_0 ((p0 &&& (2147483647 : Int32)) % (13 : Int32)))), .val (.int (own_hi_0 ((p0 &&& (2147483647 : Int32)) % (13 : Int32)))), .val (.int (p1.toInt16.toInt32)), .val (.int (if (p1.toInt16.toInt32) < (own_lo_0 ((p0 &&& (2147483647 : Int32)) % (13 : Int32))) then (0 : Int32) else (if (own_hi_0 ((p0 &&& (2147483647 : Int32)) % (13 : Int32))) < (p1.toInt16.toInt32) then (0 : Int32) else (1 : Int32)))), .val (.int ((((own_lo_0 ((p0 &&& (2147483647 : Int32)) % (13 : Int32))) - (2 : Int32)) + (((p1.toUInt32 >>> ((16 : Int32) &&& 31).toUInt32).toInt32) &&& (15 : Int32))).toInt16.toInt32)), .val (.int (if ((((own_lo_0 ((p0 &&& (2147483647 : Int32)) % (13 : Int32))) - (2 : Int32)) + (((p1.toUInt32 >>> ((16 : Int32) &&& 31).toUInt32).toInt32) &&& (15 : Int32))).toInt16.toInt32) < (own_lo_0 ((p0 &&& (2147483647 : Int32)) % (13 : Int32))) then (0 : Int32) else (if (own_hi_0 ((p0 &&& (2147483647 : Int32)) % (13 : Int32))) < ((((own_lo_0 ((p0 &&& (2147483647 : Int32)) % (13 : Int32))) - (2 : Int32)) + (((p1.toUInt32 >>> ((16 : Int32) &&& 31).toUInt32).toInt32) &&& (15 : Int32))).toInt16.toInt32) then (0 : Int32) else (1 : Int32))))] [(.int (1 : Int32))])) (fun _ k => XS.ifYes X15.here hx rfl (pc0 := 159) (pc' := 164) rfl (hb hby at_159) rfl ((if0 _ _).trans (teq (own_out2 ((p0 &&& (2147483647 : Int32)) % (13 : Int32)))).1) (by decide) (by decide) (XS.iconst X15.here hx rfl (hb hby at_164) k)) ?_
  refine own_retN X15 hx hlk (t := .boolean) hret (by simp) (hb hby at_165) (w := (1 : Int32)) rfl ?_ (by decide) (by decide)
  rw [eq15]
  exact ⟨rfl, Nf⟩
set_option maxRecDepth 65536 in
set_option maxHeartbeats 40000000 in
theorem comes_1 {Post : Tables → Env → Array Value → State → Outcome → State → Prop} (hpost : ∀ tb e args s v u, (limb_1_1.after args s (.returned v) u = true ∧ limb_1_2.after args s (.returned v) u = true ∧ True) → FrameEnd s (.returned v) u (Jvm.fieldLocs frame_1_writes args s ++ Jvm.arrayLocs frame_1_arrays args s ++ Jvm.staticLocs frame_1_statics s) 0 0 → Post tb e args s (.returned v) u) :
    ArmFor flags0 classFile x code maxLocals ret World_1 tables_1 room_1 Calls_1 rest_1 Pre_1 Post := by
  intro l hfl _ _ p e ha hc hk s m args below hf hA hF happ hP
  obtain ⟨hcalls, hrest, hpre⟩ := hP
  obtain ⟨-, -, -, hnamed, -, -, -, hat⟩ := (Spec.applies_iff hf).mp happ
  obtain ⟨hg, hn⟩ := and_e (Cond.before_iff.mp (show (Jvm.Cond.and given_1 narrow_1).before args s = true from hpre))
  obtain ⟨gg1, gg2⟩ := and_e hg
  obtain ⟨gg3, gg4⟩ := and_e gg2
  obtain ⟨w0, w1, rfl⟩ : ∃ w0 w1 : Value, args = #[w0, w1] := by
    have hs : args.size = 2 := by simpa [Cond.value, given_1] using gg1
    obtain ⟨L⟩ := args
    match L, hs with
    | [w0, w1], _ => exact ⟨w0, w1, rfl⟩
  have hw := fun d (hd : d ∈ tables_1) => atoms_spec (ws := Jvm.Cond.code x code maxLocals ret :: tables_1) hat d (List.mem_cons_of_mem _ hd)
  have hfit : Fit s := fun {y c} hc i hi => by
    obtain ⟨ha, rfl⟩ := Array.getElem?_eq_some_iff.mp hc
    have q := List.all_eq_true.mp ((Array.all_eq_true_iff_forall_mem.mp hF) _ (Array.getElem_mem ha)) i (List.mem_range.mpr hi)
    simpa [Array.getElem?_eq_getElem hi] using q
  obtain ⟨i0, ei0⟩ := is_v gg3
  obtain rfl : w0 = (.int i0) := Option.some.inj ei0
  obtain ⟨i1, ei1⟩ := is_v gg4
  obtain rfl : w1 = (.int i1) := Option.some.inj ei1
  obtain ⟨hn1, hn2⟩ := and_e hn
  obtain ⟨hn3, hn4⟩ := and_e hn2
  obtain ⟨hn5, hn6⟩ := and_e hn4
  obtain ⟨hn7, hn8⟩ := and_e hn6
  obtain ⟨hn9, hn10⟩ := and_e hn8
  obtain ⟨hn11, hn12⟩ := and_e hn10
  obtain ⟨hn13, hn14⟩ := and_e hn12
  obtain ⟨hn15, hn16⟩ := and_e hn14
  obtain ⟨hn17, hn18⟩ := and_e hn16
  obtain ⟨hn19, hn20⟩ := and_e hn18
  obtain ⟨hn21, hn22⟩ := and_e hn20
  obtain ⟨hn23, hn24⟩ := and_e hn22
  obtain ⟨hn25, hn26⟩ := and_e hn24
  obtain ⟨hn27, hn28⟩ := and_e hn26
  obtain ⟨hn29, hn30⟩ := and_e hn28
  obtain ⟨hn31, hn32⟩ := and_e hn30
  obtain ⟨hn33, hn34⟩ := and_e hn32
  obtain ⟨hn35, hn36⟩ := and_e hn34
  obtain ⟨hn37, hn38⟩ := and_e hn36
  obtain ⟨hn39, hn40⟩ := and_e hn38
  obtain ⟨hn41, hn42⟩ := and_e hn40
  obtain ⟨hn43, hn44⟩ := and_e hn42
  obtain ⟨hn45, hn46⟩ := and_e hn44
  obtain ⟨hn47, hn48⟩ := and_e hn46
  obtain ⟨hn49, hn50⟩ := and_e hn48
  obtain ⟨hn51, hn52⟩ := and_e hn50
  obtain ⟨hn53, hn54⟩ := and_e hn52
  obtain ⟨hn55, hn56⟩ := and_e hn54
  obtain ⟨hn57, hn58⟩ := and_e hn56
  obtain ⟨hn59, hn60⟩ := and_e hn58
  obtain ⟨hn61, hn62⟩ := and_e hn60
  obtain ⟨hn63, hn64⟩ := and_e hn62
  obtain ⟨hn65, hn66⟩ := and_e hn64
  obtain ⟨hn67, hn68⟩ := and_e hn66
  obtain ⟨hn69, hn70⟩ := and_e hn68
  obtain ⟨hn71, hn72⟩ := and_e hn70
  obtain ⟨hn73, hn74⟩ := and_e hn72
  obtain ⟨hn75, hn76⟩ := and_e hn74
  obtain ⟨a_PRODUCE, ev_PRODUCE⟩ := exa_v hn1
  have S_PRODUCE : Sta s s.heap "com/example/hale_log/halelog/protocol/ApiKey" "PRODUCE" "Lcom/example/hale_log/halelog/protocol/ApiKey;" (.ref a_PRODUCE) := Sta.start ev_PRODUCE (Or.inr ⟨(own_w hw 6 rfl), (own_w hw 7 rfl)⟩)
  have E_a_PRODUCE : Exa s s.heap a_PRODUCE "com/example/hale_log/halelog/protocol/ApiKey" := Exa.start ev_PRODUCE hn1
  obtain ⟨a_FETCH, ev_FETCH⟩ := exa_v hn7
  have S_FETCH : Sta s s.heap "com/example/hale_log/halelog/protocol/ApiKey" "FETCH" "Lcom/example/hale_log/halelog/protocol/ApiKey;" (.ref a_FETCH) := Sta.start ev_FETCH (Or.inr ⟨(own_w hw 6 rfl), (own_w hw 24 rfl)⟩)
  have E_a_FETCH : Exa s s.heap a_FETCH "com/example/hale_log/halelog/protocol/ApiKey" := Exa.start ev_FETCH hn7
  obtain ⟨a_OFFSET_COMMIT, ev_OFFSET_COMMIT⟩ := exa_v hn13
  have S_OFFSET_COMMIT : Sta s s.heap "com/example/hale_log/halelog/protocol/ApiKey" "OFFSET_COMMIT" "Lcom/example/hale_log/halelog/protocol/ApiKey;" (.ref a_OFFSET_COMMIT) := Sta.start ev_OFFSET_COMMIT (Or.inr ⟨(own_w hw 6 rfl), (own_w hw 26 rfl)⟩)
  have E_a_OFFSET_COMMIT : Exa s s.heap a_OFFSET_COMMIT "com/example/hale_log/halelog/protocol/ApiKey" := Exa.start ev_OFFSET_COMMIT hn13
  obtain ⟨a_METADATA, ev_METADATA⟩ := exa_v hn19
  have S_METADATA : Sta s s.heap "com/example/hale_log/halelog/protocol/ApiKey" "METADATA" "Lcom/example/hale_log/halelog/protocol/ApiKey;" (.ref a_METADATA) := Sta.start ev_METADATA (Or.inr ⟨(own_w hw 6 rfl), (own_w hw 28 rfl)⟩)
  have E_a_METADATA : Exa s s.heap a_METADATA "com/example/hale_log/halelog/protocol/ApiKey" := Exa.start ev_METADATA hn19
  obtain ⟨a_LEAVE_GROUP, ev_LEAVE_GROUP⟩ := exa_v hn25
  have S_LEAVE_GROUP : Sta s s.heap "com/example/hale_log/halelog/protocol/ApiKey" "LEAVE_GROUP" "Lcom/example/hale_log/halelog/protocol/ApiKey;" (.ref a_LEAVE_GROUP) := Sta.start ev_LEAVE_GROUP (Or.inr ⟨(own_w hw 6 rfl), (own_w hw 30 rfl)⟩)
  have E_a_LEAVE_GROUP : Exa s s.heap a_LEAVE_GROUP "com/example/hale_log/halelog/protocol/ApiKey" := Exa.start ev_LEAVE_GROUP hn25
  obtain ⟨a_OFFSET_FETCH, ev_OFFSET_FETCH⟩ := exa_v hn31
  have S_OFFSET_FETCH : Sta s s.heap "com/example/hale_log/halelog/protocol/ApiKey" "OFFSET_FETCH" "Lcom/example/hale_log/halelog/protocol/ApiKey;" (.ref a_OFFSET_FETCH) := Sta.start ev_OFFSET_FETCH (Or.inr ⟨(own_w hw 6 rfl), (own_w hw 32 rfl)⟩)
  have E_a_OFFSET_FETCH : Exa s s.heap a_OFFSET_FETCH "com/example/hale_log/halelog/protocol/ApiKey" := Exa.start ev_OFFSET_FETCH hn31
  obtain ⟨a_FIND_COORDINATOR, ev_FIND_COORDINATOR⟩ := exa_v hn37
  have S_FIND_COORDINATOR : Sta s s.heap "com/example/hale_log/halelog/protocol/ApiKey" "FIND_COORDINATOR" "Lcom/example/hale_log/halelog/protocol/ApiKey;" (.ref a_FIND_COORDINATOR) := Sta.start ev_FIND_COORDINATOR (Or.inr ⟨(own_w hw 6 rfl), (own_w hw 34 rfl)⟩)
  have E_a_FIND_COORDINATOR : Exa s s.heap a_FIND_COORDINATOR "com/example/hale_log/halelog/protocol/ApiKey" := Exa.start ev_FIND_COORDINATOR hn37
  obtain ⟨a_HEARTBEAT, ev_HEARTBEAT⟩ := exa_v hn43
  have S_HEARTBEAT : Sta s s.heap "com/example/hale_log/halelog/protocol/ApiKey" "HEARTBEAT" "Lcom/example/hale_log/halelog/protocol/ApiKey;" (.ref a_HEARTBEAT) := Sta.start ev_HEARTBEAT (Or.inr ⟨(own_w hw 6 rfl), (own_w hw 36 rfl)⟩)
  have E_a_HEARTBEAT : Exa s s.heap a_HEARTBEAT "com/example/hale_log/halelog/protocol/ApiKey" := Exa.start ev_HEARTBEAT hn43
  obtain ⟨a_INIT_PRODUCER_ID, ev_INIT_PRODUCER_ID⟩ := exa_v hn49
  have S_INIT_PRODUCER_ID : Sta s s.heap "com/example/hale_log/halelog/protocol/ApiKey" "INIT_PRODUCER_ID" "Lcom/example/hale_log/halelog/protocol/ApiKey;" (.ref a_INIT_PRODUCER_ID) := Sta.start ev_INIT_PRODUCER_ID (Or.inr ⟨(own_w hw 6 rfl), (own_w hw 38 rfl)⟩)
  have E_a_INIT_PRODUCER_ID : Exa s s.heap a_INIT_PRODUCER_ID "com/example/hale_log/halelog/protocol/ApiKey" := Exa.start ev_INIT_PRODUCER_ID hn49
  obtain ⟨a_LIST_OFFSETS, ev_LIST_OFFSETS⟩ := exa_v hn55
  have S_LIST_OFFSETS : Sta s s.heap "com/example/hale_log/halelog/protocol/ApiKey" "LIST_OFFSETS" "Lcom/example/hale_log/halelog/protocol/ApiKey;" (.ref a_LIST_OFFSETS) := Sta.start ev_LIST_OFFSETS (Or.inr ⟨(own_w hw 6 rfl), (own_w hw 40 rfl)⟩)
  have E_a_LIST_OFFSETS : Exa s s.heap a_LIST_OFFSETS "com/example/hale_log/halelog/protocol/ApiKey" := Exa.start ev_LIST_OFFSETS hn55
  obtain ⟨a_SYNC_GROUP, ev_SYNC_GROUP⟩ := exa_v hn61
  have S_SYNC_GROUP : Sta s s.heap "com/example/hale_log/halelog/protocol/ApiKey" "SYNC_GROUP" "Lcom/example/hale_log/halelog/protocol/ApiKey;" (.ref a_SYNC_GROUP) := Sta.start ev_SYNC_GROUP (Or.inr ⟨(own_w hw 6 rfl), (own_w hw 42 rfl)⟩)
  have E_a_SYNC_GROUP : Exa s s.heap a_SYNC_GROUP "com/example/hale_log/halelog/protocol/ApiKey" := Exa.start ev_SYNC_GROUP hn61
  obtain ⟨a_API_VERSIONS, ev_API_VERSIONS⟩ := exa_v hn67
  have S_API_VERSIONS : Sta s s.heap "com/example/hale_log/halelog/protocol/ApiKey" "API_VERSIONS" "Lcom/example/hale_log/halelog/protocol/ApiKey;" (.ref a_API_VERSIONS) := Sta.start ev_API_VERSIONS (Or.inr ⟨(own_w hw 6 rfl), (own_w hw 44 rfl)⟩)
  have E_a_API_VERSIONS : Exa s s.heap a_API_VERSIONS "com/example/hale_log/halelog/protocol/ApiKey" := Exa.start ev_API_VERSIONS hn67
  obtain ⟨a_JOIN_GROUP, ev_JOIN_GROUP⟩ := exa_v hn73
  have S_JOIN_GROUP : Sta s s.heap "com/example/hale_log/halelog/protocol/ApiKey" "JOIN_GROUP" "Lcom/example/hale_log/halelog/protocol/ApiKey;" (.ref a_JOIN_GROUP) := Sta.start ev_JOIN_GROUP (Or.inr ⟨(own_w hw 6 rfl), (own_w hw 46 rfl)⟩)
  have E_a_JOIN_GROUP : Exa s s.heap a_JOIN_GROUP "com/example/hale_log/halelog/protocol/ApiKey" := Exa.start ev_JOIN_GROUP hn73
  have F_a_PRODUCE_minVersion : Fld s s.heap a_PRODUCE "com/example/hale_log/halelog/protocol/ApiKey" "minVersion" "S" (.int (0 : Int32)) := own_fldI ev_PRODUCE hn3
  have F_a_PRODUCE_maxVersion : Fld s s.heap a_PRODUCE "com/example/hale_log/halelog/protocol/ApiKey" "maxVersion" "S" (.int (7 : Int32)) := own_fldI ev_PRODUCE hn5
  have F_a_FETCH_minVersion : Fld s s.heap a_FETCH "com/example/hale_log/halelog/protocol/ApiKey" "minVersion" "S" (.int (4 : Int32)) := own_fldI ev_FETCH hn9
  have F_a_FETCH_maxVersion : Fld s s.heap a_FETCH "com/example/hale_log/halelog/protocol/ApiKey" "maxVersion" "S" (.int (11 : Int32)) := own_fldI ev_FETCH hn11
  have F_a_OFFSET_COMMIT_minVersion : Fld s s.heap a_OFFSET_COMMIT "com/example/hale_log/halelog/protocol/ApiKey" "minVersion" "S" (.int (2 : Int32)) := own_fldI ev_OFFSET_COMMIT hn15
  have F_a_OFFSET_COMMIT_maxVersion : Fld s s.heap a_OFFSET_COMMIT "com/example/hale_log/halelog/protocol/ApiKey" "maxVersion" "S" (.int (7 : Int32)) := own_fldI ev_OFFSET_COMMIT hn17
  have F_a_METADATA_minVersion : Fld s s.heap a_METADATA "com/example/hale_log/halelog/protocol/ApiKey" "minVersion" "S" (.int (1 : Int32)) := own_fldI ev_METADATA hn21
  have F_a_METADATA_maxVersion : Fld s s.heap a_METADATA "com/example/hale_log/halelog/protocol/ApiKey" "maxVersion" "S" (.int (4 : Int32)) := own_fldI ev_METADATA hn23
  have F_a_LEAVE_GROUP_minVersion : Fld s s.heap a_LEAVE_GROUP "com/example/hale_log/halelog/protocol/ApiKey" "minVersion" "S" (.int (0 : Int32)) := own_fldI ev_LEAVE_GROUP hn27
  have F_a_LEAVE_GROUP_maxVersion : Fld s s.heap a_LEAVE_GROUP "com/example/hale_log/halelog/protocol/ApiKey" "maxVersion" "S" (.int (2 : Int32)) := own_fldI ev_LEAVE_GROUP hn29
  have F_a_OFFSET_FETCH_minVersion : Fld s s.heap a_OFFSET_FETCH "com/example/hale_log/halelog/protocol/ApiKey" "minVersion" "S" (.int (1 : Int32)) := own_fldI ev_OFFSET_FETCH hn33
  have F_a_OFFSET_FETCH_maxVersion : Fld s s.heap a_OFFSET_FETCH "com/example/hale_log/halelog/protocol/ApiKey" "maxVersion" "S" (.int (7 : Int32)) := own_fldI ev_OFFSET_FETCH hn35
  have F_a_FIND_COORDINATOR_minVersion : Fld s s.heap a_FIND_COORDINATOR "com/example/hale_log/halelog/protocol/ApiKey" "minVersion" "S" (.int (0 : Int32)) := own_fldI ev_FIND_COORDINATOR hn39
  have F_a_FIND_COORDINATOR_maxVersion : Fld s s.heap a_FIND_COORDINATOR "com/example/hale_log/halelog/protocol/ApiKey" "maxVersion" "S" (.int (2 : Int32)) := own_fldI ev_FIND_COORDINATOR hn41
  have F_a_HEARTBEAT_minVersion : Fld s s.heap a_HEARTBEAT "com/example/hale_log/halelog/protocol/ApiKey" "minVersion" "S" (.int (0 : Int32)) := own_fldI ev_HEARTBEAT hn45
  have F_a_HEARTBEAT_maxVersion : Fld s s.heap a_HEARTBEAT "com/example/hale_log/halelog/protocol/ApiKey" "maxVersion" "S" (.int (3 : Int32)) := own_fldI ev_HEARTBEAT hn47
  have F_a_INIT_PRODUCER_ID_minVersion : Fld s s.heap a_INIT_PRODUCER_ID "com/example/hale_log/halelog/protocol/ApiKey" "minVersion" "S" (.int (0 : Int32)) := own_fldI ev_INIT_PRODUCER_ID hn51
  have F_a_INIT_PRODUCER_ID_maxVersion : Fld s s.heap a_INIT_PRODUCER_ID "com/example/hale_log/halelog/protocol/ApiKey" "maxVersion" "S" (.int (4 : Int32)) := own_fldI ev_INIT_PRODUCER_ID hn53
  have F_a_LIST_OFFSETS_minVersion : Fld s s.heap a_LIST_OFFSETS "com/example/hale_log/halelog/protocol/ApiKey" "minVersion" "S" (.int (1 : Int32)) := own_fldI ev_LIST_OFFSETS hn57
  have F_a_LIST_OFFSETS_maxVersion : Fld s s.heap a_LIST_OFFSETS "com/example/hale_log/halelog/protocol/ApiKey" "maxVersion" "S" (.int (2 : Int32)) := own_fldI ev_LIST_OFFSETS hn59
  have F_a_SYNC_GROUP_minVersion : Fld s s.heap a_SYNC_GROUP "com/example/hale_log/halelog/protocol/ApiKey" "minVersion" "S" (.int (0 : Int32)) := own_fldI ev_SYNC_GROUP hn63
  have F_a_SYNC_GROUP_maxVersion : Fld s s.heap a_SYNC_GROUP "com/example/hale_log/halelog/protocol/ApiKey" "maxVersion" "S" (.int (3 : Int32)) := own_fldI ev_SYNC_GROUP hn65
  have F_a_API_VERSIONS_minVersion : Fld s s.heap a_API_VERSIONS "com/example/hale_log/halelog/protocol/ApiKey" "minVersion" "S" (.int (0 : Int32)) := own_fldI ev_API_VERSIONS hn69
  have F_a_API_VERSIONS_maxVersion : Fld s s.heap a_API_VERSIONS "com/example/hale_log/halelog/protocol/ApiKey" "maxVersion" "S" (.int (3 : Int32)) := own_fldI ev_API_VERSIONS hn71
  have F_a_JOIN_GROUP_minVersion : Fld s s.heap a_JOIN_GROUP "com/example/hale_log/halelog/protocol/ApiKey" "minVersion" "S" (.int (0 : Int32)) := own_fldI ev_JOIN_GROUP hn75
  have F_a_JOIN_GROUP_maxVersion : Fld s s.heap a_JOIN_GROUP "com/example/hale_log/halelog/protocol/ApiKey" "maxVersion" "S" (.int (5 : Int32)) := own_fldI ev_JOIN_GROUP hn76
  obtain ⟨n, o, h1, h2, h3, _, L, rfl, ⟨rfl, N⟩, hq⟩ := rm0 l s _ hw tables_1 i0 i1  s.heap s.heap.size (Nat.le_refl _) ⟨a_PRODUCE, S_PRODUCE, E_a_PRODUCE, F_a_PRODUCE_minVersion, F_a_PRODUCE_maxVersion⟩ ⟨a_FETCH, S_FETCH, E_a_FETCH, F_a_FETCH_minVersion, F_a_FETCH_maxVersion⟩ ⟨a_LIST_OFFSETS, S_LIST_OFFSETS, E_a_LIST_OFFSETS, F_a_LIST_OFFSETS_minVersion, F_a_LIST_OFFSETS_maxVersion⟩ ⟨a_METADATA, S_METADATA, E_a_METADATA, F_a_METADATA_minVersion, F_a_METADATA_maxVersion⟩ ⟨a_OFFSET_COMMIT, S_OFFSET_COMMIT, E_a_OFFSET_COMMIT, F_a_OFFSET_COMMIT_minVersion, F_a_OFFSET_COMMIT_maxVersion⟩ ⟨a_OFFSET_FETCH, S_OFFSET_FETCH, E_a_OFFSET_FETCH, F_a_OFFSET_FETCH_minVersion, F_a_OFFSET_FETCH_maxVersion⟩ ⟨a_FIND_COORDINATOR, S_FIND_COORDINATOR, E_a_FIND_COORDINATOR, F_a_FIND_COORDINATOR_minVersion, F_a_FIND_COORDINATOR_maxVersion⟩ ⟨a_JOIN_GROUP, S_JOIN_GROUP, E_a_JOIN_GROUP, F_a_JOIN_GROUP_minVersion, F_a_JOIN_GROUP_maxVersion⟩ ⟨a_HEARTBEAT, S_HEARTBEAT, E_a_HEARTBEAT, F_a_HEARTBEAT_minVersion, F_a_HEARTBEAT_maxVersion⟩ ⟨a_LEAVE_GROUP, S_LEAVE_GROUP, E_a_LEAVE_GROUP, F_a_LEAVE_GROUP_minVersion, F_a_LEAVE_GROUP_maxVersion⟩ ⟨a_SYNC_GROUP, S_SYNC_GROUP, E_a_SYNC_GROUP, F_a_SYNC_GROUP_minVersion, F_a_SYNC_GROUP_maxVersion⟩ ⟨a_API_VERSIONS, S_API_VERSIONS, E_a_API_VERSIONS, F_a_API_VERSIONS_minVersion, F_a_API_VERSIONS_maxVersion⟩ ⟨a_INIT_PRODUCER_ID, S_INIT_PRODUCER_ID, E_a_INIT_PRODUCER_ID, F_a_INIT_PRODUCER_ID_minVersion, F_a_INIT_PRODUCER_ID_maxVersion⟩ p e ha hc hk s m _ below hf ((Spec.applies_iff_loose hf).mp happ).1 ⟨rfl, State.Warmed39.refl s, rfl⟩ trivial
  refine ⟨n, _, h1, h2, h3, hpost _ _ _ _ _ _ ⟨Cond.after_iff.mpr rfl, Cond.after_iff.mpr (eq_i res_at (Term.int_eval (1)) rfl), trivial⟩ ⟨hq.1, hq.2.1, (hq.2.2.sift fun y hy => Or.inr (N y hy)).mono (by decide) (by decide)⟩⟩
theorem main_1_1 : Claimed_1_1 := comes_1 fun _ _ _ _ _ _ h hF => ⟨h.1, hF⟩
theorem main_1_2 : Claimed_1_2 := comes_1 fun _ _ _ _ _ _ h hF => ⟨h.2.1, hF⟩
end Jvm.Pilot.@@N@@
namespace Jvm.Pilot.@@N@@
open Jvm Jvm.ClassFile Sem Op Lib Jvm.Free Jvm.Stand Jvm.Pilot.@@N@@.Jvm.D
/-! MADE BY PROGRAM (witnessworld.py) out of the Statement's table words and the real class files: 12 classes; the members and pool entries that the words name. The judged class is class 1, her method 1. -/
namespace start1
open Jvm.ClassFile
def u (s : String) : CpInfo := .utf8 (stringToUtf16 s)
/-- a pool by its gaps: so many unusable entries, then the entry; so many at the end -/
def gap : Nat → List CpInfo → List CpInfo
  | 0, r => r
  | n + 1, r => .unusable :: gap n r
def poolList (es : List (Nat × CpInfo)) (last : Nat) : List CpInfo := es.foldr (fun e r => gap e.1 (e.2 :: r)) (gap last [])
def pool (es : List (Nat × CpInfo)) (last : Nat) : Array CpInfo := ⟨poolList es last⟩
def fileOf (pool : Array CpInfo) (this : Nat) (attrs : Array Attribute := #[]) (ms : Array MethodInfo := #[]) (fl : Nat := 33) (sup : Nat := 0) (ifs : Array Nat := #[]) (fds : Array FieldInfo := #[]) : ClassFile where
  minorVersion := 0
  majorVersion := 65
  constantPool := pool
  accessFlags := fl
  thisClass := this
  superClass := sup
  interfaces := ifs
  fields := fds
  methods := ms
  attributes := attrs
def plain (name : String) (sup : Option ClassId) : Class where
  name := name
  kind := .ordinary
  loader := none
  accessFlags := 33
  super := sup
  interfaces := #[]
  cf := none
  fields := #[]
  methods := #[]
  instanceTypes := #[]
  staticTypes := #[]
  resolved := #[]
  callSites := []
  init := .initialized
  statics := none
  mirror := none

def pool0 : Array CpInfo := pool [(5, u "<init>"), (0, u "()V"), (1, .class_ 10), (1, u "java/lang/Object")] 113

def k0m0 : Method := { name := "<init>", desc := "()V", sig := { parameters := [], returnType := none }, accessFlags := 1, code := none }
/-- java/lang/Object -/
def k0 : Class := { plain "java/lang/Object" none with
  accessFlags := 33
  interfaces := #[]
  cf := some (fileOf pool0 8 #[] #[{ accessFlags := 1, nameIndex := 5, descriptorIndex := 6, attributes := #[] }] 33 0 #[] #[])
  fields := #[]
  methods := #[k0m0]
  instanceTypes := #[]
  staticTypes := #[]
  resolved := Array.replicate 124 none
  statics := none }

def pool1 : Array CpInfo := pool [(2, .class_ 4), (1, u "java/lang/Object"), (0, u "<init>"), (0, u "()V"), (0, .integer 2147483647), (0, .methodref 9 10), (0, .class_ 11), (0, .nameAndType 12 13), (0, u "com/example/hale_log/halelog/protocol/ApiKeySupportsPinLaw"), (0, u "pick"), (0, u "(I)Lcom/example/hale_log/halelog/protocol/ApiKey;"), (0, .methodref 9 15), (0, .nameAndType 16 17), (0, u "lo"), (0, u "(I)I"), (0, .methodref 9 19), (0, .nameAndType 20 17), (0, u "hi"), (0, .methodref 22 23), (0, .class_ 24), (0, .nameAndType 25 26), (0, u "com/example/hale_log/halelog/protocol/ApiKey"), (0, u "supports"), (0, u "(S)Z"), (0, .fieldref 22 28), (0, .nameAndType 29 30), (0, u "PRODUCE"), (0, u "Lcom/example/hale_log/halelog/protocol/ApiKey;"), (0, .fieldref 22 32), (0, .nameAndType 33 30), (0, u "FETCH"), (0, .fieldref 22 35), (0, .nameAndType 36 30), (0, u "LIST_OFFSETS"), (0, .fieldref 22 38), (0, .nameAndType 39 30), (0, u "METADATA"), (0, .fieldref 22 41), (0, .nameAndType 42 30), (0, u "OFFSET_COMMIT"), (0, .fieldref 22 44), (0, .nameAndType 45 30), (0, u "OFFSET_FETCH"), (0, .fieldref 22 47), (0, .nameAndType 48 30), (0, u "FIND_COORDINATOR"), (0, .fieldref 22 50), (0, .nameAndType 51 30), (0, u "JOIN_GROUP"), (0, .fieldref 22 53), (0, .nameAndType 54 30), (0, u "HEARTBEAT"), (0, .fieldref 22 56), (0, .nameAndType 57 30), (0, u "LEAVE_GROUP"), (0, .fieldref 22 59), (0, .nameAndType 60 30), (0, u "SYNC_GROUP"), (0, .fieldref 22 62), (0, .nameAndType 63 30), (0, u "API_VERSIONS"), (0, .fieldref 22 65), (0, .nameAndType 66 30), (0, u "INIT_PRODUCER_ID"), (2, u "law"), (0, u "(II)Z")] 3

def k1m0 : Method := { name := "<init>", desc := "()V", sig := { parameters := [], returnType := none }, accessFlags := 1, code := none }
def k1c1 : Code := { maxStack := 3, maxLocals := 10, code := code, exceptionTable := #[], attributes := #[] }
def k1m1 : Method := { name := "law", desc := "(II)Z", sig := { parameters := [.int, .int], returnType := some .boolean }, accessFlags := 9, code := some k1c1 }
def k1c2 : Code := { maxStack := 2, maxLocals := 1, code := method_3_code, exceptionTable := #[], attributes := #[] }
def k1m2 : Method := { name := "pick", desc := "(I)Lcom/example/hale_log/halelog/protocol/ApiKey;", sig := { parameters := [.int], returnType := some (.object "com/example/hale_log/halelog/protocol/ApiKey") }, accessFlags := 10, code := some k1c2 }
def k1c3 : Code := { maxStack := 2, maxLocals := 1, code := method_4_code, exceptionTable := #[], attributes := #[] }
def k1m3 : Method := { name := "lo", desc := "(I)I", sig := { parameters := [.int], returnType := some .int }, accessFlags := 10, code := some k1c3 }
def k1c4 : Code := { maxStack := 2, maxLocals := 1, code := method_5_code, exceptionTable := #[], attributes := #[] }
def k1m4 : Method := { name := "hi", desc := "(I)I", sig := { parameters := [.int], returnType := some .int }, accessFlags := 10, code := some k1c4 }
/-- com/example/hale_log/halelog/protocol/ApiKeySupportsPinLaw -/
def k1 : Class := { plain "com/example/hale_log/halelog/protocol/ApiKeySupportsPinLaw" (some 0) with
  accessFlags := 49
  interfaces := #[]
  cf := some (fileOf pool1 9 #[] #[{ accessFlags := 1, nameIndex := 5, descriptorIndex := 6, attributes := #[] }, { accessFlags := 9, nameIndex := 69, descriptorIndex := 70, attributes := #[] }, { accessFlags := 10, nameIndex := 12, descriptorIndex := 13, attributes := #[] }, { accessFlags := 10, nameIndex := 16, descriptorIndex := 17, attributes := #[] }, { accessFlags := 10, nameIndex := 20, descriptorIndex := 17, attributes := #[] }] 49 2 #[] #[])
  fields := #[]
  methods := #[k1m0, k1m1, k1m2, k1m3, k1m4]
  instanceTypes := #[]
  staticTypes := #[]
  resolved := Array.replicate 74 none
  statics := none }

def pool2 : Array CpInfo := pool [(1, .class_ 2), (0, u "java/lang/constant/Constable"), (0, .class_ 4), (0, u "java/lang/Object")] 6

/-- java/lang/constant/Constable -/
def k2 : Class := { plain "java/lang/constant/Constable" (some 0) with
  accessFlags := 1537
  interfaces := #[]
  cf := some (fileOf pool2 1 #[] #[] 1537 3 #[] #[])
  fields := #[]
  methods := #[]
  instanceTypes := #[]
  staticTypes := #[]
  resolved := Array.replicate 11 none
  statics := none }

def pool3 : Array CpInfo := pool [(1, .class_ 2), (0, u "java/lang/Comparable"), (0, .class_ 4), (0, u "java/lang/Object")] 7

/-- java/lang/Comparable -/
def k3 : Class := { plain "java/lang/Comparable" (some 0) with
  accessFlags := 1537
  interfaces := #[]
  cf := some (fileOf pool3 1 #[] #[] 1537 3 #[] #[])
  fields := #[]
  methods := #[]
  instanceTypes := #[]
  staticTypes := #[]
  resolved := Array.replicate 12 none
  statics := none }

def pool4 : Array CpInfo := pool [(1, .class_ 2), (0, u "java/io/Serializable"), (0, .class_ 4), (0, u "java/lang/Object")] 2

/-- java/io/Serializable -/
def k4 : Class := { plain "java/io/Serializable" (some 0) with
  accessFlags := 1537
  interfaces := #[]
  cf := some (fileOf pool4 1 #[] #[] 1537 3 #[] #[])
  fields := #[]
  methods := #[]
  instanceTypes := #[]
  staticTypes := #[]
  resolved := Array.replicate 7 none
  statics := none }

def pool5 : Array CpInfo := pool [(2, .class_ 4), (1, u "java/lang/Enum"), (0, u "name"), (0, u "Ljava/lang/String;"), (2, u "ordinal"), (0, u "I"), (1, .class_ 14), (1, u "java/lang/Object"), (4, u "hash"), (86, .class_ 108), (1, u "java/lang/Enum$EnumDesc"), (2, .class_ 112), (0, u "java/lang/constant/Constable"), (0, .class_ 114), (0, u "java/lang/Comparable"), (0, .class_ 116), (0, u "java/io/Serializable")] 87

/-- java/lang/Enum -/
def k5 : Class := { plain "java/lang/Enum" (some 0) with
  accessFlags := 1057
  interfaces := #[2, 3, 4]
  cf := some (fileOf pool5 2 #[.nestMembers #[106]] #[] 1057 12 #[111, 113, 115] #[{ accessFlags := 18, nameIndex := 5, descriptorIndex := 6, attributes := #[] }, { accessFlags := 18, nameIndex := 9, descriptorIndex := 10, attributes := #[] }, { accessFlags := 2, nameIndex := 19, descriptorIndex := 10, attributes := #[] }])
  fields := #[{ name := "name", type := (.object "java/lang/String"), accessFlags := 18, slot := 0, constantValue := 0 }, { name := "ordinal", type := .int, accessFlags := 18, slot := 1, constantValue := 0 }, { name := "hash", type := .int, accessFlags := 2, slot := 2, constantValue := 0 }]
  methods := #[]
  instanceTypes := #[(.object "java/lang/String"), .int, .int]
  staticTypes := #[]
  resolved := Array.replicate 204 none
  statics := none }

def pool6 : Array CpInfo := pool [(1, .class_ 2), (0, u "com/example/hale_log/halelog/protocol/ApiKey"), (2, u "PRODUCE"), (0, u "Lcom/example/hale_log/halelog/protocol/ApiKey;"), (2, u "FETCH"), (2, u "LIST_OFFSETS"), (2, u "METADATA"), (2, u "OFFSET_COMMIT"), (2, u "OFFSET_FETCH"), (2, u "FIND_COORDINATOR"), (2, u "JOIN_GROUP"), (2, u "HEARTBEAT"), (2, u "LEAVE_GROUP"), (2, u "SYNC_GROUP"), (2, u "API_VERSIONS"), (2, u "INIT_PRODUCER_ID"), (2, u "$VALUES"), (0, u "[Lcom/example/hale_log/halelog/protocol/ApiKey;"), (6, .class_ 55), (1, u "java/lang/Enum"), (8, u "id"), (0, u "S"), (0, .fieldref 1 67), (0, .nameAndType 68 65), (0, u "minVersion"), (0, .fieldref 1 70), (0, .nameAndType 71 65), (0, u "maxVersion"), (2, u "firstFlexibleVersion"), (33, u "supports"), (0, u "(S)Z")] 6

def k6c0 : Code := { maxStack := 2, maxLocals := 2, code := prog_18_method_8_code, exceptionTable := #[], attributes := #[] }
def k6m0 : Method := { name := "supports", desc := "(S)Z", sig := { parameters := [.short], returnType := some .boolean }, accessFlags := 1, code := some k6c0 }
/-- com/example/hale_log/halelog/protocol/ApiKey -/
def k6 : Class := { plain "com/example/hale_log/halelog/protocol/ApiKey" (some 5) with
  accessFlags := 16433
  interfaces := #[]
  cf := some (fileOf pool6 1 #[] #[{ accessFlags := 1, nameIndex := 108, descriptorIndex := 109, attributes := #[] }] 16433 53 #[] #[{ accessFlags := 16409, nameIndex := 5, descriptorIndex := 6, attributes := #[] }, { accessFlags := 16409, nameIndex := 9, descriptorIndex := 6, attributes := #[] }, { accessFlags := 16409, nameIndex := 12, descriptorIndex := 6, attributes := #[] }, { accessFlags := 16409, nameIndex := 15, descriptorIndex := 6, attributes := #[] }, { accessFlags := 16409, nameIndex := 18, descriptorIndex := 6, attributes := #[] }, { accessFlags := 16409, nameIndex := 21, descriptorIndex := 6, attributes := #[] }, { accessFlags := 16409, nameIndex := 24, descriptorIndex := 6, attributes := #[] }, { accessFlags := 16409, nameIndex := 27, descriptorIndex := 6, attributes := #[] }, { accessFlags := 16409, nameIndex := 30, descriptorIndex := 6, attributes := #[] }, { accessFlags := 16409, nameIndex := 33, descriptorIndex := 6, attributes := #[] }, { accessFlags := 16409, nameIndex := 36, descriptorIndex := 6, attributes := #[] }, { accessFlags := 16409, nameIndex := 39, descriptorIndex := 6, attributes := #[] }, { accessFlags := 16409, nameIndex := 42, descriptorIndex := 6, attributes := #[] }, { accessFlags := 18, nameIndex := 64, descriptorIndex := 65, attributes := #[] }, { accessFlags := 18, nameIndex := 68, descriptorIndex := 65, attributes := #[] }, { accessFlags := 18, nameIndex := 71, descriptorIndex := 65, attributes := #[] }, { accessFlags := 18, nameIndex := 74, descriptorIndex := 65, attributes := #[] }, { accessFlags := 4122, nameIndex := 45, descriptorIndex := 46, attributes := #[] }])
  fields := #[{ name := "PRODUCE", type := (.object "com/example/hale_log/halelog/protocol/ApiKey"), accessFlags := 16409, slot := 0, constantValue := 0 }, { name := "FETCH", type := (.object "com/example/hale_log/halelog/protocol/ApiKey"), accessFlags := 16409, slot := 1, constantValue := 0 }, { name := "LIST_OFFSETS", type := (.object "com/example/hale_log/halelog/protocol/ApiKey"), accessFlags := 16409, slot := 2, constantValue := 0 }, { name := "METADATA", type := (.object "com/example/hale_log/halelog/protocol/ApiKey"), accessFlags := 16409, slot := 3, constantValue := 0 }, { name := "OFFSET_COMMIT", type := (.object "com/example/hale_log/halelog/protocol/ApiKey"), accessFlags := 16409, slot := 4, constantValue := 0 }, { name := "OFFSET_FETCH", type := (.object "com/example/hale_log/halelog/protocol/ApiKey"), accessFlags := 16409, slot := 5, constantValue := 0 }, { name := "FIND_COORDINATOR", type := (.object "com/example/hale_log/halelog/protocol/ApiKey"), accessFlags := 16409, slot := 6, constantValue := 0 }, { name := "JOIN_GROUP", type := (.object "com/example/hale_log/halelog/protocol/ApiKey"), accessFlags := 16409, slot := 7, constantValue := 0 }, { name := "HEARTBEAT", type := (.object "com/example/hale_log/halelog/protocol/ApiKey"), accessFlags := 16409, slot := 8, constantValue := 0 }, { name := "LEAVE_GROUP", type := (.object "com/example/hale_log/halelog/protocol/ApiKey"), accessFlags := 16409, slot := 9, constantValue := 0 }, { name := "SYNC_GROUP", type := (.object "com/example/hale_log/halelog/protocol/ApiKey"), accessFlags := 16409, slot := 10, constantValue := 0 }, { name := "API_VERSIONS", type := (.object "com/example/hale_log/halelog/protocol/ApiKey"), accessFlags := 16409, slot := 11, constantValue := 0 }, { name := "INIT_PRODUCER_ID", type := (.object "com/example/hale_log/halelog/protocol/ApiKey"), accessFlags := 16409, slot := 12, constantValue := 0 }, { name := "id", type := .short, accessFlags := 18, slot := 3, constantValue := 0 }, { name := "minVersion", type := .short, accessFlags := 18, slot := 4, constantValue := 0 }, { name := "maxVersion", type := .short, accessFlags := 18, slot := 5, constantValue := 0 }, { name := "firstFlexibleVersion", type := .short, accessFlags := 18, slot := 6, constantValue := 0 }, { name := "$VALUES", type := (.array (.object "com/example/hale_log/halelog/protocol/ApiKey")), accessFlags := 4122, slot := 13, constantValue := 0 }]
  methods := #[k6m0]
  instanceTypes := #[(.object "java/lang/String"), .int, .int, .short, .short, .short, .short]
  staticTypes := #[(.object "com/example/hale_log/halelog/protocol/ApiKey"), (.object "com/example/hale_log/halelog/protocol/ApiKey"), (.object "com/example/hale_log/halelog/protocol/ApiKey"), (.object "com/example/hale_log/halelog/protocol/ApiKey"), (.object "com/example/hale_log/halelog/protocol/ApiKey"), (.object "com/example/hale_log/halelog/protocol/ApiKey"), (.object "com/example/hale_log/halelog/protocol/ApiKey"), (.object "com/example/hale_log/halelog/protocol/ApiKey"), (.object "com/example/hale_log/halelog/protocol/ApiKey"), (.object "com/example/hale_log/halelog/protocol/ApiKey"), (.object "com/example/hale_log/halelog/protocol/ApiKey"), (.object "com/example/hale_log/halelog/protocol/ApiKey"), (.object "com/example/hale_log/halelog/protocol/ApiKey"), (.array (.object "com/example/hale_log/halelog/protocol/ApiKey"))]
  resolved := Array.replicate 116 none
  statics := some 0 }

def pool7 : Array CpInfo := pool [(1, u "java/lang/Cloneable"), (0, .class_ 1), (0, u "java/lang/Object"), (0, .class_ 3)] 3

/-- java/lang/Cloneable -/
def k7 : Class := { plain "java/lang/Cloneable" (some 0) with
  accessFlags := 1537
  interfaces := #[]
  cf := some (fileOf pool7 2 #[] #[] 1537 4 #[] #[])
  fields := #[]
  methods := #[]
  instanceTypes := #[]
  staticTypes := #[]
  resolved := Array.replicate 8 none
  statics := none }

/-- the primitive byte -/
def k8 : Class := { plain "byte" none with kind := .primitive 'B', accessFlags := 0x411 }
/-- [B -/
def k9 : Class := { plain "[B" (some 0) with kind := .array 8 .byte, interfaces := #[7, 4], accessFlags := 1041 }

/-- the primitive int -/
def k10 : Class := { plain "int" none with kind := .primitive 'I', accessFlags := 0x411 }
/-- [I -/
def k11 : Class := { plain "[I" (some 0) with kind := .array 10 .int, interfaces := #[7, 4], accessFlags := 1041 }

def heap : Heap := #[{ cls := 6, slots := #[.ref 1, .ref 2, .ref 3, .ref 4, .ref 5, .ref 6, .ref 7, .ref 8, .ref 9, .ref 10, .ref 11, .ref 12, .ref 13, .null], vm := .statics 6 },
  { cls := 6, slots := #[.null, .int 0, .int 0, .int 0, .int 0, .int 7, .int 0], vm := .none },
  { cls := 6, slots := #[.null, .int 1, .int 0, .int 1, .int 4, .int 11, .int 0], vm := .none },
  { cls := 6, slots := #[.null, .int 2, .int 0, .int 2, .int 1, .int 2, .int 0], vm := .none },
  { cls := 6, slots := #[.null, .int 3, .int 0, .int 3, .int 1, .int 4, .int 0], vm := .none },
  { cls := 6, slots := #[.null, .int 4, .int 0, .int 4, .int 2, .int 7, .int 0], vm := .none },
  { cls := 6, slots := #[.null, .int 5, .int 0, .int 5, .int 1, .int 7, .int 0], vm := .none },
  { cls := 6, slots := #[.null, .int 6, .int 0, .int 6, .int 0, .int 2, .int 0], vm := .none },
  { cls := 6, slots := #[.null, .int 7, .int 0, .int 7, .int 0, .int 5, .int 0], vm := .none },
  { cls := 6, slots := #[.null, .int 8, .int 0, .int 8, .int 0, .int 3, .int 0], vm := .none },
  { cls := 6, slots := #[.null, .int 9, .int 0, .int 9, .int 0, .int 2, .int 0], vm := .none },
  { cls := 6, slots := #[.null, .int 10, .int 0, .int 10, .int 0, .int 3, .int 0], vm := .none },
  { cls := 6, slots := #[.null, .int 11, .int 0, .int 11, .int 0, .int 3, .int 0], vm := .none },
  { cls := 6, slots := #[.null, .int 12, .int 0, .int 12, .int 0, .int 4, .int 0], vm := .none }]
def classes : Array Class := #[k0, k1, k2, k3, k4, k5, k6, k7, k8, k9, k10, k11]
def interned : List (Array UInt16 × Addr) := []
def slotsUsed : Nat := 105
def theMethod : MethodId := ⟨1, 1⟩
def args0 : Array Value := #[.int 1, .int 2]
def aboutOver (below : List Frame) : State where
  vm := { classes := classes, interned := interned.toArray }
  heap := heap
  slotsUsed := slotsUsed
  threads := #[{ frames := .invoking theMethod args0 :: below }]
def below0 : List Frame := [.native { method := ⟨0, 0⟩, args := #[] }]
def about1 : State := aboutOver below0
def p0 : Program := .bare "" "" ""
def e0 : Env := launch0.env 0 0 0
theorem w_frames : about1.frames = Frame.invoking theMethod args0 :: below0 := rfl
set_option maxRecDepth 65536 in
theorem w_args : argsFit about1.vm theMethod args0 = true := by decide +kernel
set_option maxRecDepth 65536 in
theorem w_heap : heapFits about1 = true := by decide +kernel
set_option maxRecDepth 65536 in
theorem w_runnable : about1.curStatus? = some .runnable := by decide +kernel
set_option maxRecDepth 65536 in
theorem w_alone : about1.alone = true := by decide +kernel
set_option maxRecDepth 65536 in
theorem w_named : about1.methodNamed? x = some theMethod := by decide +kernel
set_option maxRecDepth 65536 in
theorem w_hears : about1.hears theMethod below0 = true := by decide +kernel
set_option maxRecDepth 65536 in
theorem w_ripe : about1.ripe theMethod args0 below0 = true := by decide +kernel
theorem w_running : about1.status = .running := rfl
set_option maxRecDepth 65536 in
theorem w_room : about1.hasRoom e0.platform room_1 = true :=
  launch0.hasRoom_least _ room_1 (by decide +kernel) (by decide +kernel) (by decide +kernel) (by decide +kernel) (by decide +kernel) (by decide +kernel)
theorem allAtoms_all (ts : List Jvm.Cond) (a : Array Jvm.Value) (st : Jvm.State) : (allAtoms ts).before a st = ts.all (fun c => c.before a st) := by
  induction ts with
  | nil => rfl
  | cons c t ih =>
    show (Jvm.Cond.and c (allAtoms t)).before a st = _
    rw [Jvm.Cond.before_and, ih, List.all_cons]
def words1 : List Jvm.Cond := Jvm.Cond.code x code maxLocals ret :: tables_1
/-- a 'code' word, met by the world's own term for the bytes: nothing is compared byte by byte -/
theorem code_word {y : MethodName} {bytes : ByteArray} {mx : Nat} {rt : Option FieldType} {a : Array Value} {s : State} {m : MethodId} {meth : Method} {c : Code} (h1 : s.methodNamed? y = some m) (h2 : s.vm.method? m = some meth) (h3 : meth.code = some c) (h4 : c.code = bytes)
    (h5 : (c.maxLocals == mx && c.exceptionTable.isEmpty && decide (c.maxStack ≤ mostOperands) && decide (meth.sig.returnType = rt) && !meth.locks && decide (parseMethodDescriptor y.desc = some meth.sig)) = true) : (Jvm.Cond.code y bytes mx rt).before a s = true := by
  simp only [Bool.and_eq_true, beq_iff_eq, Bool.not_eq_true', decide_eq_true_eq] at h5
  obtain ⟨⟨⟨⟨⟨g1, g2⟩, g3⟩, g4⟩, g5⟩, g6⟩ := h5
  simp [Cond.before, Cond.holds, Cond.value, h1, h2, h3, h4, g1, g2, g3, g4, g5, g6]
def isCode : Jvm.Cond → Bool
  | .code _ _ _ _ => true
  | _ => false
theorem all_split {L : List Jvm.Cond} {P : Jvm.Cond → Bool} (h1 : L.all (fun c => isCode c || P c) = true) (h2 : ∀ c ∈ L.filter isCode, P c = true) : L.all P = true := by
  refine List.all_eq_true.mpr fun c hc => ?_
  have h := List.all_eq_true.mp h1 c hc
  rcases Bool.eq_false_or_eq_true (isCode c) with hi | hi
  · exact h2 c (List.mem_filter.mpr ⟨hc, hi⟩)
  · simpa [hi] using h
set_option maxRecDepth 65536 in
theorem w_c0 : (Jvm.Cond.code x code maxLocals ret).before args0 about1 = true := code_word (m := ⟨1, 1⟩) (meth := k1m1) (c := k1c1) (by decide +kernel) rfl rfl rfl (by decide +kernel)
set_option maxRecDepth 65536 in
theorem w_c1 : (Jvm.Cond.code ({ cls := "com/example/hale_log/halelog/protocol/ApiKeySupportsPinLaw", name := "pick", desc := "(I)Lcom/example/hale_log/halelog/protocol/ApiKey;" } : Jvm.MethodName) method_3_code (1 : Nat) (Option.some (Jvm.ClassFile.FieldType.object "com/example/hale_log/halelog/protocol/ApiKey"))).before args0 about1 = true := code_word (m := ⟨1, 2⟩) (meth := k1m2) (c := k1c2) (by decide +kernel) rfl rfl rfl (by decide +kernel)
set_option maxRecDepth 65536 in
theorem w_c2 : (Jvm.Cond.code ({ cls := "com/example/hale_log/halelog/protocol/ApiKeySupportsPinLaw", name := "lo", desc := "(I)I" } : Jvm.MethodName) method_4_code (1 : Nat) (Option.some Jvm.ClassFile.FieldType.int)).before args0 about1 = true := code_word (m := ⟨1, 3⟩) (meth := k1m3) (c := k1c3) (by decide +kernel) rfl rfl rfl (by decide +kernel)
set_option maxRecDepth 65536 in
theorem w_c3 : (Jvm.Cond.code ({ cls := "com/example/hale_log/halelog/protocol/ApiKeySupportsPinLaw", name := "hi", desc := "(I)I" } : Jvm.MethodName) method_5_code (1 : Nat) (Option.some Jvm.ClassFile.FieldType.int)).before args0 about1 = true := code_word (m := ⟨1, 4⟩) (meth := k1m4) (c := k1c4) (by decide +kernel) rfl rfl rfl (by decide +kernel)
set_option maxRecDepth 65536 in
theorem w_c4 : (Jvm.Cond.code ({ cls := "com/example/hale_log/halelog/protocol/ApiKey", name := "supports", desc := "(S)Z" } : Jvm.MethodName) prog_18_method_8_code (2 : Nat) (Option.some Jvm.ClassFile.FieldType.boolean)).before args0 about1 = true := code_word (m := ⟨6, 0⟩) (meth := k6m0) (c := k6c0) (by decide +kernel) rfl rfl rfl (by decide +kernel)
def codes1 : List Jvm.Cond := [Jvm.Cond.code x code maxLocals ret, Jvm.Cond.code ({ cls := "com/example/hale_log/halelog/protocol/ApiKeySupportsPinLaw", name := "pick", desc := "(I)Lcom/example/hale_log/halelog/protocol/ApiKey;" } : Jvm.MethodName) method_3_code (1 : Nat) (Option.some (Jvm.ClassFile.FieldType.object "com/example/hale_log/halelog/protocol/ApiKey")), Jvm.Cond.code ({ cls := "com/example/hale_log/halelog/protocol/ApiKeySupportsPinLaw", name := "lo", desc := "(I)I" } : Jvm.MethodName) method_4_code (1 : Nat) (Option.some Jvm.ClassFile.FieldType.int), Jvm.Cond.code ({ cls := "com/example/hale_log/halelog/protocol/ApiKeySupportsPinLaw", name := "hi", desc := "(I)I" } : Jvm.MethodName) method_5_code (1 : Nat) (Option.some Jvm.ClassFile.FieldType.int), Jvm.Cond.code ({ cls := "com/example/hale_log/halelog/protocol/ApiKey", name := "supports", desc := "(S)Z" } : Jvm.MethodName) prog_18_method_8_code (2 : Nat) (Option.some Jvm.ClassFile.FieldType.boolean)]
set_option maxRecDepth 65536 in
theorem codes_eq : words1.filter isCode = codes1 := rfl
theorem w_codes : ∀ c ∈ words1.filter isCode, c.before args0 about1 = true := by
  rw [codes_eq]
  intro c hc
  simp only [codes1, List.mem_cons, List.not_mem_nil, or_false] at hc
  rcases hc with rfl | rfl | rfl | rfl | rfl
  · exact w_c0
  · exact w_c1
  · exact w_c2
  · exact w_c3
  · exact w_c4
set_option maxRecDepth 65536 in
theorem w_t1 : (words1.take 24).all (fun c => isCode c || c.before args0 about1) = true := by decide +kernel
set_option maxRecDepth 65536 in
theorem w_t2 : (words1.drop 24).all (fun c => isCode c || c.before args0 about1) = true := by decide +kernel
theorem w_tables : (allAtoms (Jvm.Cond.code x code maxLocals ret :: tables_1)).before args0 about1 = true := by
  rw [allAtoms_all]
  show words1.all (fun c => c.before args0 about1) = true
  refine all_split ?_ w_codes
  rw [← List.take_append_drop 24 words1, List.all_append, w_t1, w_t2]
  rfl
set_option maxRecDepth 65536 in
theorem w_case : (Jvm.Cond.and given_1 narrow_1).before args0 about1 = true := by decide +kernel
theorem w_applies : (headSpec (Jvm.Cond.code x code maxLocals ret :: tables_1) room_1).applies x e0.platform about1 = true :=
  (Spec.applies_iff w_frames).mpr ⟨w_running, w_runnable, w_alone, w_named, w_hears, w_ripe, w_room, w_tables⟩
theorem atStart : AtStart classFile x code maxLocals ret World_1 tables_1 room_1 Calls_1 rest_1 Pre_1 launch0 p0 e0 about1 theMethod args0 below0 :=
  ⟨lists_1, trivial, launch0.admits_env _ _ _, launch0.least_env, fairChoices_fair.cas, fairChoices_fair.clock, w_frames, w_args, w_heap, w_applies, trivial, trivial, w_case⟩
end start1
theorem witness_1 : WitnessClaimed_1 := ⟨start1.p0, start1.e0, start1.about1, start1.theMethod, start1.args0, start1.below0, start1.atStart⟩
end Jvm.Pilot.@@N@@
