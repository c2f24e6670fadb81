import JvmDerived
import JvmDerived.Pilot.@@N@@Statement
import JvmDerived.Pilot.@@N@@Code
set_option linter.unusedVariables false
set_option linter.unusedSimpArgs false
namespace Jvm.Pilot.@@N@@
open Jvm Jvm.ClassFile Sem Op Lib Jvm.Free Jvm.Stand Jvm.LawKit Jvm.RoadKit Bundle Jvm.Pilot.@@N@@.Jvm.D
section OwnKit
variable {p : Program} {l : Launch} {e : Env} {R : Room} {s : State} {m : MethodId} {args : Array Value} {below : List Frame} {meth : Method} {c : Code} {T : State} {locs : List Loc} {cells slots : Nat} {Q : Option Value → Heap → List Loc → Prop} {C S : Nat}
/-- from x the run ends, returning, with what Q says -/
def own_End (p : Program) (e : Env) (below : List Frame) (s : State) (Q : Option Value → Heap → List Loc → Prop) (C S : Nat) (x : State) : Prop :=
  ∃ t o, Steps p.tables e below x t ∧ t.status = .running ∧ Ended t below o ∧ ∃ v L, o = .returned v ∧ Q v t.heap L ∧ FrameEnd s o t L C S
theorem own_go {x x' : State} (h : ∀ t, Steps p.tables e below x' t → Steps p.tables e below x t) (k : own_End p e below s Q C S x') : own_End p e below s Q C S x := by
  obtain ⟨t, o, h1, h2⟩ := k
  exact ⟨t, o, h t h1, h2⟩
theorem own_mono {Q' : Option Value → Heap → List Loc → Prop} {x : State} (h : ∀ v h L, Q v h L → Q' v h L) (k : own_End p e below s Q C S x) : own_End p e below s Q' C S x := by
  obtain ⟨t, o, h1, h2, h3, v, L, h4, h5, h6⟩ := k
  exact ⟨t, o, h1, h2, h3, v, L, h4, h _ _ _ h5, h6⟩
theorem own_out (X : Stand p l e R s m args below meth c T locs cells slots) (hlk : meth.locks = false) {v : Option Value} (hv : meth.sig.returnType = none → v = none) {x : State}
    (h : ∀ fs, (∀ (f : JFrame) (acts : List Action), f.method = m → f.locked = none → f.entered = [] → (doReturn e (T.setTop f) acts v).1 = T.setFrames fs) → Steps p.tables e below x (T.setFrames fs))
    (hq : Q v T.heap locs) (hc : cells ≤ C) (hs : slots ≤ S) : own_End p e below s Q C S x := by
  obtain ⟨fs, hr, hrun, hended, hW, hsame⟩ := X.leave hv hlk
  exact ⟨_, _, h fs hr, hrun, hended, _, _, rfl, hq, ⟨_, rfl⟩, hW, hsame.mono hc hs⟩
theorem own_retV (X : Stand p l e R s m args below meth c T locs cells slots) (hx : p.tables.exec = Jvm.exec) (hlk : meth.locks = false) {pc : Nat} {Ls : Array Slot} (hret : meth.sig.returnType = none) (hd : decode c.code pc = .ok (.return_, 1))
    (hq : Q none T.heap locs) (hc : cells ≤ C) (hs : slots ≤ S) : own_End p e below s Q C S (T.setTop (mkF m pc Ls [])) :=
  own_out X hlk (fun _ => rfl) (fun fs hr => X.returnOut hx hret hd hr) hq hc hs
theorem own_retN (X : Stand p l e R s m args below meth c T locs cells slots) (hx : p.tables.exec = Jvm.exec) (hlk : meth.locks = false) {pc : Nat} {Ls : Array Slot} {z w : Int32} {t : FieldType} {rest : List Value} (hret : meth.sig.returnType = some t) (ht : t = .boolean ∨ t = .byte ∨ t = .char ∨ t = .short) (hd : decode c.code pc = .ok (.ireturn, 1))
    (hz : nar t z = w) (hq : Q (some (.int w)) T.heap locs) (hc : cells ≤ C) (hs : slots ≤ S) : own_End p e below s Q C S (T.setTop (mkF m pc Ls (.int z :: rest))) := by
  subst hz
  exact own_out X hlk (fun h => by rw [hret] at h; cases h) (fun fs hr => retN X hx hret ht hd hr) hq hc hs
theorem own_retI (X : Stand p l e R s m args below meth c T locs cells slots) (hx : p.tables.exec = Jvm.exec) (hlk : meth.locks = false) {pc : Nat} {Ls : Array Slot} {z : Int32} {rest : List Value} (hret : meth.sig.returnType = some .int) (hd : decode c.code pc = .ok (.ireturn, 1))
    (hq : Q (some (.int z)) T.heap locs) (hc : cells ≤ C) (hs : slots ≤ S) : own_End p e below s Q C S (T.setTop (mkF m pc Ls (.int z :: rest))) :=
  own_out X hlk (fun h => by rw [hret] at h; cases h) (fun fs hr => retOut X hx hret rfl (Or.inl ⟨rfl, Or.inl rfl, _, rfl⟩) hd hr) hq hc hs
theorem own_retJ (X : Stand p l e R s m args below meth c T locs cells slots) (hx : p.tables.exec = Jvm.exec) (hlk : meth.locks = false) {pc : Nat} {Ls : Array Slot} {z : Int64} {rest : List Value} (hret : meth.sig.returnType = some .long) (hd : decode c.code pc = .ok (.lreturn, 1))
    (hq : Q (some (.long z)) T.heap locs) (hc : cells ≤ C) (hs : slots ≤ S) : own_End p e below s Q C S (T.setTop (mkF m pc Ls (.long z :: rest))) :=
  own_out X hlk (fun h => by rw [hret] at h; cases h) (fun fs hr => retOut X hx hret rfl (Or.inr (Or.inl ⟨rfl, rfl, _, rfl⟩)) hd hr) hq hc hs
theorem own_retR (X : Stand p l e R s m args below meth c T locs cells slots) (hx : p.tables.exec = Jvm.exec) (hlk : meth.locks = false) {pc : Nat} {Ls : Array Slot} {z : Value} {t : FieldType} {rest : List Value} (hret : meth.sig.returnType = some t) (ht : t.isReference = true) (hv : z.isRef = true) (hd : decode c.code pc = .ok (.areturn, 1))
    (hq : Q (some z) T.heap locs) (hc : cells ≤ C) (hs : slots ≤ S) : own_End p e below s Q C S (T.setTop (mkF m pc Ls (z :: rest))) :=
  own_out X hlk (fun h => by rw [hret] at h; cases h) (fun fs hr => retOut X hx hret (by cases t <;> first | rfl | cases ht) (Or.inr (Or.inr (Or.inr (Or.inr ⟨rfl, ht, hv⟩)))) hd hr) hq hc hs
theorem own_w {a0 : Array Value} {Z : State} (hw : ∀ d ∈ tables_1, d.before a0 Z = true) (i : Nat) {d : Jvm.Cond} (h : tables_1[i]? = some d) : d.before a0 Z = true := hw _ (List.mem_of_getElem? h)
theorem own_self {a0 : Array Value} {Z : State} {y : MethodName} {n : Nat} (wi : (Jvm.Cond.instantiable y.cls n).before a0 Z = true) (wm : (Jvm.Cond.instanceMethod y).before a0 Z = true) (wp : (Jvm.Cond.privateMethod y).before a0 Z = true) (hy : y.cls ≠ "java/lang/invoke/MethodHandle" ∧ y.cls ≠ "java/lang/invoke/VarHandle") : (Jvm.Cond.selects y.cls y y).before a0 Z = true := by
  obtain ⟨c, k, h1, h2, -, h4, -⟩ := Cond.instantiable_spec wi
  have h5 : k.isInterface = false := by
    cases hq : k.isInterface
    · rfl
    · rw [hq] at h4; cases h4
  exact selects_self_of_private h1 h2 h5 (Cond.privateMethod_at wp) wm hy
end OwnKit
theorem own_nn {K : Nat} {x : UInt64} (h : Jvm.Free.Fl.Mag64 K x) (hK : K ≤ 2047 := by decide) : Jvm.Free.Fl.NoNaN64 x := (h.fin hK).noNaN
theorem own_mz : Jvm.Free.Fl.Mag64 1 (0 : UInt64) := by unfold Jvm.Free.Fl.Mag64; decide
theorem own_m1 : Jvm.Free.Fl.Mag64 1024 (4607182418800017408 : UInt64) := by unfold Jvm.Free.Fl.Mag64; decide
theorem own_mt13665607370011141269 : Jvm.Free.Fl.Mag64 1023 (13665607370011141269 : UInt64) := by unfold Jvm.Free.Fl.Mag64; decide
theorem own_mt4442235333156365461 : Jvm.Free.Fl.Mag64 1023 (4442235333156365461 : UInt64) := by unfold Jvm.Free.Fl.Mag64; decide
theorem own_bneg {L : Nat} {x : UInt64} (h : Big64 L x) : Big64 L (FP.dneg x) := by
  unfold Big64 at h ⊢
  have e : (FP.dneg x).toNat % 9223372036854775808 = x.toNat % 9223372036854775808 := by
    have := (dneg_mag (K := x.toNat % 9223372036854775808 / 4503599627370496 + 1) (a := x) (by unfold Jvm.Free.Fl.Mag64; omega))
    have u : (FP.dneg x).toNat = (x ^^^ 0x8000000000000000).toNat := rfl
    rw [u, UInt64.toNat_xor]
    have : (0x8000000000000000 : UInt64).toNat = 2 ^ 63 := by decide
    rw [this]
    apply Nat.eq_of_testBit_eq
    intro i
    rw [show (9223372036854775808 : Nat) = 2 ^ 63 from by decide, Nat.testBit_mod_two_pow, Nat.testBit_mod_two_pow, Nat.testBit_xor, Nat.testBit_two_pow]
    by_cases q : i < 63
    · simp [q, show ¬ 63 = i by omega]
    · simp [q]
  rw [e]; exact h
theorem own_bigI {x : Int32} (h : ¬ x = 0) : Big64 1023 (FP.i2d x) := by
  rw [i2d_w]
  exact l2d_big (fun q => h (by
    have := congrArg Int64.toInt q
    rw [c_i2l] at this
    exact Int32.toInt_inj.mp this))
theorem d4_0 : decode prog_14_method_5_code 0 = .ok (.iconst (-1), 1) := by decide +kernel
theorem d4_1 : decode prog_14_method_5_code 1 = .ok (.istore_n 2, 1) := by decide +kernel
theorem d4_2 : decode prog_14_method_5_code 2 = .ok (.iconst 0, 1) := by decide +kernel
theorem d4_3 : decode prog_14_method_5_code 3 = .ok (.istore_n 3, 1) := by decide +kernel
theorem d4_4 : decode prog_14_method_5_code 4 = .ok (.iload_n 3, 1) := by decide +kernel
theorem d4_5 : decode prog_14_method_5_code 5 = .ok (.aload_n 0, 1) := by decide +kernel
theorem d4_6 : decode prog_14_method_5_code 6 = .ok (.getfield 7, 3) := by decide +kernel
theorem d4_9 : decode prog_14_method_5_code 9 = .ok (.if_icmp .ge 95, 3) := by decide +kernel
theorem d4_12 : decode prog_14_method_5_code 12 = .ok (.aload_n 0, 1) := by decide +kernel
theorem d4_13 : decode prog_14_method_5_code 13 = .ok (.getfield 25, 3) := by decide +kernel
theorem d4_16 : decode prog_14_method_5_code 16 = .ok (.iload_n 3, 1) := by decide +kernel
theorem d4_17 : decode prog_14_method_5_code 17 = .ok (.daload, 1) := by decide +kernel
theorem d4_18 : decode prog_14_method_5_code 18 = .ok (.ldc2_w 52, 3) := by decide +kernel
theorem d4_21 : decode prog_14_method_5_code 21 = .ok (.dcmp .g, 1) := by decide +kernel
theorem d4_22 : decode prog_14_method_5_code 22 = .ok (.ifCond .ge 76, 3) := by decide +kernel
theorem d4_98 : decode prog_14_method_5_code 98 = .ok (.iinc 3 1, 3) := by decide +kernel
theorem d4_101 : decode prog_14_method_5_code 101 = .ok (.goto (-97), 3) := by decide +kernel
theorem d4_104 : decode prog_14_method_5_code 104 = .ok (.iload_n 2, 1) := by decide +kernel
theorem d4_105 : decode prog_14_method_5_code 105 = .ok (.ireturn, 1) := by decide +kernel
def Q_rm4_00 (Z : State) (ao0 va : Addr) (kv : ClassId) (w0 w1 : UInt64) (h0 : Heap) (n0 : Nat) (v : Option Value) (h : Heap) (L : List Loc) : Prop := v = some (.int (-1 : Int32)) ∧ Fr n0 L ∧ h = h0
theorem pn_rm4_00 : plainName "com/example/moving_tokens/movingtokens/DualSimplex" = true := by first | (simp [plainName, overriddenIn]; done) | decide +kernel
theorem ef_rm4_00 (m : MethodId) (x0 : Addr) (x1 : Int32) : entryFrame m #[(.ref x0), (.int x1)] 5 = mkF m 0 #[.val (.ref x0), .val (.int x1), .unset, .unset, .unset] [] := by first | (simp [entryFrame, mkF, argsToLocals, Value.category]; done) | rfl
set_option maxRecDepth 65536 in
set_option maxHeartbeats 40000000 in
theorem rm4_00 (l : Launch) (Z : State) (a0 : Array Value) (hw : ∀ d ∈ tables_1, d.before a0 Z = true) (ws : List Jvm.Cond) (ao0 va : Addr) (kv : ClassId) (w0 w1 : UInt64) (h0 : Heap) (n0 : Nat) (Z0 : n0 ≤ h0.size) (F_ao0_rows : Fld Z h0 ao0 "com/example/moving_tokens/movingtokens/DualSimplex" "rows" "I" (.int 2)) (F_ao0_value : Fld Z h0 ao0 "com/example/moving_tokens/movingtokens/DualSimplex" "value" "[D" (.ref va)) (V_va : Arv Z h0 va kv .double (2 : Int32) [(.double w0), (.double w1)] (.double 0)) (n_w0 : ¬ cmpValue (FP.dcmp w0 (13665607370011141269 : UInt64)) .g < 0) (n_w1 : ¬ cmpValue (FP.dcmp w1 (13665607370011141269 : UInt64)) .g < 0) :
    MetFree l (⟨"com/example/moving_tokens/movingtokens/DualSimplex", "leavingRow", "(Z)I"⟩ : MethodName) (head1 (Jvm.Cond.code (⟨"com/example/moving_tokens/movingtokens/DualSimplex", "leavingRow", "(Z)I"⟩ : MethodName) prog_14_method_5_code 5 (some .int) :: ws) ({ frames := 0, cells := 0, slots := 0, locals := 0 } : Room)) (fun a U => a = #[(.ref ao0), (.int 0)] ∧ Z.Warmed39 U.vm ∧ U.heap = h0) (fun _ _ _ _ _ => True) (fun _ U o U' => ∃ v L, o = .returned v ∧ (Q_rm4_00 Z ao0 va kv w0 w1 h0 n0) v U'.heap L ∧ FrameEnd U o U' L ({ frames := 0, cells := 0, slots := 0, locals := 0 } : Room).cells ({ frames := 0, cells := 0, slots := 0, locals := 0 } : Room).slots) := by
  refine MetFree.of_bodySF (plainFor_of_name pn_rm4_00) hisR ?_
  intro p e s m args below meth c s₁ Bd hml0 hP hK
  obtain ⟨rfl, hZ, hh⟩ := hP
  have hx := Bd.exec
  have hby := Bd.bytes
  have hlk := BodyLoose.notSynchronized Bd
  have hret := Bd.returns
  have hml : c.maxLocals = 5 := hml0
  have hown : s.vm.findClass "com/example/moving_tokens/movingtokens/DualSimplex" = some m.cls := findClass_of_methodNamed Bd.named
  have hnm := (name_of_methodNamed Bd.named Bd.method).1
  have X0 : Stand p l e ({ frames := 0, cells := 0, slots := 0, locals := 0 } : Room) s m #[(.ref ao0), (.int 0)] below meth c s₁ [] 0 0 := Stand.of_body Bd
  have e0 : s₁.heap = h0 := by rw [← hh, Bd.state]; rfl
  have Nf := Fr.nil n0
  have Zs := Z0
  have Kp : Keep h0 h0 [] := Keep.refl _ _
  show own_End p e below s (Q_rm4_00 Z ao0 va kv w0 w1 h0 n0) ({ frames := 0, cells := 0, slots := 0, locals := 0 } : Room).cells ({ frames := 0, cells := 0, slots := 0, locals := 0 } : Room).slots (s₁.setTop (entryFrame m #[(.ref ao0), (.int 0)] 5))
  refine own_go (x' := s₁.setTop (mkF m 0 #[.val (.ref ao0), .val (.int 0), .unset, .unset, .unset] [])) (fun t k => castTop (ef_rm4_00 m ao0 (0 : Int32)) k) ?_
  refine own_go (x' := s₁.setTop (mkF m 6 #[.val (.ref ao0), .val (.int 0), .val (.int (-1)), .val (.int 0), .unset] [(.ref ao0), (.int 0)])) (fun _ k => XS.iconst X0.here hx rfl (hb hby d4_0) (XS.istoreN X0.here hx rfl (hb hby d4_1) rfl (l' := #[.val (.ref ao0), .val (.int 0), .val (.int (-1)), .unset, .unset]) rfl (XS.iconst X0.here hx rfl (hb hby d4_2) (XS.istoreN X0.here hx rfl (hb hby d4_3) rfl (l' := #[.val (.ref ao0), .val (.int 0), .val (.int (-1)), .val (.int 0), .unset]) rfl (XS.iloadN X0.here hx rfl (hb hby d4_4) rfl (XS.aloadN X0.here hx rfl (hb hby d4_5) rfl rfl k)))))) ?_
  obtain ⟨T1, X1, e1, st1⟩ := getF X0 hx hZ hown (host := "") (Or.inl (own_w hw 10 rfl)) Via.refl e0 F_ao0_rows (g := (mkF m 6 #[.val (.ref ao0), .val (.int 0), .val (.int (-1)), .val (.int 0), .unset] [(.ref ao0), (.int 0)])) rfl rfl (hb hby d4_6)
  refine own_go (x' := T1.setTop (mkF m 9 #[.val (.ref ao0), .val (.int 0), .val (.int (-1)), .val (.int 0), .unset] [(.int 2), (.int 0)])) st1 ?_
  refine own_go (x' := T1.setTop (mkF m 13 #[.val (.ref ao0), .val (.int 0), .val (.int (-1)), .val (.int 0), .unset] [(.ref ao0)])) (fun _ k => XS.icmpNo X1.here hx rfl (hb hby d4_9) rfl (tlt (by decide +kernel : ((0 : Int32) < (2 : Int32)))).2.1 (XS.aloadN X1.here hx rfl (hb hby d4_12) rfl rfl k)) ?_
  obtain ⟨T2, X2, e2, st2⟩ := getF X1 hx hZ hown (host := "") (Or.inl (own_w hw 25 rfl)) Via.refl e1 F_ao0_value (g := (mkF m 13 #[.val (.ref ao0), .val (.int 0), .val (.int (-1)), .val (.int 0), .unset] [(.ref ao0)])) rfl rfl (hb hby d4_13)
  refine own_go (x' := T2.setTop (mkF m 16 #[.val (.ref ao0), .val (.int 0), .val (.int (-1)), .val (.int 0), .unset] [(.ref va)])) st2 ?_
  refine own_go (x' := T2.setTop (mkF m 17 #[.val (.ref ao0), .val (.int 0), .val (.int (-1)), .val (.int 0), .unset] [(.int 0), (.ref va)])) (fun _ k => XS.iloadN X2.here hx rfl (hb hby d4_16) rfl k) ?_
  obtain ⟨cl3, Ar3, q3, Sz3, Nn3, Hh3, Gg3⟩ := id V_va
  have hin3 : ¬ ((0 : Int32) < 0 ∨ cl3.slots.size ≤ ((0 : Int32)).toNatClampNeg) := inb_of Sz3 ⟨by decide, by decide⟩
  refine own_go (x' := T2.setTop (mkF m 18 #[.val (.ref ao0), .val (.int 0), .val (.int (-1)), .val (.int 0), .unset] [(.double w0)])) (X2.daload hx (j := (0 : Int32)) (v := (.double w0)) (Eq.trans (congrArg (fun h_ => h_[_]?) e2) Ar3.1) (State.isArrayOf_alike hZ.alike Ar3.2.1) Ar3.2.2 hin3 (Hh3.at hin3 rfl) (g := (mkF m 17 #[.val (.ref ao0), .val (.int 0), .val (.int (-1)), .val (.int 0), .unset] [(.int 0), (.ref va)])) rfl rfl (hb hby d4_17)) ?_
  refine own_go (x' := T2.setTop (mkF m 21 #[.val (.ref ao0), .val (.int 0), .val (.int (-1)), .val (.int 0), .unset] [(.double (13665607370011141269 : UInt64)), (.double w0)])) (fun t k => X2.ldc2DoubleC hx hown (mvT hZ (own_w hw 43 rfl)) (g := (mkF m 18 #[.val (.ref ao0), .val (.int 0), .val (.int (-1)), .val (.int 0), .unset] [(.double w0)])) rfl (hb hby d4_18) t k) ?_
  refine own_go (x' := T2.setTop (mkF m 4 #[.val (.ref ao0), .val (.int 0), .val (.int (-1)), .val (.int ((0 : Int32) + (1 : Int32))), .unset] [])) (fun _ k => XS.dcmpS X2.here hx rfl (hb hby d4_21) rfl rfl (XS.ifYes X2.here hx rfl (pc0 := 22) (pc' := 98) rfl (hb hby d4_22) rfl ((if0 _ _).trans (flt n_w0).2.1) (by decide) (by decide) (XS.iinc X2.here hx rfl (hb hby d4_98) rfl (l' := #[.val (.ref ao0), .val (.int 0), .val (.int (-1)), .val (.int ((0 : Int32) + (1 : Int32))), .unset]) rfl (XS.goto X2.here hx rfl (pc0 := 101) (pc' := 4) rfl (hb hby d4_101) (by decide) (by decide) k)))) ?_
  rw [show ((0 : Int32) + (1 : Int32)) = (1 : Int32) from by decide +kernel]
  refine own_go (x' := T2.setTop (mkF m 6 #[.val (.ref ao0), .val (.int 0), .val (.int (-1)), .val (.int 1), .unset] [(.ref ao0), (.int 1)])) (fun _ k => XS.iloadN X2.here hx rfl (hb hby d4_4) rfl (XS.aloadN X2.here hx rfl (hb hby d4_5) rfl rfl k)) ?_
  obtain ⟨T4, X4, e4, st4⟩ := getF X2 hx hZ hown (host := "") (Or.inl (own_w hw 10 rfl)) Via.refl e2 F_ao0_rows (g := (mkF m 6 #[.val (.ref ao0), .val (.int 0), .val (.int (-1)), .val (.int 1), .unset] [(.ref ao0), (.int 1)])) rfl rfl (hb hby d4_6)
  refine own_go (x' := T4.setTop (mkF m 9 #[.val (.ref ao0), .val (.int 0), .val (.int (-1)), .val (.int 1), .unset] [(.int 2), (.int 1)])) st4 ?_
  refine own_go (x' := T4.setTop (mkF m 13 #[.val (.ref ao0), .val (.int 0), .val (.int (-1)), .val (.int 1), .unset] [(.ref ao0)])) (fun _ k => XS.icmpNo X4.here hx rfl (hb hby d4_9) rfl (tlt (by decide +kernel : ((1 : Int32) < (2 : Int32)))).2.1 (XS.aloadN X4.here hx rfl (hb hby d4_12) rfl rfl k)) ?_
  obtain ⟨T5, X5, e5, st5⟩ := getF X4 hx hZ hown (host := "") (Or.inl (own_w hw 25 rfl)) Via.refl e4 F_ao0_value (g := (mkF m 13 #[.val (.ref ao0), .val (.int 0), .val (.int (-1)), .val (.int 1), .unset] [(.ref ao0)])) rfl rfl (hb hby d4_13)
  refine own_go (x' := T5.setTop (mkF m 16 #[.val (.ref ao0), .val (.int 0), .val (.int (-1)), .val (.int 1), .unset] [(.ref va)])) st5 ?_
  refine own_go (x' := T5.setTop (mkF m 17 #[.val (.ref ao0), .val (.int 0), .val (.int (-1)), .val (.int 1), .unset] [(.int 1), (.ref va)])) (fun _ k => XS.iloadN X5.here hx rfl (hb hby d4_16) rfl k) ?_
  obtain ⟨cl6, Ar6, q6, Sz6, Nn6, Hh6, Gg6⟩ := id V_va
  have hin6 : ¬ ((1 : Int32) < 0 ∨ cl6.slots.size ≤ ((1 : Int32)).toNatClampNeg) := inb_of Sz6 ⟨by decide, by decide⟩
  refine own_go (x' := T5.setTop (mkF m 18 #[.val (.ref ao0), .val (.int 0), .val (.int (-1)), .val (.int 1), .unset] [(.double w1)])) (X5.daload hx (j := (1 : Int32)) (v := (.double w1)) (Eq.trans (congrArg (fun h_ => h_[_]?) e5) Ar6.1) (State.isArrayOf_alike hZ.alike Ar6.2.1) Ar6.2.2 hin6 (Hh6.at hin6 rfl) (g := (mkF m 17 #[.val (.ref ao0), .val (.int 0), .val (.int (-1)), .val (.int 1), .unset] [(.int 1), (.ref va)])) rfl rfl (hb hby d4_17)) ?_
  refine own_go (x' := T5.setTop (mkF m 21 #[.val (.ref ao0), .val (.int 0), .val (.int (-1)), .val (.int 1), .unset] [(.double (13665607370011141269 : UInt64)), (.double w1)])) (fun t k => X5.ldc2DoubleC hx hown (mvT hZ (own_w hw 43 rfl)) (g := (mkF m 18 #[.val (.ref ao0), .val (.int 0), .val (.int (-1)), .val (.int 1), .unset] [(.double w1)])) rfl (hb hby d4_18) t k) ?_
  refine own_go (x' := T5.setTop (mkF m 4 #[.val (.ref ao0), .val (.int 0), .val (.int (-1)), .val (.int ((1 : Int32) + (1 : Int32))), .unset] [])) (fun _ k => XS.dcmpS X5.here hx rfl (hb hby d4_21) rfl rfl (XS.ifYes X5.here hx rfl (pc0 := 22) (pc' := 98) rfl (hb hby d4_22) rfl ((if0 _ _).trans (flt n_w1).2.1) (by decide) (by decide) (XS.iinc X5.here hx rfl (hb hby d4_98) rfl (l' := #[.val (.ref ao0), .val (.int 0), .val (.int (-1)), .val (.int ((1 : Int32) + (1 : Int32))), .unset]) rfl (XS.goto X5.here hx rfl (pc0 := 101) (pc' := 4) rfl (hb hby d4_101) (by decide) (by decide) k)))) ?_
  rw [show ((1 : Int32) + (1 : Int32)) = (2 : Int32) from by decide +kernel]
  refine own_go (x' := T5.setTop (mkF m 6 #[.val (.ref ao0), .val (.int 0), .val (.int (-1)), .val (.int 2), .unset] [(.ref ao0), (.int 2)])) (fun _ k => XS.iloadN X5.here hx rfl (hb hby d4_4) rfl (XS.aloadN X5.here hx rfl (hb hby d4_5) rfl rfl k)) ?_
  obtain ⟨T7, X7, e7, st7⟩ := getF X5 hx hZ hown (host := "") (Or.inl (own_w hw 10 rfl)) Via.refl e5 F_ao0_rows (g := (mkF m 6 #[.val (.ref ao0), .val (.int 0), .val (.int (-1)), .val (.int 2), .unset] [(.ref ao0), (.int 2)])) rfl rfl (hb hby d4_6)
  refine own_go (x' := T7.setTop (mkF m 9 #[.val (.ref ao0), .val (.int 0), .val (.int (-1)), .val (.int 2), .unset] [(.int 2), (.int 2)])) st7 ?_
  refine own_go (x' := T7.setTop (mkF m 105 #[.val (.ref ao0), .val (.int 0), .val (.int (-1)), .val (.int 2), .unset] [(.int (-1))])) (fun _ k => XS.icmpYes X7.here hx rfl (pc0 := 9) (pc' := 104) rfl (hb hby d4_9) rfl (flt (Int32.lt_irrefl)).2.1 (by decide) (by decide) (XS.iloadN X7.here hx rfl (hb hby d4_104) rfl k)) ?_
  refine own_retI X7 hx hlk hret (hb hby d4_105) ?_ (by decide) (by decide)
  rw [e7]
  exact ⟨rfl, Nf, rfl⟩
theorem d4_25 : decode prog_14_method_5_code 25 = .ok (.iload_n 2, 1) := by decide +kernel
theorem d4_26 : decode prog_14_method_5_code 26 = .ok (.ifCond .ge 9, 3) := by decide +kernel
theorem d4_29 : decode prog_14_method_5_code 29 = .ok (.iconst 1, 1) := by decide +kernel
theorem d4_30 : decode prog_14_method_5_code 30 = .ok (.istore 4, 2) := by decide +kernel
theorem d4_32 : decode prog_14_method_5_code 32 = .ok (.goto 55, 3) := by decide +kernel
theorem d4_87 : decode prog_14_method_5_code 87 = .ok (.iload 4, 2) := by decide +kernel
theorem d4_89 : decode prog_14_method_5_code 89 = .ok (.ifCond .eq 7, 3) := by decide +kernel
theorem d4_92 : decode prog_14_method_5_code 92 = .ok (.iload_n 3, 1) := by decide +kernel
theorem d4_93 : decode prog_14_method_5_code 93 = .ok (.goto 4, 3) := by decide +kernel
theorem d4_97 : decode prog_14_method_5_code 97 = .ok (.istore_n 2, 1) := by decide +kernel
def Q_rm4_10 (Z : State) (ao0 va : Addr) (kv : ClassId) (w0 w1 : UInt64) (h0 : Heap) (n0 : Nat) (v : Option Value) (h : Heap) (L : List Loc) : Prop := v = some (.int (0 : Int32)) ∧ Fr n0 L ∧ h = h0
theorem pn_rm4_10 : plainName "com/example/moving_tokens/movingtokens/DualSimplex" = true := by first | (simp [plainName, overriddenIn]; done) | decide +kernel
theorem ef_rm4_10 (m : MethodId) (x0 : Addr) (x1 : Int32) : entryFrame m #[(.ref x0), (.int x1)] 5 = mkF m 0 #[.val (.ref x0), .val (.int x1), .unset, .unset, .unset] [] := by first | (simp [entryFrame, mkF, argsToLocals, Value.category]; done) | rfl
set_option maxRecDepth 65536 in
set_option maxHeartbeats 40000000 in
theorem rm4_10 (l : Launch) (Z : State) (a0 : Array Value) (hw : ∀ d ∈ tables_1, d.before a0 Z = true) (ws : List Jvm.Cond) (ao0 va : Addr) (kv : ClassId) (w0 w1 : UInt64) (h0 : Heap) (n0 : Nat) (Z0 : n0 ≤ h0.size) (F_ao0_rows : Fld Z h0 ao0 "com/example/moving_tokens/movingtokens/DualSimplex" "rows" "I" (.int 2)) (F_ao0_value : Fld Z h0 ao0 "com/example/moving_tokens/movingtokens/DualSimplex" "value" "[D" (.ref va)) (V_va : Arv Z h0 va kv .double (2 : Int32) [(.double w0), (.double w1)] (.double 0)) (n_w0 : cmpValue (FP.dcmp w0 (13665607370011141269 : UInt64)) .g < 0) (n_w1 : ¬ cmpValue (FP.dcmp w1 (13665607370011141269 : UInt64)) .g < 0) :
    MetFree l (⟨"com/example/moving_tokens/movingtokens/DualSimplex", "leavingRow", "(Z)I"⟩ : MethodName) (head1 (Jvm.Cond.code (⟨"com/example/moving_tokens/movingtokens/DualSimplex", "leavingRow", "(Z)I"⟩ : MethodName) prog_14_method_5_code 5 (some .int) :: ws) ({ frames := 0, cells := 0, slots := 0, locals := 0 } : Room)) (fun a U => a = #[(.ref ao0), (.int 0)] ∧ Z.Warmed39 U.vm ∧ U.heap = h0) (fun _ _ _ _ _ => True) (fun _ U o U' => ∃ v L, o = .returned v ∧ (Q_rm4_10 Z ao0 va kv w0 w1 h0 n0) v U'.heap L ∧ FrameEnd U o U' L ({ frames := 0, cells := 0, slots := 0, locals := 0 } : Room).cells ({ frames := 0, cells := 0, slots := 0, locals := 0 } : Room).slots) := by
  refine MetFree.of_bodySF (plainFor_of_name pn_rm4_10) hisR ?_
  intro p e s m args below meth c s₁ Bd hml0 hP hK
  obtain ⟨rfl, hZ, hh⟩ := hP
  have hx := Bd.exec
  have hby := Bd.bytes
  have hlk := BodyLoose.notSynchronized Bd
  have hret := Bd.returns
  have hml : c.maxLocals = 5 := hml0
  have hown : s.vm.findClass "com/example/moving_tokens/movingtokens/DualSimplex" = some m.cls := findClass_of_methodNamed Bd.named
  have hnm := (name_of_methodNamed Bd.named Bd.method).1
  have X0 : Stand p l e ({ frames := 0, cells := 0, slots := 0, locals := 0 } : Room) s m #[(.ref ao0), (.int 0)] below meth c s₁ [] 0 0 := Stand.of_body Bd
  have e0 : s₁.heap = h0 := by rw [← hh, Bd.state]; rfl
  have Nf := Fr.nil n0
  have Zs := Z0
  have Kp : Keep h0 h0 [] := Keep.refl _ _
  show own_End p e below s (Q_rm4_10 Z ao0 va kv w0 w1 h0 n0) ({ frames := 0, cells := 0, slots := 0, locals := 0 } : Room).cells ({ frames := 0, cells := 0, slots := 0, locals := 0 } : Room).slots (s₁.setTop (entryFrame m #[(.ref ao0), (.int 0)] 5))
  refine own_go (x' := s₁.setTop (mkF m 0 #[.val (.ref ao0), .val (.int 0), .unset, .unset, .unset] [])) (fun t k => castTop (ef_rm4_10 m ao0 (0 : Int32)) k) ?_
  refine own_go (x' := s₁.setTop (mkF m 6 #[.val (.ref ao0), .val (.int 0), .val (.int (-1)), .val (.int 0), .unset] [(.ref ao0), (.int 0)])) (fun _ k => XS.iconst X0.here hx rfl (hb hby d4_0) (XS.istoreN X0.here hx rfl (hb hby d4_1) rfl (l' := #[.val (.ref ao0), .val (.int 0), .val (.int (-1)), .unset, .unset]) rfl (XS.iconst X0.here hx rfl (hb hby d4_2) (XS.istoreN X0.here hx rfl (hb hby d4_3) rfl (l' := #[.val (.ref ao0), .val (.int 0), .val (.int (-1)), .val (.int 0), .unset]) rfl (XS.iloadN X0.here hx rfl (hb hby d4_4) rfl (XS.aloadN X0.here hx rfl (hb hby d4_5) rfl rfl k)))))) ?_
  obtain ⟨T1, X1, e1, st1⟩ := getF X0 hx hZ hown (host := "") (Or.inl (own_w hw 10 rfl)) Via.refl e0 F_ao0_rows (g := (mkF m 6 #[.val (.ref ao0), .val (.int 0), .val (.int (-1)), .val (.int 0), .unset] [(.ref ao0), (.int 0)])) rfl rfl (hb hby d4_6)
  refine own_go (x' := T1.setTop (mkF m 9 #[.val (.ref ao0), .val (.int 0), .val (.int (-1)), .val (.int 0), .unset] [(.int 2), (.int 0)])) st1 ?_
  refine own_go (x' := T1.setTop (mkF m 13 #[.val (.ref ao0), .val (.int 0), .val (.int (-1)), .val (.int 0), .unset] [(.ref ao0)])) (fun _ k => XS.icmpNo X1.here hx rfl (hb hby d4_9) rfl (tlt (by decide +kernel : ((0 : Int32) < (2 : Int32)))).2.1 (XS.aloadN X1.here hx rfl (hb hby d4_12) rfl rfl k)) ?_
  obtain ⟨T2, X2, e2, st2⟩ := getF X1 hx hZ hown (host := "") (Or.inl (own_w hw 25 rfl)) Via.refl e1 F_ao0_value (g := (mkF m 13 #[.val (.ref ao0), .val (.int 0), .val (.int (-1)), .val (.int 0), .unset] [(.ref ao0)])) rfl rfl (hb hby d4_13)
  refine own_go (x' := T2.setTop (mkF m 16 #[.val (.ref ao0), .val (.int 0), .val (.int (-1)), .val (.int 0), .unset] [(.ref va)])) st2 ?_
  refine own_go (x' := T2.setTop (mkF m 17 #[.val (.ref ao0), .val (.int 0), .val (.int (-1)), .val (.int 0), .unset] [(.int 0), (.ref va)])) (fun _ k => XS.iloadN X2.here hx rfl (hb hby d4_16) rfl k) ?_
  obtain ⟨cl3, Ar3, q3, Sz3, Nn3, Hh3, Gg3⟩ := id V_va
  have hin3 : ¬ ((0 : Int32) < 0 ∨ cl3.slots.size ≤ ((0 : Int32)).toNatClampNeg) := inb_of Sz3 ⟨by decide, by decide⟩
  refine own_go (x' := T2.setTop (mkF m 18 #[.val (.ref ao0), .val (.int 0), .val (.int (-1)), .val (.int 0), .unset] [(.double w0)])) (X2.daload hx (j := (0 : Int32)) (v := (.double w0)) (Eq.trans (congrArg (fun h_ => h_[_]?) e2) Ar3.1) (State.isArrayOf_alike hZ.alike Ar3.2.1) Ar3.2.2 hin3 (Hh3.at hin3 rfl) (g := (mkF m 17 #[.val (.ref ao0), .val (.int 0), .val (.int (-1)), .val (.int 0), .unset] [(.int 0), (.ref va)])) rfl rfl (hb hby d4_17)) ?_
  refine own_go (x' := T2.setTop (mkF m 21 #[.val (.ref ao0), .val (.int 0), .val (.int (-1)), .val (.int 0), .unset] [(.double (13665607370011141269 : UInt64)), (.double w0)])) (fun t k => X2.ldc2DoubleC hx hown (mvT hZ (own_w hw 43 rfl)) (g := (mkF m 18 #[.val (.ref ao0), .val (.int 0), .val (.int (-1)), .val (.int 0), .unset] [(.double w0)])) rfl (hb hby d4_18) t k) ?_
  refine own_go (x' := T2.setTop (mkF m 32 #[.val (.ref ao0), .val (.int 0), .val (.int (-1)), .val (.int 0), .val (.int 1)] [])) (fun _ k => XS.dcmpS X2.here hx rfl (hb hby d4_21) rfl rfl (XS.ifNo X2.here hx rfl (hb hby d4_22) rfl ((if0 _ _).trans (tlt n_w0).2.1) (XS.iloadN X2.here hx rfl (hb hby d4_25) rfl (XS.ifNo X2.here hx rfl (hb hby d4_26) rfl ((if0 _ _).trans (tlt (by decide +kernel : ((-1 : Int32) < (0 : Int32)))).2.1) (XS.iconst X2.here hx rfl (hb hby d4_29) (XS.istore X2.here hx rfl (hb hby d4_30) rfl (l' := #[.val (.ref ao0), .val (.int 0), .val (.int (-1)), .val (.int 0), .val (.int 1)]) rfl k)))))) ?_
  refine own_go (x' := T2.setTop (mkF m 98 #[.val (.ref ao0), .val (.int 0), .val (.int 0), .val (.int 0), .val (.int 1)] [])) (fun _ k => XS.goto X2.here hx rfl (pc0 := 32) (pc' := 87) rfl (hb hby d4_32) (by decide) (by decide) (XS.iload X2.here hx rfl (hb hby d4_87) rfl (XS.ifNo X2.here hx rfl (hb hby d4_89) rfl ((if0 _ _).trans (feq (by decide +kernel : ¬ ((1 : Int32) = (0 : Int32)))).1) (XS.iloadN X2.here hx rfl (hb hby d4_92) rfl (XS.goto X2.here hx rfl (pc0 := 93) (pc' := 97) rfl (hb hby d4_93) (by decide) (by decide) (XS.istoreN X2.here hx rfl (hb hby d4_97) rfl (l' := #[.val (.ref ao0), .val (.int 0), .val (.int 0), .val (.int 0), .val (.int 1)]) rfl k)))))) ?_
  refine own_go (x' := T2.setTop (mkF m 4 #[.val (.ref ao0), .val (.int 0), .val (.int 0), .val (.int ((0 : Int32) + (1 : Int32))), .val (.int 1)] [])) (fun _ k => XS.iinc X2.here hx rfl (hb hby d4_98) rfl (l' := #[.val (.ref ao0), .val (.int 0), .val (.int 0), .val (.int ((0 : Int32) + (1 : Int32))), .val (.int 1)]) rfl (XS.goto X2.here hx rfl (pc0 := 101) (pc' := 4) rfl (hb hby d4_101) (by decide) (by decide) k)) ?_
  rw [show ((0 : Int32) + (1 : Int32)) = (1 : Int32) from by decide +kernel]
  refine own_go (x' := T2.setTop (mkF m 6 #[.val (.ref ao0), .val (.int 0), .val (.int 0), .val (.int 1), .val (.int 1)] [(.ref ao0), (.int 1)])) (fun _ k => XS.iloadN X2.here hx rfl (hb hby d4_4) rfl (XS.aloadN X2.here hx rfl (hb hby d4_5) rfl rfl k)) ?_
  obtain ⟨T4, X4, e4, st4⟩ := getF X2 hx hZ hown (host := "") (Or.inl (own_w hw 10 rfl)) Via.refl e2 F_ao0_rows (g := (mkF m 6 #[.val (.ref ao0), .val (.int 0), .val (.int 0), .val (.int 1), .val (.int 1)] [(.ref ao0), (.int 1)])) rfl rfl (hb hby d4_6)
  refine own_go (x' := T4.setTop (mkF m 9 #[.val (.ref ao0), .val (.int 0), .val (.int 0), .val (.int 1), .val (.int 1)] [(.int 2), (.int 1)])) st4 ?_
  refine own_go (x' := T4.setTop (mkF m 13 #[.val (.ref ao0), .val (.int 0), .val (.int 0), .val (.int 1), .val (.int 1)] [(.ref ao0)])) (fun _ k => XS.icmpNo X4.here hx rfl (hb hby d4_9) rfl (tlt (by decide +kernel : ((1 : Int32) < (2 : Int32)))).2.1 (XS.aloadN X4.here hx rfl (hb hby d4_12) rfl rfl k)) ?_
  obtain ⟨T5, X5, e5, st5⟩ := getF X4 hx hZ hown (host := "") (Or.inl (own_w hw 25 rfl)) Via.refl e4 F_ao0_value (g := (mkF m 13 #[.val (.ref ao0), .val (.int 0), .val (.int 0), .val (.int 1), .val (.int 1)] [(.ref ao0)])) rfl rfl (hb hby d4_13)
  refine own_go (x' := T5.setTop (mkF m 16 #[.val (.ref ao0), .val (.int 0), .val (.int 0), .val (.int 1), .val (.int 1)] [(.ref va)])) st5 ?_
  refine own_go (x' := T5.setTop (mkF m 17 #[.val (.ref ao0), .val (.int 0), .val (.int 0), .val (.int 1), .val (.int 1)] [(.int 1), (.ref va)])) (fun _ k => XS.iloadN X5.here hx rfl (hb hby d4_16) rfl k) ?_
  obtain ⟨cl6, Ar6, q6, Sz6, Nn6, Hh6, Gg6⟩ := id V_va
  have hin6 : ¬ ((1 : Int32) < 0 ∨ cl6.slots.size ≤ ((1 : Int32)).toNatClampNeg) := inb_of Sz6 ⟨by decide, by decide⟩
  refine own_go (x' := T5.setTop (mkF m 18 #[.val (.ref ao0), .val (.int 0), .val (.int 0), .val (.int 1), .val (.int 1)] [(.double w1)])) (X5.daload hx (j := (1 : Int32)) (v := (.double w1)) (Eq.trans (congrArg (fun h_ => h_[_]?) e5) Ar6.1) (State.isArrayOf_alike hZ.alike Ar6.2.1) Ar6.2.2 hin6 (Hh6.at hin6 rfl) (g := (mkF m 17 #[.val (.ref ao0), .val (.int 0), .val (.int 0), .val (.int 1), .val (.int 1)] [(.int 1), (.ref va)])) rfl rfl (hb hby d4_17)) ?_
  refine own_go (x' := T5.setTop (mkF m 21 #[.val (.ref ao0), .val (.int 0), .val (.int 0), .val (.int 1), .val (.int 1)] [(.double (13665607370011141269 : UInt64)), (.double w1)])) (fun t k => X5.ldc2DoubleC hx hown (mvT hZ (own_w hw 43 rfl)) (g := (mkF m 18 #[.val (.ref ao0), .val (.int 0), .val (.int 0), .val (.int 1), .val (.int 1)] [(.double w1)])) rfl (hb hby d4_18) t k) ?_
  refine own_go (x' := T5.setTop (mkF m 4 #[.val (.ref ao0), .val (.int 0), .val (.int 0), .val (.int ((1 : Int32) + (1 : Int32))), .val (.int 1)] [])) (fun _ k => XS.dcmpS X5.here hx rfl (hb hby d4_21) rfl rfl (XS.ifYes X5.here hx rfl (pc0 := 22) (pc' := 98) rfl (hb hby d4_22) rfl ((if0 _ _).trans (flt n_w1).2.1) (by decide) (by decide) (XS.iinc X5.here hx rfl (hb hby d4_98) rfl (l' := #[.val (.ref ao0), .val (.int 0), .val (.int 0), .val (.int ((1 : Int32) + (1 : Int32))), .val (.int 1)]) rfl (XS.goto X5.here hx rfl (pc0 := 101) (pc' := 4) rfl (hb hby d4_101) (by decide) (by decide) k)))) ?_
  rw [show ((1 : Int32) + (1 : Int32)) = (2 : Int32) from by decide +kernel]
  refine own_go (x' := T5.setTop (mkF m 6 #[.val (.ref ao0), .val (.int 0), .val (.int 0), .val (.int 2), .val (.int 1)] [(.ref ao0), (.int 2)])) (fun _ k => XS.iloadN X5.here hx rfl (hb hby d4_4) rfl (XS.aloadN X5.here hx rfl (hb hby d4_5) rfl rfl k)) ?_
  obtain ⟨T7, X7, e7, st7⟩ := getF X5 hx hZ hown (host := "") (Or.inl (own_w hw 10 rfl)) Via.refl e5 F_ao0_rows (g := (mkF m 6 #[.val (.ref ao0), .val (.int 0), .val (.int 0), .val (.int 2), .val (.int 1)] [(.ref ao0), (.int 2)])) rfl rfl (hb hby d4_6)
  refine own_go (x' := T7.setTop (mkF m 9 #[.val (.ref ao0), .val (.int 0), .val (.int 0), .val (.int 2), .val (.int 1)] [(.int 2), (.int 2)])) st7 ?_
  refine own_go (x' := T7.setTop (mkF m 105 #[.val (.ref ao0), .val (.int 0), .val (.int 0), .val (.int 2), .val (.int 1)] [(.int 0)])) (fun _ k => XS.icmpYes X7.here hx rfl (pc0 := 9) (pc' := 104) rfl (hb hby d4_9) rfl (flt (Int32.lt_irrefl)).2.1 (by decide) (by decide) (XS.iloadN X7.here hx rfl (hb hby d4_104) rfl k)) ?_
  refine own_retI X7 hx hlk hret (hb hby d4_105) ?_ (by decide) (by decide)
  rw [e7]
  exact ⟨rfl, Nf, rfl⟩
def Q_rm4_01 (Z : State) (ao0 va : Addr) (kv : ClassId) (w0 w1 : UInt64) (h0 : Heap) (n0 : Nat) (v : Option Value) (h : Heap) (L : List Loc) : Prop := v = some (.int (1 : Int32)) ∧ Fr n0 L ∧ h = h0
theorem pn_rm4_01 : plainName "com/example/moving_tokens/movingtokens/DualSimplex" = true := by first | (simp [plainName, overriddenIn]; done) | decide +kernel
theorem ef_rm4_01 (m : MethodId) (x0 : Addr) (x1 : Int32) : entryFrame m #[(.ref x0), (.int x1)] 5 = mkF m 0 #[.val (.ref x0), .val (.int x1), .unset, .unset, .unset] [] := by first | (simp [entryFrame, mkF, argsToLocals, Value.category]; done) | rfl
set_option maxRecDepth 65536 in
set_option maxHeartbeats 40000000 in
theorem rm4_01 (l : Launch) (Z : State) (a0 : Array Value) (hw : ∀ d ∈ tables_1, d.before a0 Z = true) (ws : List Jvm.Cond) (ao0 va : Addr) (kv : ClassId) (w0 w1 : UInt64) (h0 : Heap) (n0 : Nat) (Z0 : n0 ≤ h0.size) (F_ao0_rows : Fld Z h0 ao0 "com/example/moving_tokens/movingtokens/DualSimplex" "rows" "I" (.int 2)) (F_ao0_value : Fld Z h0 ao0 "com/example/moving_tokens/movingtokens/DualSimplex" "value" "[D" (.ref va)) (V_va : Arv Z h0 va kv .double (2 : Int32) [(.double w0), (.double w1)] (.double 0)) (n_w0 : ¬ cmpValue (FP.dcmp w0 (13665607370011141269 : UInt64)) .g < 0) (n_w1 : cmpValue (FP.dcmp w1 (13665607370011141269 : UInt64)) .g < 0) :
    MetFree l (⟨"com/example/moving_tokens/movingtokens/DualSimplex", "leavingRow", "(Z)I"⟩ : MethodName) (head1 (Jvm.Cond.code (⟨"com/example/moving_tokens/movingtokens/DualSimplex", "leavingRow", "(Z)I"⟩ : MethodName) prog_14_method_5_code 5 (some .int) :: ws) ({ frames := 0, cells := 0, slots := 0, locals := 0 } : Room)) (fun a U => a = #[(.ref ao0), (.int 0)] ∧ Z.Warmed39 U.vm ∧ U.heap = h0) (fun _ _ _ _ _ => True) (fun _ U o U' => ∃ v L, o = .returned v ∧ (Q_rm4_01 Z ao0 va kv w0 w1 h0 n0) v U'.heap L ∧ FrameEnd U o U' L ({ frames := 0, cells := 0, slots := 0, locals := 0 } : Room).cells ({ frames := 0, cells := 0, slots := 0, locals := 0 } : Room).slots) := by
  refine MetFree.of_bodySF (plainFor_of_name pn_rm4_01) hisR ?_
  intro p e s m args below meth c s₁ Bd hml0 hP hK
  obtain ⟨rfl, hZ, hh⟩ := hP
  have hx := Bd.exec
  have hby := Bd.bytes
  have hlk := BodyLoose.notSynchronized Bd
  have hret := Bd.returns
  have hml : c.maxLocals = 5 := hml0
  have hown : s.vm.findClass "com/example/moving_tokens/movingtokens/DualSimplex" = some m.cls := findClass_of_methodNamed Bd.named
  have hnm := (name_of_methodNamed Bd.named Bd.method).1
  have X0 : Stand p l e ({ frames := 0, cells := 0, slots := 0, locals := 0 } : Room) s m #[(.ref ao0), (.int 0)] below meth c s₁ [] 0 0 := Stand.of_body Bd
  have e0 : s₁.heap = h0 := by rw [← hh, Bd.state]; rfl
  have Nf := Fr.nil n0
  have Zs := Z0
  have Kp : Keep h0 h0 [] := Keep.refl _ _
  show own_End p e below s (Q_rm4_01 Z ao0 va kv w0 w1 h0 n0) ({ frames := 0, cells := 0, slots := 0, locals := 0 } : Room).cells ({ frames := 0, cells := 0, slots := 0, locals := 0 } : Room).slots (s₁.setTop (entryFrame m #[(.ref ao0), (.int 0)] 5))
  refine own_go (x' := s₁.setTop (mkF m 0 #[.val (.ref ao0), .val (.int 0), .unset, .unset, .unset] [])) (fun t k => castTop (ef_rm4_01 m ao0 (0 : Int32)) k) ?_
  refine own_go (x' := s₁.setTop (mkF m 6 #[.val (.ref ao0), .val (.int 0), .val (.int (-1)), .val (.int 0), .unset] [(.ref ao0), (.int 0)])) (fun _ k => XS.iconst X0.here hx rfl (hb hby d4_0) (XS.istoreN X0.here hx rfl (hb hby d4_1) rfl (l' := #[.val (.ref ao0), .val (.int 0), .val (.int (-1)), .unset, .unset]) rfl (XS.iconst X0.here hx rfl (hb hby d4_2) (XS.istoreN X0.here hx rfl (hb hby d4_3) rfl (l' := #[.val (.ref ao0), .val (.int 0), .val (.int (-1)), .val (.int 0), .unset]) rfl (XS.iloadN X0.here hx rfl (hb hby d4_4) rfl (XS.aloadN X0.here hx rfl (hb hby d4_5) rfl rfl k)))))) ?_
  obtain ⟨T1, X1, e1, st1⟩ := getF X0 hx hZ hown (host := "") (Or.inl (own_w hw 10 rfl)) Via.refl e0 F_ao0_rows (g := (mkF m 6 #[.val (.ref ao0), .val (.int 0), .val (.int (-1)), .val (.int 0), .unset] [(.ref ao0), (.int 0)])) rfl rfl (hb hby d4_6)
  refine own_go (x' := T1.setTop (mkF m 9 #[.val (.ref ao0), .val (.int 0), .val (.int (-1)), .val (.int 0), .unset] [(.int 2), (.int 0)])) st1 ?_
  refine own_go (x' := T1.setTop (mkF m 13 #[.val (.ref ao0), .val (.int 0), .val (.int (-1)), .val (.int 0), .unset] [(.ref ao0)])) (fun _ k => XS.icmpNo X1.here hx rfl (hb hby d4_9) rfl (tlt (by decide +kernel : ((0 : Int32) < (2 : Int32)))).2.1 (XS.aloadN X1.here hx rfl (hb hby d4_12) rfl rfl k)) ?_
  obtain ⟨T2, X2, e2, st2⟩ := getF X1 hx hZ hown (host := "") (Or.inl (own_w hw 25 rfl)) Via.refl e1 F_ao0_value (g := (mkF m 13 #[.val (.ref ao0), .val (.int 0), .val (.int (-1)), .val (.int 0), .unset] [(.ref ao0)])) rfl rfl (hb hby d4_13)
  refine own_go (x' := T2.setTop (mkF m 16 #[.val (.ref ao0), .val (.int 0), .val (.int (-1)), .val (.int 0), .unset] [(.ref va)])) st2 ?_
  refine own_go (x' := T2.setTop (mkF m 17 #[.val (.ref ao0), .val (.int 0), .val (.int (-1)), .val (.int 0), .unset] [(.int 0), (.ref va)])) (fun _ k => XS.iloadN X2.here hx rfl (hb hby d4_16) rfl k) ?_
  obtain ⟨cl3, Ar3, q3, Sz3, Nn3, Hh3, Gg3⟩ := id V_va
  have hin3 : ¬ ((0 : Int32) < 0 ∨ cl3.slots.size ≤ ((0 : Int32)).toNatClampNeg) := inb_of Sz3 ⟨by decide, by decide⟩
  refine own_go (x' := T2.setTop (mkF m 18 #[.val (.ref ao0), .val (.int 0), .val (.int (-1)), .val (.int 0), .unset] [(.double w0)])) (X2.daload hx (j := (0 : Int32)) (v := (.double w0)) (Eq.trans (congrArg (fun h_ => h_[_]?) e2) Ar3.1) (State.isArrayOf_alike hZ.alike Ar3.2.1) Ar3.2.2 hin3 (Hh3.at hin3 rfl) (g := (mkF m 17 #[.val (.ref ao0), .val (.int 0), .val (.int (-1)), .val (.int 0), .unset] [(.int 0), (.ref va)])) rfl rfl (hb hby d4_17)) ?_
  refine own_go (x' := T2.setTop (mkF m 21 #[.val (.ref ao0), .val (.int 0), .val (.int (-1)), .val (.int 0), .unset] [(.double (13665607370011141269 : UInt64)), (.double w0)])) (fun t k => X2.ldc2DoubleC hx hown (mvT hZ (own_w hw 43 rfl)) (g := (mkF m 18 #[.val (.ref ao0), .val (.int 0), .val (.int (-1)), .val (.int 0), .unset] [(.double w0)])) rfl (hb hby d4_18) t k) ?_
  refine own_go (x' := T2.setTop (mkF m 4 #[.val (.ref ao0), .val (.int 0), .val (.int (-1)), .val (.int ((0 : Int32) + (1 : Int32))), .unset] [])) (fun _ k => XS.dcmpS X2.here hx rfl (hb hby d4_21) rfl rfl (XS.ifYes X2.here hx rfl (pc0 := 22) (pc' := 98) rfl (hb hby d4_22) rfl ((if0 _ _).trans (flt n_w0).2.1) (by decide) (by decide) (XS.iinc X2.here hx rfl (hb hby d4_98) rfl (l' := #[.val (.ref ao0), .val (.int 0), .val (.int (-1)), .val (.int ((0 : Int32) + (1 : Int32))), .unset]) rfl (XS.goto X2.here hx rfl (pc0 := 101) (pc' := 4) rfl (hb hby d4_101) (by decide) (by decide) k)))) ?_
  rw [show ((0 : Int32) + (1 : Int32)) = (1 : Int32) from by decide +kernel]
  refine own_go (x' := T2.setTop (mkF m 6 #[.val (.ref ao0), .val (.int 0), .val (.int (-1)), .val (.int 1), .unset] [(.ref ao0), (.int 1)])) (fun _ k => XS.iloadN X2.here hx rfl (hb hby d4_4) rfl (XS.aloadN X2.here hx rfl (hb hby d4_5) rfl rfl k)) ?_
  obtain ⟨T4, X4, e4, st4⟩ := getF X2 hx hZ hown (host := "") (Or.inl (own_w hw 10 rfl)) Via.refl e2 F_ao0_rows (g := (mkF m 6 #[.val (.ref ao0), .val (.int 0), .val (.int (-1)), .val (.int 1), .unset] [(.ref ao0), (.int 1)])) rfl rfl (hb hby d4_6)
  refine own_go (x' := T4.setTop (mkF m 9 #[.val (.ref ao0), .val (.int 0), .val (.int (-1)), .val (.int 1), .unset] [(.int 2), (.int 1)])) st4 ?_
  refine own_go (x' := T4.setTop (mkF m 13 #[.val (.ref ao0), .val (.int 0), .val (.int (-1)), .val (.int 1), .unset] [(.ref ao0)])) (fun _ k => XS.icmpNo X4.here hx rfl (hb hby d4_9) rfl (tlt (by decide +kernel : ((1 : Int32) < (2 : Int32)))).2.1 (XS.aloadN X4.here hx rfl (hb hby d4_12) rfl rfl k)) ?_
  obtain ⟨T5, X5, e5, st5⟩ := getF X4 hx hZ hown (host := "") (Or.inl (own_w hw 25 rfl)) Via.refl e4 F_ao0_value (g := (mkF m 13 #[.val (.ref ao0), .val (.int 0), .val (.int (-1)), .val (.int 1), .unset] [(.ref ao0)])) rfl rfl (hb hby d4_13)
  refine own_go (x' := T5.setTop (mkF m 16 #[.val (.ref ao0), .val (.int 0), .val (.int (-1)), .val (.int 1), .unset] [(.ref va)])) st5 ?_
  refine own_go (x' := T5.setTop (mkF m 17 #[.val (.ref ao0), .val (.int 0), .val (.int (-1)), .val (.int 1), .unset] [(.int 1), (.ref va)])) (fun _ k => XS.iloadN X5.here hx rfl (hb hby d4_16) rfl k) ?_
  obtain ⟨cl6, Ar6, q6, Sz6, Nn6, Hh6, Gg6⟩ := id V_va
  have hin6 : ¬ ((1 : Int32) < 0 ∨ cl6.slots.size ≤ ((1 : Int32)).toNatClampNeg) := inb_of Sz6 ⟨by decide, by decide⟩
  refine own_go (x' := T5.setTop (mkF m 18 #[.val (.ref ao0), .val (.int 0), .val (.int (-1)), .val (.int 1), .unset] [(.double w1)])) (X5.daload hx (j := (1 : Int32)) (v := (.double w1)) (Eq.trans (congrArg (fun h_ => h_[_]?) e5) Ar6.1) (State.isArrayOf_alike hZ.alike Ar6.2.1) Ar6.2.2 hin6 (Hh6.at hin6 rfl) (g := (mkF m 17 #[.val (.ref ao0), .val (.int 0), .val (.int (-1)), .val (.int 1), .unset] [(.int 1), (.ref va)])) rfl rfl (hb hby d4_17)) ?_
  refine own_go (x' := T5.setTop (mkF m 21 #[.val (.ref ao0), .val (.int 0), .val (.int (-1)), .val (.int 1), .unset] [(.double (13665607370011141269 : UInt64)), (.double w1)])) (fun t k => X5.ldc2DoubleC hx hown (mvT hZ (own_w hw 43 rfl)) (g := (mkF m 18 #[.val (.ref ao0), .val (.int 0), .val (.int (-1)), .val (.int 1), .unset] [(.double w1)])) rfl (hb hby d4_18) t k) ?_
  refine own_go (x' := T5.setTop (mkF m 32 #[.val (.ref ao0), .val (.int 0), .val (.int (-1)), .val (.int 1), .val (.int 1)] [])) (fun _ k => XS.dcmpS X5.here hx rfl (hb hby d4_21) rfl rfl (XS.ifNo X5.here hx rfl (hb hby d4_22) rfl ((if0 _ _).trans (tlt n_w1).2.1) (XS.iloadN X5.here hx rfl (hb hby d4_25) rfl (XS.ifNo X5.here hx rfl (hb hby d4_26) rfl ((if0 _ _).trans (tlt (by decide +kernel : ((-1 : Int32) < (0 : Int32)))).2.1) (XS.iconst X5.here hx rfl (hb hby d4_29) (XS.istore X5.here hx rfl (hb hby d4_30) rfl (l' := #[.val (.ref ao0), .val (.int 0), .val (.int (-1)), .val (.int 1), .val (.int 1)]) rfl k)))))) ?_
  refine own_go (x' := T5.setTop (mkF m 98 #[.val (.ref ao0), .val (.int 0), .val (.int 1), .val (.int 1), .val (.int 1)] [])) (fun _ k => XS.goto X5.here hx rfl (pc0 := 32) (pc' := 87) rfl (hb hby d4_32) (by decide) (by decide) (XS.iload X5.here hx rfl (hb hby d4_87) rfl (XS.ifNo X5.here hx rfl (hb hby d4_89) rfl ((if0 _ _).trans (feq (by decide +kernel : ¬ ((1 : Int32) = (0 : Int32)))).1) (XS.iloadN X5.here hx rfl (hb hby d4_92) rfl (XS.goto X5.here hx rfl (pc0 := 93) (pc' := 97) rfl (hb hby d4_93) (by decide) (by decide) (XS.istoreN X5.here hx rfl (hb hby d4_97) rfl (l' := #[.val (.ref ao0), .val (.int 0), .val (.int 1), .val (.int 1), .val (.int 1)]) rfl k)))))) ?_
  refine own_go (x' := T5.setTop (mkF m 4 #[.val (.ref ao0), .val (.int 0), .val (.int 1), .val (.int ((1 : Int32) + (1 : Int32))), .val (.int 1)] [])) (fun _ k => XS.iinc X5.here hx rfl (hb hby d4_98) rfl (l' := #[.val (.ref ao0), .val (.int 0), .val (.int 1), .val (.int ((1 : Int32) + (1 : Int32))), .val (.int 1)]) rfl (XS.goto X5.here hx rfl (pc0 := 101) (pc' := 4) rfl (hb hby d4_101) (by decide) (by decide) k)) ?_
  rw [show ((1 : Int32) + (1 : Int32)) = (2 : Int32) from by decide +kernel]
  refine own_go (x' := T5.setTop (mkF m 6 #[.val (.ref ao0), .val (.int 0), .val (.int 1), .val (.int 2), .val (.int 1)] [(.ref ao0), (.int 2)])) (fun _ k => XS.iloadN X5.here hx rfl (hb hby d4_4) rfl (XS.aloadN X5.here hx rfl (hb hby d4_5) rfl rfl k)) ?_
  obtain ⟨T7, X7, e7, st7⟩ := getF X5 hx hZ hown (host := "") (Or.inl (own_w hw 10 rfl)) Via.refl e5 F_ao0_rows (g := (mkF m 6 #[.val (.ref ao0), .val (.int 0), .val (.int 1), .val (.int 2), .val (.int 1)] [(.ref ao0), (.int 2)])) rfl rfl (hb hby d4_6)
  refine own_go (x' := T7.setTop (mkF m 9 #[.val (.ref ao0), .val (.int 0), .val (.int 1), .val (.int 2), .val (.int 1)] [(.int 2), (.int 2)])) st7 ?_
  refine own_go (x' := T7.setTop (mkF m 105 #[.val (.ref ao0), .val (.int 0), .val (.int 1), .val (.int 2), .val (.int 1)] [(.int 1)])) (fun _ k => XS.icmpYes X7.here hx rfl (pc0 := 9) (pc' := 104) rfl (hb hby d4_9) rfl (flt (Int32.lt_irrefl)).2.1 (by decide) (by decide) (XS.iloadN X7.here hx rfl (hb hby d4_104) rfl k)) ?_
  refine own_retI X7 hx hlk hret (hb hby d4_105) ?_ (by decide) (by decide)
  rw [e7]
  exact ⟨rfl, Nf, rfl⟩
theorem d6_0 : decode prog_14_method_6_code 0 = .ok (.iconst (-1), 1) := by decide +kernel
theorem d6_1 : decode prog_14_method_6_code 1 = .ok (.istore_n 3, 1) := by decide +kernel
theorem d6_2 : decode prog_14_method_6_code 2 = .ok (.dconst 0, 1) := by decide +kernel
theorem d6_3 : decode prog_14_method_6_code 3 = .ok (.dstore 4, 2) := by decide +kernel
theorem d6_5 : decode prog_14_method_6_code 5 = .ok (.iconst 0, 1) := by decide +kernel
theorem d6_6 : decode prog_14_method_6_code 6 = .ok (.istore 6, 2) := by decide +kernel
theorem d6_8 : decode prog_14_method_6_code 8 = .ok (.iload 6, 2) := by decide +kernel
theorem d6_10 : decode prog_14_method_6_code 10 = .ok (.aload_n 0, 1) := by decide +kernel
theorem d6_11 : decode prog_14_method_6_code 11 = .ok (.getfield 13, 3) := by decide +kernel
theorem d6_14 : decode prog_14_method_6_code 14 = .ok (.if_icmp .ge 155, 3) := by decide +kernel
theorem d6_17 : decode prog_14_method_6_code 17 = .ok (.aload_n 0, 1) := by decide +kernel
theorem d6_18 : decode prog_14_method_6_code 18 = .ok (.getfield 16, 3) := by decide +kernel
theorem d6_21 : decode prog_14_method_6_code 21 = .ok (.iload_n 1, 1) := by decide +kernel
theorem d6_22 : decode prog_14_method_6_code 22 = .ok (.aload_n 0, 1) := by decide +kernel
theorem d6_23 : decode prog_14_method_6_code 23 = .ok (.getfield 13, 3) := by decide +kernel
theorem d6_26 : decode prog_14_method_6_code 26 = .ok (.imul, 1) := by decide +kernel
theorem d6_27 : decode prog_14_method_6_code 27 = .ok (.iload 6, 2) := by decide +kernel
theorem d6_29 : decode prog_14_method_6_code 29 = .ok (.iadd, 1) := by decide +kernel
theorem d6_30 : decode prog_14_method_6_code 30 = .ok (.daload, 1) := by decide +kernel
theorem d6_31 : decode prog_14_method_6_code 31 = .ok (.dstore 7, 2) := by decide +kernel
theorem d6_33 : decode prog_14_method_6_code 33 = .ok (.dload 7, 2) := by decide +kernel
theorem d6_35 : decode prog_14_method_6_code 35 = .ok (.ldc2_w 52, 3) := by decide +kernel
theorem d6_38 : decode prog_14_method_6_code 38 = .ok (.dcmp .g, 1) := by decide +kernel
theorem d6_39 : decode prog_14_method_6_code 39 = .ok (.ifCond .ge 124, 3) := by decide +kernel
theorem d6_163 : decode prog_14_method_6_code 163 = .ok (.iinc 6 1, 3) := by decide +kernel
theorem d6_166 : decode prog_14_method_6_code 166 = .ok (.goto (-158), 3) := by decide +kernel
theorem d6_169 : decode prog_14_method_6_code 169 = .ok (.iload_n 3, 1) := by decide +kernel
theorem d6_170 : decode prog_14_method_6_code 170 = .ok (.ireturn, 1) := by decide +kernel
def Q_rm6_00 (Z : State) (ao0 tb co : Addr) (kt kc : ClassId) (t0 t1 t2 t3 : UInt64) (c0 c1 : UInt64) (h0 : Heap) (n0 : Nat) (v : Option Value) (h : Heap) (L : List Loc) : Prop := v = some (.int (-1 : Int32)) ∧ Fr n0 L ∧ h = h0
theorem pn_rm6_00 : plainName "com/example/moving_tokens/movingtokens/DualSimplex" = true := by first | (simp [plainName, overriddenIn]; done) | decide +kernel
theorem ef_rm6_00 (m : MethodId) (x0 : Addr) (x1 : Int32) (x2 : Int32) : entryFrame m #[(.ref x0), (.int x1), (.int x2)] 12 = mkF m 0 #[.val (.ref x0), .val (.int x1), .val (.int x2), .unset, .unset, .unset, .unset, .unset, .unset, .unset, .unset, .unset] [] := by first | (simp [entryFrame, mkF, argsToLocals, Value.category]; done) | rfl
set_option maxRecDepth 65536 in
set_option maxHeartbeats 40000000 in
theorem rm6_00 (l : Launch) (Z : State) (a0 : Array Value) (hw : ∀ d ∈ tables_1, d.before a0 Z = true) (ws : List Jvm.Cond) (ao0 tb co : Addr) (kt kc : ClassId) (t0 t1 t2 t3 : UInt64) (c0 c1 : UInt64) (h0 : Heap) (n0 : Nat) (Z0 : n0 ≤ h0.size) (F_ao0_columns : Fld Z h0 ao0 "com/example/moving_tokens/movingtokens/DualSimplex" "columns" "I" (.int 2)) (F_ao0_tableau : Fld Z h0 ao0 "com/example/moving_tokens/movingtokens/DualSimplex" "tableau" "[D" (.ref tb)) (F_ao0_cost : Fld Z h0 ao0 "com/example/moving_tokens/movingtokens/DualSimplex" "cost" "[D" (.ref co)) (V_tb : Arv Z h0 tb kt .double (4 : Int32) [(.double t0), (.double t1), (.double t2), (.double t3)] (.double 0)) (V_co : Arv Z h0 co kc .double (2 : Int32) [(.double c0), (.double c1)] (.double 0)) (n_t0 : ¬ cmpValue (FP.dcmp t0 (13665607370011141269 : UInt64)) .g < 0) (n_t1 : ¬ cmpValue (FP.dcmp t1 (13665607370011141269 : UInt64)) .g < 0) :
    MetFree l (⟨"com/example/moving_tokens/movingtokens/DualSimplex", "enteringColumn", "(IZ)I"⟩ : MethodName) (head1 (Jvm.Cond.code (⟨"com/example/moving_tokens/movingtokens/DualSimplex", "enteringColumn", "(IZ)I"⟩ : MethodName) prog_14_method_6_code 12 (some .int) :: ws) ({ frames := 0, cells := 0, slots := 0, locals := 0 } : Room)) (fun a U => a = #[(.ref ao0), (.int 0), (.int 0)] ∧ Z.Warmed39 U.vm ∧ U.heap = h0) (fun _ _ _ _ _ => True) (fun _ U o U' => ∃ v L, o = .returned v ∧ (Q_rm6_00 Z ao0 tb co kt kc t0 t1 t2 t3 c0 c1 h0 n0) v U'.heap L ∧ FrameEnd U o U' L ({ frames := 0, cells := 0, slots := 0, locals := 0 } : Room).cells ({ frames := 0, cells := 0, slots := 0, locals := 0 } : Room).slots) := by
  refine MetFree.of_bodySF (plainFor_of_name pn_rm6_00) hisR ?_
  intro p e s m args below meth c s₁ Bd hml0 hP hK
  obtain ⟨rfl, hZ, hh⟩ := hP
  have hx := Bd.exec
  have hby := Bd.bytes
  have hlk := BodyLoose.notSynchronized Bd
  have hret := Bd.returns
  have hml : c.maxLocals = 12 := hml0
  have hown : s.vm.findClass "com/example/moving_tokens/movingtokens/DualSimplex" = some m.cls := findClass_of_methodNamed Bd.named
  have hnm := (name_of_methodNamed Bd.named Bd.method).1
  have X0 : Stand p l e ({ frames := 0, cells := 0, slots := 0, locals := 0 } : Room) s m #[(.ref ao0), (.int 0), (.int 0)] below meth c s₁ [] 0 0 := Stand.of_body Bd
  have e0 : s₁.heap = h0 := by rw [← hh, Bd.state]; rfl
  have Nf := Fr.nil n0
  have Zs := Z0
  have Kp : Keep h0 h0 [] := Keep.refl _ _
  show own_End p e below s (Q_rm6_00 Z ao0 tb co kt kc t0 t1 t2 t3 c0 c1 h0 n0) ({ frames := 0, cells := 0, slots := 0, locals := 0 } : Room).cells ({ frames := 0, cells := 0, slots := 0, locals := 0 } : Room).slots (s₁.setTop (entryFrame m #[(.ref ao0), (.int 0), (.int 0)] 12))
  refine own_go (x' := s₁.setTop (mkF m 0 #[.val (.ref ao0), .val (.int 0), .val (.int 0), .unset, .unset, .unset, .unset, .unset, .unset, .unset, .unset, .unset] [])) (fun t k => castTop (ef_rm6_00 m ao0 (0 : Int32) (0 : Int32)) k) ?_
  refine own_go (x' := s₁.setTop (mkF m 8 #[.val (.ref ao0), .val (.int 0), .val (.int 0), .val (.int (-1)), .val (.double (0 : UInt64)), .second, .val (.int 0), .unset, .unset, .unset, .unset, .unset] [])) (fun _ k => XS.iconst X0.here hx rfl (hb hby d6_0) (XS.istoreN X0.here hx rfl (hb hby d6_1) rfl (l' := #[.val (.ref ao0), .val (.int 0), .val (.int 0), .val (.int (-1)), .unset, .unset, .unset, .unset, .unset, .unset, .unset, .unset]) rfl (XS.dconst0 X0.here hx rfl (hb hby d6_2) rfl (XS.dstore X0.here hx rfl (hb hby d6_3) rfl (l' := #[.val (.ref ao0), .val (.int 0), .val (.int 0), .val (.int (-1)), .val (.double (0 : UInt64)), .second, .unset, .unset, .unset, .unset, .unset, .unset]) rfl (XS.iconst X0.here hx rfl (hb hby d6_5) (XS.istore X0.here hx rfl (hb hby d6_6) rfl (l' := #[.val (.ref ao0), .val (.int 0), .val (.int 0), .val (.int (-1)), .val (.double (0 : UInt64)), .second, .val (.int 0), .unset, .unset, .unset, .unset, .unset]) rfl k)))))) ?_
  refine own_go (x' := s₁.setTop (mkF m 11 #[.val (.ref ao0), .val (.int 0), .val (.int 0), .val (.int (-1)), .val (.double (0 : UInt64)), .second, .val (.int 0), .unset, .unset, .unset, .unset, .unset] [(.ref ao0), (.int 0)])) (fun _ k => XS.iload X0.here hx rfl (hb hby d6_8) rfl (XS.aloadN X0.here hx rfl (hb hby d6_10) rfl rfl k)) ?_
  obtain ⟨T1, X1, e1, st1⟩ := getF X0 hx hZ hown (host := "") (Or.inl (own_w hw 12 rfl)) Via.refl e0 F_ao0_columns (g := (mkF m 11 #[.val (.ref ao0), .val (.int 0), .val (.int 0), .val (.int (-1)), .val (.double (0 : UInt64)), .second, .val (.int 0), .unset, .unset, .unset, .unset, .unset] [(.ref ao0), (.int 0)])) rfl rfl (hb hby d6_11)
  refine own_go (x' := T1.setTop (mkF m 14 #[.val (.ref ao0), .val (.int 0), .val (.int 0), .val (.int (-1)), .val (.double (0 : UInt64)), .second, .val (.int 0), .unset, .unset, .unset, .unset, .unset] [(.int 2), (.int 0)])) st1 ?_
  refine own_go (x' := T1.setTop (mkF m 18 #[.val (.ref ao0), .val (.int 0), .val (.int 0), .val (.int (-1)), .val (.double (0 : UInt64)), .second, .val (.int 0), .unset, .unset, .unset, .unset, .unset] [(.ref ao0)])) (fun _ k => XS.icmpNo X1.here hx rfl (hb hby d6_14) rfl (tlt (by decide +kernel : ((0 : Int32) < (2 : Int32)))).2.1 (XS.aloadN X1.here hx rfl (hb hby d6_17) rfl rfl k)) ?_
  obtain ⟨T2, X2, e2, st2⟩ := getF X1 hx hZ hown (host := "") (Or.inl (own_w hw 14 rfl)) Via.refl e1 F_ao0_tableau (g := (mkF m 18 #[.val (.ref ao0), .val (.int 0), .val (.int 0), .val (.int (-1)), .val (.double (0 : UInt64)), .second, .val (.int 0), .unset, .unset, .unset, .unset, .unset] [(.ref ao0)])) rfl rfl (hb hby d6_18)
  refine own_go (x' := T2.setTop (mkF m 21 #[.val (.ref ao0), .val (.int 0), .val (.int 0), .val (.int (-1)), .val (.double (0 : UInt64)), .second, .val (.int 0), .unset, .unset, .unset, .unset, .unset] [(.ref tb)])) st2 ?_
  refine own_go (x' := T2.setTop (mkF m 23 #[.val (.ref ao0), .val (.int 0), .val (.int 0), .val (.int (-1)), .val (.double (0 : UInt64)), .second, .val (.int 0), .unset, .unset, .unset, .unset, .unset] [(.ref ao0), (.int 0), (.ref tb)])) (fun _ k => XS.iloadN X2.here hx rfl (hb hby d6_21) rfl (XS.aloadN X2.here hx rfl (hb hby d6_22) rfl rfl k)) ?_
  obtain ⟨T3, X3, e3, st3⟩ := getF X2 hx hZ hown (host := "") (Or.inl (own_w hw 12 rfl)) Via.refl e2 F_ao0_columns (g := (mkF m 23 #[.val (.ref ao0), .val (.int 0), .val (.int 0), .val (.int (-1)), .val (.double (0 : UInt64)), .second, .val (.int 0), .unset, .unset, .unset, .unset, .unset] [(.ref ao0), (.int 0), (.ref tb)])) rfl rfl (hb hby d6_23)
  refine own_go (x' := T3.setTop (mkF m 26 #[.val (.ref ao0), .val (.int 0), .val (.int 0), .val (.int (-1)), .val (.double (0 : UInt64)), .second, .val (.int 0), .unset, .unset, .unset, .unset, .unset] [(.int 2), (.int 0), (.ref tb)])) st3 ?_
  refine own_go (x' := T3.setTop (mkF m 30 #[.val (.ref ao0), .val (.int 0), .val (.int 0), .val (.int (-1)), .val (.double (0 : UInt64)), .second, .val (.int 0), .unset, .unset, .unset, .unset, .unset] [(.int (((0 : Int32) * (2 : Int32)) + (0 : Int32))), (.ref tb)])) (fun _ k => XS.imul X3.here hx rfl (hb hby d6_26) rfl (XS.iload X3.here hx rfl (hb hby d6_27) rfl (XS.iadd X3.here hx rfl (hb hby d6_29) rfl k))) ?_
  rw [show (((0 : Int32) * (2 : Int32)) + (0 : Int32)) = (0 : Int32) from by decide +kernel]
  obtain ⟨cl4, Ar4, q4, Sz4, Nn4, Hh4, Gg4⟩ := id V_tb
  have hin4 : ¬ ((0 : Int32) < 0 ∨ cl4.slots.size ≤ ((0 : Int32)).toNatClampNeg) := inb_of Sz4 ⟨by decide, by decide⟩
  refine own_go (x' := T3.setTop (mkF m 31 #[.val (.ref ao0), .val (.int 0), .val (.int 0), .val (.int (-1)), .val (.double (0 : UInt64)), .second, .val (.int 0), .unset, .unset, .unset, .unset, .unset] [(.double t0)])) (X3.daload hx (j := (0 : Int32)) (v := (.double t0)) (Eq.trans (congrArg (fun h_ => h_[_]?) e3) Ar4.1) (State.isArrayOf_alike hZ.alike Ar4.2.1) Ar4.2.2 hin4 (Hh4.at hin4 rfl) (g := (mkF m 30 #[.val (.ref ao0), .val (.int 0), .val (.int 0), .val (.int (-1)), .val (.double (0 : UInt64)), .second, .val (.int 0), .unset, .unset, .unset, .unset, .unset] [(.int 0), (.ref tb)])) rfl rfl (hb hby d6_30)) ?_
  refine own_go (x' := T3.setTop (mkF m 35 #[.val (.ref ao0), .val (.int 0), .val (.int 0), .val (.int (-1)), .val (.double (0 : UInt64)), .second, .val (.int 0), .val (.double t0), .second, .unset, .unset, .unset] [(.double t0)])) (fun _ k => XS.dstore X3.here hx rfl (hb hby d6_31) rfl (l' := #[.val (.ref ao0), .val (.int 0), .val (.int 0), .val (.int (-1)), .val (.double (0 : UInt64)), .second, .val (.int 0), .val (.double t0), .second, .unset, .unset, .unset]) rfl (XS.dload X3.here hx rfl (hb hby d6_33) rfl k)) ?_
  refine own_go (x' := T3.setTop (mkF m 38 #[.val (.ref ao0), .val (.int 0), .val (.int 0), .val (.int (-1)), .val (.double (0 : UInt64)), .second, .val (.int 0), .val (.double t0), .second, .unset, .unset, .unset] [(.double (13665607370011141269 : UInt64)), (.double t0)])) (fun t k => X3.ldc2DoubleC hx hown (mvT hZ (own_w hw 43 rfl)) (g := (mkF m 35 #[.val (.ref ao0), .val (.int 0), .val (.int 0), .val (.int (-1)), .val (.double (0 : UInt64)), .second, .val (.int 0), .val (.double t0), .second, .unset, .unset, .unset] [(.double t0)])) rfl (hb hby d6_35) t k) ?_
  refine own_go (x' := T3.setTop (mkF m 8 #[.val (.ref ao0), .val (.int 0), .val (.int 0), .val (.int (-1)), .val (.double (0 : UInt64)), .second, .val (.int ((0 : Int32) + (1 : Int32))), .val (.double t0), .second, .unset, .unset, .unset] [])) (fun _ k => XS.dcmpS X3.here hx rfl (hb hby d6_38) rfl rfl (XS.ifYes X3.here hx rfl (pc0 := 39) (pc' := 163) rfl (hb hby d6_39) rfl ((if0 _ _).trans (flt n_t0).2.1) (by decide) (by decide) (XS.iinc X3.here hx rfl (hb hby d6_163) rfl (l' := #[.val (.ref ao0), .val (.int 0), .val (.int 0), .val (.int (-1)), .val (.double (0 : UInt64)), .second, .val (.int ((0 : Int32) + (1 : Int32))), .val (.double t0), .second, .unset, .unset, .unset]) rfl (XS.goto X3.here hx rfl (pc0 := 166) (pc' := 8) rfl (hb hby d6_166) (by decide) (by decide) k)))) ?_
  rw [show ((0 : Int32) + (1 : Int32)) = (1 : Int32) from by decide +kernel]
  refine own_go (x' := T3.setTop (mkF m 11 #[.val (.ref ao0), .val (.int 0), .val (.int 0), .val (.int (-1)), .val (.double (0 : UInt64)), .second, .val (.int 1), .val (.double t0), .second, .unset, .unset, .unset] [(.ref ao0), (.int 1)])) (fun _ k => XS.iload X3.here hx rfl (hb hby d6_8) rfl (XS.aloadN X3.here hx rfl (hb hby d6_10) rfl rfl k)) ?_
  obtain ⟨T5, X5, e5, st5⟩ := getF X3 hx hZ hown (host := "") (Or.inl (own_w hw 12 rfl)) Via.refl e3 F_ao0_columns (g := (mkF m 11 #[.val (.ref ao0), .val (.int 0), .val (.int 0), .val (.int (-1)), .val (.double (0 : UInt64)), .second, .val (.int 1), .val (.double t0), .second, .unset, .unset, .unset] [(.ref ao0), (.int 1)])) rfl rfl (hb hby d6_11)
  refine own_go (x' := T5.setTop (mkF m 14 #[.val (.ref ao0), .val (.int 0), .val (.int 0), .val (.int (-1)), .val (.double (0 : UInt64)), .second, .val (.int 1), .val (.double t0), .second, .unset, .unset, .unset] [(.int 2), (.int 1)])) st5 ?_
  refine own_go (x' := T5.setTop (mkF m 18 #[.val (.ref ao0), .val (.int 0), .val (.int 0), .val (.int (-1)), .val (.double (0 : UInt64)), .second, .val (.int 1), .val (.double t0), .second, .unset, .unset, .unset] [(.ref ao0)])) (fun _ k => XS.icmpNo X5.here hx rfl (hb hby d6_14) rfl (tlt (by decide +kernel : ((1 : Int32) < (2 : Int32)))).2.1 (XS.aloadN X5.here hx rfl (hb hby d6_17) rfl rfl k)) ?_
  obtain ⟨T6, X6, e6, st6⟩ := getF X5 hx hZ hown (host := "") (Or.inl (own_w hw 14 rfl)) Via.refl e5 F_ao0_tableau (g := (mkF m 18 #[.val (.ref ao0), .val (.int 0), .val (.int 0), .val (.int (-1)), .val (.double (0 : UInt64)), .second, .val (.int 1), .val (.double t0), .second, .unset, .unset, .unset] [(.ref ao0)])) rfl rfl (hb hby d6_18)
  refine own_go (x' := T6.setTop (mkF m 21 #[.val (.ref ao0), .val (.int 0), .val (.int 0), .val (.int (-1)), .val (.double (0 : UInt64)), .second, .val (.int 1), .val (.double t0), .second, .unset, .unset, .unset] [(.ref tb)])) st6 ?_
  refine own_go (x' := T6.setTop (mkF m 23 #[.val (.ref ao0), .val (.int 0), .val (.int 0), .val (.int (-1)), .val (.double (0 : UInt64)), .second, .val (.int 1), .val (.double t0), .second, .unset, .unset, .unset] [(.ref ao0), (.int 0), (.ref tb)])) (fun _ k => XS.iloadN X6.here hx rfl (hb hby d6_21) rfl (XS.aloadN X6.here hx rfl (hb hby d6_22) rfl rfl k)) ?_
  obtain ⟨T7, X7, e7, st7⟩ := getF X6 hx hZ hown (host := "") (Or.inl (own_w hw 12 rfl)) Via.refl e6 F_ao0_columns (g := (mkF m 23 #[.val (.ref ao0), .val (.int 0), .val (.int 0), .val (.int (-1)), .val (.double (0 : UInt64)), .second, .val (.int 1), .val (.double t0), .second, .unset, .unset, .unset] [(.ref ao0), (.int 0), (.ref tb)])) rfl rfl (hb hby d6_23)
  refine own_go (x' := T7.setTop (mkF m 26 #[.val (.ref ao0), .val (.int 0), .val (.int 0), .val (.int (-1)), .val (.double (0 : UInt64)), .second, .val (.int 1), .val (.double t0), .second, .unset, .unset, .unset] [(.int 2), (.int 0), (.ref tb)])) st7 ?_
  refine own_go (x' := T7.setTop (mkF m 30 #[.val (.ref ao0), .val (.int 0), .val (.int 0), .val (.int (-1)), .val (.double (0 : UInt64)), .second, .val (.int 1), .val (.double t0), .second, .unset, .unset, .unset] [(.int (((0 : Int32) * (2 : Int32)) + (1 : Int32))), (.ref tb)])) (fun _ k => XS.imul X7.here hx rfl (hb hby d6_26) rfl (XS.iload X7.here hx rfl (hb hby d6_27) rfl (XS.iadd X7.here hx rfl (hb hby d6_29) rfl k))) ?_
  rw [show (((0 : Int32) * (2 : Int32)) + (1 : Int32)) = (1 : Int32) from by decide +kernel]
  obtain ⟨cl8, Ar8, q8, Sz8, Nn8, Hh8, Gg8⟩ := id V_tb
  have hin8 : ¬ ((1 : Int32) < 0 ∨ cl8.slots.size ≤ ((1 : Int32)).toNatClampNeg) := inb_of Sz8 ⟨by decide, by decide⟩
  refine own_go (x' := T7.setTop (mkF m 31 #[.val (.ref ao0), .val (.int 0), .val (.int 0), .val (.int (-1)), .val (.double (0 : UInt64)), .second, .val (.int 1), .val (.double t0), .second, .unset, .unset, .unset] [(.double t1)])) (X7.daload hx (j := (1 : Int32)) (v := (.double t1)) (Eq.trans (congrArg (fun h_ => h_[_]?) e7) Ar8.1) (State.isArrayOf_alike hZ.alike Ar8.2.1) Ar8.2.2 hin8 (Hh8.at hin8 rfl) (g := (mkF m 30 #[.val (.ref ao0), .val (.int 0), .val (.int 0), .val (.int (-1)), .val (.double (0 : UInt64)), .second, .val (.int 1), .val (.double t0), .second, .unset, .unset, .unset] [(.int 1), (.ref tb)])) rfl rfl (hb hby d6_30)) ?_
  refine own_go (x' := T7.setTop (mkF m 35 #[.val (.ref ao0), .val (.int 0), .val (.int 0), .val (.int (-1)), .val (.double (0 : UInt64)), .second, .val (.int 1), .val (.double t1), .second, .unset, .unset, .unset] [(.double t1)])) (fun _ k => XS.dstore X7.here hx rfl (hb hby d6_31) rfl (l' := #[.val (.ref ao0), .val (.int 0), .val (.int 0), .val (.int (-1)), .val (.double (0 : UInt64)), .second, .val (.int 1), .val (.double t1), .second, .unset, .unset, .unset]) rfl (XS.dload X7.here hx rfl (hb hby d6_33) rfl k)) ?_
  refine own_go (x' := T7.setTop (mkF m 38 #[.val (.ref ao0), .val (.int 0), .val (.int 0), .val (.int (-1)), .val (.double (0 : UInt64)), .second, .val (.int 1), .val (.double t1), .second, .unset, .unset, .unset] [(.double (13665607370011141269 : UInt64)), (.double t1)])) (fun t k => X7.ldc2DoubleC hx hown (mvT hZ (own_w hw 43 rfl)) (g := (mkF m 35 #[.val (.ref ao0), .val (.int 0), .val (.int 0), .val (.int (-1)), .val (.double (0 : UInt64)), .second, .val (.int 1), .val (.double t1), .second, .unset, .unset, .unset] [(.double t1)])) rfl (hb hby d6_35) t k) ?_
  refine own_go (x' := T7.setTop (mkF m 8 #[.val (.ref ao0), .val (.int 0), .val (.int 0), .val (.int (-1)), .val (.double (0 : UInt64)), .second, .val (.int ((1 : Int32) + (1 : Int32))), .val (.double t1), .second, .unset, .unset, .unset] [])) (fun _ k => XS.dcmpS X7.here hx rfl (hb hby d6_38) rfl rfl (XS.ifYes X7.here hx rfl (pc0 := 39) (pc' := 163) rfl (hb hby d6_39) rfl ((if0 _ _).trans (flt n_t1).2.1) (by decide) (by decide) (XS.iinc X7.here hx rfl (hb hby d6_163) rfl (l' := #[.val (.ref ao0), .val (.int 0), .val (.int 0), .val (.int (-1)), .val (.double (0 : UInt64)), .second, .val (.int ((1 : Int32) + (1 : Int32))), .val (.double t1), .second, .unset, .unset, .unset]) rfl (XS.goto X7.here hx rfl (pc0 := 166) (pc' := 8) rfl (hb hby d6_166) (by decide) (by decide) k)))) ?_
  rw [show ((1 : Int32) + (1 : Int32)) = (2 : Int32) from by decide +kernel]
  refine own_go (x' := T7.setTop (mkF m 11 #[.val (.ref ao0), .val (.int 0), .val (.int 0), .val (.int (-1)), .val (.double (0 : UInt64)), .second, .val (.int 2), .val (.double t1), .second, .unset, .unset, .unset] [(.ref ao0), (.int 2)])) (fun _ k => XS.iload X7.here hx rfl (hb hby d6_8) rfl (XS.aloadN X7.here hx rfl (hb hby d6_10) rfl rfl k)) ?_
  obtain ⟨T9, X9, e9, st9⟩ := getF X7 hx hZ hown (host := "") (Or.inl (own_w hw 12 rfl)) Via.refl e7 F_ao0_columns (g := (mkF m 11 #[.val (.ref ao0), .val (.int 0), .val (.int 0), .val (.int (-1)), .val (.double (0 : UInt64)), .second, .val (.int 2), .val (.double t1), .second, .unset, .unset, .unset] [(.ref ao0), (.int 2)])) rfl rfl (hb hby d6_11)
  refine own_go (x' := T9.setTop (mkF m 14 #[.val (.ref ao0), .val (.int 0), .val (.int 0), .val (.int (-1)), .val (.double (0 : UInt64)), .second, .val (.int 2), .val (.double t1), .second, .unset, .unset, .unset] [(.int 2), (.int 2)])) st9 ?_
  refine own_go (x' := T9.setTop (mkF m 170 #[.val (.ref ao0), .val (.int 0), .val (.int 0), .val (.int (-1)), .val (.double (0 : UInt64)), .second, .val (.int 2), .val (.double t1), .second, .unset, .unset, .unset] [(.int (-1))])) (fun _ k => XS.icmpYes X9.here hx rfl (pc0 := 14) (pc' := 169) rfl (hb hby d6_14) rfl (flt (Int32.lt_irrefl)).2.1 (by decide) (by decide) (XS.iloadN X9.here hx rfl (hb hby d6_169) rfl k)) ?_
  refine own_retI X9 hx hlk hret (hb hby d6_170) ?_ (by decide) (by decide)
  rw [e9]
  exact ⟨rfl, Nf, rfl⟩
theorem d6_42 : decode prog_14_method_6_code 42 = .ok (.aload_n 0, 1) := by decide +kernel
theorem d6_43 : decode prog_14_method_6_code 43 = .ok (.getfield 28, 3) := by decide +kernel
theorem d6_46 : decode prog_14_method_6_code 46 = .ok (.iload 6, 2) := by decide +kernel
theorem d6_48 : decode prog_14_method_6_code 48 = .ok (.daload, 1) := by decide +kernel
theorem d6_49 : decode prog_14_method_6_code 49 = .ok (.dload 7, 2) := by decide +kernel
theorem d6_51 : decode prog_14_method_6_code 51 = .ok (.dneg, 1) := by decide +kernel
theorem d6_52 : decode prog_14_method_6_code 52 = .ok (.ddiv, 1) := by decide +kernel
theorem d6_53 : decode prog_14_method_6_code 53 = .ok (.dstore 9, 2) := by decide +kernel
theorem d6_55 : decode prog_14_method_6_code 55 = .ok (.iload_n 3, 1) := by decide +kernel
theorem d6_56 : decode prog_14_method_6_code 56 = .ok (.ifCond .lt 15, 3) := by decide +kernel
theorem d6_71 : decode prog_14_method_6_code 71 = .ok (.iconst 1, 1) := by decide +kernel
theorem d6_72 : decode prog_14_method_6_code 72 = .ok (.istore 11, 2) := by decide +kernel
theorem d6_74 : decode prog_14_method_6_code 74 = .ok (.goto 77, 3) := by decide +kernel
theorem d6_151 : decode prog_14_method_6_code 151 = .ok (.iload 11, 2) := by decide +kernel
theorem d6_153 : decode prog_14_method_6_code 153 = .ok (.ifCond .eq 10, 3) := by decide +kernel
theorem d6_156 : decode prog_14_method_6_code 156 = .ok (.iload 6, 2) := by decide +kernel
theorem d6_158 : decode prog_14_method_6_code 158 = .ok (.istore_n 3, 1) := by decide +kernel
theorem d6_159 : decode prog_14_method_6_code 159 = .ok (.dload 9, 2) := by decide +kernel
theorem d6_161 : decode prog_14_method_6_code 161 = .ok (.dstore 4, 2) := by decide +kernel
def Q_rm6_01 (Z : State) (ao0 tb co : Addr) (kt kc : ClassId) (t0 t1 t2 t3 : UInt64) (c0 c1 : UInt64) (h0 : Heap) (n0 : Nat) (v : Option Value) (h : Heap) (L : List Loc) : Prop := v = some (.int (0 : Int32)) ∧ Fr n0 L ∧ h = h0
theorem pn_rm6_01 : plainName "com/example/moving_tokens/movingtokens/DualSimplex" = true := by first | (simp [plainName, overriddenIn]; done) | decide +kernel
theorem ef_rm6_01 (m : MethodId) (x0 : Addr) (x1 : Int32) (x2 : Int32) : entryFrame m #[(.ref x0), (.int x1), (.int x2)] 12 = mkF m 0 #[.val (.ref x0), .val (.int x1), .val (.int x2), .unset, .unset, .unset, .unset, .unset, .unset, .unset, .unset, .unset] [] := by first | (simp [entryFrame, mkF, argsToLocals, Value.category]; done) | rfl
set_option maxRecDepth 65536 in
set_option maxHeartbeats 40000000 in
theorem rm6_01 (l : Launch) (Z : State) (a0 : Array Value) (hw : ∀ d ∈ tables_1, d.before a0 Z = true) (ws : List Jvm.Cond) (ao0 tb co : Addr) (kt kc : ClassId) (t0 t1 t2 t3 : UInt64) (c0 c1 : UInt64) (h0 : Heap) (n0 : Nat) (Z0 : n0 ≤ h0.size) (F_ao0_columns : Fld Z h0 ao0 "com/example/moving_tokens/movingtokens/DualSimplex" "columns" "I" (.int 2)) (F_ao0_tableau : Fld Z h0 ao0 "com/example/moving_tokens/movingtokens/DualSimplex" "tableau" "[D" (.ref tb)) (F_ao0_cost : Fld Z h0 ao0 "com/example/moving_tokens/movingtokens/DualSimplex" "cost" "[D" (.ref co)) (V_tb : Arv Z h0 tb kt .double (4 : Int32) [(.double t0), (.double t1), (.double t2), (.double t3)] (.double 0)) (V_co : Arv Z h0 co kc .double (2 : Int32) [(.double c0), (.double c1)] (.double 0)) (m_c0 : Jvm.Free.Fl.Mag64 1056 c0) (m_c1 : Jvm.Free.Fl.Mag64 1056 c1) (n_t0 : cmpValue (FP.dcmp t0 (13665607370011141269 : UInt64)) .g < 0) (n_t1 : ¬ cmpValue (FP.dcmp t1 (13665607370011141269 : UInt64)) .g < 0) (b_t0 : Big64 1023 t0) :
    MetFree l (⟨"com/example/moving_tokens/movingtokens/DualSimplex", "enteringColumn", "(IZ)I"⟩ : MethodName) (head1 (Jvm.Cond.code (⟨"com/example/moving_tokens/movingtokens/DualSimplex", "enteringColumn", "(IZ)I"⟩ : MethodName) prog_14_method_6_code 12 (some .int) :: ws) ({ frames := 0, cells := 0, slots := 0, locals := 0 } : Room)) (fun a U => a = #[(.ref ao0), (.int 0), (.int 0)] ∧ Z.Warmed39 U.vm ∧ U.heap = h0) (fun _ _ _ _ _ => True) (fun _ U o U' => ∃ v L, o = .returned v ∧ (Q_rm6_01 Z ao0 tb co kt kc t0 t1 t2 t3 c0 c1 h0 n0) v U'.heap L ∧ FrameEnd U o U' L ({ frames := 0, cells := 0, slots := 0, locals := 0 } : Room).cells ({ frames := 0, cells := 0, slots := 0, locals := 0 } : Room).slots) := by
  refine MetFree.of_bodySF (plainFor_of_name pn_rm6_01) hisR ?_
  intro p e s m args below meth c s₁ Bd hml0 hP hK
  obtain ⟨rfl, hZ, hh⟩ := hP
  have hx := Bd.exec
  have hby := Bd.bytes
  have hlk := BodyLoose.notSynchronized Bd
  have hret := Bd.returns
  have hml : c.maxLocals = 12 := hml0
  have hown : s.vm.findClass "com/example/moving_tokens/movingtokens/DualSimplex" = some m.cls := findClass_of_methodNamed Bd.named
  have hnm := (name_of_methodNamed Bd.named Bd.method).1
  have X0 : Stand p l e ({ frames := 0, cells := 0, slots := 0, locals := 0 } : Room) s m #[(.ref ao0), (.int 0), (.int 0)] below meth c s₁ [] 0 0 := Stand.of_body Bd
  have e0 : s₁.heap = h0 := by rw [← hh, Bd.state]; rfl
  have Nf := Fr.nil n0
  have Zs := Z0
  have Kp : Keep h0 h0 [] := Keep.refl _ _
  show own_End p e below s (Q_rm6_01 Z ao0 tb co kt kc t0 t1 t2 t3 c0 c1 h0 n0) ({ frames := 0, cells := 0, slots := 0, locals := 0 } : Room).cells ({ frames := 0, cells := 0, slots := 0, locals := 0 } : Room).slots (s₁.setTop (entryFrame m #[(.ref ao0), (.int 0), (.int 0)] 12))
  refine own_go (x' := s₁.setTop (mkF m 0 #[.val (.ref ao0), .val (.int 0), .val (.int 0), .unset, .unset, .unset, .unset, .unset, .unset, .unset, .unset, .unset] [])) (fun t k => castTop (ef_rm6_01 m ao0 (0 : Int32) (0 : Int32)) k) ?_
  refine own_go (x' := s₁.setTop (mkF m 8 #[.val (.ref ao0), .val (.int 0), .val (.int 0), .val (.int (-1)), .val (.double (0 : UInt64)), .second, .val (.int 0), .unset, .unset, .unset, .unset, .unset] [])) (fun _ k => XS.iconst X0.here hx rfl (hb hby d6_0) (XS.istoreN X0.here hx rfl (hb hby d6_1) rfl (l' := #[.val (.ref ao0), .val (.int 0), .val (.int 0), .val (.int (-1)), .unset, .unset, .unset, .unset, .unset, .unset, .unset, .unset]) rfl (XS.dconst0 X0.here hx rfl (hb hby d6_2) rfl (XS.dstore X0.here hx rfl (hb hby d6_3) rfl (l' := #[.val (.ref ao0), .val (.int 0), .val (.int 0), .val (.int (-1)), .val (.double (0 : UInt64)), .second, .unset, .unset, .unset, .unset, .unset, .unset]) rfl (XS.iconst X0.here hx rfl (hb hby d6_5) (XS.istore X0.here hx rfl (hb hby d6_6) rfl (l' := #[.val (.ref ao0), .val (.int 0), .val (.int 0), .val (.int (-1)), .val (.double (0 : UInt64)), .second, .val (.int 0), .unset, .unset, .unset, .unset, .unset]) rfl k)))))) ?_
  refine own_go (x' := s₁.setTop (mkF m 11 #[.val (.ref ao0), .val (.int 0), .val (.int 0), .val (.int (-1)), .val (.double (0 : UInt64)), .second, .val (.int 0), .unset, .unset, .unset, .unset, .unset] [(.ref ao0), (.int 0)])) (fun _ k => XS.iload X0.here hx rfl (hb hby d6_8) rfl (XS.aloadN X0.here hx rfl (hb hby d6_10) rfl rfl k)) ?_
  obtain ⟨T1, X1, e1, st1⟩ := getF X0 hx hZ hown (host := "") (Or.inl (own_w hw 12 rfl)) Via.refl e0 F_ao0_columns (g := (mkF m 11 #[.val (.ref ao0), .val (.int 0), .val (.int 0), .val (.int (-1)), .val (.double (0 : UInt64)), .second, .val (.int 0), .unset, .unset, .unset, .unset, .unset] [(.ref ao0), (.int 0)])) rfl rfl (hb hby d6_11)
  refine own_go (x' := T1.setTop (mkF m 14 #[.val (.ref ao0), .val (.int 0), .val (.int 0), .val (.int (-1)), .val (.double (0 : UInt64)), .second, .val (.int 0), .unset, .unset, .unset, .unset, .unset] [(.int 2), (.int 0)])) st1 ?_
  refine own_go (x' := T1.setTop (mkF m 18 #[.val (.ref ao0), .val (.int 0), .val (.int 0), .val (.int (-1)), .val (.double (0 : UInt64)), .second, .val (.int 0), .unset, .unset, .unset, .unset, .unset] [(.ref ao0)])) (fun _ k => XS.icmpNo X1.here hx rfl (hb hby d6_14) rfl (tlt (by decide +kernel : ((0 : Int32) < (2 : Int32)))).2.1 (XS.aloadN X1.here hx rfl (hb hby d6_17) rfl rfl k)) ?_
  obtain ⟨T2, X2, e2, st2⟩ := getF X1 hx hZ hown (host := "") (Or.inl (own_w hw 14 rfl)) Via.refl e1 F_ao0_tableau (g := (mkF m 18 #[.val (.ref ao0), .val (.int 0), .val (.int 0), .val (.int (-1)), .val (.double (0 : UInt64)), .second, .val (.int 0), .unset, .unset, .unset, .unset, .unset] [(.ref ao0)])) rfl rfl (hb hby d6_18)
  refine own_go (x' := T2.setTop (mkF m 21 #[.val (.ref ao0), .val (.int 0), .val (.int 0), .val (.int (-1)), .val (.double (0 : UInt64)), .second, .val (.int 0), .unset, .unset, .unset, .unset, .unset] [(.ref tb)])) st2 ?_
  refine own_go (x' := T2.setTop (mkF m 23 #[.val (.ref ao0), .val (.int 0), .val (.int 0), .val (.int (-1)), .val (.double (0 : UInt64)), .second, .val (.int 0), .unset, .unset, .unset, .unset, .unset] [(.ref ao0), (.int 0), (.ref tb)])) (fun _ k => XS.iloadN X2.here hx rfl (hb hby d6_21) rfl (XS.aloadN X2.here hx rfl (hb hby d6_22) rfl rfl k)) ?_
  obtain ⟨T3, X3, e3, st3⟩ := getF X2 hx hZ hown (host := "") (Or.inl (own_w hw 12 rfl)) Via.refl e2 F_ao0_columns (g := (mkF m 23 #[.val (.ref ao0), .val (.int 0), .val (.int 0), .val (.int (-1)), .val (.double (0 : UInt64)), .second, .val (.int 0), .unset, .unset, .unset, .unset, .unset] [(.ref ao0), (.int 0), (.ref tb)])) rfl rfl (hb hby d6_23)
  refine own_go (x' := T3.setTop (mkF m 26 #[.val (.ref ao0), .val (.int 0), .val (.int 0), .val (.int (-1)), .val (.double (0 : UInt64)), .second, .val (.int 0), .unset, .unset, .unset, .unset, .unset] [(.int 2), (.int 0), (.ref tb)])) st3 ?_
  refine own_go (x' := T3.setTop (mkF m 30 #[.val (.ref ao0), .val (.int 0), .val (.int 0), .val (.int (-1)), .val (.double (0 : UInt64)), .second, .val (.int 0), .unset, .unset, .unset, .unset, .unset] [(.int (((0 : Int32) * (2 : Int32)) + (0 : Int32))), (.ref tb)])) (fun _ k => XS.imul X3.here hx rfl (hb hby d6_26) rfl (XS.iload X3.here hx rfl (hb hby d6_27) rfl (XS.iadd X3.here hx rfl (hb hby d6_29) rfl k))) ?_
  rw [show (((0 : Int32) * (2 : Int32)) + (0 : Int32)) = (0 : Int32) from by decide +kernel]
  obtain ⟨cl4, Ar4, q4, Sz4, Nn4, Hh4, Gg4⟩ := id V_tb
  have hin4 : ¬ ((0 : Int32) < 0 ∨ cl4.slots.size ≤ ((0 : Int32)).toNatClampNeg) := inb_of Sz4 ⟨by decide, by decide⟩
  refine own_go (x' := T3.setTop (mkF m 31 #[.val (.ref ao0), .val (.int 0), .val (.int 0), .val (.int (-1)), .val (.double (0 : UInt64)), .second, .val (.int 0), .unset, .unset, .unset, .unset, .unset] [(.double t0)])) (X3.daload hx (j := (0 : Int32)) (v := (.double t0)) (Eq.trans (congrArg (fun h_ => h_[_]?) e3) Ar4.1) (State.isArrayOf_alike hZ.alike Ar4.2.1) Ar4.2.2 hin4 (Hh4.at hin4 rfl) (g := (mkF m 30 #[.val (.ref ao0), .val (.int 0), .val (.int 0), .val (.int (-1)), .val (.double (0 : UInt64)), .second, .val (.int 0), .unset, .unset, .unset, .unset, .unset] [(.int 0), (.ref tb)])) rfl rfl (hb hby d6_30)) ?_
  refine own_go (x' := T3.setTop (mkF m 35 #[.val (.ref ao0), .val (.int 0), .val (.int 0), .val (.int (-1)), .val (.double (0 : UInt64)), .second, .val (.int 0), .val (.double t0), .second, .unset, .unset, .unset] [(.double t0)])) (fun _ k => XS.dstore X3.here hx rfl (hb hby d6_31) rfl (l' := #[.val (.ref ao0), .val (.int 0), .val (.int 0), .val (.int (-1)), .val (.double (0 : UInt64)), .second, .val (.int 0), .val (.double t0), .second, .unset, .unset, .unset]) rfl (XS.dload X3.here hx rfl (hb hby d6_33) rfl k)) ?_
  refine own_go (x' := T3.setTop (mkF m 38 #[.val (.ref ao0), .val (.int 0), .val (.int 0), .val (.int (-1)), .val (.double (0 : UInt64)), .second, .val (.int 0), .val (.double t0), .second, .unset, .unset, .unset] [(.double (13665607370011141269 : UInt64)), (.double t0)])) (fun t k => X3.ldc2DoubleC hx hown (mvT hZ (own_w hw 43 rfl)) (g := (mkF m 35 #[.val (.ref ao0), .val (.int 0), .val (.int 0), .val (.int (-1)), .val (.double (0 : UInt64)), .second, .val (.int 0), .val (.double t0), .second, .unset, .unset, .unset] [(.double t0)])) rfl (hb hby d6_35) t k) ?_
  refine own_go (x' := T3.setTop (mkF m 43 #[.val (.ref ao0), .val (.int 0), .val (.int 0), .val (.int (-1)), .val (.double (0 : UInt64)), .second, .val (.int 0), .val (.double t0), .second, .unset, .unset, .unset] [(.ref ao0)])) (fun _ k => XS.dcmpS X3.here hx rfl (hb hby d6_38) rfl rfl (XS.ifNo X3.here hx rfl (hb hby d6_39) rfl ((if0 _ _).trans (tlt n_t0).2.1) (XS.aloadN X3.here hx rfl (hb hby d6_42) rfl rfl k))) ?_
  obtain ⟨T5, X5, e5, st5⟩ := getF X3 hx hZ hown (host := "") (Or.inl (own_w hw 27 rfl)) Via.refl e3 F_ao0_cost (g := (mkF m 43 #[.val (.ref ao0), .val (.int 0), .val (.int 0), .val (.int (-1)), .val (.double (0 : UInt64)), .second, .val (.int 0), .val (.double t0), .second, .unset, .unset, .unset] [(.ref ao0)])) rfl rfl (hb hby d6_43)
  refine own_go (x' := T5.setTop (mkF m 46 #[.val (.ref ao0), .val (.int 0), .val (.int 0), .val (.int (-1)), .val (.double (0 : UInt64)), .second, .val (.int 0), .val (.double t0), .second, .unset, .unset, .unset] [(.ref co)])) st5 ?_
  refine own_go (x' := T5.setTop (mkF m 48 #[.val (.ref ao0), .val (.int 0), .val (.int 0), .val (.int (-1)), .val (.double (0 : UInt64)), .second, .val (.int 0), .val (.double t0), .second, .unset, .unset, .unset] [(.int 0), (.ref co)])) (fun _ k => XS.iload X5.here hx rfl (hb hby d6_46) rfl k) ?_
  obtain ⟨cl6, Ar6, q6, Sz6, Nn6, Hh6, Gg6⟩ := id V_co
  have hin6 : ¬ ((0 : Int32) < 0 ∨ cl6.slots.size ≤ ((0 : Int32)).toNatClampNeg) := inb_of Sz6 ⟨by decide, by decide⟩
  refine own_go (x' := T5.setTop (mkF m 49 #[.val (.ref ao0), .val (.int 0), .val (.int 0), .val (.int (-1)), .val (.double (0 : UInt64)), .second, .val (.int 0), .val (.double t0), .second, .unset, .unset, .unset] [(.double c0)])) (X5.daload hx (j := (0 : Int32)) (v := (.double c0)) (Eq.trans (congrArg (fun h_ => h_[_]?) e5) Ar6.1) (State.isArrayOf_alike hZ.alike Ar6.2.1) Ar6.2.2 hin6 (Hh6.at hin6 rfl) (g := (mkF m 48 #[.val (.ref ao0), .val (.int 0), .val (.int 0), .val (.int (-1)), .val (.double (0 : UInt64)), .second, .val (.int 0), .val (.double t0), .second, .unset, .unset, .unset] [(.int 0), (.ref co)])) rfl rfl (hb hby d6_48)) ?_
  refine own_go (x' := T5.setTop (mkF m 71 #[.val (.ref ao0), .val (.int 0), .val (.int 0), .val (.int (-1)), .val (.double (0 : UInt64)), .second, .val (.int 0), .val (.double t0), .second, .val (.double (FP.ddiv c0 (FP.dneg t0))), .second, .unset] [])) (fun _ k => XS.dload X5.here hx rfl (hb hby d6_49) rfl (XS.dnegS X5.here hx rfl (hb hby d6_51) rfl rfl (XS.ddivS X5.here hx rfl (hb hby d6_52) rfl (own_nn (ddiv_mag m_c0 (own_bneg b_t0) (by decide) (by decide))) rfl (XS.dstore X5.here hx rfl (hb hby d6_53) rfl (l' := #[.val (.ref ao0), .val (.int 0), .val (.int 0), .val (.int (-1)), .val (.double (0 : UInt64)), .second, .val (.int 0), .val (.double t0), .second, .val (.double (FP.ddiv c0 (FP.dneg t0))), .second, .unset]) rfl (XS.iloadN X5.here hx rfl (hb hby d6_55) rfl (XS.ifYes X5.here hx rfl (pc0 := 56) (pc' := 71) rfl (hb hby d6_56) rfl ((if0 _ _).trans (tlt (by decide +kernel : ((-1 : Int32) < (0 : Int32)))).1) (by decide) (by decide) k)))))) ?_
  refine own_go (x' := T5.setTop (mkF m 158 #[.val (.ref ao0), .val (.int 0), .val (.int 0), .val (.int (-1)), .val (.double (0 : UInt64)), .second, .val (.int 0), .val (.double t0), .second, .val (.double (FP.ddiv c0 (FP.dneg t0))), .second, .val (.int 1)] [(.int 0)])) (fun _ k => XS.iconst X5.here hx rfl (hb hby d6_71) (XS.istore X5.here hx rfl (hb hby d6_72) rfl (l' := #[.val (.ref ao0), .val (.int 0), .val (.int 0), .val (.int (-1)), .val (.double (0 : UInt64)), .second, .val (.int 0), .val (.double t0), .second, .val (.double (FP.ddiv c0 (FP.dneg t0))), .second, .val (.int 1)]) rfl (XS.goto X5.here hx rfl (pc0 := 74) (pc' := 151) rfl (hb hby d6_74) (by decide) (by decide) (XS.iload X5.here hx rfl (hb hby d6_151) rfl (XS.ifNo X5.here hx rfl (hb hby d6_153) rfl ((if0 _ _).trans (feq (by decide +kernel : ¬ ((1 : Int32) = (0 : Int32)))).1) (XS.iload X5.here hx rfl (hb hby d6_156) rfl k)))))) ?_
  refine own_go (x' := T5.setTop (mkF m 8 #[.val (.ref ao0), .val (.int 0), .val (.int 0), .val (.int 0), .val (.double (FP.ddiv c0 (FP.dneg t0))), .second, .val (.int ((0 : Int32) + (1 : Int32))), .val (.double t0), .second, .val (.double (FP.ddiv c0 (FP.dneg t0))), .second, .val (.int 1)] [])) (fun _ k => XS.istoreN X5.here hx rfl (hb hby d6_158) rfl (l' := #[.val (.ref ao0), .val (.int 0), .val (.int 0), .val (.int 0), .val (.double (0 : UInt64)), .second, .val (.int 0), .val (.double t0), .second, .val (.double (FP.ddiv c0 (FP.dneg t0))), .second, .val (.int 1)]) rfl (XS.dload X5.here hx rfl (hb hby d6_159) rfl (XS.dstore X5.here hx rfl (hb hby d6_161) rfl (l' := #[.val (.ref ao0), .val (.int 0), .val (.int 0), .val (.int 0), .val (.double (FP.ddiv c0 (FP.dneg t0))), .second, .val (.int 0), .val (.double t0), .second, .val (.double (FP.ddiv c0 (FP.dneg t0))), .second, .val (.int 1)]) rfl (XS.iinc X5.here hx rfl (hb hby d6_163) rfl (l' := #[.val (.ref ao0), .val (.int 0), .val (.int 0), .val (.int 0), .val (.double (FP.ddiv c0 (FP.dneg t0))), .second, .val (.int ((0 : Int32) + (1 : Int32))), .val (.double t0), .second, .val (.double (FP.ddiv c0 (FP.dneg t0))), .second, .val (.int 1)]) rfl (XS.goto X5.here hx rfl (pc0 := 166) (pc' := 8) rfl (hb hby d6_166) (by decide) (by decide) k))))) ?_
  rw [show ((0 : Int32) + (1 : Int32)) = (1 : Int32) from by decide +kernel]
  refine own_go (x' := T5.setTop (mkF m 11 #[.val (.ref ao0), .val (.int 0), .val (.int 0), .val (.int 0), .val (.double (FP.ddiv c0 (FP.dneg t0))), .second, .val (.int 1), .val (.double t0), .second, .val (.double (FP.ddiv c0 (FP.dneg t0))), .second, .val (.int 1)] [(.ref ao0), (.int 1)])) (fun _ k => XS.iload X5.here hx rfl (hb hby d6_8) rfl (XS.aloadN X5.here hx rfl (hb hby d6_10) rfl rfl k)) ?_
  obtain ⟨T7, X7, e7, st7⟩ := getF X5 hx hZ hown (host := "") (Or.inl (own_w hw 12 rfl)) Via.refl e5 F_ao0_columns (g := (mkF m 11 #[.val (.ref ao0), .val (.int 0), .val (.int 0), .val (.int 0), .val (.double (FP.ddiv c0 (FP.dneg t0))), .second, .val (.int 1), .val (.double t0), .second, .val (.double (FP.ddiv c0 (FP.dneg t0))), .second, .val (.int 1)] [(.ref ao0), (.int 1)])) rfl rfl (hb hby d6_11)
  refine own_go (x' := T7.setTop (mkF m 14 #[.val (.ref ao0), .val (.int 0), .val (.int 0), .val (.int 0), .val (.double (FP.ddiv c0 (FP.dneg t0))), .second, .val (.int 1), .val (.double t0), .second, .val (.double (FP.ddiv c0 (FP.dneg t0))), .second, .val (.int 1)] [(.int 2), (.int 1)])) st7 ?_
  refine own_go (x' := T7.setTop (mkF m 18 #[.val (.ref ao0), .val (.int 0), .val (.int 0), .val (.int 0), .val (.double (FP.ddiv c0 (FP.dneg t0))), .second, .val (.int 1), .val (.double t0), .second, .val (.double (FP.ddiv c0 (FP.dneg t0))), .second, .val (.int 1)] [(.ref ao0)])) (fun _ k => XS.icmpNo X7.here hx rfl (hb hby d6_14) rfl (tlt (by decide +kernel : ((1 : Int32) < (2 : Int32)))).2.1 (XS.aloadN X7.here hx rfl (hb hby d6_17) rfl rfl k)) ?_
  obtain ⟨T8, X8, e8, st8⟩ := getF X7 hx hZ hown (host := "") (Or.inl (own_w hw 14 rfl)) Via.refl e7 F_ao0_tableau (g := (mkF m 18 #[.val (.ref ao0), .val (.int 0), .val (.int 0), .val (.int 0), .val (.double (FP.ddiv c0 (FP.dneg t0))), .second, .val (.int 1), .val (.double t0), .second, .val (.double (FP.ddiv c0 (FP.dneg t0))), .second, .val (.int 1)] [(.ref ao0)])) rfl rfl (hb hby d6_18)
  refine own_go (x' := T8.setTop (mkF m 21 #[.val (.ref ao0), .val (.int 0), .val (.int 0), .val (.int 0), .val (.double (FP.ddiv c0 (FP.dneg t0))), .second, .val (.int 1), .val (.double t0), .second, .val (.double (FP.ddiv c0 (FP.dneg t0))), .second, .val (.int 1)] [(.ref tb)])) st8 ?_
  refine own_go (x' := T8.setTop (mkF m 23 #[.val (.ref ao0), .val (.int 0), .val (.int 0), .val (.int 0), .val (.double (FP.ddiv c0 (FP.dneg t0))), .second, .val (.int 1), .val (.double t0), .second, .val (.double (FP.ddiv c0 (FP.dneg t0))), .second, .val (.int 1)] [(.ref ao0), (.int 0), (.ref tb)])) (fun _ k => XS.iloadN X8.here hx rfl (hb hby d6_21) rfl (XS.aloadN X8.here hx rfl (hb hby d6_22) rfl rfl k)) ?_
  obtain ⟨T9, X9, e9, st9⟩ := getF X8 hx hZ hown (host := "") (Or.inl (own_w hw 12 rfl)) Via.refl e8 F_ao0_columns (g := (mkF m 23 #[.val (.ref ao0), .val (.int 0), .val (.int 0), .val (.int 0), .val (.double (FP.ddiv c0 (FP.dneg t0))), .second, .val (.int 1), .val (.double t0), .second, .val (.double (FP.ddiv c0 (FP.dneg t0))), .second, .val (.int 1)] [(.ref ao0), (.int 0), (.ref tb)])) rfl rfl (hb hby d6_23)
  refine own_go (x' := T9.setTop (mkF m 26 #[.val (.ref ao0), .val (.int 0), .val (.int 0), .val (.int 0), .val (.double (FP.ddiv c0 (FP.dneg t0))), .second, .val (.int 1), .val (.double t0), .second, .val (.double (FP.ddiv c0 (FP.dneg t0))), .second, .val (.int 1)] [(.int 2), (.int 0), (.ref tb)])) st9 ?_
  refine own_go (x' := T9.setTop (mkF m 30 #[.val (.ref ao0), .val (.int 0), .val (.int 0), .val (.int 0), .val (.double (FP.ddiv c0 (FP.dneg t0))), .second, .val (.int 1), .val (.double t0), .second, .val (.double (FP.ddiv c0 (FP.dneg t0))), .second, .val (.int 1)] [(.int (((0 : Int32) * (2 : Int32)) + (1 : Int32))), (.ref tb)])) (fun _ k => XS.imul X9.here hx rfl (hb hby d6_26) rfl (XS.iload X9.here hx rfl (hb hby d6_27) rfl (XS.iadd X9.here hx rfl (hb hby d6_29) rfl k))) ?_
  rw [show (((0 : Int32) * (2 : Int32)) + (1 : Int32)) = (1 : Int32) from by decide +kernel]
  obtain ⟨cl10, Ar10, q10, Sz10, Nn10, Hh10, Gg10⟩ := id V_tb
  have hin10 : ¬ ((1 : Int32) < 0 ∨ cl10.slots.size ≤ ((1 : Int32)).toNatClampNeg) := inb_of Sz10 ⟨by decide, by decide⟩
  refine own_go (x' := T9.setTop (mkF m 31 #[.val (.ref ao0), .val (.int 0), .val (.int 0), .val (.int 0), .val (.double (FP.ddiv c0 (FP.dneg t0))), .second, .val (.int 1), .val (.double t0), .second, .val (.double (FP.ddiv c0 (FP.dneg t0))), .second, .val (.int 1)] [(.double t1)])) (X9.daload hx (j := (1 : Int32)) (v := (.double t1)) (Eq.trans (congrArg (fun h_ => h_[_]?) e9) Ar10.1) (State.isArrayOf_alike hZ.alike Ar10.2.1) Ar10.2.2 hin10 (Hh10.at hin10 rfl) (g := (mkF m 30 #[.val (.ref ao0), .val (.int 0), .val (.int 0), .val (.int 0), .val (.double (FP.ddiv c0 (FP.dneg t0))), .second, .val (.int 1), .val (.double t0), .second, .val (.double (FP.ddiv c0 (FP.dneg t0))), .second, .val (.int 1)] [(.int 1), (.ref tb)])) rfl rfl (hb hby d6_30)) ?_
  refine own_go (x' := T9.setTop (mkF m 35 #[.val (.ref ao0), .val (.int 0), .val (.int 0), .val (.int 0), .val (.double (FP.ddiv c0 (FP.dneg t0))), .second, .val (.int 1), .val (.double t1), .second, .val (.double (FP.ddiv c0 (FP.dneg t0))), .second, .val (.int 1)] [(.double t1)])) (fun _ k => XS.dstore X9.here hx rfl (hb hby d6_31) rfl (l' := #[.val (.ref ao0), .val (.int 0), .val (.int 0), .val (.int 0), .val (.double (FP.ddiv c0 (FP.dneg t0))), .second, .val (.int 1), .val (.double t1), .second, .val (.double (FP.ddiv c0 (FP.dneg t0))), .second, .val (.int 1)]) rfl (XS.dload X9.here hx rfl (hb hby d6_33) rfl k)) ?_
  refine own_go (x' := T9.setTop (mkF m 38 #[.val (.ref ao0), .val (.int 0), .val (.int 0), .val (.int 0), .val (.double (FP.ddiv c0 (FP.dneg t0))), .second, .val (.int 1), .val (.double t1), .second, .val (.double (FP.ddiv c0 (FP.dneg t0))), .second, .val (.int 1)] [(.double (13665607370011141269 : UInt64)), (.double t1)])) (fun t k => X9.ldc2DoubleC hx hown (mvT hZ (own_w hw 43 rfl)) (g := (mkF m 35 #[.val (.ref ao0), .val (.int 0), .val (.int 0), .val (.int 0), .val (.double (FP.ddiv c0 (FP.dneg t0))), .second, .val (.int 1), .val (.double t1), .second, .val (.double (FP.ddiv c0 (FP.dneg t0))), .second, .val (.int 1)] [(.double t1)])) rfl (hb hby d6_35) t k) ?_
  refine own_go (x' := T9.setTop (mkF m 8 #[.val (.ref ao0), .val (.int 0), .val (.int 0), .val (.int 0), .val (.double (FP.ddiv c0 (FP.dneg t0))), .second, .val (.int ((1 : Int32) + (1 : Int32))), .val (.double t1), .second, .val (.double (FP.ddiv c0 (FP.dneg t0))), .second, .val (.int 1)] [])) (fun _ k => XS.dcmpS X9.here hx rfl (hb hby d6_38) rfl rfl (XS.ifYes X9.here hx rfl (pc0 := 39) (pc' := 163) rfl (hb hby d6_39) rfl ((if0 _ _).trans (flt n_t1).2.1) (by decide) (by decide) (XS.iinc X9.here hx rfl (hb hby d6_163) rfl (l' := #[.val (.ref ao0), .val (.int 0), .val (.int 0), .val (.int 0), .val (.double (FP.ddiv c0 (FP.dneg t0))), .second, .val (.int ((1 : Int32) + (1 : Int32))), .val (.double t1), .second, .val (.double (FP.ddiv c0 (FP.dneg t0))), .second, .val (.int 1)]) rfl (XS.goto X9.here hx rfl (pc0 := 166) (pc' := 8) rfl (hb hby d6_166) (by decide) (by decide) k)))) ?_
  rw [show ((1 : Int32) + (1 : Int32)) = (2 : Int32) from by decide +kernel]
  refine own_go (x' := T9.setTop (mkF m 11 #[.val (.ref ao0), .val (.int 0), .val (.int 0), .val (.int 0), .val (.double (FP.ddiv c0 (FP.dneg t0))), .second, .val (.int 2), .val (.double t1), .second, .val (.double (FP.ddiv c0 (FP.dneg t0))), .second, .val (.int 1)] [(.ref ao0), (.int 2)])) (fun _ k => XS.iload X9.here hx rfl (hb hby d6_8) rfl (XS.aloadN X9.here hx rfl (hb hby d6_10) rfl rfl k)) ?_
  obtain ⟨T11, X11, e11, st11⟩ := getF X9 hx hZ hown (host := "") (Or.inl (own_w hw 12 rfl)) Via.refl e9 F_ao0_columns (g := (mkF m 11 #[.val (.ref ao0), .val (.int 0), .val (.int 0), .val (.int 0), .val (.double (FP.ddiv c0 (FP.dneg t0))), .second, .val (.int 2), .val (.double t1), .second, .val (.double (FP.ddiv c0 (FP.dneg t0))), .second, .val (.int 1)] [(.ref ao0), (.int 2)])) rfl rfl (hb hby d6_11)
  refine own_go (x' := T11.setTop (mkF m 14 #[.val (.ref ao0), .val (.int 0), .val (.int 0), .val (.int 0), .val (.double (FP.ddiv c0 (FP.dneg t0))), .second, .val (.int 2), .val (.double t1), .second, .val (.double (FP.ddiv c0 (FP.dneg t0))), .second, .val (.int 1)] [(.int 2), (.int 2)])) st11 ?_
  refine own_go (x' := T11.setTop (mkF m 170 #[.val (.ref ao0), .val (.int 0), .val (.int 0), .val (.int 0), .val (.double (FP.ddiv c0 (FP.dneg t0))), .second, .val (.int 2), .val (.double t1), .second, .val (.double (FP.ddiv c0 (FP.dneg t0))), .second, .val (.int 1)] [(.int 0)])) (fun _ k => XS.icmpYes X11.here hx rfl (pc0 := 14) (pc' := 169) rfl (hb hby d6_14) rfl (flt (Int32.lt_irrefl)).2.1 (by decide) (by decide) (XS.iloadN X11.here hx rfl (hb hby d6_169) rfl k)) ?_
  refine own_retI X11 hx hlk hret (hb hby d6_170) ?_ (by decide) (by decide)
  rw [e11]
  exact ⟨rfl, Nf, rfl⟩
def Q_rm6_10 (Z : State) (ao0 tb co : Addr) (kt kc : ClassId) (t0 t1 t2 t3 : UInt64) (c0 c1 : UInt64) (h0 : Heap) (n0 : Nat) (v : Option Value) (h : Heap) (L : List Loc) : Prop := v = some (.int (-1 : Int32)) ∧ Fr n0 L ∧ h = h0
theorem pn_rm6_10 : plainName "com/example/moving_tokens/movingtokens/DualSimplex" = true := by first | (simp [plainName, overriddenIn]; done) | decide +kernel
theorem ef_rm6_10 (m : MethodId) (x0 : Addr) (x1 : Int32) (x2 : Int32) : entryFrame m #[(.ref x0), (.int x1), (.int x2)] 12 = mkF m 0 #[.val (.ref x0), .val (.int x1), .val (.int x2), .unset, .unset, .unset, .unset, .unset, .unset, .unset, .unset, .unset] [] := by first | (simp [entryFrame, mkF, argsToLocals, Value.category]; done) | rfl
set_option maxRecDepth 65536 in
set_option maxHeartbeats 40000000 in
theorem rm6_10 (l : Launch) (Z : State) (a0 : Array Value) (hw : ∀ d ∈ tables_1, d.before a0 Z = true) (ws : List Jvm.Cond) (ao0 tb co : Addr) (kt kc : ClassId) (t0 t1 t2 t3 : UInt64) (c0 c1 : UInt64) (h0 : Heap) (n0 : Nat) (Z0 : n0 ≤ h0.size) (F_ao0_columns : Fld Z h0 ao0 "com/example/moving_tokens/movingtokens/DualSimplex" "columns" "I" (.int 2)) (F_ao0_tableau : Fld Z h0 ao0 "com/example/moving_tokens/movingtokens/DualSimplex" "tableau" "[D" (.ref tb)) (F_ao0_cost : Fld Z h0 ao0 "com/example/moving_tokens/movingtokens/DualSimplex" "cost" "[D" (.ref co)) (V_tb : Arv Z h0 tb kt .double (4 : Int32) [(.double t0), (.double t1), (.double t2), (.double t3)] (.double 0)) (V_co : Arv Z h0 co kc .double (2 : Int32) [(.double c0), (.double c1)] (.double 0)) (n_t2 : ¬ cmpValue (FP.dcmp t2 (13665607370011141269 : UInt64)) .g < 0) (n_t3 : ¬ cmpValue (FP.dcmp t3 (13665607370011141269 : UInt64)) .g < 0) :
    MetFree l (⟨"com/example/moving_tokens/movingtokens/DualSimplex", "enteringColumn", "(IZ)I"⟩ : MethodName) (head1 (Jvm.Cond.code (⟨"com/example/moving_tokens/movingtokens/DualSimplex", "enteringColumn", "(IZ)I"⟩ : MethodName) prog_14_method_6_code 12 (some .int) :: ws) ({ frames := 0, cells := 0, slots := 0, locals := 0 } : Room)) (fun a U => a = #[(.ref ao0), (.int 1), (.int 0)] ∧ Z.Warmed39 U.vm ∧ U.heap = h0) (fun _ _ _ _ _ => True) (fun _ U o U' => ∃ v L, o = .returned v ∧ (Q_rm6_10 Z ao0 tb co kt kc t0 t1 t2 t3 c0 c1 h0 n0) v U'.heap L ∧ FrameEnd U o U' L ({ frames := 0, cells := 0, slots := 0, locals := 0 } : Room).cells ({ frames := 0, cells := 0, slots := 0, locals := 0 } : Room).slots) := by
  refine MetFree.of_bodySF (plainFor_of_name pn_rm6_10) hisR ?_
  intro p e s m args below meth c s₁ Bd hml0 hP hK
  obtain ⟨rfl, hZ, hh⟩ := hP
  have hx := Bd.exec
  have hby := Bd.bytes
  have hlk := BodyLoose.notSynchronized Bd
  have hret := Bd.returns
  have hml : c.maxLocals = 12 := hml0
  have hown : s.vm.findClass "com/example/moving_tokens/movingtokens/DualSimplex" = some m.cls := findClass_of_methodNamed Bd.named
  have hnm := (name_of_methodNamed Bd.named Bd.method).1
  have X0 : Stand p l e ({ frames := 0, cells := 0, slots := 0, locals := 0 } : Room) s m #[(.ref ao0), (.int 1), (.int 0)] below meth c s₁ [] 0 0 := Stand.of_body Bd
  have e0 : s₁.heap = h0 := by rw [← hh, Bd.state]; rfl
  have Nf := Fr.nil n0
  have Zs := Z0
  have Kp : Keep h0 h0 [] := Keep.refl _ _
  show own_End p e below s (Q_rm6_10 Z ao0 tb co kt kc t0 t1 t2 t3 c0 c1 h0 n0) ({ frames := 0, cells := 0, slots := 0, locals := 0 } : Room).cells ({ frames := 0, cells := 0, slots := 0, locals := 0 } : Room).slots (s₁.setTop (entryFrame m #[(.ref ao0), (.int 1), (.int 0)] 12))
  refine own_go (x' := s₁.setTop (mkF m 0 #[.val (.ref ao0), .val (.int 1), .val (.int 0), .unset, .unset, .unset, .unset, .unset, .unset, .unset, .unset, .unset] [])) (fun t k => castTop (ef_rm6_10 m ao0 (1 : Int32) (0 : Int32)) k) ?_
  refine own_go (x' := s₁.setTop (mkF m 8 #[.val (.ref ao0), .val (.int 1), .val (.int 0), .val (.int (-1)), .val (.double (0 : UInt64)), .second, .val (.int 0), .unset, .unset, .unset, .unset, .unset] [])) (fun _ k => XS.iconst X0.here hx rfl (hb hby d6_0) (XS.istoreN X0.here hx rfl (hb hby d6_1) rfl (l' := #[.val (.ref ao0), .val (.int 1), .val (.int 0), .val (.int (-1)), .unset, .unset, .unset, .unset, .unset, .unset, .unset, .unset]) rfl (XS.dconst0 X0.here hx rfl (hb hby d6_2) rfl (XS.dstore X0.here hx rfl (hb hby d6_3) rfl (l' := #[.val (.ref ao0), .val (.int 1), .val (.int 0), .val (.int (-1)), .val (.double (0 : UInt64)), .second, .unset, .unset, .unset, .unset, .unset, .unset]) rfl (XS.iconst X0.here hx rfl (hb hby d6_5) (XS.istore X0.here hx rfl (hb hby d6_6) rfl (l' := #[.val (.ref ao0), .val (.int 1), .val (.int 0), .val (.int (-1)), .val (.double (0 : UInt64)), .second, .val (.int 0), .unset, .unset, .unset, .unset, .unset]) rfl k)))))) ?_
  refine own_go (x' := s₁.setTop (mkF m 11 #[.val (.ref ao0), .val (.int 1), .val (.int 0), .val (.int (-1)), .val (.double (0 : UInt64)), .second, .val (.int 0), .unset, .unset, .unset, .unset, .unset] [(.ref ao0), (.int 0)])) (fun _ k => XS.iload X0.here hx rfl (hb hby d6_8) rfl (XS.aloadN X0.here hx rfl (hb hby d6_10) rfl rfl k)) ?_
  obtain ⟨T1, X1, e1, st1⟩ := getF X0 hx hZ hown (host := "") (Or.inl (own_w hw 12 rfl)) Via.refl e0 F_ao0_columns (g := (mkF m 11 #[.val (.ref ao0), .val (.int 1), .val (.int 0), .val (.int (-1)), .val (.double (0 : UInt64)), .second, .val (.int 0), .unset, .unset, .unset, .unset, .unset] [(.ref ao0), (.int 0)])) rfl rfl (hb hby d6_11)
  refine own_go (x' := T1.setTop (mkF m 14 #[.val (.ref ao0), .val (.int 1), .val (.int 0), .val (.int (-1)), .val (.double (0 : UInt64)), .second, .val (.int 0), .unset, .unset, .unset, .unset, .unset] [(.int 2), (.int 0)])) st1 ?_
  refine own_go (x' := T1.setTop (mkF m 18 #[.val (.ref ao0), .val (.int 1), .val (.int 0), .val (.int (-1)), .val (.double (0 : UInt64)), .second, .val (.int 0), .unset, .unset, .unset, .unset, .unset] [(.ref ao0)])) (fun _ k => XS.icmpNo X1.here hx rfl (hb hby d6_14) rfl (tlt (by decide +kernel : ((0 : Int32) < (2 : Int32)))).2.1 (XS.aloadN X1.here hx rfl (hb hby d6_17) rfl rfl k)) ?_
  obtain ⟨T2, X2, e2, st2⟩ := getF X1 hx hZ hown (host := "") (Or.inl (own_w hw 14 rfl)) Via.refl e1 F_ao0_tableau (g := (mkF m 18 #[.val (.ref ao0), .val (.int 1), .val (.int 0), .val (.int (-1)), .val (.double (0 : UInt64)), .second, .val (.int 0), .unset, .unset, .unset, .unset, .unset] [(.ref ao0)])) rfl rfl (hb hby d6_18)
  refine own_go (x' := T2.setTop (mkF m 21 #[.val (.ref ao0), .val (.int 1), .val (.int 0), .val (.int (-1)), .val (.double (0 : UInt64)), .second, .val (.int 0), .unset, .unset, .unset, .unset, .unset] [(.ref tb)])) st2 ?_
  refine own_go (x' := T2.setTop (mkF m 23 #[.val (.ref ao0), .val (.int 1), .val (.int 0), .val (.int (-1)), .val (.double (0 : UInt64)), .second, .val (.int 0), .unset, .unset, .unset, .unset, .unset] [(.ref ao0), (.int 1), (.ref tb)])) (fun _ k => XS.iloadN X2.here hx rfl (hb hby d6_21) rfl (XS.aloadN X2.here hx rfl (hb hby d6_22) rfl rfl k)) ?_
  obtain ⟨T3, X3, e3, st3⟩ := getF X2 hx hZ hown (host := "") (Or.inl (own_w hw 12 rfl)) Via.refl e2 F_ao0_columns (g := (mkF m 23 #[.val (.ref ao0), .val (.int 1), .val (.int 0), .val (.int (-1)), .val (.double (0 : UInt64)), .second, .val (.int 0), .unset, .unset, .unset, .unset, .unset] [(.ref ao0), (.int 1), (.ref tb)])) rfl rfl (hb hby d6_23)
  refine own_go (x' := T3.setTop (mkF m 26 #[.val (.ref ao0), .val (.int 1), .val (.int 0), .val (.int (-1)), .val (.double (0 : UInt64)), .second, .val (.int 0), .unset, .unset, .unset, .unset, .unset] [(.int 2), (.int 1), (.ref tb)])) st3 ?_
  refine own_go (x' := T3.setTop (mkF m 30 #[.val (.ref ao0), .val (.int 1), .val (.int 0), .val (.int (-1)), .val (.double (0 : UInt64)), .second, .val (.int 0), .unset, .unset, .unset, .unset, .unset] [(.int (((1 : Int32) * (2 : Int32)) + (0 : Int32))), (.ref tb)])) (fun _ k => XS.imul X3.here hx rfl (hb hby d6_26) rfl (XS.iload X3.here hx rfl (hb hby d6_27) rfl (XS.iadd X3.here hx rfl (hb hby d6_29) rfl k))) ?_
  rw [show (((1 : Int32) * (2 : Int32)) + (0 : Int32)) = (2 : Int32) from by decide +kernel]
  obtain ⟨cl4, Ar4, q4, Sz4, Nn4, Hh4, Gg4⟩ := id V_tb
  have hin4 : ¬ ((2 : Int32) < 0 ∨ cl4.slots.size ≤ ((2 : Int32)).toNatClampNeg) := inb_of Sz4 ⟨by decide, by decide⟩
  refine own_go (x' := T3.setTop (mkF m 31 #[.val (.ref ao0), .val (.int 1), .val (.int 0), .val (.int (-1)), .val (.double (0 : UInt64)), .second, .val (.int 0), .unset, .unset, .unset, .unset, .unset] [(.double t2)])) (X3.daload hx (j := (2 : Int32)) (v := (.double t2)) (Eq.trans (congrArg (fun h_ => h_[_]?) e3) Ar4.1) (State.isArrayOf_alike hZ.alike Ar4.2.1) Ar4.2.2 hin4 (Hh4.at hin4 rfl) (g := (mkF m 30 #[.val (.ref ao0), .val (.int 1), .val (.int 0), .val (.int (-1)), .val (.double (0 : UInt64)), .second, .val (.int 0), .unset, .unset, .unset, .unset, .unset] [(.int 2), (.ref tb)])) rfl rfl (hb hby d6_30)) ?_
  refine own_go (x' := T3.setTop (mkF m 35 #[.val (.ref ao0), .val (.int 1), .val (.int 0), .val (.int (-1)), .val (.double (0 : UInt64)), .second, .val (.int 0), .val (.double t2), .second, .unset, .unset, .unset] [(.double t2)])) (fun _ k => XS.dstore X3.here hx rfl (hb hby d6_31) rfl (l' := #[.val (.ref ao0), .val (.int 1), .val (.int 0), .val (.int (-1)), .val (.double (0 : UInt64)), .second, .val (.int 0), .val (.double t2), .second, .unset, .unset, .unset]) rfl (XS.dload X3.here hx rfl (hb hby d6_33) rfl k)) ?_
  refine own_go (x' := T3.setTop (mkF m 38 #[.val (.ref ao0), .val (.int 1), .val (.int 0), .val (.int (-1)), .val (.double (0 : UInt64)), .second, .val (.int 0), .val (.double t2), .second, .unset, .unset, .unset] [(.double (13665607370011141269 : UInt64)), (.double t2)])) (fun t k => X3.ldc2DoubleC hx hown (mvT hZ (own_w hw 43 rfl)) (g := (mkF m 35 #[.val (.ref ao0), .val (.int 1), .val (.int 0), .val (.int (-1)), .val (.double (0 : UInt64)), .second, .val (.int 0), .val (.double t2), .second, .unset, .unset, .unset] [(.double t2)])) rfl (hb hby d6_35) t k) ?_
  refine own_go (x' := T3.setTop (mkF m 8 #[.val (.ref ao0), .val (.int 1), .val (.int 0), .val (.int (-1)), .val (.double (0 : UInt64)), .second, .val (.int ((0 : Int32) + (1 : Int32))), .val (.double t2), .second, .unset, .unset, .unset] [])) (fun _ k => XS.dcmpS X3.here hx rfl (hb hby d6_38) rfl rfl (XS.ifYes X3.here hx rfl (pc0 := 39) (pc' := 163) rfl (hb hby d6_39) rfl ((if0 _ _).trans (flt n_t2).2.1) (by decide) (by decide) (XS.iinc X3.here hx rfl (hb hby d6_163) rfl (l' := #[.val (.ref ao0), .val (.int 1), .val (.int 0), .val (.int (-1)), .val (.double (0 : UInt64)), .second, .val (.int ((0 : Int32) + (1 : Int32))), .val (.double t2), .second, .unset, .unset, .unset]) rfl (XS.goto X3.here hx rfl (pc0 := 166) (pc' := 8) rfl (hb hby d6_166) (by decide) (by decide) k)))) ?_
  rw [show ((0 : Int32) + (1 : Int32)) = (1 : Int32) from by decide +kernel]
  refine own_go (x' := T3.setTop (mkF m 11 #[.val (.ref ao0), .val (.int 1), .val (.int 0), .val (.int (-1)), .val (.double (0 : UInt64)), .second, .val (.int 1), .val (.double t2), .second, .unset, .unset, .unset] [(.ref ao0), (.int 1)])) (fun _ k => XS.iload X3.here hx rfl (hb hby d6_8) rfl (XS.aloadN X3.here hx rfl (hb hby d6_10) rfl rfl k)) ?_
  obtain ⟨T5, X5, e5, st5⟩ := getF X3 hx hZ hown (host := "") (Or.inl (own_w hw 12 rfl)) Via.refl e3 F_ao0_columns (g := (mkF m 11 #[.val (.ref ao0), .val (.int 1), .val (.int 0), .val (.int (-1)), .val (.double (0 : UInt64)), .second, .val (.int 1), .val (.double t2), .second, .unset, .unset, .unset] [(.ref ao0), (.int 1)])) rfl rfl (hb hby d6_11)
  refine own_go (x' := T5.setTop (mkF m 14 #[.val (.ref ao0), .val (.int 1), .val (.int 0), .val (.int (-1)), .val (.double (0 : UInt64)), .second, .val (.int 1), .val (.double t2), .second, .unset, .unset, .unset] [(.int 2), (.int 1)])) st5 ?_
  refine own_go (x' := T5.setTop (mkF m 18 #[.val (.ref ao0), .val (.int 1), .val (.int 0), .val (.int (-1)), .val (.double (0 : UInt64)), .second, .val (.int 1), .val (.double t2), .second, .unset, .unset, .unset] [(.ref ao0)])) (fun _ k => XS.icmpNo X5.here hx rfl (hb hby d6_14) rfl (tlt (by decide +kernel : ((1 : Int32) < (2 : Int32)))).2.1 (XS.aloadN X5.here hx rfl (hb hby d6_17) rfl rfl k)) ?_
  obtain ⟨T6, X6, e6, st6⟩ := getF X5 hx hZ hown (host := "") (Or.inl (own_w hw 14 rfl)) Via.refl e5 F_ao0_tableau (g := (mkF m 18 #[.val (.ref ao0), .val (.int 1), .val (.int 0), .val (.int (-1)), .val (.double (0 : UInt64)), .second, .val (.int 1), .val (.double t2), .second, .unset, .unset, .unset] [(.ref ao0)])) rfl rfl (hb hby d6_18)
  refine own_go (x' := T6.setTop (mkF m 21 #[.val (.ref ao0), .val (.int 1), .val (.int 0), .val (.int (-1)), .val (.double (0 : UInt64)), .second, .val (.int 1), .val (.double t2), .second, .unset, .unset, .unset] [(.ref tb)])) st6 ?_
  refine own_go (x' := T6.setTop (mkF m 23 #[.val (.ref ao0), .val (.int 1), .val (.int 0), .val (.int (-1)), .val (.double (0 : UInt64)), .second, .val (.int 1), .val (.double t2), .second, .unset, .unset, .unset] [(.ref ao0), (.int 1), (.ref tb)])) (fun _ k => XS.iloadN X6.here hx rfl (hb hby d6_21) rfl (XS.aloadN X6.here hx rfl (hb hby d6_22) rfl rfl k)) ?_
  obtain ⟨T7, X7, e7, st7⟩ := getF X6 hx hZ hown (host := "") (Or.inl (own_w hw 12 rfl)) Via.refl e6 F_ao0_columns (g := (mkF m 23 #[.val (.ref ao0), .val (.int 1), .val (.int 0), .val (.int (-1)), .val (.double (0 : UInt64)), .second, .val (.int 1), .val (.double t2), .second, .unset, .unset, .unset] [(.ref ao0), (.int 1), (.ref tb)])) rfl rfl (hb hby d6_23)
  refine own_go (x' := T7.setTop (mkF m 26 #[.val (.ref ao0), .val (.int 1), .val (.int 0), .val (.int (-1)), .val (.double (0 : UInt64)), .second, .val (.int 1), .val (.double t2), .second, .unset, .unset, .unset] [(.int 2), (.int 1), (.ref tb)])) st7 ?_
  refine own_go (x' := T7.setTop (mkF m 30 #[.val (.ref ao0), .val (.int 1), .val (.int 0), .val (.int (-1)), .val (.double (0 : UInt64)), .second, .val (.int 1), .val (.double t2), .second, .unset, .unset, .unset] [(.int (((1 : Int32) * (2 : Int32)) + (1 : Int32))), (.ref tb)])) (fun _ k => XS.imul X7.here hx rfl (hb hby d6_26) rfl (XS.iload X7.here hx rfl (hb hby d6_27) rfl (XS.iadd X7.here hx rfl (hb hby d6_29) rfl k))) ?_
  rw [show (((1 : Int32) * (2 : Int32)) + (1 : Int32)) = (3 : Int32) from by decide +kernel]
  obtain ⟨cl8, Ar8, q8, Sz8, Nn8, Hh8, Gg8⟩ := id V_tb
  have hin8 : ¬ ((3 : Int32) < 0 ∨ cl8.slots.size ≤ ((3 : Int32)).toNatClampNeg) := inb_of Sz8 ⟨by decide, by decide⟩
  refine own_go (x' := T7.setTop (mkF m 31 #[.val (.ref ao0), .val (.int 1), .val (.int 0), .val (.int (-1)), .val (.double (0 : UInt64)), .second, .val (.int 1), .val (.double t2), .second, .unset, .unset, .unset] [(.double t3)])) (X7.daload hx (j := (3 : Int32)) (v := (.double t3)) (Eq.trans (congrArg (fun h_ => h_[_]?) e7) Ar8.1) (State.isArrayOf_alike hZ.alike Ar8.2.1) Ar8.2.2 hin8 (Hh8.at hin8 rfl) (g := (mkF m 30 #[.val (.ref ao0), .val (.int 1), .val (.int 0), .val (.int (-1)), .val (.double (0 : UInt64)), .second, .val (.int 1), .val (.double t2), .second, .unset, .unset, .unset] [(.int 3), (.ref tb)])) rfl rfl (hb hby d6_30)) ?_
  refine own_go (x' := T7.setTop (mkF m 35 #[.val (.ref ao0), .val (.int 1), .val (.int 0), .val (.int (-1)), .val (.double (0 : UInt64)), .second, .val (.int 1), .val (.double t3), .second, .unset, .unset, .unset] [(.double t3)])) (fun _ k => XS.dstore X7.here hx rfl (hb hby d6_31) rfl (l' := #[.val (.ref ao0), .val (.int 1), .val (.int 0), .val (.int (-1)), .val (.double (0 : UInt64)), .second, .val (.int 1), .val (.double t3), .second, .unset, .unset, .unset]) rfl (XS.dload X7.here hx rfl (hb hby d6_33) rfl k)) ?_
  refine own_go (x' := T7.setTop (mkF m 38 #[.val (.ref ao0), .val (.int 1), .val (.int 0), .val (.int (-1)), .val (.double (0 : UInt64)), .second, .val (.int 1), .val (.double t3), .second, .unset, .unset, .unset] [(.double (13665607370011141269 : UInt64)), (.double t3)])) (fun t k => X7.ldc2DoubleC hx hown (mvT hZ (own_w hw 43 rfl)) (g := (mkF m 35 #[.val (.ref ao0), .val (.int 1), .val (.int 0), .val (.int (-1)), .val (.double (0 : UInt64)), .second, .val (.int 1), .val (.double t3), .second, .unset, .unset, .unset] [(.double t3)])) rfl (hb hby d6_35) t k) ?_
  refine own_go (x' := T7.setTop (mkF m 8 #[.val (.ref ao0), .val (.int 1), .val (.int 0), .val (.int (-1)), .val (.double (0 : UInt64)), .second, .val (.int ((1 : Int32) + (1 : Int32))), .val (.double t3), .second, .unset, .unset, .unset] [])) (fun _ k => XS.dcmpS X7.here hx rfl (hb hby d6_38) rfl rfl (XS.ifYes X7.here hx rfl (pc0 := 39) (pc' := 163) rfl (hb hby d6_39) rfl ((if0 _ _).trans (flt n_t3).2.1) (by decide) (by decide) (XS.iinc X7.here hx rfl (hb hby d6_163) rfl (l' := #[.val (.ref ao0), .val (.int 1), .val (.int 0), .val (.int (-1)), .val (.double (0 : UInt64)), .second, .val (.int ((1 : Int32) + (1 : Int32))), .val (.double t3), .second, .unset, .unset, .unset]) rfl (XS.goto X7.here hx rfl (pc0 := 166) (pc' := 8) rfl (hb hby d6_166) (by decide) (by decide) k)))) ?_
  rw [show ((1 : Int32) + (1 : Int32)) = (2 : Int32) from by decide +kernel]
  refine own_go (x' := T7.setTop (mkF m 11 #[.val (.ref ao0), .val (.int 1), .val (.int 0), .val (.int (-1)), .val (.double (0 : UInt64)), .second, .val (.int 2), .val (.double t3), .second, .unset, .unset, .unset] [(.ref ao0), (.int 2)])) (fun _ k => XS.iload X7.here hx rfl (hb hby d6_8) rfl (XS.aloadN X7.here hx rfl (hb hby d6_10) rfl rfl k)) ?_
  obtain ⟨T9, X9, e9, st9⟩ := getF X7 hx hZ hown (host := "") (Or.inl (own_w hw 12 rfl)) Via.refl e7 F_ao0_columns (g := (mkF m 11 #[.val (.ref ao0), .val (.int 1), .val (.int 0), .val (.int (-1)), .val (.double (0 : UInt64)), .second, .val (.int 2), .val (.double t3), .second, .unset, .unset, .unset] [(.ref ao0), (.int 2)])) rfl rfl (hb hby d6_11)
  refine own_go (x' := T9.setTop (mkF m 14 #[.val (.ref ao0), .val (.int 1), .val (.int 0), .val (.int (-1)), .val (.double (0 : UInt64)), .second, .val (.int 2), .val (.double t3), .second, .unset, .unset, .unset] [(.int 2), (.int 2)])) st9 ?_
  refine own_go (x' := T9.setTop (mkF m 170 #[.val (.ref ao0), .val (.int 1), .val (.int 0), .val (.int (-1)), .val (.double (0 : UInt64)), .second, .val (.int 2), .val (.double t3), .second, .unset, .unset, .unset] [(.int (-1))])) (fun _ k => XS.icmpYes X9.here hx rfl (pc0 := 14) (pc' := 169) rfl (hb hby d6_14) rfl (flt (Int32.lt_irrefl)).2.1 (by decide) (by decide) (XS.iloadN X9.here hx rfl (hb hby d6_169) rfl k)) ?_
  refine own_retI X9 hx hlk hret (hb hby d6_170) ?_ (by decide) (by decide)
  rw [e9]
  exact ⟨rfl, Nf, rfl⟩
def Q_rm6_11 (Z : State) (ao0 tb co : Addr) (kt kc : ClassId) (t0 t1 t2 t3 : UInt64) (c0 c1 : UInt64) (h0 : Heap) (n0 : Nat) (v : Option Value) (h : Heap) (L : List Loc) : Prop := v = some (.int (0 : Int32)) ∧ Fr n0 L ∧ h = h0
theorem pn_rm6_11 : plainName "com/example/moving_tokens/movingtokens/DualSimplex" = true := by first | (simp [plainName, overriddenIn]; done) | decide +kernel
theorem ef_rm6_11 (m : MethodId) (x0 : Addr) (x1 : Int32) (x2 : Int32) : entryFrame m #[(.ref x0), (.int x1), (.int x2)] 12 = mkF m 0 #[.val (.ref x0), .val (.int x1), .val (.int x2), .unset, .unset, .unset, .unset, .unset, .unset, .unset, .unset, .unset] [] := by first | (simp [entryFrame, mkF, argsToLocals, Value.category]; done) | rfl
set_option maxRecDepth 65536 in
set_option maxHeartbeats 40000000 in
theorem rm6_11 (l : Launch) (Z : State) (a0 : Array Value) (hw : ∀ d ∈ tables_1, d.before a0 Z = true) (ws : List Jvm.Cond) (ao0 tb co : Addr) (kt kc : ClassId) (t0 t1 t2 t3 : UInt64) (c0 c1 : UInt64) (h0 : Heap) (n0 : Nat) (Z0 : n0 ≤ h0.size) (F_ao0_columns : Fld Z h0 ao0 "com/example/moving_tokens/movingtokens/DualSimplex" "columns" "I" (.int 2)) (F_ao0_tableau : Fld Z h0 ao0 "com/example/moving_tokens/movingtokens/DualSimplex" "tableau" "[D" (.ref tb)) (F_ao0_cost : Fld Z h0 ao0 "com/example/moving_tokens/movingtokens/DualSimplex" "cost" "[D" (.ref co)) (V_tb : Arv Z h0 tb kt .double (4 : Int32) [(.double t0), (.double t1), (.double t2), (.double t3)] (.double 0)) (V_co : Arv Z h0 co kc .double (2 : Int32) [(.double c0), (.double c1)] (.double 0)) (m_c0 : Jvm.Free.Fl.Mag64 1056 c0) (m_c1 : Jvm.Free.Fl.Mag64 1056 c1) (n_t2 : cmpValue (FP.dcmp t2 (13665607370011141269 : UInt64)) .g < 0) (n_t3 : ¬ cmpValue (FP.dcmp t3 (13665607370011141269 : UInt64)) .g < 0) (b_t2 : Big64 1023 t2) :
    MetFree l (⟨"com/example/moving_tokens/movingtokens/DualSimplex", "enteringColumn", "(IZ)I"⟩ : MethodName) (head1 (Jvm.Cond.code (⟨"com/example/moving_tokens/movingtokens/DualSimplex", "enteringColumn", "(IZ)I"⟩ : MethodName) prog_14_method_6_code 12 (some .int) :: ws) ({ frames := 0, cells := 0, slots := 0, locals := 0 } : Room)) (fun a U => a = #[(.ref ao0), (.int 1), (.int 0)] ∧ Z.Warmed39 U.vm ∧ U.heap = h0) (fun _ _ _ _ _ => True) (fun _ U o U' => ∃ v L, o = .returned v ∧ (Q_rm6_11 Z ao0 tb co kt kc t0 t1 t2 t3 c0 c1 h0 n0) v U'.heap L ∧ FrameEnd U o U' L ({ frames := 0, cells := 0, slots := 0, locals := 0 } : Room).cells ({ frames := 0, cells := 0, slots := 0, locals := 0 } : Room).slots) := by
  refine MetFree.of_bodySF (plainFor_of_name pn_rm6_11) hisR ?_
  intro p e s m args below meth c s₁ Bd hml0 hP hK
  obtain ⟨rfl, hZ, hh⟩ := hP
  have hx := Bd.exec
  have hby := Bd.bytes
  have hlk := BodyLoose.notSynchronized Bd
  have hret := Bd.returns
  have hml : c.maxLocals = 12 := hml0
  have hown : s.vm.findClass "com/example/moving_tokens/movingtokens/DualSimplex" = some m.cls := findClass_of_methodNamed Bd.named
  have hnm := (name_of_methodNamed Bd.named Bd.method).1
  have X0 : Stand p l e ({ frames := 0, cells := 0, slots := 0, locals := 0 } : Room) s m #[(.ref ao0), (.int 1), (.int 0)] below meth c s₁ [] 0 0 := Stand.of_body Bd
  have e0 : s₁.heap = h0 := by rw [← hh, Bd.state]; rfl
  have Nf := Fr.nil n0
  have Zs := Z0
  have Kp : Keep h0 h0 [] := Keep.refl _ _
  show own_End p e below s (Q_rm6_11 Z ao0 tb co kt kc t0 t1 t2 t3 c0 c1 h0 n0) ({ frames := 0, cells := 0, slots := 0, locals := 0 } : Room).cells ({ frames := 0, cells := 0, slots := 0, locals := 0 } : Room).slots (s₁.setTop (entryFrame m #[(.ref ao0), (.int 1), (.int 0)] 12))
  refine own_go (x' := s₁.setTop (mkF m 0 #[.val (.ref ao0), .val (.int 1), .val (.int 0), .unset, .unset, .unset, .unset, .unset, .unset, .unset, .unset, .unset] [])) (fun t k => castTop (ef_rm6_11 m ao0 (1 : Int32) (0 : Int32)) k) ?_
  refine own_go (x' := s₁.setTop (mkF m 8 #[.val (.ref ao0), .val (.int 1), .val (.int 0), .val (.int (-1)), .val (.double (0 : UInt64)), .second, .val (.int 0), .unset, .unset, .unset, .unset, .unset] [])) (fun _ k => XS.iconst X0.here hx rfl (hb hby d6_0) (XS.istoreN X0.here hx rfl (hb hby d6_1) rfl (l' := #[.val (.ref ao0), .val (.int 1), .val (.int 0), .val (.int (-1)), .unset, .unset, .unset, .unset, .unset, .unset, .unset, .unset]) rfl (XS.dconst0 X0.here hx rfl (hb hby d6_2) rfl (XS.dstore X0.here hx rfl (hb hby d6_3) rfl (l' := #[.val (.ref ao0), .val (.int 1), .val (.int 0), .val (.int (-1)), .val (.double (0 : UInt64)), .second, .unset, .unset, .unset, .unset, .unset, .unset]) rfl (XS.iconst X0.here hx rfl (hb hby d6_5) (XS.istore X0.here hx rfl (hb hby d6_6) rfl (l' := #[.val (.ref ao0), .val (.int 1), .val (.int 0), .val (.int (-1)), .val (.double (0 : UInt64)), .second, .val (.int 0), .unset, .unset, .unset, .unset, .unset]) rfl k)))))) ?_
  refine own_go (x' := s₁.setTop (mkF m 11 #[.val (.ref ao0), .val (.int 1), .val (.int 0), .val (.int (-1)), .val (.double (0 : UInt64)), .second, .val (.int 0), .unset, .unset, .unset, .unset, .unset] [(.ref ao0), (.int 0)])) (fun _ k => XS.iload X0.here hx rfl (hb hby d6_8) rfl (XS.aloadN X0.here hx rfl (hb hby d6_10) rfl rfl k)) ?_
  obtain ⟨T1, X1, e1, st1⟩ := getF X0 hx hZ hown (host := "") (Or.inl (own_w hw 12 rfl)) Via.refl e0 F_ao0_columns (g := (mkF m 11 #[.val (.ref ao0), .val (.int 1), .val (.int 0), .val (.int (-1)), .val (.double (0 : UInt64)), .second, .val (.int 0), .unset, .unset, .unset, .unset, .unset] [(.ref ao0), (.int 0)])) rfl rfl (hb hby d6_11)
  refine own_go (x' := T1.setTop (mkF m 14 #[.val (.ref ao0), .val (.int 1), .val (.int 0), .val (.int (-1)), .val (.double (0 : UInt64)), .second, .val (.int 0), .unset, .unset, .unset, .unset, .unset] [(.int 2), (.int 0)])) st1 ?_
  refine own_go (x' := T1.setTop (mkF m 18 #[.val (.ref ao0), .val (.int 1), .val (.int 0), .val (.int (-1)), .val (.double (0 : UInt64)), .second, .val (.int 0), .unset, .unset, .unset, .unset, .unset] [(.ref ao0)])) (fun _ k => XS.icmpNo X1.here hx rfl (hb hby d6_14) rfl (tlt (by decide +kernel : ((0 : Int32) < (2 : Int32)))).2.1 (XS.aloadN X1.here hx rfl (hb hby d6_17) rfl rfl k)) ?_
  obtain ⟨T2, X2, e2, st2⟩ := getF X1 hx hZ hown (host := "") (Or.inl (own_w hw 14 rfl)) Via.refl e1 F_ao0_tableau (g := (mkF m 18 #[.val (.ref ao0), .val (.int 1), .val (.int 0), .val (.int (-1)), .val (.double (0 : UInt64)), .second, .val (.int 0), .unset, .unset, .unset, .unset, .unset] [(.ref ao0)])) rfl rfl (hb hby d6_18)
  refine own_go (x' := T2.setTop (mkF m 21 #[.val (.ref ao0), .val (.int 1), .val (.int 0), .val (.int (-1)), .val (.double (0 : UInt64)), .second, .val (.int 0), .unset, .unset, .unset, .unset, .unset] [(.ref tb)])) st2 ?_
  refine own_go (x' := T2.setTop (mkF m 23 #[.val (.ref ao0), .val (.int 1), .val (.int 0), .val (.int (-1)), .val (.double (0 : UInt64)), .second, .val (.int 0), .unset, .unset, .unset, .unset, .unset] [(.ref ao0), (.int 1), (.ref tb)])) (fun _ k => XS.iloadN X2.here hx rfl (hb hby d6_21) rfl (XS.aloadN X2.here hx rfl (hb hby d6_22) rfl rfl k)) ?_
  obtain ⟨T3, X3, e3, st3⟩ := getF X2 hx hZ hown (host := "") (Or.inl (own_w hw 12 rfl)) Via.refl e2 F_ao0_columns (g := (mkF m 23 #[.val (.ref ao0), .val (.int 1), .val (.int 0), .val (.int (-1)), .val (.double (0 : UInt64)), .second, .val (.int 0), .unset, .unset, .unset, .unset, .unset] [(.ref ao0), (.int 1), (.ref tb)])) rfl rfl (hb hby d6_23)
  refine own_go (x' := T3.setTop (mkF m 26 #[.val (.ref ao0), .val (.int 1), .val (.int 0), .val (.int (-1)), .val (.double (0 : UInt64)), .second, .val (.int 0), .unset, .unset, .unset, .unset, .unset] [(.int 2), (.int 1), (.ref tb)])) st3 ?_
  refine own_go (x' := T3.setTop (mkF m 30 #[.val (.ref ao0), .val (.int 1), .val (.int 0), .val (.int (-1)), .val (.double (0 : UInt64)), .second, .val (.int 0), .unset, .unset, .unset, .unset, .unset] [(.int (((1 : Int32) * (2 : Int32)) + (0 : Int32))), (.ref tb)])) (fun _ k => XS.imul X3.here hx rfl (hb hby d6_26) rfl (XS.iload X3.here hx rfl (hb hby d6_27) rfl (XS.iadd X3.here hx rfl (hb hby d6_29) rfl k))) ?_
  rw [show (((1 : Int32) * (2 : Int32)) + (0 : Int32)) = (2 : Int32) from by decide +kernel]
  obtain ⟨cl4, Ar4, q4, Sz4, Nn4, Hh4, Gg4⟩ := id V_tb
  have hin4 : ¬ ((2 : Int32) < 0 ∨ cl4.slots.size ≤ ((2 : Int32)).toNatClampNeg) := inb_of Sz4 ⟨by decide, by decide⟩
  refine own_go (x' := T3.setTop (mkF m 31 #[.val (.ref ao0), .val (.int 1), .val (.int 0), .val (.int (-1)), .val (.double (0 : UInt64)), .second, .val (.int 0), .unset, .unset, .unset, .unset, .unset] [(.double t2)])) (X3.daload hx (j := (2 : Int32)) (v := (.double t2)) (Eq.trans (congrArg (fun h_ => h_[_]?) e3) Ar4.1) (State.isArrayOf_alike hZ.alike Ar4.2.1) Ar4.2.2 hin4 (Hh4.at hin4 rfl) (g := (mkF m 30 #[.val (.ref ao0), .val (.int 1), .val (.int 0), .val (.int (-1)), .val (.double (0 : UInt64)), .second, .val (.int 0), .unset, .unset, .unset, .unset, .unset] [(.int 2), (.ref tb)])) rfl rfl (hb hby d6_30)) ?_
  refine own_go (x' := T3.setTop (mkF m 35 #[.val (.ref ao0), .val (.int 1), .val (.int 0), .val (.int (-1)), .val (.double (0 : UInt64)), .second, .val (.int 0), .val (.double t2), .second, .unset, .unset, .unset] [(.double t2)])) (fun _ k => XS.dstore X3.here hx rfl (hb hby d6_31) rfl (l' := #[.val (.ref ao0), .val (.int 1), .val (.int 0), .val (.int (-1)), .val (.double (0 : UInt64)), .second, .val (.int 0), .val (.double t2), .second, .unset, .unset, .unset]) rfl (XS.dload X3.here hx rfl (hb hby d6_33) rfl k)) ?_
  refine own_go (x' := T3.setTop (mkF m 38 #[.val (.ref ao0), .val (.int 1), .val (.int 0), .val (.int (-1)), .val (.double (0 : UInt64)), .second, .val (.int 0), .val (.double t2), .second, .unset, .unset, .unset] [(.double (13665607370011141269 : UInt64)), (.double t2)])) (fun t k => X3.ldc2DoubleC hx hown (mvT hZ (own_w hw 43 rfl)) (g := (mkF m 35 #[.val (.ref ao0), .val (.int 1), .val (.int 0), .val (.int (-1)), .val (.double (0 : UInt64)), .second, .val (.int 0), .val (.double t2), .second, .unset, .unset, .unset] [(.double t2)])) rfl (hb hby d6_35) t k) ?_
  refine own_go (x' := T3.setTop (mkF m 43 #[.val (.ref ao0), .val (.int 1), .val (.int 0), .val (.int (-1)), .val (.double (0 : UInt64)), .second, .val (.int 0), .val (.double t2), .second, .unset, .unset, .unset] [(.ref ao0)])) (fun _ k => XS.dcmpS X3.here hx rfl (hb hby d6_38) rfl rfl (XS.ifNo X3.here hx rfl (hb hby d6_39) rfl ((if0 _ _).trans (tlt n_t2).2.1) (XS.aloadN X3.here hx rfl (hb hby d6_42) rfl rfl k))) ?_
  obtain ⟨T5, X5, e5, st5⟩ := getF X3 hx hZ hown (host := "") (Or.inl (own_w hw 27 rfl)) Via.refl e3 F_ao0_cost (g := (mkF m 43 #[.val (.ref ao0), .val (.int 1), .val (.int 0), .val (.int (-1)), .val (.double (0 : UInt64)), .second, .val (.int 0), .val (.double t2), .second, .unset, .unset, .unset] [(.ref ao0)])) rfl rfl (hb hby d6_43)
  refine own_go (x' := T5.setTop (mkF m 46 #[.val (.ref ao0), .val (.int 1), .val (.int 0), .val (.int (-1)), .val (.double (0 : UInt64)), .second, .val (.int 0), .val (.double t2), .second, .unset, .unset, .unset] [(.ref co)])) st5 ?_
  refine own_go (x' := T5.setTop (mkF m 48 #[.val (.ref ao0), .val (.int 1), .val (.int 0), .val (.int (-1)), .val (.double (0 : UInt64)), .second, .val (.int 0), .val (.double t2), .second, .unset, .unset, .unset] [(.int 0), (.ref co)])) (fun _ k => XS.iload X5.here hx rfl (hb hby d6_46) rfl k) ?_
  obtain ⟨cl6, Ar6, q6, Sz6, Nn6, Hh6, Gg6⟩ := id V_co
  have hin6 : ¬ ((0 : Int32) < 0 ∨ cl6.slots.size ≤ ((0 : Int32)).toNatClampNeg) := inb_of Sz6 ⟨by decide, by decide⟩
  refine own_go (x' := T5.setTop (mkF m 49 #[.val (.ref ao0), .val (.int 1), .val (.int 0), .val (.int (-1)), .val (.double (0 : UInt64)), .second, .val (.int 0), .val (.double t2), .second, .unset, .unset, .unset] [(.double c0)])) (X5.daload hx (j := (0 : Int32)) (v := (.double c0)) (Eq.trans (congrArg (fun h_ => h_[_]?) e5) Ar6.1) (State.isArrayOf_alike hZ.alike Ar6.2.1) Ar6.2.2 hin6 (Hh6.at hin6 rfl) (g := (mkF m 48 #[.val (.ref ao0), .val (.int 1), .val (.int 0), .val (.int (-1)), .val (.double (0 : UInt64)), .second, .val (.int 0), .val (.double t2), .second, .unset, .unset, .unset] [(.int 0), (.ref co)])) rfl rfl (hb hby d6_48)) ?_
  refine own_go (x' := T5.setTop (mkF m 71 #[.val (.ref ao0), .val (.int 1), .val (.int 0), .val (.int (-1)), .val (.double (0 : UInt64)), .second, .val (.int 0), .val (.double t2), .second, .val (.double (FP.ddiv c0 (FP.dneg t2))), .second, .unset] [])) (fun _ k => XS.dload X5.here hx rfl (hb hby d6_49) rfl (XS.dnegS X5.here hx rfl (hb hby d6_51) rfl rfl (XS.ddivS X5.here hx rfl (hb hby d6_52) rfl (own_nn (ddiv_mag m_c0 (own_bneg b_t2) (by decide) (by decide))) rfl (XS.dstore X5.here hx rfl (hb hby d6_53) rfl (l' := #[.val (.ref ao0), .val (.int 1), .val (.int 0), .val (.int (-1)), .val (.double (0 : UInt64)), .second, .val (.int 0), .val (.double t2), .second, .val (.double (FP.ddiv c0 (FP.dneg t2))), .second, .unset]) rfl (XS.iloadN X5.here hx rfl (hb hby d6_55) rfl (XS.ifYes X5.here hx rfl (pc0 := 56) (pc' := 71) rfl (hb hby d6_56) rfl ((if0 _ _).trans (tlt (by decide +kernel : ((-1 : Int32) < (0 : Int32)))).1) (by decide) (by decide) k)))))) ?_
  refine own_go (x' := T5.setTop (mkF m 158 #[.val (.ref ao0), .val (.int 1), .val (.int 0), .val (.int (-1)), .val (.double (0 : UInt64)), .second, .val (.int 0), .val (.double t2), .second, .val (.double (FP.ddiv c0 (FP.dneg t2))), .second, .val (.int 1)] [(.int 0)])) (fun _ k => XS.iconst X5.here hx rfl (hb hby d6_71) (XS.istore X5.here hx rfl (hb hby d6_72) rfl (l' := #[.val (.ref ao0), .val (.int 1), .val (.int 0), .val (.int (-1)), .val (.double (0 : UInt64)), .second, .val (.int 0), .val (.double t2), .second, .val (.double (FP.ddiv c0 (FP.dneg t2))), .second, .val (.int 1)]) rfl (XS.goto X5.here hx rfl (pc0 := 74) (pc' := 151) rfl (hb hby d6_74) (by decide) (by decide) (XS.iload X5.here hx rfl (hb hby d6_151) rfl (XS.ifNo X5.here hx rfl (hb hby d6_153) rfl ((if0 _ _).trans (feq (by decide +kernel : ¬ ((1 : Int32) = (0 : Int32)))).1) (XS.iload X5.here hx rfl (hb hby d6_156) rfl k)))))) ?_
  refine own_go (x' := T5.setTop (mkF m 8 #[.val (.ref ao0), .val (.int 1), .val (.int 0), .val (.int 0), .val (.double (FP.ddiv c0 (FP.dneg t2))), .second, .val (.int ((0 : Int32) + (1 : Int32))), .val (.double t2), .second, .val (.double (FP.ddiv c0 (FP.dneg t2))), .second, .val (.int 1)] [])) (fun _ k => XS.istoreN X5.here hx rfl (hb hby d6_158) rfl (l' := #[.val (.ref ao0), .val (.int 1), .val (.int 0), .val (.int 0), .val (.double (0 : UInt64)), .second, .val (.int 0), .val (.double t2), .second, .val (.double (FP.ddiv c0 (FP.dneg t2))), .second, .val (.int 1)]) rfl (XS.dload X5.here hx rfl (hb hby d6_159) rfl (XS.dstore X5.here hx rfl (hb hby d6_161) rfl (l' := #[.val (.ref ao0), .val (.int 1), .val (.int 0), .val (.int 0), .val (.double (FP.ddiv c0 (FP.dneg t2))), .second, .val (.int 0), .val (.double t2), .second, .val (.double (FP.ddiv c0 (FP.dneg t2))), .second, .val (.int 1)]) rfl (XS.iinc X5.here hx rfl (hb hby d6_163) rfl (l' := #[.val (.ref ao0), .val (.int 1), .val (.int 0), .val (.int 0), .val (.double (FP.ddiv c0 (FP.dneg t2))), .second, .val (.int ((0 : Int32) + (1 : Int32))), .val (.double t2), .second, .val (.double (FP.ddiv c0 (FP.dneg t2))), .second, .val (.int 1)]) rfl (XS.goto X5.here hx rfl (pc0 := 166) (pc' := 8) rfl (hb hby d6_166) (by decide) (by decide) k))))) ?_
  rw [show ((0 : Int32) + (1 : Int32)) = (1 : Int32) from by decide +kernel]
  refine own_go (x' := T5.setTop (mkF m 11 #[.val (.ref ao0), .val (.int 1), .val (.int 0), .val (.int 0), .val (.double (FP.ddiv c0 (FP.dneg t2))), .second, .val (.int 1), .val (.double t2), .second, .val (.double (FP.ddiv c0 (FP.dneg t2))), .second, .val (.int 1)] [(.ref ao0), (.int 1)])) (fun _ k => XS.iload X5.here hx rfl (hb hby d6_8) rfl (XS.aloadN X5.here hx rfl (hb hby d6_10) rfl rfl k)) ?_
  obtain ⟨T7, X7, e7, st7⟩ := getF X5 hx hZ hown (host := "") (Or.inl (own_w hw 12 rfl)) Via.refl e5 F_ao0_columns (g := (mkF m 11 #[.val (.ref ao0), .val (.int 1), .val (.int 0), .val (.int 0), .val (.double (FP.ddiv c0 (FP.dneg t2))), .second, .val (.int 1), .val (.double t2), .second, .val (.double (FP.ddiv c0 (FP.dneg t2))), .second, .val (.int 1)] [(.ref ao0), (.int 1)])) rfl rfl (hb hby d6_11)
  refine own_go (x' := T7.setTop (mkF m 14 #[.val (.ref ao0), .val (.int 1), .val (.int 0), .val (.int 0), .val (.double (FP.ddiv c0 (FP.dneg t2))), .second, .val (.int 1), .val (.double t2), .second, .val (.double (FP.ddiv c0 (FP.dneg t2))), .second, .val (.int 1)] [(.int 2), (.int 1)])) st7 ?_
  refine own_go (x' := T7.setTop (mkF m 18 #[.val (.ref ao0), .val (.int 1), .val (.int 0), .val (.int 0), .val (.double (FP.ddiv c0 (FP.dneg t2))), .second, .val (.int 1), .val (.double t2), .second, .val (.double (FP.ddiv c0 (FP.dneg t2))), .second, .val (.int 1)] [(.ref ao0)])) (fun _ k => XS.icmpNo X7.here hx rfl (hb hby d6_14) rfl (tlt (by decide +kernel : ((1 : Int32) < (2 : Int32)))).2.1 (XS.aloadN X7.here hx rfl (hb hby d6_17) rfl rfl k)) ?_
  obtain ⟨T8, X8, e8, st8⟩ := getF X7 hx hZ hown (host := "") (Or.inl (own_w hw 14 rfl)) Via.refl e7 F_ao0_tableau (g := (mkF m 18 #[.val (.ref ao0), .val (.int 1), .val (.int 0), .val (.int 0), .val (.double (FP.ddiv c0 (FP.dneg t2))), .second, .val (.int 1), .val (.double t2), .second, .val (.double (FP.ddiv c0 (FP.dneg t2))), .second, .val (.int 1)] [(.ref ao0)])) rfl rfl (hb hby d6_18)
  refine own_go (x' := T8.setTop (mkF m 21 #[.val (.ref ao0), .val (.int 1), .val (.int 0), .val (.int 0), .val (.double (FP.ddiv c0 (FP.dneg t2))), .second, .val (.int 1), .val (.double t2), .second, .val (.double (FP.ddiv c0 (FP.dneg t2))), .second, .val (.int 1)] [(.ref tb)])) st8 ?_
  refine own_go (x' := T8.setTop (mkF m 23 #[.val (.ref ao0), .val (.int 1), .val (.int 0), .val (.int 0), .val (.double (FP.ddiv c0 (FP.dneg t2))), .second, .val (.int 1), .val (.double t2), .second, .val (.double (FP.ddiv c0 (FP.dneg t2))), .second, .val (.int 1)] [(.ref ao0), (.int 1), (.ref tb)])) (fun _ k => XS.iloadN X8.here hx rfl (hb hby d6_21) rfl (XS.aloadN X8.here hx rfl (hb hby d6_22) rfl rfl k)) ?_
  obtain ⟨T9, X9, e9, st9⟩ := getF X8 hx hZ hown (host := "") (Or.inl (own_w hw 12 rfl)) Via.refl e8 F_ao0_columns (g := (mkF m 23 #[.val (.ref ao0), .val (.int 1), .val (.int 0), .val (.int 0), .val (.double (FP.ddiv c0 (FP.dneg t2))), .second, .val (.int 1), .val (.double t2), .second, .val (.double (FP.ddiv c0 (FP.dneg t2))), .second, .val (.int 1)] [(.ref ao0), (.int 1), (.ref tb)])) rfl rfl (hb hby d6_23)
  refine own_go (x' := T9.setTop (mkF m 26 #[.val (.ref ao0), .val (.int 1), .val (.int 0), .val (.int 0), .val (.double (FP.ddiv c0 (FP.dneg t2))), .second, .val (.int 1), .val (.double t2), .second, .val (.double (FP.ddiv c0 (FP.dneg t2))), .second, .val (.int 1)] [(.int 2), (.int 1), (.ref tb)])) st9 ?_
  refine own_go (x' := T9.setTop (mkF m 30 #[.val (.ref ao0), .val (.int 1), .val (.int 0), .val (.int 0), .val (.double (FP.ddiv c0 (FP.dneg t2))), .second, .val (.int 1), .val (.double t2), .second, .val (.double (FP.ddiv c0 (FP.dneg t2))), .second, .val (.int 1)] [(.int (((1 : Int32) * (2 : Int32)) + (1 : Int32))), (.ref tb)])) (fun _ k => XS.imul X9.here hx rfl (hb hby d6_26) rfl (XS.iload X9.here hx rfl (hb hby d6_27) rfl (XS.iadd X9.here hx rfl (hb hby d6_29) rfl k))) ?_
  rw [show (((1 : Int32) * (2 : Int32)) + (1 : Int32)) = (3 : Int32) from by decide +kernel]
  obtain ⟨cl10, Ar10, q10, Sz10, Nn10, Hh10, Gg10⟩ := id V_tb
  have hin10 : ¬ ((3 : Int32) < 0 ∨ cl10.slots.size ≤ ((3 : Int32)).toNatClampNeg) := inb_of Sz10 ⟨by decide, by decide⟩
  refine own_go (x' := T9.setTop (mkF m 31 #[.val (.ref ao0), .val (.int 1), .val (.int 0), .val (.int 0), .val (.double (FP.ddiv c0 (FP.dneg t2))), .second, .val (.int 1), .val (.double t2), .second, .val (.double (FP.ddiv c0 (FP.dneg t2))), .second, .val (.int 1)] [(.double t3)])) (X9.daload hx (j := (3 : Int32)) (v := (.double t3)) (Eq.trans (congrArg (fun h_ => h_[_]?) e9) Ar10.1) (State.isArrayOf_alike hZ.alike Ar10.2.1) Ar10.2.2 hin10 (Hh10.at hin10 rfl) (g := (mkF m 30 #[.val (.ref ao0), .val (.int 1), .val (.int 0), .val (.int 0), .val (.double (FP.ddiv c0 (FP.dneg t2))), .second, .val (.int 1), .val (.double t2), .second, .val (.double (FP.ddiv c0 (FP.dneg t2))), .second, .val (.int 1)] [(.int 3), (.ref tb)])) rfl rfl (hb hby d6_30)) ?_
  refine own_go (x' := T9.setTop (mkF m 35 #[.val (.ref ao0), .val (.int 1), .val (.int 0), .val (.int 0), .val (.double (FP.ddiv c0 (FP.dneg t2))), .second, .val (.int 1), .val (.double t3), .second, .val (.double (FP.ddiv c0 (FP.dneg t2))), .second, .val (.int 1)] [(.double t3)])) (fun _ k => XS.dstore X9.here hx rfl (hb hby d6_31) rfl (l' := #[.val (.ref ao0), .val (.int 1), .val (.int 0), .val (.int 0), .val (.double (FP.ddiv c0 (FP.dneg t2))), .second, .val (.int 1), .val (.double t3), .second, .val (.double (FP.ddiv c0 (FP.dneg t2))), .second, .val (.int 1)]) rfl (XS.dload X9.here hx rfl (hb hby d6_33) rfl k)) ?_
  refine own_go (x' := T9.setTop (mkF m 38 #[.val (.ref ao0), .val (.int 1), .val (.int 0), .val (.int 0), .val (.double (FP.ddiv c0 (FP.dneg t2))), .second, .val (.int 1), .val (.double t3), .second, .val (.double (FP.ddiv c0 (FP.dneg t2))), .second, .val (.int 1)] [(.double (13665607370011141269 : UInt64)), (.double t3)])) (fun t k => X9.ldc2DoubleC hx hown (mvT hZ (own_w hw 43 rfl)) (g := (mkF m 35 #[.val (.ref ao0), .val (.int 1), .val (.int 0), .val (.int 0), .val (.double (FP.ddiv c0 (FP.dneg t2))), .second, .val (.int 1), .val (.double t3), .second, .val (.double (FP.ddiv c0 (FP.dneg t2))), .second, .val (.int 1)] [(.double t3)])) rfl (hb hby d6_35) t k) ?_
  refine own_go (x' := T9.setTop (mkF m 8 #[.val (.ref ao0), .val (.int 1), .val (.int 0), .val (.int 0), .val (.double (FP.ddiv c0 (FP.dneg t2))), .second, .val (.int ((1 : Int32) + (1 : Int32))), .val (.double t3), .second, .val (.double (FP.ddiv c0 (FP.dneg t2))), .second, .val (.int 1)] [])) (fun _ k => XS.dcmpS X9.here hx rfl (hb hby d6_38) rfl rfl (XS.ifYes X9.here hx rfl (pc0 := 39) (pc' := 163) rfl (hb hby d6_39) rfl ((if0 _ _).trans (flt n_t3).2.1) (by decide) (by decide) (XS.iinc X9.here hx rfl (hb hby d6_163) rfl (l' := #[.val (.ref ao0), .val (.int 1), .val (.int 0), .val (.int 0), .val (.double (FP.ddiv c0 (FP.dneg t2))), .second, .val (.int ((1 : Int32) + (1 : Int32))), .val (.double t3), .second, .val (.double (FP.ddiv c0 (FP.dneg t2))), .second, .val (.int 1)]) rfl (XS.goto X9.here hx rfl (pc0 := 166) (pc' := 8) rfl (hb hby d6_166) (by decide) (by decide) k)))) ?_
  rw [show ((1 : Int32) + (1 : Int32)) = (2 : Int32) from by decide +kernel]
  refine own_go (x' := T9.setTop (mkF m 11 #[.val (.ref ao0), .val (.int 1), .val (.int 0), .val (.int 0), .val (.double (FP.ddiv c0 (FP.dneg t2))), .second, .val (.int 2), .val (.double t3), .second, .val (.double (FP.ddiv c0 (FP.dneg t2))), .second, .val (.int 1)] [(.ref ao0), (.int 2)])) (fun _ k => XS.iload X9.here hx rfl (hb hby d6_8) rfl (XS.aloadN X9.here hx rfl (hb hby d6_10) rfl rfl k)) ?_
  obtain ⟨T11, X11, e11, st11⟩ := getF X9 hx hZ hown (host := "") (Or.inl (own_w hw 12 rfl)) Via.refl e9 F_ao0_columns (g := (mkF m 11 #[.val (.ref ao0), .val (.int 1), .val (.int 0), .val (.int 0), .val (.double (FP.ddiv c0 (FP.dneg t2))), .second, .val (.int 2), .val (.double t3), .second, .val (.double (FP.ddiv c0 (FP.dneg t2))), .second, .val (.int 1)] [(.ref ao0), (.int 2)])) rfl rfl (hb hby d6_11)
  refine own_go (x' := T11.setTop (mkF m 14 #[.val (.ref ao0), .val (.int 1), .val (.int 0), .val (.int 0), .val (.double (FP.ddiv c0 (FP.dneg t2))), .second, .val (.int 2), .val (.double t3), .second, .val (.double (FP.ddiv c0 (FP.dneg t2))), .second, .val (.int 1)] [(.int 2), (.int 2)])) st11 ?_
  refine own_go (x' := T11.setTop (mkF m 170 #[.val (.ref ao0), .val (.int 1), .val (.int 0), .val (.int 0), .val (.double (FP.ddiv c0 (FP.dneg t2))), .second, .val (.int 2), .val (.double t3), .second, .val (.double (FP.ddiv c0 (FP.dneg t2))), .second, .val (.int 1)] [(.int 0)])) (fun _ k => XS.icmpYes X11.here hx rfl (pc0 := 14) (pc' := 169) rfl (hb hby d6_14) rfl (flt (Int32.lt_irrefl)).2.1 (by decide) (by decide) (XS.iloadN X11.here hx rfl (hb hby d6_169) rfl k)) ?_
  refine own_retI X11 hx hlk hret (hb hby d6_170) ?_ (by decide) (by decide)
  rw [e11]
  exact ⟨rfl, Nf, rfl⟩
theorem d7_0 : decode prog_14_method_7_code 0 = .ok (.iload_n 1, 1) := by decide +kernel
theorem d7_1 : decode prog_14_method_7_code 1 = .ok (.aload_n 0, 1) := by decide +kernel
theorem d7_2 : decode prog_14_method_7_code 2 = .ok (.getfield 13, 3) := by decide +kernel
theorem d7_5 : decode prog_14_method_7_code 5 = .ok (.imul, 1) := by decide +kernel
theorem d7_6 : decode prog_14_method_7_code 6 = .ok (.istore_n 3, 1) := by decide +kernel
theorem d7_7 : decode prog_14_method_7_code 7 = .ok (.aload_n 0, 1) := by decide +kernel
theorem d7_8 : decode prog_14_method_7_code 8 = .ok (.getfield 16, 3) := by decide +kernel
theorem d7_11 : decode prog_14_method_7_code 11 = .ok (.iload_n 3, 1) := by decide +kernel
theorem d7_12 : decode prog_14_method_7_code 12 = .ok (.iload_n 2, 1) := by decide +kernel
theorem d7_13 : decode prog_14_method_7_code 13 = .ok (.iadd, 1) := by decide +kernel
theorem d7_14 : decode prog_14_method_7_code 14 = .ok (.daload, 1) := by decide +kernel
theorem d7_15 : decode prog_14_method_7_code 15 = .ok (.dstore 4, 2) := by decide +kernel
theorem d7_17 : decode prog_14_method_7_code 17 = .ok (.iconst 0, 1) := by decide +kernel
theorem d7_18 : decode prog_14_method_7_code 18 = .ok (.istore 6, 2) := by decide +kernel
theorem d7_20 : decode prog_14_method_7_code 20 = .ok (.iload 6, 2) := by decide +kernel
theorem d7_22 : decode prog_14_method_7_code 22 = .ok (.aload_n 0, 1) := by decide +kernel
theorem d7_23 : decode prog_14_method_7_code 23 = .ok (.getfield 13, 3) := by decide +kernel
theorem d7_26 : decode prog_14_method_7_code 26 = .ok (.if_icmp .ge 23, 3) := by decide +kernel
theorem d7_29 : decode prog_14_method_7_code 29 = .ok (.aload_n 0, 1) := by decide +kernel
theorem d7_30 : decode prog_14_method_7_code 30 = .ok (.getfield 16, 3) := by decide +kernel
theorem d7_33 : decode prog_14_method_7_code 33 = .ok (.iload_n 3, 1) := by decide +kernel
theorem d7_34 : decode prog_14_method_7_code 34 = .ok (.iload 6, 2) := by decide +kernel
theorem d7_36 : decode prog_14_method_7_code 36 = .ok (.iadd, 1) := by decide +kernel
theorem d7_37 : decode prog_14_method_7_code 37 = .ok (.dup2, 1) := by decide +kernel
theorem d7_38 : decode prog_14_method_7_code 38 = .ok (.daload, 1) := by decide +kernel
theorem d7_39 : decode prog_14_method_7_code 39 = .ok (.dload 4, 2) := by decide +kernel
theorem d7_41 : decode prog_14_method_7_code 41 = .ok (.ddiv, 1) := by decide +kernel
theorem d7_42 : decode prog_14_method_7_code 42 = .ok (.dastore, 1) := by decide +kernel
theorem d7_43 : decode prog_14_method_7_code 43 = .ok (.iinc 6 1, 3) := by decide +kernel
theorem d7_46 : decode prog_14_method_7_code 46 = .ok (.goto (-26), 3) := by decide +kernel
theorem d7_49 : decode prog_14_method_7_code 49 = .ok (.aload_n 0, 1) := by decide +kernel
theorem d7_50 : decode prog_14_method_7_code 50 = .ok (.getfield 16, 3) := by decide +kernel
theorem d7_53 : decode prog_14_method_7_code 53 = .ok (.iload_n 3, 1) := by decide +kernel
theorem d7_54 : decode prog_14_method_7_code 54 = .ok (.iload_n 2, 1) := by decide +kernel
theorem d7_55 : decode prog_14_method_7_code 55 = .ok (.iadd, 1) := by decide +kernel
theorem d7_56 : decode prog_14_method_7_code 56 = .ok (.dconst 1, 1) := by decide +kernel
theorem d7_57 : decode prog_14_method_7_code 57 = .ok (.dload 4, 2) := by decide +kernel
theorem d7_59 : decode prog_14_method_7_code 59 = .ok (.ddiv, 1) := by decide +kernel
theorem d7_60 : decode prog_14_method_7_code 60 = .ok (.dastore, 1) := by decide +kernel
theorem d7_61 : decode prog_14_method_7_code 61 = .ok (.aload_n 0, 1) := by decide +kernel
theorem d7_62 : decode prog_14_method_7_code 62 = .ok (.getfield 25, 3) := by decide +kernel
theorem d7_65 : decode prog_14_method_7_code 65 = .ok (.iload_n 1, 1) := by decide +kernel
theorem d7_66 : decode prog_14_method_7_code 66 = .ok (.dup2, 1) := by decide +kernel
theorem d7_67 : decode prog_14_method_7_code 67 = .ok (.daload, 1) := by decide +kernel
theorem d7_68 : decode prog_14_method_7_code 68 = .ok (.dload 4, 2) := by decide +kernel
theorem d7_70 : decode prog_14_method_7_code 70 = .ok (.ddiv, 1) := by decide +kernel
theorem d7_71 : decode prog_14_method_7_code 71 = .ok (.dastore, 1) := by decide +kernel
theorem d7_72 : decode prog_14_method_7_code 72 = .ok (.ldc2_w 54, 3) := by decide +kernel
theorem d7_75 : decode prog_14_method_7_code 75 = .ok (.aload_n 0, 1) := by decide +kernel
theorem d7_76 : decode prog_14_method_7_code 76 = .ok (.getfield 13, 3) := by decide +kernel
theorem d7_79 : decode prog_14_method_7_code 79 = .ok (.i2l, 1) := by decide +kernel
theorem d7_80 : decode prog_14_method_7_code 80 = .ok (.lmul, 1) := by decide +kernel
theorem d7_81 : decode prog_14_method_7_code 81 = .ok (.lstore 6, 2) := by decide +kernel
theorem d7_83 : decode prog_14_method_7_code 83 = .ok (.iconst 0, 1) := by decide +kernel
theorem d7_84 : decode prog_14_method_7_code 84 = .ok (.istore 8, 2) := by decide +kernel
theorem d7_86 : decode prog_14_method_7_code 86 = .ok (.iload 8, 2) := by decide +kernel
theorem d7_88 : decode prog_14_method_7_code 88 = .ok (.aload_n 0, 1) := by decide +kernel
theorem d7_89 : decode prog_14_method_7_code 89 = .ok (.getfield 7, 3) := by decide +kernel
theorem d7_92 : decode prog_14_method_7_code 92 = .ok (.if_icmp .ge 129, 3) := by decide +kernel
theorem d7_95 : decode prog_14_method_7_code 95 = .ok (.iload 8, 2) := by decide +kernel
theorem d7_97 : decode prog_14_method_7_code 97 = .ok (.aload_n 0, 1) := by decide +kernel
theorem d7_98 : decode prog_14_method_7_code 98 = .ok (.getfield 13, 3) := by decide +kernel
theorem d7_101 : decode prog_14_method_7_code 101 = .ok (.imul, 1) := by decide +kernel
theorem d7_102 : decode prog_14_method_7_code 102 = .ok (.istore 9, 2) := by decide +kernel
theorem d7_104 : decode prog_14_method_7_code 104 = .ok (.aload_n 0, 1) := by decide +kernel
theorem d7_105 : decode prog_14_method_7_code 105 = .ok (.getfield 16, 3) := by decide +kernel
theorem d7_108 : decode prog_14_method_7_code 108 = .ok (.iload 9, 2) := by decide +kernel
theorem d7_110 : decode prog_14_method_7_code 110 = .ok (.iload_n 2, 1) := by decide +kernel
theorem d7_111 : decode prog_14_method_7_code 111 = .ok (.iadd, 1) := by decide +kernel
theorem d7_112 : decode prog_14_method_7_code 112 = .ok (.daload, 1) := by decide +kernel
theorem d7_113 : decode prog_14_method_7_code 113 = .ok (.dstore 10, 2) := by decide +kernel
theorem d7_115 : decode prog_14_method_7_code 115 = .ok (.iload 8, 2) := by decide +kernel
theorem d7_117 : decode prog_14_method_7_code 117 = .ok (.iload_n 1, 1) := by decide +kernel
theorem d7_118 : decode prog_14_method_7_code 118 = .ok (.if_icmp .eq 97, 3) := by decide +kernel
theorem d7_121 : decode prog_14_method_7_code 121 = .ok (.dload 10, 2) := by decide +kernel
theorem d7_123 : decode prog_14_method_7_code 123 = .ok (.dconst 0, 1) := by decide +kernel
theorem d7_124 : decode prog_14_method_7_code 124 = .ok (.dcmp .l, 1) := by decide +kernel
theorem d7_125 : decode prog_14_method_7_code 125 = .ok (.ifCond .eq 90, 3) := by decide +kernel
theorem d7_128 : decode prog_14_method_7_code 128 = .ok (.iconst 0, 1) := by decide +kernel
theorem d7_129 : decode prog_14_method_7_code 129 = .ok (.istore 12, 2) := by decide +kernel
theorem d7_131 : decode prog_14_method_7_code 131 = .ok (.iload 12, 2) := by decide +kernel
theorem d7_133 : decode prog_14_method_7_code 133 = .ok (.aload_n 0, 1) := by decide +kernel
theorem d7_134 : decode prog_14_method_7_code 134 = .ok (.getfield 13, 3) := by decide +kernel
theorem d7_137 : decode prog_14_method_7_code 137 = .ok (.if_icmp .ge 34, 3) := by decide +kernel
theorem d7_140 : decode prog_14_method_7_code 140 = .ok (.aload_n 0, 1) := by decide +kernel
theorem d7_141 : decode prog_14_method_7_code 141 = .ok (.getfield 16, 3) := by decide +kernel
theorem d7_144 : decode prog_14_method_7_code 144 = .ok (.iload 9, 2) := by decide +kernel
theorem d7_146 : decode prog_14_method_7_code 146 = .ok (.iload 12, 2) := by decide +kernel
theorem d7_148 : decode prog_14_method_7_code 148 = .ok (.iadd, 1) := by decide +kernel
theorem d7_149 : decode prog_14_method_7_code 149 = .ok (.dup2, 1) := by decide +kernel
theorem d7_150 : decode prog_14_method_7_code 150 = .ok (.daload, 1) := by decide +kernel
theorem d7_151 : decode prog_14_method_7_code 151 = .ok (.dload 10, 2) := by decide +kernel
theorem d7_153 : decode prog_14_method_7_code 153 = .ok (.aload_n 0, 1) := by decide +kernel
theorem d7_154 : decode prog_14_method_7_code 154 = .ok (.getfield 16, 3) := by decide +kernel
theorem d7_157 : decode prog_14_method_7_code 157 = .ok (.iload_n 3, 1) := by decide +kernel
theorem d7_158 : decode prog_14_method_7_code 158 = .ok (.iload 12, 2) := by decide +kernel
theorem d7_160 : decode prog_14_method_7_code 160 = .ok (.iadd, 1) := by decide +kernel
theorem d7_161 : decode prog_14_method_7_code 161 = .ok (.daload, 1) := by decide +kernel
theorem d7_162 : decode prog_14_method_7_code 162 = .ok (.dmul, 1) := by decide +kernel
theorem d7_163 : decode prog_14_method_7_code 163 = .ok (.dsub, 1) := by decide +kernel
theorem d7_164 : decode prog_14_method_7_code 164 = .ok (.dastore, 1) := by decide +kernel
theorem d7_165 : decode prog_14_method_7_code 165 = .ok (.iinc 12 1, 3) := by decide +kernel
theorem d7_168 : decode prog_14_method_7_code 168 = .ok (.goto (-37), 3) := by decide +kernel
theorem d7_171 : decode prog_14_method_7_code 171 = .ok (.aload_n 0, 1) := by decide +kernel
theorem d7_172 : decode prog_14_method_7_code 172 = .ok (.getfield 16, 3) := by decide +kernel
theorem d7_175 : decode prog_14_method_7_code 175 = .ok (.iload 9, 2) := by decide +kernel
theorem d7_177 : decode prog_14_method_7_code 177 = .ok (.iload_n 2, 1) := by decide +kernel
theorem d7_178 : decode prog_14_method_7_code 178 = .ok (.iadd, 1) := by decide +kernel
theorem d7_179 : decode prog_14_method_7_code 179 = .ok (.dload 10, 2) := by decide +kernel
theorem d7_181 : decode prog_14_method_7_code 181 = .ok (.dneg, 1) := by decide +kernel
theorem d7_182 : decode prog_14_method_7_code 182 = .ok (.dload 4, 2) := by decide +kernel
theorem d7_184 : decode prog_14_method_7_code 184 = .ok (.ddiv, 1) := by decide +kernel
theorem d7_185 : decode prog_14_method_7_code 185 = .ok (.dastore, 1) := by decide +kernel
theorem d7_186 : decode prog_14_method_7_code 186 = .ok (.aload_n 0, 1) := by decide +kernel
theorem d7_187 : decode prog_14_method_7_code 187 = .ok (.getfield 25, 3) := by decide +kernel
theorem d7_190 : decode prog_14_method_7_code 190 = .ok (.iload 8, 2) := by decide +kernel
theorem d7_192 : decode prog_14_method_7_code 192 = .ok (.dup2, 1) := by decide +kernel
theorem d7_193 : decode prog_14_method_7_code 193 = .ok (.daload, 1) := by decide +kernel
theorem d7_194 : decode prog_14_method_7_code 194 = .ok (.dload 10, 2) := by decide +kernel
theorem d7_196 : decode prog_14_method_7_code 196 = .ok (.aload_n 0, 1) := by decide +kernel
theorem d7_197 : decode prog_14_method_7_code 197 = .ok (.getfield 25, 3) := by decide +kernel
theorem d7_200 : decode prog_14_method_7_code 200 = .ok (.iload_n 1, 1) := by decide +kernel
theorem d7_201 : decode prog_14_method_7_code 201 = .ok (.daload, 1) := by decide +kernel
theorem d7_202 : decode prog_14_method_7_code 202 = .ok (.dmul, 1) := by decide +kernel
theorem d7_203 : decode prog_14_method_7_code 203 = .ok (.dsub, 1) := by decide +kernel
theorem d7_204 : decode prog_14_method_7_code 204 = .ok (.dastore, 1) := by decide +kernel
theorem d7_205 : decode prog_14_method_7_code 205 = .ok (.lload 6, 2) := by decide +kernel
theorem d7_207 : decode prog_14_method_7_code 207 = .ok (.aload_n 0, 1) := by decide +kernel
theorem d7_208 : decode prog_14_method_7_code 208 = .ok (.getfield 13, 3) := by decide +kernel
theorem d7_211 : decode prog_14_method_7_code 211 = .ok (.i2l, 1) := by decide +kernel
theorem d7_212 : decode prog_14_method_7_code 212 = .ok (.ladd, 1) := by decide +kernel
theorem d7_213 : decode prog_14_method_7_code 213 = .ok (.lstore 6, 2) := by decide +kernel
theorem d7_215 : decode prog_14_method_7_code 215 = .ok (.iinc 8 1, 3) := by decide +kernel
theorem d7_218 : decode prog_14_method_7_code 218 = .ok (.goto (-132), 3) := by decide +kernel
theorem d7_221 : decode prog_14_method_7_code 221 = .ok (.aload_n 0, 1) := by decide +kernel
theorem d7_222 : decode prog_14_method_7_code 222 = .ok (.getfield 28, 3) := by decide +kernel
theorem d7_225 : decode prog_14_method_7_code 225 = .ok (.iload_n 2, 1) := by decide +kernel
theorem d7_226 : decode prog_14_method_7_code 226 = .ok (.daload, 1) := by decide +kernel
theorem d7_227 : decode prog_14_method_7_code 227 = .ok (.dstore 8, 2) := by decide +kernel
theorem d7_229 : decode prog_14_method_7_code 229 = .ok (.iconst 0, 1) := by decide +kernel
theorem d7_230 : decode prog_14_method_7_code 230 = .ok (.istore 10, 2) := by decide +kernel
theorem d7_232 : decode prog_14_method_7_code 232 = .ok (.iload 10, 2) := by decide +kernel
theorem d7_234 : decode prog_14_method_7_code 234 = .ok (.aload_n 0, 1) := by decide +kernel
theorem d7_235 : decode prog_14_method_7_code 235 = .ok (.getfield 13, 3) := by decide +kernel
theorem d7_238 : decode prog_14_method_7_code 238 = .ok (.if_icmp .ge 31, 3) := by decide +kernel
theorem d7_241 : decode prog_14_method_7_code 241 = .ok (.aload_n 0, 1) := by decide +kernel
theorem d7_242 : decode prog_14_method_7_code 242 = .ok (.getfield 28, 3) := by decide +kernel
theorem d7_245 : decode prog_14_method_7_code 245 = .ok (.iload 10, 2) := by decide +kernel
theorem d7_247 : decode prog_14_method_7_code 247 = .ok (.dup2, 1) := by decide +kernel
theorem d7_248 : decode prog_14_method_7_code 248 = .ok (.daload, 1) := by decide +kernel
theorem d7_249 : decode prog_14_method_7_code 249 = .ok (.dload 8, 2) := by decide +kernel
theorem d7_251 : decode prog_14_method_7_code 251 = .ok (.aload_n 0, 1) := by decide +kernel
theorem d7_252 : decode prog_14_method_7_code 252 = .ok (.getfield 16, 3) := by decide +kernel
theorem d7_255 : decode prog_14_method_7_code 255 = .ok (.iload_n 3, 1) := by decide +kernel
theorem d7_256 : decode prog_14_method_7_code 256 = .ok (.iload 10, 2) := by decide +kernel
theorem d7_258 : decode prog_14_method_7_code 258 = .ok (.iadd, 1) := by decide +kernel
theorem d7_259 : decode prog_14_method_7_code 259 = .ok (.daload, 1) := by decide +kernel
theorem d7_260 : decode prog_14_method_7_code 260 = .ok (.dmul, 1) := by decide +kernel
theorem d7_261 : decode prog_14_method_7_code 261 = .ok (.dsub, 1) := by decide +kernel
theorem d7_262 : decode prog_14_method_7_code 262 = .ok (.dastore, 1) := by decide +kernel
theorem d7_263 : decode prog_14_method_7_code 263 = .ok (.iinc 10 1, 3) := by decide +kernel
theorem d7_266 : decode prog_14_method_7_code 266 = .ok (.goto (-34), 3) := by decide +kernel
theorem d7_269 : decode prog_14_method_7_code 269 = .ok (.aload_n 0, 1) := by decide +kernel
theorem d7_270 : decode prog_14_method_7_code 270 = .ok (.getfield 28, 3) := by decide +kernel
theorem d7_273 : decode prog_14_method_7_code 273 = .ok (.iload_n 2, 1) := by decide +kernel
theorem d7_274 : decode prog_14_method_7_code 274 = .ok (.dload 8, 2) := by decide +kernel
theorem d7_276 : decode prog_14_method_7_code 276 = .ok (.dneg, 1) := by decide +kernel
theorem d7_277 : decode prog_14_method_7_code 277 = .ok (.dload 4, 2) := by decide +kernel
theorem d7_279 : decode prog_14_method_7_code 279 = .ok (.ddiv, 1) := by decide +kernel
theorem d7_280 : decode prog_14_method_7_code 280 = .ok (.dastore, 1) := by decide +kernel
theorem d7_281 : decode prog_14_method_7_code 281 = .ok (.aload_n 0, 1) := by decide +kernel
theorem d7_282 : decode prog_14_method_7_code 282 = .ok (.getfield 31, 3) := by decide +kernel
theorem d7_285 : decode prog_14_method_7_code 285 = .ok (.iload_n 1, 1) := by decide +kernel
theorem d7_286 : decode prog_14_method_7_code 286 = .ok (.iaload, 1) := by decide +kernel
theorem d7_287 : decode prog_14_method_7_code 287 = .ok (.istore 10, 2) := by decide +kernel
theorem d7_289 : decode prog_14_method_7_code 289 = .ok (.aload_n 0, 1) := by decide +kernel
theorem d7_290 : decode prog_14_method_7_code 290 = .ok (.getfield 31, 3) := by decide +kernel
theorem d7_293 : decode prog_14_method_7_code 293 = .ok (.iload_n 1, 1) := by decide +kernel
theorem d7_294 : decode prog_14_method_7_code 294 = .ok (.aload_n 0, 1) := by decide +kernel
theorem d7_295 : decode prog_14_method_7_code 295 = .ok (.getfield 35, 3) := by decide +kernel
theorem d7_298 : decode prog_14_method_7_code 298 = .ok (.iload_n 2, 1) := by decide +kernel
theorem d7_299 : decode prog_14_method_7_code 299 = .ok (.iaload, 1) := by decide +kernel
theorem d7_300 : decode prog_14_method_7_code 300 = .ok (.iastore, 1) := by decide +kernel
theorem d7_301 : decode prog_14_method_7_code 301 = .ok (.aload_n 0, 1) := by decide +kernel
theorem d7_302 : decode prog_14_method_7_code 302 = .ok (.getfield 35, 3) := by decide +kernel
theorem d7_305 : decode prog_14_method_7_code 305 = .ok (.iload_n 2, 1) := by decide +kernel
theorem d7_306 : decode prog_14_method_7_code 306 = .ok (.iload 10, 2) := by decide +kernel
theorem d7_308 : decode prog_14_method_7_code 308 = .ok (.iastore, 1) := by decide +kernel
theorem d7_309 : decode prog_14_method_7_code 309 = .ok (.lload 6, 2) := by decide +kernel
theorem d7_311 : decode prog_14_method_7_code 311 = .ok (.lreturn, 1) := by decide +kernel
def Q_rm7_0 (Z : State) (ao0 tb va co bs nb : Addr) (kt kv kc kb kn : ClassId) (t0 t1 t2 t3 : UInt64) (w0 w1 : UInt64) (c0 c1 : UInt64) (h0 : Heap) (n0 : Nat) (v : Option Value) (h : Heap) (L : List Loc) : Prop := (cmpValue (FP.dcmp t2 (0 : UInt64)) .l = 0 ∧ v = some (.long (4 : Int64)) ∧ Fr n0 L ∧ Keep h0 h [tb, va, co, bs, nb] ∧ Arv Z h tb kt .double (4 : Int32) [(.double (FP.ddiv (4607182418800017408 : UInt64) t0)), (.double (FP.ddiv t1 t0)), (.double t2), (.double t3)] (.double 0) ∧ Arv Z h va kv .double (2 : Int32) [(.double (FP.ddiv w0 t0)), (.double w1)] (.double 0) ∧ Arv Z h co kc .double (2 : Int32) [(.double (FP.ddiv (FP.dneg c0) t0)), (.double (FP.dsub c1 (FP.dmul c0 (FP.ddiv t1 t0))))] (.double 0) ∧ Arv Z h bs kb .int (2 : Int32) [(.int 0), (.int 3)] (.int (0 : Int32)) ∧ Arv Z h nb kn .int (2 : Int32) [(.int 2), (.int 1)] (.int (0 : Int32))) ∨ (¬ cmpValue (FP.dcmp t2 (0 : UInt64)) .l = 0 ∧ v = some (.long (6 : Int64)) ∧ Fr n0 L ∧ Keep h0 h [tb, va, co, bs, nb] ∧ Arv Z h tb kt .double (4 : Int32) [(.double (FP.ddiv (4607182418800017408 : UInt64) t0)), (.double (FP.ddiv t1 t0)), (.double (FP.ddiv (FP.dneg t2) t0)), (.double (FP.dsub t3 (FP.dmul t2 (FP.ddiv t1 t0))))] (.double 0) ∧ Arv Z h va kv .double (2 : Int32) [(.double (FP.ddiv w0 t0)), (.double (FP.dsub w1 (FP.dmul t2 (FP.ddiv w0 t0))))] (.double 0) ∧ Arv Z h co kc .double (2 : Int32) [(.double (FP.ddiv (FP.dneg c0) t0)), (.double (FP.dsub c1 (FP.dmul c0 (FP.ddiv t1 t0))))] (.double 0) ∧ Arv Z h bs kb .int (2 : Int32) [(.int 0), (.int 3)] (.int (0 : Int32)) ∧ Arv Z h nb kn .int (2 : Int32) [(.int 2), (.int 1)] (.int (0 : Int32)))
theorem pn_rm7_0 : plainName "com/example/moving_tokens/movingtokens/DualSimplex" = true := by first | (simp [plainName, overriddenIn]; done) | decide +kernel
theorem ef_rm7_0 (m : MethodId) (x0 : Addr) (x1 : Int32) (x2 : Int32) : entryFrame m #[(.ref x0), (.int x1), (.int x2)] 13 = mkF m 0 #[.val (.ref x0), .val (.int x1), .val (.int x2), .unset, .unset, .unset, .unset, .unset, .unset, .unset, .unset, .unset, .unset] [] := by first | (simp [entryFrame, mkF, argsToLocals, Value.category]; done) | rfl
set_option maxRecDepth 65536 in
set_option maxHeartbeats 40000000 in
theorem rm7_0 (l : Launch) (Z : State) (a0 : Array Value) (hw : ∀ d ∈ tables_1, d.before a0 Z = true) (ws : List Jvm.Cond) (ao0 tb va co bs nb : Addr) (kt kv kc kb kn : ClassId) (t0 t1 t2 t3 : UInt64) (w0 w1 : UInt64) (c0 c1 : UInt64) (h0 : Heap) (n0 : Nat) (Z0 : n0 ≤ h0.size) (F_ao0_rows : Fld Z h0 ao0 "com/example/moving_tokens/movingtokens/DualSimplex" "rows" "I" (.int 2)) (F_ao0_columns : Fld Z h0 ao0 "com/example/moving_tokens/movingtokens/DualSimplex" "columns" "I" (.int 2)) (F_ao0_tableau : Fld Z h0 ao0 "com/example/moving_tokens/movingtokens/DualSimplex" "tableau" "[D" (.ref tb)) (F_ao0_value : Fld Z h0 ao0 "com/example/moving_tokens/movingtokens/DualSimplex" "value" "[D" (.ref va)) (F_ao0_cost : Fld Z h0 ao0 "com/example/moving_tokens/movingtokens/DualSimplex" "cost" "[D" (.ref co)) (F_ao0_basic : Fld Z h0 ao0 "com/example/moving_tokens/movingtokens/DualSimplex" "basic" "[I" (.ref bs)) (F_ao0_nonbasic : Fld Z h0 ao0 "com/example/moving_tokens/movingtokens/DualSimplex" "nonbasic" "[I" (.ref nb)) (V_tb : Arv Z h0 tb kt .double (4 : Int32) [(.double t0), (.double t1), (.double t2), (.double t3)] (.double 0)) (V_va : Arv Z h0 va kv .double (2 : Int32) [(.double w0), (.double w1)] (.double 0)) (V_co : Arv Z h0 co kc .double (2 : Int32) [(.double c0), (.double c1)] (.double 0)) (V_bs : Arv Z h0 bs kb .int (2 : Int32) [(.int 2), (.int 3)] (.int (0 : Int32))) (V_nb : Arv Z h0 nb kn .int (2 : Int32) [(.int 0), (.int 1)] (.int (0 : Int32))) (m_t0 : Jvm.Free.Fl.Mag64 1056 t0) (m_t1 : Jvm.Free.Fl.Mag64 1056 t1) (m_t2 : Jvm.Free.Fl.Mag64 1056 t2) (m_t3 : Jvm.Free.Fl.Mag64 1056 t3) (m_w0 : Jvm.Free.Fl.Mag64 1056 w0) (m_w1 : Jvm.Free.Fl.Mag64 1056 w1) (m_c0 : Jvm.Free.Fl.Mag64 1056 c0) (m_c1 : Jvm.Free.Fl.Mag64 1056 c1) (b_t0 : Big64 1023 t0) (ne_ao0_tb : ao0 ≠ tb) (ne_ao0_va : ao0 ≠ va) (ne_ao0_co : ao0 ≠ co) (ne_ao0_bs : ao0 ≠ bs) (ne_ao0_nb : ao0 ≠ nb) (ne_tb_va : tb ≠ va) (ne_tb_co : tb ≠ co) (ne_tb_bs : tb ≠ bs) (ne_tb_nb : tb ≠ nb) (ne_va_co : va ≠ co) (ne_va_bs : va ≠ bs) (ne_va_nb : va ≠ nb) (ne_co_bs : co ≠ bs) (ne_co_nb : co ≠ nb) (ne_bs_nb : bs ≠ nb) (g_tb : n0 ≤ tb) (g_va : n0 ≤ va) (g_co : n0 ≤ co) (g_bs : n0 ≤ bs) (g_nb : n0 ≤ nb) :
    MetFree l (⟨"com/example/moving_tokens/movingtokens/DualSimplex", "pivot", "(II)J"⟩ : MethodName) (head1 (Jvm.Cond.code (⟨"com/example/moving_tokens/movingtokens/DualSimplex", "pivot", "(II)J"⟩ : MethodName) prog_14_method_7_code 13 (some .long) :: ws) ({ frames := 0, cells := 0, slots := 0, locals := 0 } : Room)) (fun a U => a = #[(.ref ao0), (.int 0), (.int 0)] ∧ Z.Warmed39 U.vm ∧ U.heap = h0) (fun _ _ _ _ _ => True) (fun _ U o U' => ∃ v L, o = .returned v ∧ (Q_rm7_0 Z ao0 tb va co bs nb kt kv kc kb kn t0 t1 t2 t3 w0 w1 c0 c1 h0 n0) v U'.heap L ∧ FrameEnd U o U' L ({ frames := 0, cells := 0, slots := 0, locals := 0 } : Room).cells ({ frames := 0, cells := 0, slots := 0, locals := 0 } : Room).slots) := by
  refine MetFree.of_bodySF (plainFor_of_name pn_rm7_0) hisR ?_
  intro p e s m args below meth c s₁ Bd hml0 hP hK
  obtain ⟨rfl, hZ, hh⟩ := hP
  have hx := Bd.exec
  have hby := Bd.bytes
  have hlk := BodyLoose.notSynchronized Bd
  have hret := Bd.returns
  have hml : c.maxLocals = 13 := hml0
  have hown : s.vm.findClass "com/example/moving_tokens/movingtokens/DualSimplex" = some m.cls := findClass_of_methodNamed Bd.named
  have hnm := (name_of_methodNamed Bd.named Bd.method).1
  have X0 : Stand p l e ({ frames := 0, cells := 0, slots := 0, locals := 0 } : Room) s m #[(.ref ao0), (.int 0), (.int 0)] below meth c s₁ [] 0 0 := Stand.of_body Bd
  have e0 : s₁.heap = h0 := by rw [← hh, Bd.state]; rfl
  have Nf := Fr.nil n0
  have Zs := Z0
  have Kp : Keep h0 h0 [tb, va, co, bs, nb] := Keep.refl _ _
  show own_End p e below s (Q_rm7_0 Z ao0 tb va co bs nb kt kv kc kb kn t0 t1 t2 t3 w0 w1 c0 c1 h0 n0) ({ frames := 0, cells := 0, slots := 0, locals := 0 } : Room).cells ({ frames := 0, cells := 0, slots := 0, locals := 0 } : Room).slots (s₁.setTop (entryFrame m #[(.ref ao0), (.int 0), (.int 0)] 13))
  refine own_go (x' := s₁.setTop (mkF m 0 #[.val (.ref ao0), .val (.int 0), .val (.int 0), .unset, .unset, .unset, .unset, .unset, .unset, .unset, .unset, .unset, .unset] [])) (fun t k => castTop (ef_rm7_0 m ao0 (0 : Int32) (0 : Int32)) k) ?_
  refine own_go (x' := s₁.setTop (mkF m 2 #[.val (.ref ao0), .val (.int 0), .val (.int 0), .unset, .unset, .unset, .unset, .unset, .unset, .unset, .unset, .unset, .unset] [(.ref ao0), (.int 0)])) (fun _ k => XS.iloadN X0.here hx rfl (hb hby d7_0) rfl (XS.aloadN X0.here hx rfl (hb hby d7_1) rfl rfl k)) ?_
  obtain ⟨T1, X1, e1, st1⟩ := getF X0 hx hZ hown (host := "") (Or.inl (own_w hw 12 rfl)) Via.refl e0 F_ao0_columns (g := (mkF m 2 #[.val (.ref ao0), .val (.int 0), .val (.int 0), .unset, .unset, .unset, .unset, .unset, .unset, .unset, .unset, .unset, .unset] [(.ref ao0), (.int 0)])) rfl rfl (hb hby d7_2)
  refine own_go (x' := T1.setTop (mkF m 5 #[.val (.ref ao0), .val (.int 0), .val (.int 0), .unset, .unset, .unset, .unset, .unset, .unset, .unset, .unset, .unset, .unset] [(.int 2), (.int 0)])) st1 ?_
  refine own_go (x' := T1.setTop (mkF m 7 #[.val (.ref ao0), .val (.int 0), .val (.int 0), .val (.int ((0 : Int32) * (2 : Int32))), .unset, .unset, .unset, .unset, .unset, .unset, .unset, .unset, .unset] [])) (fun _ k => XS.imul X1.here hx rfl (hb hby d7_5) rfl (XS.istoreN X1.here hx rfl (hb hby d7_6) rfl (l' := #[.val (.ref ao0), .val (.int 0), .val (.int 0), .val (.int ((0 : Int32) * (2 : Int32))), .unset, .unset, .unset, .unset, .unset, .unset, .unset, .unset, .unset]) rfl k)) ?_
  rw [show ((0 : Int32) * (2 : Int32)) = (0 : Int32) from by decide +kernel]
  refine own_go (x' := T1.setTop (mkF m 8 #[.val (.ref ao0), .val (.int 0), .val (.int 0), .val (.int 0), .unset, .unset, .unset, .unset, .unset, .unset, .unset, .unset, .unset] [(.ref ao0)])) (fun _ k => XS.aloadN X1.here hx rfl (hb hby d7_7) rfl rfl k) ?_
  obtain ⟨T2, X2, e2, st2⟩ := getF X1 hx hZ hown (host := "") (Or.inl (own_w hw 14 rfl)) Via.refl e1 F_ao0_tableau (g := (mkF m 8 #[.val (.ref ao0), .val (.int 0), .val (.int 0), .val (.int 0), .unset, .unset, .unset, .unset, .unset, .unset, .unset, .unset, .unset] [(.ref ao0)])) rfl rfl (hb hby d7_8)
  refine own_go (x' := T2.setTop (mkF m 11 #[.val (.ref ao0), .val (.int 0), .val (.int 0), .val (.int 0), .unset, .unset, .unset, .unset, .unset, .unset, .unset, .unset, .unset] [(.ref tb)])) st2 ?_
  refine own_go (x' := T2.setTop (mkF m 14 #[.val (.ref ao0), .val (.int 0), .val (.int 0), .val (.int 0), .unset, .unset, .unset, .unset, .unset, .unset, .unset, .unset, .unset] [(.int ((0 : Int32) + (0 : Int32))), (.ref tb)])) (fun _ k => XS.iloadN X2.here hx rfl (hb hby d7_11) rfl (XS.iloadN X2.here hx rfl (hb hby d7_12) rfl (XS.iadd X2.here hx rfl (hb hby d7_13) rfl k))) ?_
  rw [show ((0 : Int32) + (0 : Int32)) = (0 : Int32) from by decide +kernel]
  obtain ⟨cl3, Ar3, q3, Sz3, Nn3, Hh3, Gg3⟩ := id V_tb
  have hin3 : ¬ ((0 : Int32) < 0 ∨ cl3.slots.size ≤ ((0 : Int32)).toNatClampNeg) := inb_of Sz3 ⟨by decide, by decide⟩
  refine own_go (x' := T2.setTop (mkF m 15 #[.val (.ref ao0), .val (.int 0), .val (.int 0), .val (.int 0), .unset, .unset, .unset, .unset, .unset, .unset, .unset, .unset, .unset] [(.double t0)])) (X2.daload hx (j := (0 : Int32)) (v := (.double t0)) (Eq.trans (congrArg (fun h_ => h_[_]?) e2) Ar3.1) (State.isArrayOf_alike hZ.alike Ar3.2.1) Ar3.2.2 hin3 (Hh3.at hin3 rfl) (g := (mkF m 14 #[.val (.ref ao0), .val (.int 0), .val (.int 0), .val (.int 0), .unset, .unset, .unset, .unset, .unset, .unset, .unset, .unset, .unset] [(.int 0), (.ref tb)])) rfl rfl (hb hby d7_14)) ?_
  refine own_go (x' := T2.setTop (mkF m 23 #[.val (.ref ao0), .val (.int 0), .val (.int 0), .val (.int 0), .val (.double t0), .second, .val (.int 0), .unset, .unset, .unset, .unset, .unset, .unset] [(.ref ao0), (.int 0)])) (fun _ k => XS.dstore X2.here hx rfl (hb hby d7_15) rfl (l' := #[.val (.ref ao0), .val (.int 0), .val (.int 0), .val (.int 0), .val (.double t0), .second, .unset, .unset, .unset, .unset, .unset, .unset, .unset]) rfl (XS.iconst X2.here hx rfl (hb hby d7_17) (XS.istore X2.here hx rfl (hb hby d7_18) rfl (l' := #[.val (.ref ao0), .val (.int 0), .val (.int 0), .val (.int 0), .val (.double t0), .second, .val (.int 0), .unset, .unset, .unset, .unset, .unset, .unset]) rfl (XS.iload X2.here hx rfl (hb hby d7_20) rfl (XS.aloadN X2.here hx rfl (hb hby d7_22) rfl rfl k))))) ?_
  obtain ⟨T4, X4, e4, st4⟩ := getF X2 hx hZ hown (host := "") (Or.inl (own_w hw 12 rfl)) Via.refl e2 F_ao0_columns (g := (mkF m 23 #[.val (.ref ao0), .val (.int 0), .val (.int 0), .val (.int 0), .val (.double t0), .second, .val (.int 0), .unset, .unset, .unset, .unset, .unset, .unset] [(.ref ao0), (.int 0)])) rfl rfl (hb hby d7_23)
  refine own_go (x' := T4.setTop (mkF m 26 #[.val (.ref ao0), .val (.int 0), .val (.int 0), .val (.int 0), .val (.double t0), .second, .val (.int 0), .unset, .unset, .unset, .unset, .unset, .unset] [(.int 2), (.int 0)])) st4 ?_
  refine own_go (x' := T4.setTop (mkF m 30 #[.val (.ref ao0), .val (.int 0), .val (.int 0), .val (.int 0), .val (.double t0), .second, .val (.int 0), .unset, .unset, .unset, .unset, .unset, .unset] [(.ref ao0)])) (fun _ k => XS.icmpNo X4.here hx rfl (hb hby d7_26) rfl (tlt (by decide +kernel : ((0 : Int32) < (2 : Int32)))).2.1 (XS.aloadN X4.here hx rfl (hb hby d7_29) rfl rfl k)) ?_
  obtain ⟨T5, X5, e5, st5⟩ := getF X4 hx hZ hown (host := "") (Or.inl (own_w hw 14 rfl)) Via.refl e4 F_ao0_tableau (g := (mkF m 30 #[.val (.ref ao0), .val (.int 0), .val (.int 0), .val (.int 0), .val (.double t0), .second, .val (.int 0), .unset, .unset, .unset, .unset, .unset, .unset] [(.ref ao0)])) rfl rfl (hb hby d7_30)
  refine own_go (x' := T5.setTop (mkF m 33 #[.val (.ref ao0), .val (.int 0), .val (.int 0), .val (.int 0), .val (.double t0), .second, .val (.int 0), .unset, .unset, .unset, .unset, .unset, .unset] [(.ref tb)])) st5 ?_
  refine own_go (x' := T5.setTop (mkF m 37 #[.val (.ref ao0), .val (.int 0), .val (.int 0), .val (.int 0), .val (.double t0), .second, .val (.int 0), .unset, .unset, .unset, .unset, .unset, .unset] [(.int ((0 : Int32) + (0 : Int32))), (.ref tb)])) (fun _ k => XS.iloadN X5.here hx rfl (hb hby d7_33) rfl (XS.iload X5.here hx rfl (hb hby d7_34) rfl (XS.iadd X5.here hx rfl (hb hby d7_36) rfl k))) ?_
  rw [show ((0 : Int32) + (0 : Int32)) = (0 : Int32) from by decide +kernel]
  refine own_go (x' := T5.setTop (mkF m 38 #[.val (.ref ao0), .val (.int 0), .val (.int 0), .val (.int 0), .val (.double t0), .second, .val (.int 0), .unset, .unset, .unset, .unset, .unset, .unset] [(.int 0), (.ref tb), (.int 0), (.ref tb)])) (fun _ k => Jvm.Free.XT.dup2 X5.here hx rfl (hb hby d7_37) rfl rfl rfl k) ?_
  obtain ⟨cl6, Ar6, q6, Sz6, Nn6, Hh6, Gg6⟩ := id V_tb
  have hin6 : ¬ ((0 : Int32) < 0 ∨ cl6.slots.size ≤ ((0 : Int32)).toNatClampNeg) := inb_of Sz6 ⟨by decide, by decide⟩
  refine own_go (x' := T5.setTop (mkF m 39 #[.val (.ref ao0), .val (.int 0), .val (.int 0), .val (.int 0), .val (.double t0), .second, .val (.int 0), .unset, .unset, .unset, .unset, .unset, .unset] [(.double t0), (.int 0), (.ref tb)])) (X5.daload hx (j := (0 : Int32)) (v := (.double t0)) (Eq.trans (congrArg (fun h_ => h_[_]?) e5) Ar6.1) (State.isArrayOf_alike hZ.alike Ar6.2.1) Ar6.2.2 hin6 (Hh6.at hin6 rfl) (g := (mkF m 38 #[.val (.ref ao0), .val (.int 0), .val (.int 0), .val (.int 0), .val (.double t0), .second, .val (.int 0), .unset, .unset, .unset, .unset, .unset, .unset] [(.int 0), (.ref tb), (.int 0), (.ref tb)])) rfl rfl (hb hby d7_38)) ?_
  refine own_go (x' := T5.setTop (mkF m 42 #[.val (.ref ao0), .val (.int 0), .val (.int 0), .val (.int 0), .val (.double t0), .second, .val (.int 0), .unset, .unset, .unset, .unset, .unset, .unset] [(.double (FP.ddiv t0 t0)), (.int 0), (.ref tb)])) (fun _ k => XS.dload X5.here hx rfl (hb hby d7_39) rfl (XS.ddivS X5.here hx rfl (hb hby d7_41) rfl (own_nn (ddiv_mag m_t0 b_t0 (by decide) (by decide))) rfl k)) ?_
  obtain ⟨cl7, Ar7, q7, Sz7, Nn7, Hh7, Gg7⟩ := V_tb
  have hin7 : ¬ ((0 : Int32) < 0 ∨ cl7.slots.size ≤ ((0 : Int32)).toNatClampNeg) := inb_of Sz7 ⟨by decide, by decide⟩
  obtain ⟨T7, h7, X7, e7, W7, st7⟩ := stD X5 hx hZ e5 Ar7 (j := (0 : Int32)) hin7 (g := (mkF m 42 #[.val (.ref ao0), .val (.int 0), .val (.int 0), .val (.int 0), .val (.double t0), .second, .val (.int 0), .unset, .unset, .unset, .unset, .unset, .unset] [(.double (FP.ddiv t0 t0)), (.int 0), (.ref tb)])) rfl rfl (hb hby d7_42)
  refine own_go (x' := T7.setTop (mkF m 43 #[.val (.ref ao0), .val (.int 0), .val (.int 0), .val (.int 0), .val (.double t0), .second, .val (.int 0), .unset, .unset, .unset, .unset, .unset, .unset] [])) st7 ?_
  replace F_ao0_rows := Fld.other W7 F_ao0_rows (Or.inl ne_ao0_tb)
  replace F_ao0_columns := Fld.other W7 F_ao0_columns (Or.inl ne_ao0_tb)
  replace F_ao0_tableau := Fld.other W7 F_ao0_tableau (Or.inl ne_ao0_tb)
  replace F_ao0_value := Fld.other W7 F_ao0_value (Or.inl ne_ao0_tb)
  replace F_ao0_cost := Fld.other W7 F_ao0_cost (Or.inl ne_ao0_tb)
  replace F_ao0_basic := Fld.other W7 F_ao0_basic (Or.inl ne_ao0_tb)
  replace F_ao0_nonbasic := Fld.other W7 F_ao0_nonbasic (Or.inl ne_ao0_tb)
  replace V_va := V_va.other W7 (Ne.symm ne_tb_va)
  replace V_co := V_co.other W7 (Ne.symm ne_tb_co)
  replace V_bs := V_bs.other W7 (Ne.symm ne_tb_bs)
  replace V_nb := V_nb.other W7 (Ne.symm ne_tb_nb)
  replace Zs := Nat.le_trans Zs (Keep.of_wr W7).1
  replace Nf := Fr.snoc X7 Nf g_tb
  replace Kp := Kp.wr W7 (Or.inl (by simp))
  have V_tb : Arv Z h7 tb kt .double (4 : Int32) [(.double (FP.ddiv t0 t0)), (.double t1), (.double t2), (.double t3)] (.double 0) := Arv.set Ar7 q7 Sz7 Nn7 Hh7 Gg7 rfl W7 0 rfl (Nat.le_of_ble_eq_true rfl)
  refine own_go (x' := T7.setTop (mkF m 20 #[.val (.ref ao0), .val (.int 0), .val (.int 0), .val (.int 0), .val (.double t0), .second, .val (.int ((0 : Int32) + (1 : Int32))), .unset, .unset, .unset, .unset, .unset, .unset] [])) (fun _ k => XS.iinc X7.here hx rfl (hb hby d7_43) rfl (l' := #[.val (.ref ao0), .val (.int 0), .val (.int 0), .val (.int 0), .val (.double t0), .second, .val (.int ((0 : Int32) + (1 : Int32))), .unset, .unset, .unset, .unset, .unset, .unset]) rfl (XS.goto X7.here hx rfl (pc0 := 46) (pc' := 20) rfl (hb hby d7_46) (by decide) (by decide) k)) ?_
  rw [show ((0 : Int32) + (1 : Int32)) = (1 : Int32) from by decide +kernel]
  refine own_go (x' := T7.setTop (mkF m 23 #[.val (.ref ao0), .val (.int 0), .val (.int 0), .val (.int 0), .val (.double t0), .second, .val (.int 1), .unset, .unset, .unset, .unset, .unset, .unset] [(.ref ao0), (.int 1)])) (fun _ k => XS.iload X7.here hx rfl (hb hby d7_20) rfl (XS.aloadN X7.here hx rfl (hb hby d7_22) rfl rfl k)) ?_
  obtain ⟨T8, X8, e8, st8⟩ := getF X7 hx hZ hown (host := "") (Or.inl (own_w hw 12 rfl)) Via.refl e7 F_ao0_columns (g := (mkF m 23 #[.val (.ref ao0), .val (.int 0), .val (.int 0), .val (.int 0), .val (.double t0), .second, .val (.int 1), .unset, .unset, .unset, .unset, .unset, .unset] [(.ref ao0), (.int 1)])) rfl rfl (hb hby d7_23)
  refine own_go (x' := T8.setTop (mkF m 26 #[.val (.ref ao0), .val (.int 0), .val (.int 0), .val (.int 0), .val (.double t0), .second, .val (.int 1), .unset, .unset, .unset, .unset, .unset, .unset] [(.int 2), (.int 1)])) st8 ?_
  refine own_go (x' := T8.setTop (mkF m 30 #[.val (.ref ao0), .val (.int 0), .val (.int 0), .val (.int 0), .val (.double t0), .second, .val (.int 1), .unset, .unset, .unset, .unset, .unset, .unset] [(.ref ao0)])) (fun _ k => XS.icmpNo X8.here hx rfl (hb hby d7_26) rfl (tlt (by decide +kernel : ((1 : Int32) < (2 : Int32)))).2.1 (XS.aloadN X8.here hx rfl (hb hby d7_29) rfl rfl k)) ?_
  obtain ⟨T9, X9, e9, st9⟩ := getF X8 hx hZ hown (host := "") (Or.inl (own_w hw 14 rfl)) Via.refl e8 F_ao0_tableau (g := (mkF m 30 #[.val (.ref ao0), .val (.int 0), .val (.int 0), .val (.int 0), .val (.double t0), .second, .val (.int 1), .unset, .unset, .unset, .unset, .unset, .unset] [(.ref ao0)])) rfl rfl (hb hby d7_30)
  refine own_go (x' := T9.setTop (mkF m 33 #[.val (.ref ao0), .val (.int 0), .val (.int 0), .val (.int 0), .val (.double t0), .second, .val (.int 1), .unset, .unset, .unset, .unset, .unset, .unset] [(.ref tb)])) st9 ?_
  refine own_go (x' := T9.setTop (mkF m 37 #[.val (.ref ao0), .val (.int 0), .val (.int 0), .val (.int 0), .val (.double t0), .second, .val (.int 1), .unset, .unset, .unset, .unset, .unset, .unset] [(.int ((0 : Int32) + (1 : Int32))), (.ref tb)])) (fun _ k => XS.iloadN X9.here hx rfl (hb hby d7_33) rfl (XS.iload X9.here hx rfl (hb hby d7_34) rfl (XS.iadd X9.here hx rfl (hb hby d7_36) rfl k))) ?_
  rw [show ((0 : Int32) + (1 : Int32)) = (1 : Int32) from by decide +kernel]
  refine own_go (x' := T9.setTop (mkF m 38 #[.val (.ref ao0), .val (.int 0), .val (.int 0), .val (.int 0), .val (.double t0), .second, .val (.int 1), .unset, .unset, .unset, .unset, .unset, .unset] [(.int 1), (.ref tb), (.int 1), (.ref tb)])) (fun _ k => Jvm.Free.XT.dup2 X9.here hx rfl (hb hby d7_37) rfl rfl rfl k) ?_
  obtain ⟨cl10, Ar10, q10, Sz10, Nn10, Hh10, Gg10⟩ := id V_tb
  have hin10 : ¬ ((1 : Int32) < 0 ∨ cl10.slots.size ≤ ((1 : Int32)).toNatClampNeg) := inb_of Sz10 ⟨by decide, by decide⟩
  refine own_go (x' := T9.setTop (mkF m 39 #[.val (.ref ao0), .val (.int 0), .val (.int 0), .val (.int 0), .val (.double t0), .second, .val (.int 1), .unset, .unset, .unset, .unset, .unset, .unset] [(.double t1), (.int 1), (.ref tb)])) (X9.daload hx (j := (1 : Int32)) (v := (.double t1)) (Eq.trans (congrArg (fun h_ => h_[_]?) e9) Ar10.1) (State.isArrayOf_alike hZ.alike Ar10.2.1) Ar10.2.2 hin10 (Hh10.at hin10 rfl) (g := (mkF m 38 #[.val (.ref ao0), .val (.int 0), .val (.int 0), .val (.int 0), .val (.double t0), .second, .val (.int 1), .unset, .unset, .unset, .unset, .unset, .unset] [(.int 1), (.ref tb), (.int 1), (.ref tb)])) rfl rfl (hb hby d7_38)) ?_
  refine own_go (x' := T9.setTop (mkF m 42 #[.val (.ref ao0), .val (.int 0), .val (.int 0), .val (.int 0), .val (.double t0), .second, .val (.int 1), .unset, .unset, .unset, .unset, .unset, .unset] [(.double (FP.ddiv t1 t0)), (.int 1), (.ref tb)])) (fun _ k => XS.dload X9.here hx rfl (hb hby d7_39) rfl (XS.ddivS X9.here hx rfl (hb hby d7_41) rfl (own_nn (ddiv_mag m_t1 b_t0 (by decide) (by decide))) rfl k)) ?_
  obtain ⟨cl11, Ar11, q11, Sz11, Nn11, Hh11, Gg11⟩ := V_tb
  have hin11 : ¬ ((1 : Int32) < 0 ∨ cl11.slots.size ≤ ((1 : Int32)).toNatClampNeg) := inb_of Sz11 ⟨by decide, by decide⟩
  obtain ⟨T11, h11, X11, e11, W11, st11⟩ := stD X9 hx hZ e9 Ar11 (j := (1 : Int32)) hin11 (g := (mkF m 42 #[.val (.ref ao0), .val (.int 0), .val (.int 0), .val (.int 0), .val (.double t0), .second, .val (.int 1), .unset, .unset, .unset, .unset, .unset, .unset] [(.double (FP.ddiv t1 t0)), (.int 1), (.ref tb)])) rfl rfl (hb hby d7_42)
  refine own_go (x' := T11.setTop (mkF m 43 #[.val (.ref ao0), .val (.int 0), .val (.int 0), .val (.int 0), .val (.double t0), .second, .val (.int 1), .unset, .unset, .unset, .unset, .unset, .unset] [])) st11 ?_
  replace F_ao0_rows := Fld.other W11 F_ao0_rows (Or.inl ne_ao0_tb)
  replace F_ao0_columns := Fld.other W11 F_ao0_columns (Or.inl ne_ao0_tb)
  replace F_ao0_tableau := Fld.other W11 F_ao0_tableau (Or.inl ne_ao0_tb)
  replace F_ao0_value := Fld.other W11 F_ao0_value (Or.inl ne_ao0_tb)
  replace F_ao0_cost := Fld.other W11 F_ao0_cost (Or.inl ne_ao0_tb)
  replace F_ao0_basic := Fld.other W11 F_ao0_basic (Or.inl ne_ao0_tb)
  replace F_ao0_nonbasic := Fld.other W11 F_ao0_nonbasic (Or.inl ne_ao0_tb)
  replace V_va := V_va.other W11 (Ne.symm ne_tb_va)
  replace V_co := V_co.other W11 (Ne.symm ne_tb_co)
  replace V_bs := V_bs.other W11 (Ne.symm ne_tb_bs)
  replace V_nb := V_nb.other W11 (Ne.symm ne_tb_nb)
  replace Zs := Nat.le_trans Zs (Keep.of_wr W11).1
  replace Nf := Fr.snoc X11 Nf g_tb
  replace Kp := Kp.wr W11 (Or.inl (by simp))
  have V_tb : Arv Z h11 tb kt .double (4 : Int32) [(.double (FP.ddiv t0 t0)), (.double (FP.ddiv t1 t0)), (.double t2), (.double t3)] (.double 0) := Arv.set Ar11 q11 Sz11 Nn11 Hh11 Gg11 rfl W11 1 rfl (Nat.le_of_ble_eq_true rfl)
  refine own_go (x' := T11.setTop (mkF m 20 #[.val (.ref ao0), .val (.int 0), .val (.int 0), .val (.int 0), .val (.double t0), .second, .val (.int ((1 : Int32) + (1 : Int32))), .unset, .unset, .unset, .unset, .unset, .unset] [])) (fun _ k => XS.iinc X11.here hx rfl (hb hby d7_43) rfl (l' := #[.val (.ref ao0), .val (.int 0), .val (.int 0), .val (.int 0), .val (.double t0), .second, .val (.int ((1 : Int32) + (1 : Int32))), .unset, .unset, .unset, .unset, .unset, .unset]) rfl (XS.goto X11.here hx rfl (pc0 := 46) (pc' := 20) rfl (hb hby d7_46) (by decide) (by decide) k)) ?_
  rw [show ((1 : Int32) + (1 : Int32)) = (2 : Int32) from by decide +kernel]
  refine own_go (x' := T11.setTop (mkF m 23 #[.val (.ref ao0), .val (.int 0), .val (.int 0), .val (.int 0), .val (.double t0), .second, .val (.int 2), .unset, .unset, .unset, .unset, .unset, .unset] [(.ref ao0), (.int 2)])) (fun _ k => XS.iload X11.here hx rfl (hb hby d7_20) rfl (XS.aloadN X11.here hx rfl (hb hby d7_22) rfl rfl k)) ?_
  obtain ⟨T12, X12, e12, st12⟩ := getF X11 hx hZ hown (host := "") (Or.inl (own_w hw 12 rfl)) Via.refl e11 F_ao0_columns (g := (mkF m 23 #[.val (.ref ao0), .val (.int 0), .val (.int 0), .val (.int 0), .val (.double t0), .second, .val (.int 2), .unset, .unset, .unset, .unset, .unset, .unset] [(.ref ao0), (.int 2)])) rfl rfl (hb hby d7_23)
  refine own_go (x' := T12.setTop (mkF m 26 #[.val (.ref ao0), .val (.int 0), .val (.int 0), .val (.int 0), .val (.double t0), .second, .val (.int 2), .unset, .unset, .unset, .unset, .unset, .unset] [(.int 2), (.int 2)])) st12 ?_
  refine own_go (x' := T12.setTop (mkF m 50 #[.val (.ref ao0), .val (.int 0), .val (.int 0), .val (.int 0), .val (.double t0), .second, .val (.int 2), .unset, .unset, .unset, .unset, .unset, .unset] [(.ref ao0)])) (fun _ k => XS.icmpYes X12.here hx rfl (pc0 := 26) (pc' := 49) rfl (hb hby d7_26) rfl (flt (Int32.lt_irrefl)).2.1 (by decide) (by decide) (XS.aloadN X12.here hx rfl (hb hby d7_49) rfl rfl k)) ?_
  obtain ⟨T13, X13, e13, st13⟩ := getF X12 hx hZ hown (host := "") (Or.inl (own_w hw 14 rfl)) Via.refl e12 F_ao0_tableau (g := (mkF m 50 #[.val (.ref ao0), .val (.int 0), .val (.int 0), .val (.int 0), .val (.double t0), .second, .val (.int 2), .unset, .unset, .unset, .unset, .unset, .unset] [(.ref ao0)])) rfl rfl (hb hby d7_50)
  refine own_go (x' := T13.setTop (mkF m 53 #[.val (.ref ao0), .val (.int 0), .val (.int 0), .val (.int 0), .val (.double t0), .second, .val (.int 2), .unset, .unset, .unset, .unset, .unset, .unset] [(.ref tb)])) st13 ?_
  refine own_go (x' := T13.setTop (mkF m 56 #[.val (.ref ao0), .val (.int 0), .val (.int 0), .val (.int 0), .val (.double t0), .second, .val (.int 2), .unset, .unset, .unset, .unset, .unset, .unset] [(.int ((0 : Int32) + (0 : Int32))), (.ref tb)])) (fun _ k => XS.iloadN X13.here hx rfl (hb hby d7_53) rfl (XS.iloadN X13.here hx rfl (hb hby d7_54) rfl (XS.iadd X13.here hx rfl (hb hby d7_55) rfl k))) ?_
  rw [show ((0 : Int32) + (0 : Int32)) = (0 : Int32) from by decide +kernel]
  refine own_go (x' := T13.setTop (mkF m 60 #[.val (.ref ao0), .val (.int 0), .val (.int 0), .val (.int 0), .val (.double t0), .second, .val (.int 2), .unset, .unset, .unset, .unset, .unset, .unset] [(.double (FP.ddiv (4607182418800017408 : UInt64) t0)), (.int 0), (.ref tb)])) (fun _ k => XS.dconst1 X13.here hx rfl (hb hby d7_56) rfl (XS.dload X13.here hx rfl (hb hby d7_57) rfl (XS.ddivS X13.here hx rfl (hb hby d7_59) rfl (own_nn (ddiv_mag own_m1 b_t0 (by decide) (by decide))) rfl k))) ?_
  obtain ⟨cl14, Ar14, q14, Sz14, Nn14, Hh14, Gg14⟩ := V_tb
  have hin14 : ¬ ((0 : Int32) < 0 ∨ cl14.slots.size ≤ ((0 : Int32)).toNatClampNeg) := inb_of Sz14 ⟨by decide, by decide⟩
  obtain ⟨T14, h14, X14, e14, W14, st14⟩ := stD X13 hx hZ e13 Ar14 (j := (0 : Int32)) hin14 (g := (mkF m 60 #[.val (.ref ao0), .val (.int 0), .val (.int 0), .val (.int 0), .val (.double t0), .second, .val (.int 2), .unset, .unset, .unset, .unset, .unset, .unset] [(.double (FP.ddiv (4607182418800017408 : UInt64) t0)), (.int 0), (.ref tb)])) rfl rfl (hb hby d7_60)
  refine own_go (x' := T14.setTop (mkF m 61 #[.val (.ref ao0), .val (.int 0), .val (.int 0), .val (.int 0), .val (.double t0), .second, .val (.int 2), .unset, .unset, .unset, .unset, .unset, .unset] [])) st14 ?_
  replace F_ao0_rows := Fld.other W14 F_ao0_rows (Or.inl ne_ao0_tb)
  replace F_ao0_columns := Fld.other W14 F_ao0_columns (Or.inl ne_ao0_tb)
  replace F_ao0_tableau := Fld.other W14 F_ao0_tableau (Or.inl ne_ao0_tb)
  replace F_ao0_value := Fld.other W14 F_ao0_value (Or.inl ne_ao0_tb)
  replace F_ao0_cost := Fld.other W14 F_ao0_cost (Or.inl ne_ao0_tb)
  replace F_ao0_basic := Fld.other W14 F_ao0_basic (Or.inl ne_ao0_tb)
  replace F_ao0_nonbasic := Fld.other W14 F_ao0_nonbasic (Or.inl ne_ao0_tb)
  replace V_va := V_va.other W14 (Ne.symm ne_tb_va)
  replace V_co := V_co.other W14 (Ne.symm ne_tb_co)
  replace V_bs := V_bs.other W14 (Ne.symm ne_tb_bs)
  replace V_nb := V_nb.other W14 (Ne.symm ne_tb_nb)
  replace Zs := Nat.le_trans Zs (Keep.of_wr W14).1
  replace Nf := Fr.snoc X14 Nf g_tb
  replace Kp := Kp.wr W14 (Or.inl (by simp))
  have V_tb : Arv Z h14 tb kt .double (4 : Int32) [(.double (FP.ddiv (4607182418800017408 : UInt64) t0)), (.double (FP.ddiv t1 t0)), (.double t2), (.double t3)] (.double 0) := Arv.set Ar14 q14 Sz14 Nn14 Hh14 Gg14 rfl W14 0 rfl (Nat.le_of_ble_eq_true rfl)
  refine own_go (x' := T14.setTop (mkF m 62 #[.val (.ref ao0), .val (.int 0), .val (.int 0), .val (.int 0), .val (.double t0), .second, .val (.int 2), .unset, .unset, .unset, .unset, .unset, .unset] [(.ref ao0)])) (fun _ k => XS.aloadN X14.here hx rfl (hb hby d7_61) rfl rfl k) ?_
  obtain ⟨T15, X15, e15, st15⟩ := getF X14 hx hZ hown (host := "") (Or.inl (own_w hw 25 rfl)) Via.refl e14 F_ao0_value (g := (mkF m 62 #[.val (.ref ao0), .val (.int 0), .val (.int 0), .val (.int 0), .val (.double t0), .second, .val (.int 2), .unset, .unset, .unset, .unset, .unset, .unset] [(.ref ao0)])) rfl rfl (hb hby d7_62)
  refine own_go (x' := T15.setTop (mkF m 65 #[.val (.ref ao0), .val (.int 0), .val (.int 0), .val (.int 0), .val (.double t0), .second, .val (.int 2), .unset, .unset, .unset, .unset, .unset, .unset] [(.ref va)])) st15 ?_
  refine own_go (x' := T15.setTop (mkF m 67 #[.val (.ref ao0), .val (.int 0), .val (.int 0), .val (.int 0), .val (.double t0), .second, .val (.int 2), .unset, .unset, .unset, .unset, .unset, .unset] [(.int 0), (.ref va), (.int 0), (.ref va)])) (fun _ k => XS.iloadN X15.here hx rfl (hb hby d7_65) rfl (Jvm.Free.XT.dup2 X15.here hx rfl (hb hby d7_66) rfl rfl rfl k)) ?_
  obtain ⟨cl16, Ar16, q16, Sz16, Nn16, Hh16, Gg16⟩ := id V_va
  have hin16 : ¬ ((0 : Int32) < 0 ∨ cl16.slots.size ≤ ((0 : Int32)).toNatClampNeg) := inb_of Sz16 ⟨by decide, by decide⟩
  refine own_go (x' := T15.setTop (mkF m 68 #[.val (.ref ao0), .val (.int 0), .val (.int 0), .val (.int 0), .val (.double t0), .second, .val (.int 2), .unset, .unset, .unset, .unset, .unset, .unset] [(.double w0), (.int 0), (.ref va)])) (X15.daload hx (j := (0 : Int32)) (v := (.double w0)) (Eq.trans (congrArg (fun h_ => h_[_]?) e15) Ar16.1) (State.isArrayOf_alike hZ.alike Ar16.2.1) Ar16.2.2 hin16 (Hh16.at hin16 rfl) (g := (mkF m 67 #[.val (.ref ao0), .val (.int 0), .val (.int 0), .val (.int 0), .val (.double t0), .second, .val (.int 2), .unset, .unset, .unset, .unset, .unset, .unset] [(.int 0), (.ref va), (.int 0), (.ref va)])) rfl rfl (hb hby d7_67)) ?_
  refine own_go (x' := T15.setTop (mkF m 71 #[.val (.ref ao0), .val (.int 0), .val (.int 0), .val (.int 0), .val (.double t0), .second, .val (.int 2), .unset, .unset, .unset, .unset, .unset, .unset] [(.double (FP.ddiv w0 t0)), (.int 0), (.ref va)])) (fun _ k => XS.dload X15.here hx rfl (hb hby d7_68) rfl (XS.ddivS X15.here hx rfl (hb hby d7_70) rfl (own_nn (ddiv_mag m_w0 b_t0 (by decide) (by decide))) rfl k)) ?_
  obtain ⟨cl17, Ar17, q17, Sz17, Nn17, Hh17, Gg17⟩ := V_va
  have hin17 : ¬ ((0 : Int32) < 0 ∨ cl17.slots.size ≤ ((0 : Int32)).toNatClampNeg) := inb_of Sz17 ⟨by decide, by decide⟩
  obtain ⟨T17, h17, X17, e17, W17, st17⟩ := stD X15 hx hZ e15 Ar17 (j := (0 : Int32)) hin17 (g := (mkF m 71 #[.val (.ref ao0), .val (.int 0), .val (.int 0), .val (.int 0), .val (.double t0), .second, .val (.int 2), .unset, .unset, .unset, .unset, .unset, .unset] [(.double (FP.ddiv w0 t0)), (.int 0), (.ref va)])) rfl rfl (hb hby d7_71)
  refine own_go (x' := T17.setTop (mkF m 72 #[.val (.ref ao0), .val (.int 0), .val (.int 0), .val (.int 0), .val (.double t0), .second, .val (.int 2), .unset, .unset, .unset, .unset, .unset, .unset] [])) st17 ?_
  replace F_ao0_rows := Fld.other W17 F_ao0_rows (Or.inl ne_ao0_va)
  replace F_ao0_columns := Fld.other W17 F_ao0_columns (Or.inl ne_ao0_va)
  replace F_ao0_tableau := Fld.other W17 F_ao0_tableau (Or.inl ne_ao0_va)
  replace F_ao0_value := Fld.other W17 F_ao0_value (Or.inl ne_ao0_va)
  replace F_ao0_cost := Fld.other W17 F_ao0_cost (Or.inl ne_ao0_va)
  replace F_ao0_basic := Fld.other W17 F_ao0_basic (Or.inl ne_ao0_va)
  replace F_ao0_nonbasic := Fld.other W17 F_ao0_nonbasic (Or.inl ne_ao0_va)
  replace V_co := V_co.other W17 (Ne.symm ne_va_co)
  replace V_bs := V_bs.other W17 (Ne.symm ne_va_bs)
  replace V_nb := V_nb.other W17 (Ne.symm ne_va_nb)
  replace V_tb := V_tb.other W17 ne_tb_va
  replace Zs := Nat.le_trans Zs (Keep.of_wr W17).1
  replace Nf := Fr.snoc X17 Nf g_va
  replace Kp := Kp.wr W17 (Or.inl (by simp))
  have V_va : Arv Z h17 va kv .double (2 : Int32) [(.double (FP.ddiv w0 t0)), (.double w1)] (.double 0) := Arv.set Ar17 q17 Sz17 Nn17 Hh17 Gg17 rfl W17 0 rfl (Nat.le_of_ble_eq_true rfl)
  refine own_go (x' := T17.setTop (mkF m 75 #[.val (.ref ao0), .val (.int 0), .val (.int 0), .val (.int 0), .val (.double t0), .second, .val (.int 2), .unset, .unset, .unset, .unset, .unset, .unset] [(.long 2)])) (fun t k => X17.ldc2Long hx hown (mvT hZ (own_w hw 59 rfl)) (g := (mkF m 72 #[.val (.ref ao0), .val (.int 0), .val (.int 0), .val (.int 0), .val (.double t0), .second, .val (.int 2), .unset, .unset, .unset, .unset, .unset, .unset] [])) rfl (hb hby d7_72) t k) ?_
  refine own_go (x' := T17.setTop (mkF m 76 #[.val (.ref ao0), .val (.int 0), .val (.int 0), .val (.int 0), .val (.double t0), .second, .val (.int 2), .unset, .unset, .unset, .unset, .unset, .unset] [(.ref ao0), (.long 2)])) (fun _ k => XS.aloadN X17.here hx rfl (hb hby d7_75) rfl rfl k) ?_
  obtain ⟨T18, X18, e18, st18⟩ := getF X17 hx hZ hown (host := "") (Or.inl (own_w hw 12 rfl)) Via.refl e17 F_ao0_columns (g := (mkF m 76 #[.val (.ref ao0), .val (.int 0), .val (.int 0), .val (.int 0), .val (.double t0), .second, .val (.int 2), .unset, .unset, .unset, .unset, .unset, .unset] [(.ref ao0), (.long 2)])) rfl rfl (hb hby d7_76)
  refine own_go (x' := T18.setTop (mkF m 79 #[.val (.ref ao0), .val (.int 0), .val (.int 0), .val (.int 0), .val (.double t0), .second, .val (.int 2), .unset, .unset, .unset, .unset, .unset, .unset] [(.int 2), (.long 2)])) st18 ?_
  refine own_go (x' := T18.setTop (mkF m 88 #[.val (.ref ao0), .val (.int 0), .val (.int 0), .val (.int 0), .val (.double t0), .second, .val (.long ((2 : Int64) * ((2 : Int32).toInt64))), .second, .val (.int 0), .unset, .unset, .unset, .unset] [(.int 0)])) (fun _ k => XS.i2l X18.here hx rfl (hb hby d7_79) rfl (XS.lmul X18.here hx rfl (hb hby d7_80) rfl (XS.lstore X18.here hx rfl (hb hby d7_81) rfl (l' := #[.val (.ref ao0), .val (.int 0), .val (.int 0), .val (.int 0), .val (.double t0), .second, .val (.long ((2 : Int64) * ((2 : Int32).toInt64))), .second, .unset, .unset, .unset, .unset, .unset]) rfl (XS.iconst X18.here hx rfl (hb hby d7_83) (XS.istore X18.here hx rfl (hb hby d7_84) rfl (l' := #[.val (.ref ao0), .val (.int 0), .val (.int 0), .val (.int 0), .val (.double t0), .second, .val (.long ((2 : Int64) * ((2 : Int32).toInt64))), .second, .val (.int 0), .unset, .unset, .unset, .unset]) rfl (XS.iload X18.here hx rfl (hb hby d7_86) rfl k)))))) ?_
  refine own_go (x' := T18.setTop (mkF m 89 #[.val (.ref ao0), .val (.int 0), .val (.int 0), .val (.int 0), .val (.double t0), .second, .val (.long ((2 : Int64) * ((2 : Int32).toInt64))), .second, .val (.int 0), .unset, .unset, .unset, .unset] [(.ref ao0), (.int 0)])) (fun _ k => XS.aloadN X18.here hx rfl (hb hby d7_88) rfl rfl k) ?_
  obtain ⟨T19, X19, e19, st19⟩ := getF X18 hx hZ hown (host := "") (Or.inl (own_w hw 10 rfl)) Via.refl e18 F_ao0_rows (g := (mkF m 89 #[.val (.ref ao0), .val (.int 0), .val (.int 0), .val (.int 0), .val (.double t0), .second, .val (.long ((2 : Int64) * ((2 : Int32).toInt64))), .second, .val (.int 0), .unset, .unset, .unset, .unset] [(.ref ao0), (.int 0)])) rfl rfl (hb hby d7_89)
  refine own_go (x' := T19.setTop (mkF m 92 #[.val (.ref ao0), .val (.int 0), .val (.int 0), .val (.int 0), .val (.double t0), .second, .val (.long ((2 : Int64) * ((2 : Int32).toInt64))), .second, .val (.int 0), .unset, .unset, .unset, .unset] [(.int 2), (.int 0)])) st19 ?_
  refine own_go (x' := T19.setTop (mkF m 98 #[.val (.ref ao0), .val (.int 0), .val (.int 0), .val (.int 0), .val (.double t0), .second, .val (.long ((2 : Int64) * ((2 : Int32).toInt64))), .second, .val (.int 0), .unset, .unset, .unset, .unset] [(.ref ao0), (.int 0)])) (fun _ k => XS.icmpNo X19.here hx rfl (hb hby d7_92) rfl (tlt (by decide +kernel : ((0 : Int32) < (2 : Int32)))).2.1 (XS.iload X19.here hx rfl (hb hby d7_95) rfl (XS.aloadN X19.here hx rfl (hb hby d7_97) rfl rfl k))) ?_
  obtain ⟨T20, X20, e20, st20⟩ := getF X19 hx hZ hown (host := "") (Or.inl (own_w hw 12 rfl)) Via.refl e19 F_ao0_columns (g := (mkF m 98 #[.val (.ref ao0), .val (.int 0), .val (.int 0), .val (.int 0), .val (.double t0), .second, .val (.long ((2 : Int64) * ((2 : Int32).toInt64))), .second, .val (.int 0), .unset, .unset, .unset, .unset] [(.ref ao0), (.int 0)])) rfl rfl (hb hby d7_98)
  refine own_go (x' := T20.setTop (mkF m 101 #[.val (.ref ao0), .val (.int 0), .val (.int 0), .val (.int 0), .val (.double t0), .second, .val (.long ((2 : Int64) * ((2 : Int32).toInt64))), .second, .val (.int 0), .unset, .unset, .unset, .unset] [(.int 2), (.int 0)])) st20 ?_
  refine own_go (x' := T20.setTop (mkF m 104 #[.val (.ref ao0), .val (.int 0), .val (.int 0), .val (.int 0), .val (.double t0), .second, .val (.long ((2 : Int64) * ((2 : Int32).toInt64))), .second, .val (.int 0), .val (.int ((0 : Int32) * (2 : Int32))), .unset, .unset, .unset] [])) (fun _ k => XS.imul X20.here hx rfl (hb hby d7_101) rfl (XS.istore X20.here hx rfl (hb hby d7_102) rfl (l' := #[.val (.ref ao0), .val (.int 0), .val (.int 0), .val (.int 0), .val (.double t0), .second, .val (.long ((2 : Int64) * ((2 : Int32).toInt64))), .second, .val (.int 0), .val (.int ((0 : Int32) * (2 : Int32))), .unset, .unset, .unset]) rfl k)) ?_
  rw [show ((0 : Int32) * (2 : Int32)) = (0 : Int32) from by decide +kernel]
  refine own_go (x' := T20.setTop (mkF m 105 #[.val (.ref ao0), .val (.int 0), .val (.int 0), .val (.int 0), .val (.double t0), .second, .val (.long ((2 : Int64) * ((2 : Int32).toInt64))), .second, .val (.int 0), .val (.int 0), .unset, .unset, .unset] [(.ref ao0)])) (fun _ k => XS.aloadN X20.here hx rfl (hb hby d7_104) rfl rfl k) ?_
  obtain ⟨T21, X21, e21, st21⟩ := getF X20 hx hZ hown (host := "") (Or.inl (own_w hw 14 rfl)) Via.refl e20 F_ao0_tableau (g := (mkF m 105 #[.val (.ref ao0), .val (.int 0), .val (.int 0), .val (.int 0), .val (.double t0), .second, .val (.long ((2 : Int64) * ((2 : Int32).toInt64))), .second, .val (.int 0), .val (.int 0), .unset, .unset, .unset] [(.ref ao0)])) rfl rfl (hb hby d7_105)
  refine own_go (x' := T21.setTop (mkF m 108 #[.val (.ref ao0), .val (.int 0), .val (.int 0), .val (.int 0), .val (.double t0), .second, .val (.long ((2 : Int64) * ((2 : Int32).toInt64))), .second, .val (.int 0), .val (.int 0), .unset, .unset, .unset] [(.ref tb)])) st21 ?_
  refine own_go (x' := T21.setTop (mkF m 112 #[.val (.ref ao0), .val (.int 0), .val (.int 0), .val (.int 0), .val (.double t0), .second, .val (.long ((2 : Int64) * ((2 : Int32).toInt64))), .second, .val (.int 0), .val (.int 0), .unset, .unset, .unset] [(.int ((0 : Int32) + (0 : Int32))), (.ref tb)])) (fun _ k => XS.iload X21.here hx rfl (hb hby d7_108) rfl (XS.iloadN X21.here hx rfl (hb hby d7_110) rfl (XS.iadd X21.here hx rfl (hb hby d7_111) rfl k))) ?_
  rw [show ((0 : Int32) + (0 : Int32)) = (0 : Int32) from by decide +kernel]
  obtain ⟨cl22, Ar22, q22, Sz22, Nn22, Hh22, Gg22⟩ := id V_tb
  have hin22 : ¬ ((0 : Int32) < 0 ∨ cl22.slots.size ≤ ((0 : Int32)).toNatClampNeg) := inb_of Sz22 ⟨by decide, by decide⟩
  refine own_go (x' := T21.setTop (mkF m 113 #[.val (.ref ao0), .val (.int 0), .val (.int 0), .val (.int 0), .val (.double t0), .second, .val (.long ((2 : Int64) * ((2 : Int32).toInt64))), .second, .val (.int 0), .val (.int 0), .unset, .unset, .unset] [(.double (FP.ddiv (4607182418800017408 : UInt64) t0))])) (X21.daload hx (j := (0 : Int32)) (v := (.double (FP.ddiv (4607182418800017408 : UInt64) t0))) (Eq.trans (congrArg (fun h_ => h_[_]?) e21) Ar22.1) (State.isArrayOf_alike hZ.alike Ar22.2.1) Ar22.2.2 hin22 (Hh22.at hin22 rfl) (g := (mkF m 112 #[.val (.ref ao0), .val (.int 0), .val (.int 0), .val (.int 0), .val (.double t0), .second, .val (.long ((2 : Int64) * ((2 : Int32).toInt64))), .second, .val (.int 0), .val (.int 0), .unset, .unset, .unset] [(.int 0), (.ref tb)])) rfl rfl (hb hby d7_112)) ?_
  generalize (FP.ddiv (4607182418800017408 : UInt64) t0) = fz23
  refine own_go (x' := T21.setTop (mkF m 86 #[.val (.ref ao0), .val (.int 0), .val (.int 0), .val (.int 0), .val (.double t0), .second, .val (.long ((2 : Int64) * ((2 : Int32).toInt64))), .second, .val (.int ((0 : Int32) + (1 : Int32))), .val (.int 0), .val (.double fz23), .second, .unset] [])) (fun _ k => XS.dstore X21.here hx rfl (hb hby d7_113) rfl (l' := #[.val (.ref ao0), .val (.int 0), .val (.int 0), .val (.int 0), .val (.double t0), .second, .val (.long ((2 : Int64) * ((2 : Int32).toInt64))), .second, .val (.int 0), .val (.int 0), .val (.double fz23), .second, .unset]) rfl (XS.iload X21.here hx rfl (hb hby d7_115) rfl (XS.iloadN X21.here hx rfl (hb hby d7_117) rfl (XS.icmpYes X21.here hx rfl (pc0 := 118) (pc' := 215) rfl (hb hby d7_118) rfl (teq rfl).1 (by decide) (by decide) (XS.iinc X21.here hx rfl (hb hby d7_215) rfl (l' := #[.val (.ref ao0), .val (.int 0), .val (.int 0), .val (.int 0), .val (.double t0), .second, .val (.long ((2 : Int64) * ((2 : Int32).toInt64))), .second, .val (.int ((0 : Int32) + (1 : Int32))), .val (.int 0), .val (.double fz23), .second, .unset]) rfl (XS.goto X21.here hx rfl (pc0 := 218) (pc' := 86) rfl (hb hby d7_218) (by decide) (by decide) k)))))) ?_
  rw [show ((0 : Int32) + (1 : Int32)) = (1 : Int32) from by decide +kernel]
  refine own_go (x' := T21.setTop (mkF m 89 #[.val (.ref ao0), .val (.int 0), .val (.int 0), .val (.int 0), .val (.double t0), .second, .val (.long ((2 : Int64) * ((2 : Int32).toInt64))), .second, .val (.int 1), .val (.int 0), .val (.double fz23), .second, .unset] [(.ref ao0), (.int 1)])) (fun _ k => XS.iload X21.here hx rfl (hb hby d7_86) rfl (XS.aloadN X21.here hx rfl (hb hby d7_88) rfl rfl k)) ?_
  obtain ⟨T24, X24, e24, st24⟩ := getF X21 hx hZ hown (host := "") (Or.inl (own_w hw 10 rfl)) Via.refl e21 F_ao0_rows (g := (mkF m 89 #[.val (.ref ao0), .val (.int 0), .val (.int 0), .val (.int 0), .val (.double t0), .second, .val (.long ((2 : Int64) * ((2 : Int32).toInt64))), .second, .val (.int 1), .val (.int 0), .val (.double fz23), .second, .unset] [(.ref ao0), (.int 1)])) rfl rfl (hb hby d7_89)
  refine own_go (x' := T24.setTop (mkF m 92 #[.val (.ref ao0), .val (.int 0), .val (.int 0), .val (.int 0), .val (.double t0), .second, .val (.long ((2 : Int64) * ((2 : Int32).toInt64))), .second, .val (.int 1), .val (.int 0), .val (.double fz23), .second, .unset] [(.int 2), (.int 1)])) st24 ?_
  refine own_go (x' := T24.setTop (mkF m 98 #[.val (.ref ao0), .val (.int 0), .val (.int 0), .val (.int 0), .val (.double t0), .second, .val (.long ((2 : Int64) * ((2 : Int32).toInt64))), .second, .val (.int 1), .val (.int 0), .val (.double fz23), .second, .unset] [(.ref ao0), (.int 1)])) (fun _ k => XS.icmpNo X24.here hx rfl (hb hby d7_92) rfl (tlt (by decide +kernel : ((1 : Int32) < (2 : Int32)))).2.1 (XS.iload X24.here hx rfl (hb hby d7_95) rfl (XS.aloadN X24.here hx rfl (hb hby d7_97) rfl rfl k))) ?_
  obtain ⟨T25, X25, e25, st25⟩ := getF X24 hx hZ hown (host := "") (Or.inl (own_w hw 12 rfl)) Via.refl e24 F_ao0_columns (g := (mkF m 98 #[.val (.ref ao0), .val (.int 0), .val (.int 0), .val (.int 0), .val (.double t0), .second, .val (.long ((2 : Int64) * ((2 : Int32).toInt64))), .second, .val (.int 1), .val (.int 0), .val (.double fz23), .second, .unset] [(.ref ao0), (.int 1)])) rfl rfl (hb hby d7_98)
  refine own_go (x' := T25.setTop (mkF m 101 #[.val (.ref ao0), .val (.int 0), .val (.int 0), .val (.int 0), .val (.double t0), .second, .val (.long ((2 : Int64) * ((2 : Int32).toInt64))), .second, .val (.int 1), .val (.int 0), .val (.double fz23), .second, .unset] [(.int 2), (.int 1)])) st25 ?_
  refine own_go (x' := T25.setTop (mkF m 104 #[.val (.ref ao0), .val (.int 0), .val (.int 0), .val (.int 0), .val (.double t0), .second, .val (.long ((2 : Int64) * ((2 : Int32).toInt64))), .second, .val (.int 1), .val (.int ((1 : Int32) * (2 : Int32))), .val (.double fz23), .second, .unset] [])) (fun _ k => XS.imul X25.here hx rfl (hb hby d7_101) rfl (XS.istore X25.here hx rfl (hb hby d7_102) rfl (l' := #[.val (.ref ao0), .val (.int 0), .val (.int 0), .val (.int 0), .val (.double t0), .second, .val (.long ((2 : Int64) * ((2 : Int32).toInt64))), .second, .val (.int 1), .val (.int ((1 : Int32) * (2 : Int32))), .val (.double fz23), .second, .unset]) rfl k)) ?_
  rw [show ((1 : Int32) * (2 : Int32)) = (2 : Int32) from by decide +kernel]
  refine own_go (x' := T25.setTop (mkF m 105 #[.val (.ref ao0), .val (.int 0), .val (.int 0), .val (.int 0), .val (.double t0), .second, .val (.long ((2 : Int64) * ((2 : Int32).toInt64))), .second, .val (.int 1), .val (.int 2), .val (.double fz23), .second, .unset] [(.ref ao0)])) (fun _ k => XS.aloadN X25.here hx rfl (hb hby d7_104) rfl rfl k) ?_
  obtain ⟨T26, X26, e26, st26⟩ := getF X25 hx hZ hown (host := "") (Or.inl (own_w hw 14 rfl)) Via.refl e25 F_ao0_tableau (g := (mkF m 105 #[.val (.ref ao0), .val (.int 0), .val (.int 0), .val (.int 0), .val (.double t0), .second, .val (.long ((2 : Int64) * ((2 : Int32).toInt64))), .second, .val (.int 1), .val (.int 2), .val (.double fz23), .second, .unset] [(.ref ao0)])) rfl rfl (hb hby d7_105)
  refine own_go (x' := T26.setTop (mkF m 108 #[.val (.ref ao0), .val (.int 0), .val (.int 0), .val (.int 0), .val (.double t0), .second, .val (.long ((2 : Int64) * ((2 : Int32).toInt64))), .second, .val (.int 1), .val (.int 2), .val (.double fz23), .second, .unset] [(.ref tb)])) st26 ?_
  refine own_go (x' := T26.setTop (mkF m 112 #[.val (.ref ao0), .val (.int 0), .val (.int 0), .val (.int 0), .val (.double t0), .second, .val (.long ((2 : Int64) * ((2 : Int32).toInt64))), .second, .val (.int 1), .val (.int 2), .val (.double fz23), .second, .unset] [(.int ((2 : Int32) + (0 : Int32))), (.ref tb)])) (fun _ k => XS.iload X26.here hx rfl (hb hby d7_108) rfl (XS.iloadN X26.here hx rfl (hb hby d7_110) rfl (XS.iadd X26.here hx rfl (hb hby d7_111) rfl k))) ?_
  rw [show ((2 : Int32) + (0 : Int32)) = (2 : Int32) from by decide +kernel]
  obtain ⟨cl27, Ar27, q27, Sz27, Nn27, Hh27, Gg27⟩ := id V_tb
  have hin27 : ¬ ((2 : Int32) < 0 ∨ cl27.slots.size ≤ ((2 : Int32)).toNatClampNeg) := inb_of Sz27 ⟨by decide, by decide⟩
  refine own_go (x' := T26.setTop (mkF m 113 #[.val (.ref ao0), .val (.int 0), .val (.int 0), .val (.int 0), .val (.double t0), .second, .val (.long ((2 : Int64) * ((2 : Int32).toInt64))), .second, .val (.int 1), .val (.int 2), .val (.double fz23), .second, .unset] [(.double t2)])) (X26.daload hx (j := (2 : Int32)) (v := (.double t2)) (Eq.trans (congrArg (fun h_ => h_[_]?) e26) Ar27.1) (State.isArrayOf_alike hZ.alike Ar27.2.1) Ar27.2.2 hin27 (Hh27.at hin27 rfl) (g := (mkF m 112 #[.val (.ref ao0), .val (.int 0), .val (.int 0), .val (.int 0), .val (.double t0), .second, .val (.long ((2 : Int64) * ((2 : Int32).toInt64))), .second, .val (.int 1), .val (.int 2), .val (.double fz23), .second, .unset] [(.int 2), (.ref tb)])) rfl rfl (hb hby d7_112)) ?_
  refine own_go (x' := T26.setTop (mkF m 124 #[.val (.ref ao0), .val (.int 0), .val (.int 0), .val (.int 0), .val (.double t0), .second, .val (.long ((2 : Int64) * ((2 : Int32).toInt64))), .second, .val (.int 1), .val (.int 2), .val (.double t2), .second, .unset] [(.double (0 : UInt64)), (.double t2)])) (fun _ k => XS.dstore X26.here hx rfl (hb hby d7_113) rfl (l' := #[.val (.ref ao0), .val (.int 0), .val (.int 0), .val (.int 0), .val (.double t0), .second, .val (.long ((2 : Int64) * ((2 : Int32).toInt64))), .second, .val (.int 1), .val (.int 2), .val (.double t2), .second, .unset]) rfl (XS.iload X26.here hx rfl (hb hby d7_115) rfl (XS.iloadN X26.here hx rfl (hb hby d7_117) rfl (XS.icmpNo X26.here hx rfl (hb hby d7_118) rfl (feq (by decide +kernel : ¬ ((1 : Int32) = (0 : Int32)))).1 (XS.dload X26.here hx rfl (hb hby d7_121) rfl (XS.dconst0 X26.here hx rfl (hb hby d7_123) rfl k)))))) ?_
  refine own_go (x' := T26.setTop (mkF m 125 #[.val (.ref ao0), .val (.int 0), .val (.int 0), .val (.int 0), .val (.double t0), .second, .val (.long ((2 : Int64) * ((2 : Int32).toInt64))), .second, .val (.int 1), .val (.int 2), .val (.double t2), .second, .unset] [(.int (cmpValue (FP.dcmp t2 (0 : UInt64)) .l))])) (fun _ k => XS.dcmpS X26.here hx rfl (hb hby d7_124) rfl rfl k) ?_
  by_cases hc125 : (cmpValue (FP.dcmp t2 (0 : UInt64)) .l) = (0 : Int32)
  · refine own_go (x' := T26.setTop (mkF m 86 #[.val (.ref ao0), .val (.int 0), .val (.int 0), .val (.int 0), .val (.double t0), .second, .val (.long ((2 : Int64) * ((2 : Int32).toInt64))), .second, .val (.int ((1 : Int32) + (1 : Int32))), .val (.int 2), .val (.double t2), .second, .unset] [])) (fun _ k => XS.ifYes X26.here hx rfl (pc0 := 125) (pc' := 215) rfl (hb hby d7_125) rfl ((if0 _ _).trans (teq hc125).1) (by decide) (by decide) (XS.iinc X26.here hx rfl (hb hby d7_215) rfl (l' := #[.val (.ref ao0), .val (.int 0), .val (.int 0), .val (.int 0), .val (.double t0), .second, .val (.long ((2 : Int64) * ((2 : Int32).toInt64))), .second, .val (.int ((1 : Int32) + (1 : Int32))), .val (.int 2), .val (.double t2), .second, .unset]) rfl (XS.goto X26.here hx rfl (pc0 := 218) (pc' := 86) rfl (hb hby d7_218) (by decide) (by decide) k))) ?_
    rw [show ((1 : Int32) + (1 : Int32)) = (2 : Int32) from by decide +kernel]
    refine own_go (x' := T26.setTop (mkF m 89 #[.val (.ref ao0), .val (.int 0), .val (.int 0), .val (.int 0), .val (.double t0), .second, .val (.long ((2 : Int64) * ((2 : Int32).toInt64))), .second, .val (.int 2), .val (.int 2), .val (.double t2), .second, .unset] [(.ref ao0), (.int 2)])) (fun _ k => XS.iload X26.here hx rfl (hb hby d7_86) rfl (XS.aloadN X26.here hx rfl (hb hby d7_88) rfl rfl k)) ?_
    obtain ⟨T28, X28, e28, st28⟩ := getF X26 hx hZ hown (host := "") (Or.inl (own_w hw 10 rfl)) Via.refl e26 F_ao0_rows (g := (mkF m 89 #[.val (.ref ao0), .val (.int 0), .val (.int 0), .val (.int 0), .val (.double t0), .second, .val (.long ((2 : Int64) * ((2 : Int32).toInt64))), .second, .val (.int 2), .val (.int 2), .val (.double t2), .second, .unset] [(.ref ao0), (.int 2)])) rfl rfl (hb hby d7_89)
    refine own_go (x' := T28.setTop (mkF m 92 #[.val (.ref ao0), .val (.int 0), .val (.int 0), .val (.int 0), .val (.double t0), .second, .val (.long ((2 : Int64) * ((2 : Int32).toInt64))), .second, .val (.int 2), .val (.int 2), .val (.double t2), .second, .unset] [(.int 2), (.int 2)])) st28 ?_
    refine own_go (x' := T28.setTop (mkF m 222 #[.val (.ref ao0), .val (.int 0), .val (.int 0), .val (.int 0), .val (.double t0), .second, .val (.long ((2 : Int64) * ((2 : Int32).toInt64))), .second, .val (.int 2), .val (.int 2), .val (.double t2), .second, .unset] [(.ref ao0)])) (fun _ k => XS.icmpYes X28.here hx rfl (pc0 := 92) (pc' := 221) rfl (hb hby d7_92) rfl (flt (Int32.lt_irrefl)).2.1 (by decide) (by decide) (XS.aloadN X28.here hx rfl (hb hby d7_221) rfl rfl k)) ?_
    obtain ⟨T29, X29, e29, st29⟩ := getF X28 hx hZ hown (host := "") (Or.inl (own_w hw 27 rfl)) Via.refl e28 F_ao0_cost (g := (mkF m 222 #[.val (.ref ao0), .val (.int 0), .val (.int 0), .val (.int 0), .val (.double t0), .second, .val (.long ((2 : Int64) * ((2 : Int32).toInt64))), .second, .val (.int 2), .val (.int 2), .val (.double t2), .second, .unset] [(.ref ao0)])) rfl rfl (hb hby d7_222)
    refine own_go (x' := T29.setTop (mkF m 225 #[.val (.ref ao0), .val (.int 0), .val (.int 0), .val (.int 0), .val (.double t0), .second, .val (.long ((2 : Int64) * ((2 : Int32).toInt64))), .second, .val (.int 2), .val (.int 2), .val (.double t2), .second, .unset] [(.ref co)])) st29 ?_
    refine own_go (x' := T29.setTop (mkF m 226 #[.val (.ref ao0), .val (.int 0), .val (.int 0), .val (.int 0), .val (.double t0), .second, .val (.long ((2 : Int64) * ((2 : Int32).toInt64))), .second, .val (.int 2), .val (.int 2), .val (.double t2), .second, .unset] [(.int 0), (.ref co)])) (fun _ k => XS.iloadN X29.here hx rfl (hb hby d7_225) rfl k) ?_
    obtain ⟨cl30, Ar30, q30, Sz30, Nn30, Hh30, Gg30⟩ := id V_co
    have hin30 : ¬ ((0 : Int32) < 0 ∨ cl30.slots.size ≤ ((0 : Int32)).toNatClampNeg) := inb_of Sz30 ⟨by decide, by decide⟩
    refine own_go (x' := T29.setTop (mkF m 227 #[.val (.ref ao0), .val (.int 0), .val (.int 0), .val (.int 0), .val (.double t0), .second, .val (.long ((2 : Int64) * ((2 : Int32).toInt64))), .second, .val (.int 2), .val (.int 2), .val (.double t2), .second, .unset] [(.double c0)])) (X29.daload hx (j := (0 : Int32)) (v := (.double c0)) (Eq.trans (congrArg (fun h_ => h_[_]?) e29) Ar30.1) (State.isArrayOf_alike hZ.alike Ar30.2.1) Ar30.2.2 hin30 (Hh30.at hin30 rfl) (g := (mkF m 226 #[.val (.ref ao0), .val (.int 0), .val (.int 0), .val (.int 0), .val (.double t0), .second, .val (.long ((2 : Int64) * ((2 : Int32).toInt64))), .second, .val (.int 2), .val (.int 2), .val (.double t2), .second, .unset] [(.int 0), (.ref co)])) rfl rfl (hb hby d7_226)) ?_
    refine own_go (x' := T29.setTop (mkF m 235 #[.val (.ref ao0), .val (.int 0), .val (.int 0), .val (.int 0), .val (.double t0), .second, .val (.long ((2 : Int64) * ((2 : Int32).toInt64))), .second, .val (.double c0), .second, .val (.int 0), .unset, .unset] [(.ref ao0), (.int 0)])) (fun _ k => XS.dstore X29.here hx rfl (hb hby d7_227) rfl (l' := #[.val (.ref ao0), .val (.int 0), .val (.int 0), .val (.int 0), .val (.double t0), .second, .val (.long ((2 : Int64) * ((2 : Int32).toInt64))), .second, .val (.double c0), .second, .val (.double t2), .second, .unset]) rfl (XS.iconst X29.here hx rfl (hb hby d7_229) (XS.istore X29.here hx rfl (hb hby d7_230) rfl (l' := #[.val (.ref ao0), .val (.int 0), .val (.int 0), .val (.int 0), .val (.double t0), .second, .val (.long ((2 : Int64) * ((2 : Int32).toInt64))), .second, .val (.double c0), .second, .val (.int 0), .unset, .unset]) rfl (XS.iload X29.here hx rfl (hb hby d7_232) rfl (XS.aloadN X29.here hx rfl (hb hby d7_234) rfl rfl k))))) ?_
    obtain ⟨T31, X31, e31, st31⟩ := getF X29 hx hZ hown (host := "") (Or.inl (own_w hw 12 rfl)) Via.refl e29 F_ao0_columns (g := (mkF m 235 #[.val (.ref ao0), .val (.int 0), .val (.int 0), .val (.int 0), .val (.double t0), .second, .val (.long ((2 : Int64) * ((2 : Int32).toInt64))), .second, .val (.double c0), .second, .val (.int 0), .unset, .unset] [(.ref ao0), (.int 0)])) rfl rfl (hb hby d7_235)
    refine own_go (x' := T31.setTop (mkF m 238 #[.val (.ref ao0), .val (.int 0), .val (.int 0), .val (.int 0), .val (.double t0), .second, .val (.long ((2 : Int64) * ((2 : Int32).toInt64))), .second, .val (.double c0), .second, .val (.int 0), .unset, .unset] [(.int 2), (.int 0)])) st31 ?_
    refine own_go (x' := T31.setTop (mkF m 242 #[.val (.ref ao0), .val (.int 0), .val (.int 0), .val (.int 0), .val (.double t0), .second, .val (.long ((2 : Int64) * ((2 : Int32).toInt64))), .second, .val (.double c0), .second, .val (.int 0), .unset, .unset] [(.ref ao0)])) (fun _ k => XS.icmpNo X31.here hx rfl (hb hby d7_238) rfl (tlt (by decide +kernel : ((0 : Int32) < (2 : Int32)))).2.1 (XS.aloadN X31.here hx rfl (hb hby d7_241) rfl rfl k)) ?_
    obtain ⟨T32, X32, e32, st32⟩ := getF X31 hx hZ hown (host := "") (Or.inl (own_w hw 27 rfl)) Via.refl e31 F_ao0_cost (g := (mkF m 242 #[.val (.ref ao0), .val (.int 0), .val (.int 0), .val (.int 0), .val (.double t0), .second, .val (.long ((2 : Int64) * ((2 : Int32).toInt64))), .second, .val (.double c0), .second, .val (.int 0), .unset, .unset] [(.ref ao0)])) rfl rfl (hb hby d7_242)
    refine own_go (x' := T32.setTop (mkF m 245 #[.val (.ref ao0), .val (.int 0), .val (.int 0), .val (.int 0), .val (.double t0), .second, .val (.long ((2 : Int64) * ((2 : Int32).toInt64))), .second, .val (.double c0), .second, .val (.int 0), .unset, .unset] [(.ref co)])) st32 ?_
    refine own_go (x' := T32.setTop (mkF m 248 #[.val (.ref ao0), .val (.int 0), .val (.int 0), .val (.int 0), .val (.double t0), .second, .val (.long ((2 : Int64) * ((2 : Int32).toInt64))), .second, .val (.double c0), .second, .val (.int 0), .unset, .unset] [(.int 0), (.ref co), (.int 0), (.ref co)])) (fun _ k => XS.iload X32.here hx rfl (hb hby d7_245) rfl (Jvm.Free.XT.dup2 X32.here hx rfl (hb hby d7_247) rfl rfl rfl k)) ?_
    obtain ⟨cl33, Ar33, q33, Sz33, Nn33, Hh33, Gg33⟩ := id V_co
    have hin33 : ¬ ((0 : Int32) < 0 ∨ cl33.slots.size ≤ ((0 : Int32)).toNatClampNeg) := inb_of Sz33 ⟨by decide, by decide⟩
    refine own_go (x' := T32.setTop (mkF m 249 #[.val (.ref ao0), .val (.int 0), .val (.int 0), .val (.int 0), .val (.double t0), .second, .val (.long ((2 : Int64) * ((2 : Int32).toInt64))), .second, .val (.double c0), .second, .val (.int 0), .unset, .unset] [(.double c0), (.int 0), (.ref co)])) (X32.daload hx (j := (0 : Int32)) (v := (.double c0)) (Eq.trans (congrArg (fun h_ => h_[_]?) e32) Ar33.1) (State.isArrayOf_alike hZ.alike Ar33.2.1) Ar33.2.2 hin33 (Hh33.at hin33 rfl) (g := (mkF m 248 #[.val (.ref ao0), .val (.int 0), .val (.int 0), .val (.int 0), .val (.double t0), .second, .val (.long ((2 : Int64) * ((2 : Int32).toInt64))), .second, .val (.double c0), .second, .val (.int 0), .unset, .unset] [(.int 0), (.ref co), (.int 0), (.ref co)])) rfl rfl (hb hby d7_248)) ?_
    refine own_go (x' := T32.setTop (mkF m 252 #[.val (.ref ao0), .val (.int 0), .val (.int 0), .val (.int 0), .val (.double t0), .second, .val (.long ((2 : Int64) * ((2 : Int32).toInt64))), .second, .val (.double c0), .second, .val (.int 0), .unset, .unset] [(.ref ao0), (.double c0), (.double c0), (.int 0), (.ref co)])) (fun _ k => XS.dload X32.here hx rfl (hb hby d7_249) rfl (XS.aloadN X32.here hx rfl (hb hby d7_251) rfl rfl k)) ?_
    obtain ⟨T34, X34, e34, st34⟩ := getF X32 hx hZ hown (host := "") (Or.inl (own_w hw 14 rfl)) Via.refl e32 F_ao0_tableau (g := (mkF m 252 #[.val (.ref ao0), .val (.int 0), .val (.int 0), .val (.int 0), .val (.double t0), .second, .val (.long ((2 : Int64) * ((2 : Int32).toInt64))), .second, .val (.double c0), .second, .val (.int 0), .unset, .unset] [(.ref ao0), (.double c0), (.double c0), (.int 0), (.ref co)])) rfl rfl (hb hby d7_252)
    refine own_go (x' := T34.setTop (mkF m 255 #[.val (.ref ao0), .val (.int 0), .val (.int 0), .val (.int 0), .val (.double t0), .second, .val (.long ((2 : Int64) * ((2 : Int32).toInt64))), .second, .val (.double c0), .second, .val (.int 0), .unset, .unset] [(.ref tb), (.double c0), (.double c0), (.int 0), (.ref co)])) st34 ?_
    refine own_go (x' := T34.setTop (mkF m 259 #[.val (.ref ao0), .val (.int 0), .val (.int 0), .val (.int 0), .val (.double t0), .second, .val (.long ((2 : Int64) * ((2 : Int32).toInt64))), .second, .val (.double c0), .second, .val (.int 0), .unset, .unset] [(.int ((0 : Int32) + (0 : Int32))), (.ref tb), (.double c0), (.double c0), (.int 0), (.ref co)])) (fun _ k => XS.iloadN X34.here hx rfl (hb hby d7_255) rfl (XS.iload X34.here hx rfl (hb hby d7_256) rfl (XS.iadd X34.here hx rfl (hb hby d7_258) rfl k))) ?_
    rw [show ((0 : Int32) + (0 : Int32)) = (0 : Int32) from by decide +kernel]
    obtain ⟨cl35, Ar35, q35, Sz35, Nn35, Hh35, Gg35⟩ := id V_tb
    have hin35 : ¬ ((0 : Int32) < 0 ∨ cl35.slots.size ≤ ((0 : Int32)).toNatClampNeg) := inb_of Sz35 ⟨by decide, by decide⟩
    refine own_go (x' := T34.setTop (mkF m 260 #[.val (.ref ao0), .val (.int 0), .val (.int 0), .val (.int 0), .val (.double t0), .second, .val (.long ((2 : Int64) * ((2 : Int32).toInt64))), .second, .val (.double c0), .second, .val (.int 0), .unset, .unset] [(.double (FP.ddiv (4607182418800017408 : UInt64) t0)), (.double c0), (.double c0), (.int 0), (.ref co)])) (X34.daload hx (j := (0 : Int32)) (v := (.double (FP.ddiv (4607182418800017408 : UInt64) t0))) (Eq.trans (congrArg (fun h_ => h_[_]?) e34) Ar35.1) (State.isArrayOf_alike hZ.alike Ar35.2.1) Ar35.2.2 hin35 (Hh35.at hin35 rfl) (g := (mkF m 259 #[.val (.ref ao0), .val (.int 0), .val (.int 0), .val (.int 0), .val (.double t0), .second, .val (.long ((2 : Int64) * ((2 : Int32).toInt64))), .second, .val (.double c0), .second, .val (.int 0), .unset, .unset] [(.int 0), (.ref tb), (.double c0), (.double c0), (.int 0), (.ref co)])) rfl rfl (hb hby d7_259)) ?_
    refine own_go (x' := T34.setTop (mkF m 262 #[.val (.ref ao0), .val (.int 0), .val (.int 0), .val (.int 0), .val (.double t0), .second, .val (.long ((2 : Int64) * ((2 : Int32).toInt64))), .second, .val (.double c0), .second, .val (.int 0), .unset, .unset] [(.double (FP.dsub c0 (FP.dmul c0 (FP.ddiv (4607182418800017408 : UInt64) t0)))), (.int 0), (.ref co)])) (fun _ k => XS.dmulS X34.here hx rfl (hb hby d7_260) rfl (own_nn (Jvm.Free.Fl.dmul_mag m_c0 (ddiv_mag own_m1 b_t0 (by decide) (by decide)) (by decide) (by decide))) rfl (XS.dsubS X34.here hx rfl (hb hby d7_261) rfl (own_nn (Jvm.Free.Fl.dsub_mag (m_c0.mono (by decide : 1056 ≤ 1059)) ((Jvm.Free.Fl.dmul_mag m_c0 (ddiv_mag own_m1 b_t0 (by decide) (by decide)) (by decide) (by decide)).mono (by decide : 1059 ≤ 1059)) (by decide))) rfl k)) ?_
    obtain ⟨cl36, Ar36, q36, Sz36, Nn36, Hh36, Gg36⟩ := V_co
    have hin36 : ¬ ((0 : Int32) < 0 ∨ cl36.slots.size ≤ ((0 : Int32)).toNatClampNeg) := inb_of Sz36 ⟨by decide, by decide⟩
    obtain ⟨T36, h36, X36, e36, W36, st36⟩ := stD X34 hx hZ e34 Ar36 (j := (0 : Int32)) hin36 (g := (mkF m 262 #[.val (.ref ao0), .val (.int 0), .val (.int 0), .val (.int 0), .val (.double t0), .second, .val (.long ((2 : Int64) * ((2 : Int32).toInt64))), .second, .val (.double c0), .second, .val (.int 0), .unset, .unset] [(.double (FP.dsub c0 (FP.dmul c0 (FP.ddiv (4607182418800017408 : UInt64) t0)))), (.int 0), (.ref co)])) rfl rfl (hb hby d7_262)
    refine own_go (x' := T36.setTop (mkF m 263 #[.val (.ref ao0), .val (.int 0), .val (.int 0), .val (.int 0), .val (.double t0), .second, .val (.long ((2 : Int64) * ((2 : Int32).toInt64))), .second, .val (.double c0), .second, .val (.int 0), .unset, .unset] [])) st36 ?_
    replace F_ao0_rows := Fld.other W36 F_ao0_rows (Or.inl ne_ao0_co)
    replace F_ao0_columns := Fld.other W36 F_ao0_columns (Or.inl ne_ao0_co)
    replace F_ao0_tableau := Fld.other W36 F_ao0_tableau (Or.inl ne_ao0_co)
    replace F_ao0_value := Fld.other W36 F_ao0_value (Or.inl ne_ao0_co)
    replace F_ao0_cost := Fld.other W36 F_ao0_cost (Or.inl ne_ao0_co)
    replace F_ao0_basic := Fld.other W36 F_ao0_basic (Or.inl ne_ao0_co)
    replace F_ao0_nonbasic := Fld.other W36 F_ao0_nonbasic (Or.inl ne_ao0_co)
    replace V_bs := V_bs.other W36 (Ne.symm ne_co_bs)
    replace V_nb := V_nb.other W36 (Ne.symm ne_co_nb)
    replace V_tb := V_tb.other W36 ne_tb_co
    replace V_va := V_va.other W36 ne_va_co
    replace Zs := Nat.le_trans Zs (Keep.of_wr W36).1
    replace Nf := Fr.snoc X36 Nf g_co
    replace Kp := Kp.wr W36 (Or.inl (by simp))
    have V_co : Arv Z h36 co kc .double (2 : Int32) [(.double (FP.dsub c0 (FP.dmul c0 (FP.ddiv (4607182418800017408 : UInt64) t0)))), (.double c1)] (.double 0) := Arv.set Ar36 q36 Sz36 Nn36 Hh36 Gg36 rfl W36 0 rfl (Nat.le_of_ble_eq_true rfl)
    refine own_go (x' := T36.setTop (mkF m 232 #[.val (.ref ao0), .val (.int 0), .val (.int 0), .val (.int 0), .val (.double t0), .second, .val (.long ((2 : Int64) * ((2 : Int32).toInt64))), .second, .val (.double c0), .second, .val (.int ((0 : Int32) + (1 : Int32))), .unset, .unset] [])) (fun _ k => XS.iinc X36.here hx rfl (hb hby d7_263) rfl (l' := #[.val (.ref ao0), .val (.int 0), .val (.int 0), .val (.int 0), .val (.double t0), .second, .val (.long ((2 : Int64) * ((2 : Int32).toInt64))), .second, .val (.double c0), .second, .val (.int ((0 : Int32) + (1 : Int32))), .unset, .unset]) rfl (XS.goto X36.here hx rfl (pc0 := 266) (pc' := 232) rfl (hb hby d7_266) (by decide) (by decide) k)) ?_
    rw [show ((0 : Int32) + (1 : Int32)) = (1 : Int32) from by decide +kernel]
    refine own_go (x' := T36.setTop (mkF m 235 #[.val (.ref ao0), .val (.int 0), .val (.int 0), .val (.int 0), .val (.double t0), .second, .val (.long ((2 : Int64) * ((2 : Int32).toInt64))), .second, .val (.double c0), .second, .val (.int 1), .unset, .unset] [(.ref ao0), (.int 1)])) (fun _ k => XS.iload X36.here hx rfl (hb hby d7_232) rfl (XS.aloadN X36.here hx rfl (hb hby d7_234) rfl rfl k)) ?_
    obtain ⟨T37, X37, e37, st37⟩ := getF X36 hx hZ hown (host := "") (Or.inl (own_w hw 12 rfl)) Via.refl e36 F_ao0_columns (g := (mkF m 235 #[.val (.ref ao0), .val (.int 0), .val (.int 0), .val (.int 0), .val (.double t0), .second, .val (.long ((2 : Int64) * ((2 : Int32).toInt64))), .second, .val (.double c0), .second, .val (.int 1), .unset, .unset] [(.ref ao0), (.int 1)])) rfl rfl (hb hby d7_235)
    refine own_go (x' := T37.setTop (mkF m 238 #[.val (.ref ao0), .val (.int 0), .val (.int 0), .val (.int 0), .val (.double t0), .second, .val (.long ((2 : Int64) * ((2 : Int32).toInt64))), .second, .val (.double c0), .second, .val (.int 1), .unset, .unset] [(.int 2), (.int 1)])) st37 ?_
    refine own_go (x' := T37.setTop (mkF m 242 #[.val (.ref ao0), .val (.int 0), .val (.int 0), .val (.int 0), .val (.double t0), .second, .val (.long ((2 : Int64) * ((2 : Int32).toInt64))), .second, .val (.double c0), .second, .val (.int 1), .unset, .unset] [(.ref ao0)])) (fun _ k => XS.icmpNo X37.here hx rfl (hb hby d7_238) rfl (tlt (by decide +kernel : ((1 : Int32) < (2 : Int32)))).2.1 (XS.aloadN X37.here hx rfl (hb hby d7_241) rfl rfl k)) ?_
    obtain ⟨T38, X38, e38, st38⟩ := getF X37 hx hZ hown (host := "") (Or.inl (own_w hw 27 rfl)) Via.refl e37 F_ao0_cost (g := (mkF m 242 #[.val (.ref ao0), .val (.int 0), .val (.int 0), .val (.int 0), .val (.double t0), .second, .val (.long ((2 : Int64) * ((2 : Int32).toInt64))), .second, .val (.double c0), .second, .val (.int 1), .unset, .unset] [(.ref ao0)])) rfl rfl (hb hby d7_242)
    refine own_go (x' := T38.setTop (mkF m 245 #[.val (.ref ao0), .val (.int 0), .val (.int 0), .val (.int 0), .val (.double t0), .second, .val (.long ((2 : Int64) * ((2 : Int32).toInt64))), .second, .val (.double c0), .second, .val (.int 1), .unset, .unset] [(.ref co)])) st38 ?_
    refine own_go (x' := T38.setTop (mkF m 248 #[.val (.ref ao0), .val (.int 0), .val (.int 0), .val (.int 0), .val (.double t0), .second, .val (.long ((2 : Int64) * ((2 : Int32).toInt64))), .second, .val (.double c0), .second, .val (.int 1), .unset, .unset] [(.int 1), (.ref co), (.int 1), (.ref co)])) (fun _ k => XS.iload X38.here hx rfl (hb hby d7_245) rfl (Jvm.Free.XT.dup2 X38.here hx rfl (hb hby d7_247) rfl rfl rfl k)) ?_
    obtain ⟨cl39, Ar39, q39, Sz39, Nn39, Hh39, Gg39⟩ := id V_co
    have hin39 : ¬ ((1 : Int32) < 0 ∨ cl39.slots.size ≤ ((1 : Int32)).toNatClampNeg) := inb_of Sz39 ⟨by decide, by decide⟩
    refine own_go (x' := T38.setTop (mkF m 249 #[.val (.ref ao0), .val (.int 0), .val (.int 0), .val (.int 0), .val (.double t0), .second, .val (.long ((2 : Int64) * ((2 : Int32).toInt64))), .second, .val (.double c0), .second, .val (.int 1), .unset, .unset] [(.double c1), (.int 1), (.ref co)])) (X38.daload hx (j := (1 : Int32)) (v := (.double c1)) (Eq.trans (congrArg (fun h_ => h_[_]?) e38) Ar39.1) (State.isArrayOf_alike hZ.alike Ar39.2.1) Ar39.2.2 hin39 (Hh39.at hin39 rfl) (g := (mkF m 248 #[.val (.ref ao0), .val (.int 0), .val (.int 0), .val (.int 0), .val (.double t0), .second, .val (.long ((2 : Int64) * ((2 : Int32).toInt64))), .second, .val (.double c0), .second, .val (.int 1), .unset, .unset] [(.int 1), (.ref co), (.int 1), (.ref co)])) rfl rfl (hb hby d7_248)) ?_
    refine own_go (x' := T38.setTop (mkF m 252 #[.val (.ref ao0), .val (.int 0), .val (.int 0), .val (.int 0), .val (.double t0), .second, .val (.long ((2 : Int64) * ((2 : Int32).toInt64))), .second, .val (.double c0), .second, .val (.int 1), .unset, .unset] [(.ref ao0), (.double c0), (.double c1), (.int 1), (.ref co)])) (fun _ k => XS.dload X38.here hx rfl (hb hby d7_249) rfl (XS.aloadN X38.here hx rfl (hb hby d7_251) rfl rfl k)) ?_
    obtain ⟨T40, X40, e40, st40⟩ := getF X38 hx hZ hown (host := "") (Or.inl (own_w hw 14 rfl)) Via.refl e38 F_ao0_tableau (g := (mkF m 252 #[.val (.ref ao0), .val (.int 0), .val (.int 0), .val (.int 0), .val (.double t0), .second, .val (.long ((2 : Int64) * ((2 : Int32).toInt64))), .second, .val (.double c0), .second, .val (.int 1), .unset, .unset] [(.ref ao0), (.double c0), (.double c1), (.int 1), (.ref co)])) rfl rfl (hb hby d7_252)
    refine own_go (x' := T40.setTop (mkF m 255 #[.val (.ref ao0), .val (.int 0), .val (.int 0), .val (.int 0), .val (.double t0), .second, .val (.long ((2 : Int64) * ((2 : Int32).toInt64))), .second, .val (.double c0), .second, .val (.int 1), .unset, .unset] [(.ref tb), (.double c0), (.double c1), (.int 1), (.ref co)])) st40 ?_
    refine own_go (x' := T40.setTop (mkF m 259 #[.val (.ref ao0), .val (.int 0), .val (.int 0), .val (.int 0), .val (.double t0), .second, .val (.long ((2 : Int64) * ((2 : Int32).toInt64))), .second, .val (.double c0), .second, .val (.int 1), .unset, .unset] [(.int ((0 : Int32) + (1 : Int32))), (.ref tb), (.double c0), (.double c1), (.int 1), (.ref co)])) (fun _ k => XS.iloadN X40.here hx rfl (hb hby d7_255) rfl (XS.iload X40.here hx rfl (hb hby d7_256) rfl (XS.iadd X40.here hx rfl (hb hby d7_258) rfl k))) ?_
    rw [show ((0 : Int32) + (1 : Int32)) = (1 : Int32) from by decide +kernel]
    obtain ⟨cl41, Ar41, q41, Sz41, Nn41, Hh41, Gg41⟩ := id V_tb
    have hin41 : ¬ ((1 : Int32) < 0 ∨ cl41.slots.size ≤ ((1 : Int32)).toNatClampNeg) := inb_of Sz41 ⟨by decide, by decide⟩
    refine own_go (x' := T40.setTop (mkF m 260 #[.val (.ref ao0), .val (.int 0), .val (.int 0), .val (.int 0), .val (.double t0), .second, .val (.long ((2 : Int64) * ((2 : Int32).toInt64))), .second, .val (.double c0), .second, .val (.int 1), .unset, .unset] [(.double (FP.ddiv t1 t0)), (.double c0), (.double c1), (.int 1), (.ref co)])) (X40.daload hx (j := (1 : Int32)) (v := (.double (FP.ddiv t1 t0))) (Eq.trans (congrArg (fun h_ => h_[_]?) e40) Ar41.1) (State.isArrayOf_alike hZ.alike Ar41.2.1) Ar41.2.2 hin41 (Hh41.at hin41 rfl) (g := (mkF m 259 #[.val (.ref ao0), .val (.int 0), .val (.int 0), .val (.int 0), .val (.double t0), .second, .val (.long ((2 : Int64) * ((2 : Int32).toInt64))), .second, .val (.double c0), .second, .val (.int 1), .unset, .unset] [(.int 1), (.ref tb), (.double c0), (.double c1), (.int 1), (.ref co)])) rfl rfl (hb hby d7_259)) ?_
    refine own_go (x' := T40.setTop (mkF m 262 #[.val (.ref ao0), .val (.int 0), .val (.int 0), .val (.int 0), .val (.double t0), .second, .val (.long ((2 : Int64) * ((2 : Int32).toInt64))), .second, .val (.double c0), .second, .val (.int 1), .unset, .unset] [(.double (FP.dsub c1 (FP.dmul c0 (FP.ddiv t1 t0)))), (.int 1), (.ref co)])) (fun _ k => XS.dmulS X40.here hx rfl (hb hby d7_260) rfl (own_nn (Jvm.Free.Fl.dmul_mag m_c0 (ddiv_mag m_t1 b_t0 (by decide) (by decide)) (by decide) (by decide))) rfl (XS.dsubS X40.here hx rfl (hb hby d7_261) rfl (own_nn (Jvm.Free.Fl.dsub_mag (m_c1.mono (by decide : 1056 ≤ 1091)) ((Jvm.Free.Fl.dmul_mag m_c0 (ddiv_mag m_t1 b_t0 (by decide) (by decide)) (by decide) (by decide)).mono (by decide : 1091 ≤ 1091)) (by decide))) rfl k)) ?_
    obtain ⟨cl42, Ar42, q42, Sz42, Nn42, Hh42, Gg42⟩ := V_co
    have hin42 : ¬ ((1 : Int32) < 0 ∨ cl42.slots.size ≤ ((1 : Int32)).toNatClampNeg) := inb_of Sz42 ⟨by decide, by decide⟩
    obtain ⟨T42, h42, X42, e42, W42, st42⟩ := stD X40 hx hZ e40 Ar42 (j := (1 : Int32)) hin42 (g := (mkF m 262 #[.val (.ref ao0), .val (.int 0), .val (.int 0), .val (.int 0), .val (.double t0), .second, .val (.long ((2 : Int64) * ((2 : Int32).toInt64))), .second, .val (.double c0), .second, .val (.int 1), .unset, .unset] [(.double (FP.dsub c1 (FP.dmul c0 (FP.ddiv t1 t0)))), (.int 1), (.ref co)])) rfl rfl (hb hby d7_262)
    refine own_go (x' := T42.setTop (mkF m 263 #[.val (.ref ao0), .val (.int 0), .val (.int 0), .val (.int 0), .val (.double t0), .second, .val (.long ((2 : Int64) * ((2 : Int32).toInt64))), .second, .val (.double c0), .second, .val (.int 1), .unset, .unset] [])) st42 ?_
    replace F_ao0_rows := Fld.other W42 F_ao0_rows (Or.inl ne_ao0_co)
    replace F_ao0_columns := Fld.other W42 F_ao0_columns (Or.inl ne_ao0_co)
    replace F_ao0_tableau := Fld.other W42 F_ao0_tableau (Or.inl ne_ao0_co)
    replace F_ao0_value := Fld.other W42 F_ao0_value (Or.inl ne_ao0_co)
    replace F_ao0_cost := Fld.other W42 F_ao0_cost (Or.inl ne_ao0_co)
    replace F_ao0_basic := Fld.other W42 F_ao0_basic (Or.inl ne_ao0_co)
    replace F_ao0_nonbasic := Fld.other W42 F_ao0_nonbasic (Or.inl ne_ao0_co)
    replace V_bs := V_bs.other W42 (Ne.symm ne_co_bs)
    replace V_nb := V_nb.other W42 (Ne.symm ne_co_nb)
    replace V_tb := V_tb.other W42 ne_tb_co
    replace V_va := V_va.other W42 ne_va_co
    replace Zs := Nat.le_trans Zs (Keep.of_wr W42).1
    replace Nf := Fr.snoc X42 Nf g_co
    replace Kp := Kp.wr W42 (Or.inl (by simp))
    have V_co : Arv Z h42 co kc .double (2 : Int32) [(.double (FP.dsub c0 (FP.dmul c0 (FP.ddiv (4607182418800017408 : UInt64) t0)))), (.double (FP.dsub c1 (FP.dmul c0 (FP.ddiv t1 t0))))] (.double 0) := Arv.set Ar42 q42 Sz42 Nn42 Hh42 Gg42 rfl W42 1 rfl (Nat.le_of_ble_eq_true rfl)
    refine own_go (x' := T42.setTop (mkF m 232 #[.val (.ref ao0), .val (.int 0), .val (.int 0), .val (.int 0), .val (.double t0), .second, .val (.long ((2 : Int64) * ((2 : Int32).toInt64))), .second, .val (.double c0), .second, .val (.int ((1 : Int32) + (1 : Int32))), .unset, .unset] [])) (fun _ k => XS.iinc X42.here hx rfl (hb hby d7_263) rfl (l' := #[.val (.ref ao0), .val (.int 0), .val (.int 0), .val (.int 0), .val (.double t0), .second, .val (.long ((2 : Int64) * ((2 : Int32).toInt64))), .second, .val (.double c0), .second, .val (.int ((1 : Int32) + (1 : Int32))), .unset, .unset]) rfl (XS.goto X42.here hx rfl (pc0 := 266) (pc' := 232) rfl (hb hby d7_266) (by decide) (by decide) k)) ?_
    rw [show ((1 : Int32) + (1 : Int32)) = (2 : Int32) from by decide +kernel]
    refine own_go (x' := T42.setTop (mkF m 235 #[.val (.ref ao0), .val (.int 0), .val (.int 0), .val (.int 0), .val (.double t0), .second, .val (.long ((2 : Int64) * ((2 : Int32).toInt64))), .second, .val (.double c0), .second, .val (.int 2), .unset, .unset] [(.ref ao0), (.int 2)])) (fun _ k => XS.iload X42.here hx rfl (hb hby d7_232) rfl (XS.aloadN X42.here hx rfl (hb hby d7_234) rfl rfl k)) ?_
    obtain ⟨T43, X43, e43, st43⟩ := getF X42 hx hZ hown (host := "") (Or.inl (own_w hw 12 rfl)) Via.refl e42 F_ao0_columns (g := (mkF m 235 #[.val (.ref ao0), .val (.int 0), .val (.int 0), .val (.int 0), .val (.double t0), .second, .val (.long ((2 : Int64) * ((2 : Int32).toInt64))), .second, .val (.double c0), .second, .val (.int 2), .unset, .unset] [(.ref ao0), (.int 2)])) rfl rfl (hb hby d7_235)
    refine own_go (x' := T43.setTop (mkF m 238 #[.val (.ref ao0), .val (.int 0), .val (.int 0), .val (.int 0), .val (.double t0), .second, .val (.long ((2 : Int64) * ((2 : Int32).toInt64))), .second, .val (.double c0), .second, .val (.int 2), .unset, .unset] [(.int 2), (.int 2)])) st43 ?_
    refine own_go (x' := T43.setTop (mkF m 270 #[.val (.ref ao0), .val (.int 0), .val (.int 0), .val (.int 0), .val (.double t0), .second, .val (.long ((2 : Int64) * ((2 : Int32).toInt64))), .second, .val (.double c0), .second, .val (.int 2), .unset, .unset] [(.ref ao0)])) (fun _ k => XS.icmpYes X43.here hx rfl (pc0 := 238) (pc' := 269) rfl (hb hby d7_238) rfl (flt (Int32.lt_irrefl)).2.1 (by decide) (by decide) (XS.aloadN X43.here hx rfl (hb hby d7_269) rfl rfl k)) ?_
    obtain ⟨T44, X44, e44, st44⟩ := getF X43 hx hZ hown (host := "") (Or.inl (own_w hw 27 rfl)) Via.refl e43 F_ao0_cost (g := (mkF m 270 #[.val (.ref ao0), .val (.int 0), .val (.int 0), .val (.int 0), .val (.double t0), .second, .val (.long ((2 : Int64) * ((2 : Int32).toInt64))), .second, .val (.double c0), .second, .val (.int 2), .unset, .unset] [(.ref ao0)])) rfl rfl (hb hby d7_270)
    refine own_go (x' := T44.setTop (mkF m 273 #[.val (.ref ao0), .val (.int 0), .val (.int 0), .val (.int 0), .val (.double t0), .second, .val (.long ((2 : Int64) * ((2 : Int32).toInt64))), .second, .val (.double c0), .second, .val (.int 2), .unset, .unset] [(.ref co)])) st44 ?_
    refine own_go (x' := T44.setTop (mkF m 280 #[.val (.ref ao0), .val (.int 0), .val (.int 0), .val (.int 0), .val (.double t0), .second, .val (.long ((2 : Int64) * ((2 : Int32).toInt64))), .second, .val (.double c0), .second, .val (.int 2), .unset, .unset] [(.double (FP.ddiv (FP.dneg c0) t0)), (.int 0), (.ref co)])) (fun _ k => XS.iloadN X44.here hx rfl (hb hby d7_273) rfl (XS.dload X44.here hx rfl (hb hby d7_274) rfl (XS.dnegS X44.here hx rfl (hb hby d7_276) rfl rfl (XS.dload X44.here hx rfl (hb hby d7_277) rfl (XS.ddivS X44.here hx rfl (hb hby d7_279) rfl (own_nn (ddiv_mag (dneg_mag m_c0) b_t0 (by decide) (by decide))) rfl k))))) ?_
    obtain ⟨cl45, Ar45, q45, Sz45, Nn45, Hh45, Gg45⟩ := V_co
    have hin45 : ¬ ((0 : Int32) < 0 ∨ cl45.slots.size ≤ ((0 : Int32)).toNatClampNeg) := inb_of Sz45 ⟨by decide, by decide⟩
    obtain ⟨T45, h45, X45, e45, W45, st45⟩ := stD X44 hx hZ e44 Ar45 (j := (0 : Int32)) hin45 (g := (mkF m 280 #[.val (.ref ao0), .val (.int 0), .val (.int 0), .val (.int 0), .val (.double t0), .second, .val (.long ((2 : Int64) * ((2 : Int32).toInt64))), .second, .val (.double c0), .second, .val (.int 2), .unset, .unset] [(.double (FP.ddiv (FP.dneg c0) t0)), (.int 0), (.ref co)])) rfl rfl (hb hby d7_280)
    refine own_go (x' := T45.setTop (mkF m 281 #[.val (.ref ao0), .val (.int 0), .val (.int 0), .val (.int 0), .val (.double t0), .second, .val (.long ((2 : Int64) * ((2 : Int32).toInt64))), .second, .val (.double c0), .second, .val (.int 2), .unset, .unset] [])) st45 ?_
    replace F_ao0_rows := Fld.other W45 F_ao0_rows (Or.inl ne_ao0_co)
    replace F_ao0_columns := Fld.other W45 F_ao0_columns (Or.inl ne_ao0_co)
    replace F_ao0_tableau := Fld.other W45 F_ao0_tableau (Or.inl ne_ao0_co)
    replace F_ao0_value := Fld.other W45 F_ao0_value (Or.inl ne_ao0_co)
    replace F_ao0_cost := Fld.other W45 F_ao0_cost (Or.inl ne_ao0_co)
    replace F_ao0_basic := Fld.other W45 F_ao0_basic (Or.inl ne_ao0_co)
    replace F_ao0_nonbasic := Fld.other W45 F_ao0_nonbasic (Or.inl ne_ao0_co)
    replace V_bs := V_bs.other W45 (Ne.symm ne_co_bs)
    replace V_nb := V_nb.other W45 (Ne.symm ne_co_nb)
    replace V_tb := V_tb.other W45 ne_tb_co
    replace V_va := V_va.other W45 ne_va_co
    replace Zs := Nat.le_trans Zs (Keep.of_wr W45).1
    replace Nf := Fr.snoc X45 Nf g_co
    replace Kp := Kp.wr W45 (Or.inl (by simp))
    have V_co : Arv Z h45 co kc .double (2 : Int32) [(.double (FP.ddiv (FP.dneg c0) t0)), (.double (FP.dsub c1 (FP.dmul c0 (FP.ddiv t1 t0))))] (.double 0) := Arv.set Ar45 q45 Sz45 Nn45 Hh45 Gg45 rfl W45 0 rfl (Nat.le_of_ble_eq_true rfl)
    refine own_go (x' := T45.setTop (mkF m 282 #[.val (.ref ao0), .val (.int 0), .val (.int 0), .val (.int 0), .val (.double t0), .second, .val (.long ((2 : Int64) * ((2 : Int32).toInt64))), .second, .val (.double c0), .second, .val (.int 2), .unset, .unset] [(.ref ao0)])) (fun _ k => XS.aloadN X45.here hx rfl (hb hby d7_281) rfl rfl k) ?_
    obtain ⟨T46, X46, e46, st46⟩ := getF X45 hx hZ hown (host := "") (Or.inl (own_w hw 30 rfl)) Via.refl e45 F_ao0_basic (g := (mkF m 282 #[.val (.ref ao0), .val (.int 0), .val (.int 0), .val (.int 0), .val (.double t0), .second, .val (.long ((2 : Int64) * ((2 : Int32).toInt64))), .second, .val (.double c0), .second, .val (.int 2), .unset, .unset] [(.ref ao0)])) rfl rfl (hb hby d7_282)
    refine own_go (x' := T46.setTop (mkF m 285 #[.val (.ref ao0), .val (.int 0), .val (.int 0), .val (.int 0), .val (.double t0), .second, .val (.long ((2 : Int64) * ((2 : Int32).toInt64))), .second, .val (.double c0), .second, .val (.int 2), .unset, .unset] [(.ref bs)])) st46 ?_
    refine own_go (x' := T46.setTop (mkF m 286 #[.val (.ref ao0), .val (.int 0), .val (.int 0), .val (.int 0), .val (.double t0), .second, .val (.long ((2 : Int64) * ((2 : Int32).toInt64))), .second, .val (.double c0), .second, .val (.int 2), .unset, .unset] [(.int 0), (.ref bs)])) (fun _ k => XS.iloadN X46.here hx rfl (hb hby d7_285) rfl k) ?_
    obtain ⟨cl47, Ar47, q47, Sz47, Nn47, Hh47, Gg47⟩ := id V_bs
    have hin47 : ¬ ((0 : Int32) < 0 ∨ cl47.slots.size ≤ ((0 : Int32)).toNatClampNeg) := inb_of Sz47 ⟨by decide, by decide⟩
    refine own_go (x' := T46.setTop (mkF m 287 #[.val (.ref ao0), .val (.int 0), .val (.int 0), .val (.int 0), .val (.double t0), .second, .val (.long ((2 : Int64) * ((2 : Int32).toInt64))), .second, .val (.double c0), .second, .val (.int 2), .unset, .unset] [(.int 2)])) (X46.iaload hx (j := (0 : Int32)) (v := (.int 2)) (Eq.trans (congrArg (fun h_ => h_[_]?) e46) Ar47.1) (State.isArrayOf_alike hZ.alike Ar47.2.1) Ar47.2.2 hin47 (Hh47.at hin47 rfl) (g := (mkF m 286 #[.val (.ref ao0), .val (.int 0), .val (.int 0), .val (.int 0), .val (.double t0), .second, .val (.long ((2 : Int64) * ((2 : Int32).toInt64))), .second, .val (.double c0), .second, .val (.int 2), .unset, .unset] [(.int 0), (.ref bs)])) rfl rfl (hb hby d7_286)) ?_
    refine own_go (x' := T46.setTop (mkF m 290 #[.val (.ref ao0), .val (.int 0), .val (.int 0), .val (.int 0), .val (.double t0), .second, .val (.long ((2 : Int64) * ((2 : Int32).toInt64))), .second, .val (.double c0), .second, .val (.int 2), .unset, .unset] [(.ref ao0)])) (fun _ k => XS.istore X46.here hx rfl (hb hby d7_287) rfl (l' := #[.val (.ref ao0), .val (.int 0), .val (.int 0), .val (.int 0), .val (.double t0), .second, .val (.long ((2 : Int64) * ((2 : Int32).toInt64))), .second, .val (.double c0), .second, .val (.int 2), .unset, .unset]) rfl (XS.aloadN X46.here hx rfl (hb hby d7_289) rfl rfl k)) ?_
    obtain ⟨T48, X48, e48, st48⟩ := getF X46 hx hZ hown (host := "") (Or.inl (own_w hw 30 rfl)) Via.refl e46 F_ao0_basic (g := (mkF m 290 #[.val (.ref ao0), .val (.int 0), .val (.int 0), .val (.int 0), .val (.double t0), .second, .val (.long ((2 : Int64) * ((2 : Int32).toInt64))), .second, .val (.double c0), .second, .val (.int 2), .unset, .unset] [(.ref ao0)])) rfl rfl (hb hby d7_290)
    refine own_go (x' := T48.setTop (mkF m 293 #[.val (.ref ao0), .val (.int 0), .val (.int 0), .val (.int 0), .val (.double t0), .second, .val (.long ((2 : Int64) * ((2 : Int32).toInt64))), .second, .val (.double c0), .second, .val (.int 2), .unset, .unset] [(.ref bs)])) st48 ?_
    refine own_go (x' := T48.setTop (mkF m 295 #[.val (.ref ao0), .val (.int 0), .val (.int 0), .val (.int 0), .val (.double t0), .second, .val (.long ((2 : Int64) * ((2 : Int32).toInt64))), .second, .val (.double c0), .second, .val (.int 2), .unset, .unset] [(.ref ao0), (.int 0), (.ref bs)])) (fun _ k => XS.iloadN X48.here hx rfl (hb hby d7_293) rfl (XS.aloadN X48.here hx rfl (hb hby d7_294) rfl rfl k)) ?_
    obtain ⟨T49, X49, e49, st49⟩ := getF X48 hx hZ hown (host := "") (Or.inl (own_w hw 32 rfl)) Via.refl e48 F_ao0_nonbasic (g := (mkF m 295 #[.val (.ref ao0), .val (.int 0), .val (.int 0), .val (.int 0), .val (.double t0), .second, .val (.long ((2 : Int64) * ((2 : Int32).toInt64))), .second, .val (.double c0), .second, .val (.int 2), .unset, .unset] [(.ref ao0), (.int 0), (.ref bs)])) rfl rfl (hb hby d7_295)
    refine own_go (x' := T49.setTop (mkF m 298 #[.val (.ref ao0), .val (.int 0), .val (.int 0), .val (.int 0), .val (.double t0), .second, .val (.long ((2 : Int64) * ((2 : Int32).toInt64))), .second, .val (.double c0), .second, .val (.int 2), .unset, .unset] [(.ref nb), (.int 0), (.ref bs)])) st49 ?_
    refine own_go (x' := T49.setTop (mkF m 299 #[.val (.ref ao0), .val (.int 0), .val (.int 0), .val (.int 0), .val (.double t0), .second, .val (.long ((2 : Int64) * ((2 : Int32).toInt64))), .second, .val (.double c0), .second, .val (.int 2), .unset, .unset] [(.int 0), (.ref nb), (.int 0), (.ref bs)])) (fun _ k => XS.iloadN X49.here hx rfl (hb hby d7_298) rfl k) ?_
    obtain ⟨cl50, Ar50, q50, Sz50, Nn50, Hh50, Gg50⟩ := id V_nb
    have hin50 : ¬ ((0 : Int32) < 0 ∨ cl50.slots.size ≤ ((0 : Int32)).toNatClampNeg) := inb_of Sz50 ⟨by decide, by decide⟩
    refine own_go (x' := T49.setTop (mkF m 300 #[.val (.ref ao0), .val (.int 0), .val (.int 0), .val (.int 0), .val (.double t0), .second, .val (.long ((2 : Int64) * ((2 : Int32).toInt64))), .second, .val (.double c0), .second, .val (.int 2), .unset, .unset] [(.int 0), (.int 0), (.ref bs)])) (X49.iaload hx (j := (0 : Int32)) (v := (.int 0)) (Eq.trans (congrArg (fun h_ => h_[_]?) e49) Ar50.1) (State.isArrayOf_alike hZ.alike Ar50.2.1) Ar50.2.2 hin50 (Hh50.at hin50 rfl) (g := (mkF m 299 #[.val (.ref ao0), .val (.int 0), .val (.int 0), .val (.int 0), .val (.double t0), .second, .val (.long ((2 : Int64) * ((2 : Int32).toInt64))), .second, .val (.double c0), .second, .val (.int 2), .unset, .unset] [(.int 0), (.ref nb), (.int 0), (.ref bs)])) rfl rfl (hb hby d7_299)) ?_
    obtain ⟨cl51, Ar51, q51, Sz51, Nn51, Hh51, Gg51⟩ := V_bs
    have hin51 : ¬ ((0 : Int32) < 0 ∨ cl51.slots.size ≤ ((0 : Int32)).toNatClampNeg) := inb_of Sz51 ⟨by decide, by decide⟩
    obtain ⟨T51, h51, X51, e51, W51, st51⟩ := stI X49 hx hZ e49 Ar51 (j := (0 : Int32)) hin51 (g := (mkF m 300 #[.val (.ref ao0), .val (.int 0), .val (.int 0), .val (.int 0), .val (.double t0), .second, .val (.long ((2 : Int64) * ((2 : Int32).toInt64))), .second, .val (.double c0), .second, .val (.int 2), .unset, .unset] [(.int 0), (.int 0), (.ref bs)])) rfl rfl (hb hby d7_300)
    refine own_go (x' := T51.setTop (mkF m 301 #[.val (.ref ao0), .val (.int 0), .val (.int 0), .val (.int 0), .val (.double t0), .second, .val (.long ((2 : Int64) * ((2 : Int32).toInt64))), .second, .val (.double c0), .second, .val (.int 2), .unset, .unset] [])) st51 ?_
    replace F_ao0_rows := Fld.other W51 F_ao0_rows (Or.inl ne_ao0_bs)
    replace F_ao0_columns := Fld.other W51 F_ao0_columns (Or.inl ne_ao0_bs)
    replace F_ao0_tableau := Fld.other W51 F_ao0_tableau (Or.inl ne_ao0_bs)
    replace F_ao0_value := Fld.other W51 F_ao0_value (Or.inl ne_ao0_bs)
    replace F_ao0_cost := Fld.other W51 F_ao0_cost (Or.inl ne_ao0_bs)
    replace F_ao0_basic := Fld.other W51 F_ao0_basic (Or.inl ne_ao0_bs)
    replace F_ao0_nonbasic := Fld.other W51 F_ao0_nonbasic (Or.inl ne_ao0_bs)
    replace V_nb := V_nb.other W51 (Ne.symm ne_bs_nb)
    replace V_tb := V_tb.other W51 ne_tb_bs
    replace V_va := V_va.other W51 ne_va_bs
    replace V_co := V_co.other W51 ne_co_bs
    replace Zs := Nat.le_trans Zs (Keep.of_wr W51).1
    replace Nf := Fr.snoc X51 Nf g_bs
    replace Kp := Kp.wr W51 (Or.inl (by simp))
    have V_bs : Arv Z h51 bs kb .int (2 : Int32) [(.int 0), (.int 3)] (.int 0) := Arv.set Ar51 q51 Sz51 Nn51 Hh51 Gg51 rfl W51 0 rfl (Nat.le_of_ble_eq_true rfl)
    refine own_go (x' := T51.setTop (mkF m 302 #[.val (.ref ao0), .val (.int 0), .val (.int 0), .val (.int 0), .val (.double t0), .second, .val (.long ((2 : Int64) * ((2 : Int32).toInt64))), .second, .val (.double c0), .second, .val (.int 2), .unset, .unset] [(.ref ao0)])) (fun _ k => XS.aloadN X51.here hx rfl (hb hby d7_301) rfl rfl k) ?_
    obtain ⟨T52, X52, e52, st52⟩ := getF X51 hx hZ hown (host := "") (Or.inl (own_w hw 32 rfl)) Via.refl e51 F_ao0_nonbasic (g := (mkF m 302 #[.val (.ref ao0), .val (.int 0), .val (.int 0), .val (.int 0), .val (.double t0), .second, .val (.long ((2 : Int64) * ((2 : Int32).toInt64))), .second, .val (.double c0), .second, .val (.int 2), .unset, .unset] [(.ref ao0)])) rfl rfl (hb hby d7_302)
    refine own_go (x' := T52.setTop (mkF m 305 #[.val (.ref ao0), .val (.int 0), .val (.int 0), .val (.int 0), .val (.double t0), .second, .val (.long ((2 : Int64) * ((2 : Int32).toInt64))), .second, .val (.double c0), .second, .val (.int 2), .unset, .unset] [(.ref nb)])) st52 ?_
    refine own_go (x' := T52.setTop (mkF m 308 #[.val (.ref ao0), .val (.int 0), .val (.int 0), .val (.int 0), .val (.double t0), .second, .val (.long ((2 : Int64) * ((2 : Int32).toInt64))), .second, .val (.double c0), .second, .val (.int 2), .unset, .unset] [(.int 2), (.int 0), (.ref nb)])) (fun _ k => XS.iloadN X52.here hx rfl (hb hby d7_305) rfl (XS.iload X52.here hx rfl (hb hby d7_306) rfl k)) ?_
    obtain ⟨cl53, Ar53, q53, Sz53, Nn53, Hh53, Gg53⟩ := V_nb
    have hin53 : ¬ ((0 : Int32) < 0 ∨ cl53.slots.size ≤ ((0 : Int32)).toNatClampNeg) := inb_of Sz53 ⟨by decide, by decide⟩
    obtain ⟨T53, h53, X53, e53, W53, st53⟩ := stI X52 hx hZ e52 Ar53 (j := (0 : Int32)) hin53 (g := (mkF m 308 #[.val (.ref ao0), .val (.int 0), .val (.int 0), .val (.int 0), .val (.double t0), .second, .val (.long ((2 : Int64) * ((2 : Int32).toInt64))), .second, .val (.double c0), .second, .val (.int 2), .unset, .unset] [(.int 2), (.int 0), (.ref nb)])) rfl rfl (hb hby d7_308)
    refine own_go (x' := T53.setTop (mkF m 309 #[.val (.ref ao0), .val (.int 0), .val (.int 0), .val (.int 0), .val (.double t0), .second, .val (.long ((2 : Int64) * ((2 : Int32).toInt64))), .second, .val (.double c0), .second, .val (.int 2), .unset, .unset] [])) st53 ?_
    replace F_ao0_rows := Fld.other W53 F_ao0_rows (Or.inl ne_ao0_nb)
    replace F_ao0_columns := Fld.other W53 F_ao0_columns (Or.inl ne_ao0_nb)
    replace F_ao0_tableau := Fld.other W53 F_ao0_tableau (Or.inl ne_ao0_nb)
    replace F_ao0_value := Fld.other W53 F_ao0_value (Or.inl ne_ao0_nb)
    replace F_ao0_cost := Fld.other W53 F_ao0_cost (Or.inl ne_ao0_nb)
    replace F_ao0_basic := Fld.other W53 F_ao0_basic (Or.inl ne_ao0_nb)
    replace F_ao0_nonbasic := Fld.other W53 F_ao0_nonbasic (Or.inl ne_ao0_nb)
    replace V_tb := V_tb.other W53 ne_tb_nb
    replace V_va := V_va.other W53 ne_va_nb
    replace V_co := V_co.other W53 ne_co_nb
    replace V_bs := V_bs.other W53 ne_bs_nb
    replace Zs := Nat.le_trans Zs (Keep.of_wr W53).1
    replace Nf := Fr.snoc X53 Nf g_nb
    replace Kp := Kp.wr W53 (Or.inl (by simp))
    have V_nb : Arv Z h53 nb kn .int (2 : Int32) [(.int 2), (.int 1)] (.int 0) := Arv.set Ar53 q53 Sz53 Nn53 Hh53 Gg53 rfl W53 0 rfl (Nat.le_of_ble_eq_true rfl)
    refine own_go (x' := T53.setTop (mkF m 311 #[.val (.ref ao0), .val (.int 0), .val (.int 0), .val (.int 0), .val (.double t0), .second, .val (.long ((2 : Int64) * ((2 : Int32).toInt64))), .second, .val (.double c0), .second, .val (.int 2), .unset, .unset] [(.long ((2 : Int64) * ((2 : Int32).toInt64)))])) (fun _ k => XS.lload X53.here hx rfl (hb hby d7_309) rfl k) ?_
    refine own_retJ X53 hx hlk hret (hb hby d7_311) ?_ (by decide) (by decide)
    rw [e53]
    exact Or.inl ⟨hc125, by rw [show ((2 : Int64) * ((2 : Int32).toInt64)) = (4 : Int64) from by decide], Nf, Kp, V_tb, V_va, V_co, V_bs, V_nb⟩
  · refine own_go (x' := T26.setTop (mkF m 134 #[.val (.ref ao0), .val (.int 0), .val (.int 0), .val (.int 0), .val (.double t0), .second, .val (.long ((2 : Int64) * ((2 : Int32).toInt64))), .second, .val (.int 1), .val (.int 2), .val (.double t2), .second, .val (.int 0)] [(.ref ao0), (.int 0)])) (fun _ k => XS.ifNo X26.here hx rfl (hb hby d7_125) rfl ((if0 _ _).trans (feq hc125).1) (XS.iconst X26.here hx rfl (hb hby d7_128) (XS.istore X26.here hx rfl (hb hby d7_129) rfl (l' := #[.val (.ref ao0), .val (.int 0), .val (.int 0), .val (.int 0), .val (.double t0), .second, .val (.long ((2 : Int64) * ((2 : Int32).toInt64))), .second, .val (.int 1), .val (.int 2), .val (.double t2), .second, .val (.int 0)]) rfl (XS.iload X26.here hx rfl (hb hby d7_131) rfl (XS.aloadN X26.here hx rfl (hb hby d7_133) rfl rfl k))))) ?_
    obtain ⟨T54, X54, e54, st54⟩ := getF X26 hx hZ hown (host := "") (Or.inl (own_w hw 12 rfl)) Via.refl e26 F_ao0_columns (g := (mkF m 134 #[.val (.ref ao0), .val (.int 0), .val (.int 0), .val (.int 0), .val (.double t0), .second, .val (.long ((2 : Int64) * ((2 : Int32).toInt64))), .second, .val (.int 1), .val (.int 2), .val (.double t2), .second, .val (.int 0)] [(.ref ao0), (.int 0)])) rfl rfl (hb hby d7_134)
    refine own_go (x' := T54.setTop (mkF m 137 #[.val (.ref ao0), .val (.int 0), .val (.int 0), .val (.int 0), .val (.double t0), .second, .val (.long ((2 : Int64) * ((2 : Int32).toInt64))), .second, .val (.int 1), .val (.int 2), .val (.double t2), .second, .val (.int 0)] [(.int 2), (.int 0)])) st54 ?_
    refine own_go (x' := T54.setTop (mkF m 141 #[.val (.ref ao0), .val (.int 0), .val (.int 0), .val (.int 0), .val (.double t0), .second, .val (.long ((2 : Int64) * ((2 : Int32).toInt64))), .second, .val (.int 1), .val (.int 2), .val (.double t2), .second, .val (.int 0)] [(.ref ao0)])) (fun _ k => XS.icmpNo X54.here hx rfl (hb hby d7_137) rfl (tlt (by decide +kernel : ((0 : Int32) < (2 : Int32)))).2.1 (XS.aloadN X54.here hx rfl (hb hby d7_140) rfl rfl k)) ?_
    obtain ⟨T55, X55, e55, st55⟩ := getF X54 hx hZ hown (host := "") (Or.inl (own_w hw 14 rfl)) Via.refl e54 F_ao0_tableau (g := (mkF m 141 #[.val (.ref ao0), .val (.int 0), .val (.int 0), .val (.int 0), .val (.double t0), .second, .val (.long ((2 : Int64) * ((2 : Int32).toInt64))), .second, .val (.int 1), .val (.int 2), .val (.double t2), .second, .val (.int 0)] [(.ref ao0)])) rfl rfl (hb hby d7_141)
    refine own_go (x' := T55.setTop (mkF m 144 #[.val (.ref ao0), .val (.int 0), .val (.int 0), .val (.int 0), .val (.double t0), .second, .val (.long ((2 : Int64) * ((2 : Int32).toInt64))), .second, .val (.int 1), .val (.int 2), .val (.double t2), .second, .val (.int 0)] [(.ref tb)])) st55 ?_
    refine own_go (x' := T55.setTop (mkF m 149 #[.val (.ref ao0), .val (.int 0), .val (.int 0), .val (.int 0), .val (.double t0), .second, .val (.long ((2 : Int64) * ((2 : Int32).toInt64))), .second, .val (.int 1), .val (.int 2), .val (.double t2), .second, .val (.int 0)] [(.int ((2 : Int32) + (0 : Int32))), (.ref tb)])) (fun _ k => XS.iload X55.here hx rfl (hb hby d7_144) rfl (XS.iload X55.here hx rfl (hb hby d7_146) rfl (XS.iadd X55.here hx rfl (hb hby d7_148) rfl k))) ?_
    rw [show ((2 : Int32) + (0 : Int32)) = (2 : Int32) from by decide +kernel]
    refine own_go (x' := T55.setTop (mkF m 150 #[.val (.ref ao0), .val (.int 0), .val (.int 0), .val (.int 0), .val (.double t0), .second, .val (.long ((2 : Int64) * ((2 : Int32).toInt64))), .second, .val (.int 1), .val (.int 2), .val (.double t2), .second, .val (.int 0)] [(.int 2), (.ref tb), (.int 2), (.ref tb)])) (fun _ k => Jvm.Free.XT.dup2 X55.here hx rfl (hb hby d7_149) rfl rfl rfl k) ?_
    obtain ⟨cl56, Ar56, q56, Sz56, Nn56, Hh56, Gg56⟩ := id V_tb
    have hin56 : ¬ ((2 : Int32) < 0 ∨ cl56.slots.size ≤ ((2 : Int32)).toNatClampNeg) := inb_of Sz56 ⟨by decide, by decide⟩
    refine own_go (x' := T55.setTop (mkF m 151 #[.val (.ref ao0), .val (.int 0), .val (.int 0), .val (.int 0), .val (.double t0), .second, .val (.long ((2 : Int64) * ((2 : Int32).toInt64))), .second, .val (.int 1), .val (.int 2), .val (.double t2), .second, .val (.int 0)] [(.double t2), (.int 2), (.ref tb)])) (X55.daload hx (j := (2 : Int32)) (v := (.double t2)) (Eq.trans (congrArg (fun h_ => h_[_]?) e55) Ar56.1) (State.isArrayOf_alike hZ.alike Ar56.2.1) Ar56.2.2 hin56 (Hh56.at hin56 rfl) (g := (mkF m 150 #[.val (.ref ao0), .val (.int 0), .val (.int 0), .val (.int 0), .val (.double t0), .second, .val (.long ((2 : Int64) * ((2 : Int32).toInt64))), .second, .val (.int 1), .val (.int 2), .val (.double t2), .second, .val (.int 0)] [(.int 2), (.ref tb), (.int 2), (.ref tb)])) rfl rfl (hb hby d7_150)) ?_
    refine own_go (x' := T55.setTop (mkF m 154 #[.val (.ref ao0), .val (.int 0), .val (.int 0), .val (.int 0), .val (.double t0), .second, .val (.long ((2 : Int64) * ((2 : Int32).toInt64))), .second, .val (.int 1), .val (.int 2), .val (.double t2), .second, .val (.int 0)] [(.ref ao0), (.double t2), (.double t2), (.int 2), (.ref tb)])) (fun _ k => XS.dload X55.here hx rfl (hb hby d7_151) rfl (XS.aloadN X55.here hx rfl (hb hby d7_153) rfl rfl k)) ?_
    obtain ⟨T57, X57, e57, st57⟩ := getF X55 hx hZ hown (host := "") (Or.inl (own_w hw 14 rfl)) Via.refl e55 F_ao0_tableau (g := (mkF m 154 #[.val (.ref ao0), .val (.int 0), .val (.int 0), .val (.int 0), .val (.double t0), .second, .val (.long ((2 : Int64) * ((2 : Int32).toInt64))), .second, .val (.int 1), .val (.int 2), .val (.double t2), .second, .val (.int 0)] [(.ref ao0), (.double t2), (.double t2), (.int 2), (.ref tb)])) rfl rfl (hb hby d7_154)
    refine own_go (x' := T57.setTop (mkF m 157 #[.val (.ref ao0), .val (.int 0), .val (.int 0), .val (.int 0), .val (.double t0), .second, .val (.long ((2 : Int64) * ((2 : Int32).toInt64))), .second, .val (.int 1), .val (.int 2), .val (.double t2), .second, .val (.int 0)] [(.ref tb), (.double t2), (.double t2), (.int 2), (.ref tb)])) st57 ?_
    refine own_go (x' := T57.setTop (mkF m 161 #[.val (.ref ao0), .val (.int 0), .val (.int 0), .val (.int 0), .val (.double t0), .second, .val (.long ((2 : Int64) * ((2 : Int32).toInt64))), .second, .val (.int 1), .val (.int 2), .val (.double t2), .second, .val (.int 0)] [(.int ((0 : Int32) + (0 : Int32))), (.ref tb), (.double t2), (.double t2), (.int 2), (.ref tb)])) (fun _ k => XS.iloadN X57.here hx rfl (hb hby d7_157) rfl (XS.iload X57.here hx rfl (hb hby d7_158) rfl (XS.iadd X57.here hx rfl (hb hby d7_160) rfl k))) ?_
    rw [show ((0 : Int32) + (0 : Int32)) = (0 : Int32) from by decide +kernel]
    obtain ⟨cl58, Ar58, q58, Sz58, Nn58, Hh58, Gg58⟩ := id V_tb
    have hin58 : ¬ ((0 : Int32) < 0 ∨ cl58.slots.size ≤ ((0 : Int32)).toNatClampNeg) := inb_of Sz58 ⟨by decide, by decide⟩
    refine own_go (x' := T57.setTop (mkF m 162 #[.val (.ref ao0), .val (.int 0), .val (.int 0), .val (.int 0), .val (.double t0), .second, .val (.long ((2 : Int64) * ((2 : Int32).toInt64))), .second, .val (.int 1), .val (.int 2), .val (.double t2), .second, .val (.int 0)] [(.double (FP.ddiv (4607182418800017408 : UInt64) t0)), (.double t2), (.double t2), (.int 2), (.ref tb)])) (X57.daload hx (j := (0 : Int32)) (v := (.double (FP.ddiv (4607182418800017408 : UInt64) t0))) (Eq.trans (congrArg (fun h_ => h_[_]?) e57) Ar58.1) (State.isArrayOf_alike hZ.alike Ar58.2.1) Ar58.2.2 hin58 (Hh58.at hin58 rfl) (g := (mkF m 161 #[.val (.ref ao0), .val (.int 0), .val (.int 0), .val (.int 0), .val (.double t0), .second, .val (.long ((2 : Int64) * ((2 : Int32).toInt64))), .second, .val (.int 1), .val (.int 2), .val (.double t2), .second, .val (.int 0)] [(.int 0), (.ref tb), (.double t2), (.double t2), (.int 2), (.ref tb)])) rfl rfl (hb hby d7_161)) ?_
    refine own_go (x' := T57.setTop (mkF m 164 #[.val (.ref ao0), .val (.int 0), .val (.int 0), .val (.int 0), .val (.double t0), .second, .val (.long ((2 : Int64) * ((2 : Int32).toInt64))), .second, .val (.int 1), .val (.int 2), .val (.double t2), .second, .val (.int 0)] [(.double (FP.dsub t2 (FP.dmul t2 (FP.ddiv (4607182418800017408 : UInt64) t0)))), (.int 2), (.ref tb)])) (fun _ k => XS.dmulS X57.here hx rfl (hb hby d7_162) rfl (own_nn (Jvm.Free.Fl.dmul_mag m_t2 (ddiv_mag own_m1 b_t0 (by decide) (by decide)) (by decide) (by decide))) rfl (XS.dsubS X57.here hx rfl (hb hby d7_163) rfl (own_nn (Jvm.Free.Fl.dsub_mag (m_t2.mono (by decide : 1056 ≤ 1059)) ((Jvm.Free.Fl.dmul_mag m_t2 (ddiv_mag own_m1 b_t0 (by decide) (by decide)) (by decide) (by decide)).mono (by decide : 1059 ≤ 1059)) (by decide))) rfl k)) ?_
    obtain ⟨cl59, Ar59, q59, Sz59, Nn59, Hh59, Gg59⟩ := V_tb
    have hin59 : ¬ ((2 : Int32) < 0 ∨ cl59.slots.size ≤ ((2 : Int32)).toNatClampNeg) := inb_of Sz59 ⟨by decide, by decide⟩
    obtain ⟨T59, h59, X59, e59, W59, st59⟩ := stD X57 hx hZ e57 Ar59 (j := (2 : Int32)) hin59 (g := (mkF m 164 #[.val (.ref ao0), .val (.int 0), .val (.int 0), .val (.int 0), .val (.double t0), .second, .val (.long ((2 : Int64) * ((2 : Int32).toInt64))), .second, .val (.int 1), .val (.int 2), .val (.double t2), .second, .val (.int 0)] [(.double (FP.dsub t2 (FP.dmul t2 (FP.ddiv (4607182418800017408 : UInt64) t0)))), (.int 2), (.ref tb)])) rfl rfl (hb hby d7_164)
    refine own_go (x' := T59.setTop (mkF m 165 #[.val (.ref ao0), .val (.int 0), .val (.int 0), .val (.int 0), .val (.double t0), .second, .val (.long ((2 : Int64) * ((2 : Int32).toInt64))), .second, .val (.int 1), .val (.int 2), .val (.double t2), .second, .val (.int 0)] [])) st59 ?_
    replace F_ao0_rows := Fld.other W59 F_ao0_rows (Or.inl ne_ao0_tb)
    replace F_ao0_columns := Fld.other W59 F_ao0_columns (Or.inl ne_ao0_tb)
    replace F_ao0_tableau := Fld.other W59 F_ao0_tableau (Or.inl ne_ao0_tb)
    replace F_ao0_value := Fld.other W59 F_ao0_value (Or.inl ne_ao0_tb)
    replace F_ao0_cost := Fld.other W59 F_ao0_cost (Or.inl ne_ao0_tb)
    replace F_ao0_basic := Fld.other W59 F_ao0_basic (Or.inl ne_ao0_tb)
    replace F_ao0_nonbasic := Fld.other W59 F_ao0_nonbasic (Or.inl ne_ao0_tb)
    replace V_co := V_co.other W59 (Ne.symm ne_tb_co)
    replace V_bs := V_bs.other W59 (Ne.symm ne_tb_bs)
    replace V_nb := V_nb.other W59 (Ne.symm ne_tb_nb)
    replace V_va := V_va.other W59 (Ne.symm ne_tb_va)
    replace Zs := Nat.le_trans Zs (Keep.of_wr W59).1
    replace Nf := Fr.snoc X59 Nf g_tb
    replace Kp := Kp.wr W59 (Or.inl (by simp))
    have V_tb : Arv Z h59 tb kt .double (4 : Int32) [(.double (FP.ddiv (4607182418800017408 : UInt64) t0)), (.double (FP.ddiv t1 t0)), (.double (FP.dsub t2 (FP.dmul t2 (FP.ddiv (4607182418800017408 : UInt64) t0)))), (.double t3)] (.double 0) := Arv.set Ar59 q59 Sz59 Nn59 Hh59 Gg59 rfl W59 2 rfl (Nat.le_of_ble_eq_true rfl)
    refine own_go (x' := T59.setTop (mkF m 131 #[.val (.ref ao0), .val (.int 0), .val (.int 0), .val (.int 0), .val (.double t0), .second, .val (.long ((2 : Int64) * ((2 : Int32).toInt64))), .second, .val (.int 1), .val (.int 2), .val (.double t2), .second, .val (.int ((0 : Int32) + (1 : Int32)))] [])) (fun _ k => XS.iinc X59.here hx rfl (hb hby d7_165) rfl (l' := #[.val (.ref ao0), .val (.int 0), .val (.int 0), .val (.int 0), .val (.double t0), .second, .val (.long ((2 : Int64) * ((2 : Int32).toInt64))), .second, .val (.int 1), .val (.int 2), .val (.double t2), .second, .val (.int ((0 : Int32) + (1 : Int32)))]) rfl (XS.goto X59.here hx rfl (pc0 := 168) (pc' := 131) rfl (hb hby d7_168) (by decide) (by decide) k)) ?_
    rw [show ((0 : Int32) + (1 : Int32)) = (1 : Int32) from by decide +kernel]
    refine own_go (x' := T59.setTop (mkF m 134 #[.val (.ref ao0), .val (.int 0), .val (.int 0), .val (.int 0), .val (.double t0), .second, .val (.long ((2 : Int64) * ((2 : Int32).toInt64))), .second, .val (.int 1), .val (.int 2), .val (.double t2), .second, .val (.int 1)] [(.ref ao0), (.int 1)])) (fun _ k => XS.iload X59.here hx rfl (hb hby d7_131) rfl (XS.aloadN X59.here hx rfl (hb hby d7_133) rfl rfl k)) ?_
    obtain ⟨T60, X60, e60, st60⟩ := getF X59 hx hZ hown (host := "") (Or.inl (own_w hw 12 rfl)) Via.refl e59 F_ao0_columns (g := (mkF m 134 #[.val (.ref ao0), .val (.int 0), .val (.int 0), .val (.int 0), .val (.double t0), .second, .val (.long ((2 : Int64) * ((2 : Int32).toInt64))), .second, .val (.int 1), .val (.int 2), .val (.double t2), .second, .val (.int 1)] [(.ref ao0), (.int 1)])) rfl rfl (hb hby d7_134)
    refine own_go (x' := T60.setTop (mkF m 137 #[.val (.ref ao0), .val (.int 0), .val (.int 0), .val (.int 0), .val (.double t0), .second, .val (.long ((2 : Int64) * ((2 : Int32).toInt64))), .second, .val (.int 1), .val (.int 2), .val (.double t2), .second, .val (.int 1)] [(.int 2), (.int 1)])) st60 ?_
    refine own_go (x' := T60.setTop (mkF m 141 #[.val (.ref ao0), .val (.int 0), .val (.int 0), .val (.int 0), .val (.double t0), .second, .val (.long ((2 : Int64) * ((2 : Int32).toInt64))), .second, .val (.int 1), .val (.int 2), .val (.double t2), .second, .val (.int 1)] [(.ref ao0)])) (fun _ k => XS.icmpNo X60.here hx rfl (hb hby d7_137) rfl (tlt (by decide +kernel : ((1 : Int32) < (2 : Int32)))).2.1 (XS.aloadN X60.here hx rfl (hb hby d7_140) rfl rfl k)) ?_
    obtain ⟨T61, X61, e61, st61⟩ := getF X60 hx hZ hown (host := "") (Or.inl (own_w hw 14 rfl)) Via.refl e60 F_ao0_tableau (g := (mkF m 141 #[.val (.ref ao0), .val (.int 0), .val (.int 0), .val (.int 0), .val (.double t0), .second, .val (.long ((2 : Int64) * ((2 : Int32).toInt64))), .second, .val (.int 1), .val (.int 2), .val (.double t2), .second, .val (.int 1)] [(.ref ao0)])) rfl rfl (hb hby d7_141)
    refine own_go (x' := T61.setTop (mkF m 144 #[.val (.ref ao0), .val (.int 0), .val (.int 0), .val (.int 0), .val (.double t0), .second, .val (.long ((2 : Int64) * ((2 : Int32).toInt64))), .second, .val (.int 1), .val (.int 2), .val (.double t2), .second, .val (.int 1)] [(.ref tb)])) st61 ?_
    refine own_go (x' := T61.setTop (mkF m 149 #[.val (.ref ao0), .val (.int 0), .val (.int 0), .val (.int 0), .val (.double t0), .second, .val (.long ((2 : Int64) * ((2 : Int32).toInt64))), .second, .val (.int 1), .val (.int 2), .val (.double t2), .second, .val (.int 1)] [(.int ((2 : Int32) + (1 : Int32))), (.ref tb)])) (fun _ k => XS.iload X61.here hx rfl (hb hby d7_144) rfl (XS.iload X61.here hx rfl (hb hby d7_146) rfl (XS.iadd X61.here hx rfl (hb hby d7_148) rfl k))) ?_
    rw [show ((2 : Int32) + (1 : Int32)) = (3 : Int32) from by decide +kernel]
    refine own_go (x' := T61.setTop (mkF m 150 #[.val (.ref ao0), .val (.int 0), .val (.int 0), .val (.int 0), .val (.double t0), .second, .val (.long ((2 : Int64) * ((2 : Int32).toInt64))), .second, .val (.int 1), .val (.int 2), .val (.double t2), .second, .val (.int 1)] [(.int 3), (.ref tb), (.int 3), (.ref tb)])) (fun _ k => Jvm.Free.XT.dup2 X61.here hx rfl (hb hby d7_149) rfl rfl rfl k) ?_
    obtain ⟨cl62, Ar62, q62, Sz62, Nn62, Hh62, Gg62⟩ := id V_tb
    have hin62 : ¬ ((3 : Int32) < 0 ∨ cl62.slots.size ≤ ((3 : Int32)).toNatClampNeg) := inb_of Sz62 ⟨by decide, by decide⟩
    refine own_go (x' := T61.setTop (mkF m 151 #[.val (.ref ao0), .val (.int 0), .val (.int 0), .val (.int 0), .val (.double t0), .second, .val (.long ((2 : Int64) * ((2 : Int32).toInt64))), .second, .val (.int 1), .val (.int 2), .val (.double t2), .second, .val (.int 1)] [(.double t3), (.int 3), (.ref tb)])) (X61.daload hx (j := (3 : Int32)) (v := (.double t3)) (Eq.trans (congrArg (fun h_ => h_[_]?) e61) Ar62.1) (State.isArrayOf_alike hZ.alike Ar62.2.1) Ar62.2.2 hin62 (Hh62.at hin62 rfl) (g := (mkF m 150 #[.val (.ref ao0), .val (.int 0), .val (.int 0), .val (.int 0), .val (.double t0), .second, .val (.long ((2 : Int64) * ((2 : Int32).toInt64))), .second, .val (.int 1), .val (.int 2), .val (.double t2), .second, .val (.int 1)] [(.int 3), (.ref tb), (.int 3), (.ref tb)])) rfl rfl (hb hby d7_150)) ?_
    refine own_go (x' := T61.setTop (mkF m 154 #[.val (.ref ao0), .val (.int 0), .val (.int 0), .val (.int 0), .val (.double t0), .second, .val (.long ((2 : Int64) * ((2 : Int32).toInt64))), .second, .val (.int 1), .val (.int 2), .val (.double t2), .second, .val (.int 1)] [(.ref ao0), (.double t2), (.double t3), (.int 3), (.ref tb)])) (fun _ k => XS.dload X61.here hx rfl (hb hby d7_151) rfl (XS.aloadN X61.here hx rfl (hb hby d7_153) rfl rfl k)) ?_
    obtain ⟨T63, X63, e63, st63⟩ := getF X61 hx hZ hown (host := "") (Or.inl (own_w hw 14 rfl)) Via.refl e61 F_ao0_tableau (g := (mkF m 154 #[.val (.ref ao0), .val (.int 0), .val (.int 0), .val (.int 0), .val (.double t0), .second, .val (.long ((2 : Int64) * ((2 : Int32).toInt64))), .second, .val (.int 1), .val (.int 2), .val (.double t2), .second, .val (.int 1)] [(.ref ao0), (.double t2), (.double t3), (.int 3), (.ref tb)])) rfl rfl (hb hby d7_154)
    refine own_go (x' := T63.setTop (mkF m 157 #[.val (.ref ao0), .val (.int 0), .val (.int 0), .val (.int 0), .val (.double t0), .second, .val (.long ((2 : Int64) * ((2 : Int32).toInt64))), .second, .val (.int 1), .val (.int 2), .val (.double t2), .second, .val (.int 1)] [(.ref tb), (.double t2), (.double t3), (.int 3), (.ref tb)])) st63 ?_
    refine own_go (x' := T63.setTop (mkF m 161 #[.val (.ref ao0), .val (.int 0), .val (.int 0), .val (.int 0), .val (.double t0), .second, .val (.long ((2 : Int64) * ((2 : Int32).toInt64))), .second, .val (.int 1), .val (.int 2), .val (.double t2), .second, .val (.int 1)] [(.int ((0 : Int32) + (1 : Int32))), (.ref tb), (.double t2), (.double t3), (.int 3), (.ref tb)])) (fun _ k => XS.iloadN X63.here hx rfl (hb hby d7_157) rfl (XS.iload X63.here hx rfl (hb hby d7_158) rfl (XS.iadd X63.here hx rfl (hb hby d7_160) rfl k))) ?_
    rw [show ((0 : Int32) + (1 : Int32)) = (1 : Int32) from by decide +kernel]
    obtain ⟨cl64, Ar64, q64, Sz64, Nn64, Hh64, Gg64⟩ := id V_tb
    have hin64 : ¬ ((1 : Int32) < 0 ∨ cl64.slots.size ≤ ((1 : Int32)).toNatClampNeg) := inb_of Sz64 ⟨by decide, by decide⟩
    refine own_go (x' := T63.setTop (mkF m 162 #[.val (.ref ao0), .val (.int 0), .val (.int 0), .val (.int 0), .val (.double t0), .second, .val (.long ((2 : Int64) * ((2 : Int32).toInt64))), .second, .val (.int 1), .val (.int 2), .val (.double t2), .second, .val (.int 1)] [(.double (FP.ddiv t1 t0)), (.double t2), (.double t3), (.int 3), (.ref tb)])) (X63.daload hx (j := (1 : Int32)) (v := (.double (FP.ddiv t1 t0))) (Eq.trans (congrArg (fun h_ => h_[_]?) e63) Ar64.1) (State.isArrayOf_alike hZ.alike Ar64.2.1) Ar64.2.2 hin64 (Hh64.at hin64 rfl) (g := (mkF m 161 #[.val (.ref ao0), .val (.int 0), .val (.int 0), .val (.int 0), .val (.double t0), .second, .val (.long ((2 : Int64) * ((2 : Int32).toInt64))), .second, .val (.int 1), .val (.int 2), .val (.double t2), .second, .val (.int 1)] [(.int 1), (.ref tb), (.double t2), (.double t3), (.int 3), (.ref tb)])) rfl rfl (hb hby d7_161)) ?_
    refine own_go (x' := T63.setTop (mkF m 164 #[.val (.ref ao0), .val (.int 0), .val (.int 0), .val (.int 0), .val (.double t0), .second, .val (.long ((2 : Int64) * ((2 : Int32).toInt64))), .second, .val (.int 1), .val (.int 2), .val (.double t2), .second, .val (.int 1)] [(.double (FP.dsub t3 (FP.dmul t2 (FP.ddiv t1 t0)))), (.int 3), (.ref tb)])) (fun _ k => XS.dmulS X63.here hx rfl (hb hby d7_162) rfl (own_nn (Jvm.Free.Fl.dmul_mag m_t2 (ddiv_mag m_t1 b_t0 (by decide) (by decide)) (by decide) (by decide))) rfl (XS.dsubS X63.here hx rfl (hb hby d7_163) rfl (own_nn (Jvm.Free.Fl.dsub_mag (m_t3.mono (by decide : 1056 ≤ 1091)) ((Jvm.Free.Fl.dmul_mag m_t2 (ddiv_mag m_t1 b_t0 (by decide) (by decide)) (by decide) (by decide)).mono (by decide : 1091 ≤ 1091)) (by decide))) rfl k)) ?_
    obtain ⟨cl65, Ar65, q65, Sz65, Nn65, Hh65, Gg65⟩ := V_tb
    have hin65 : ¬ ((3 : Int32) < 0 ∨ cl65.slots.size ≤ ((3 : Int32)).toNatClampNeg) := inb_of Sz65 ⟨by decide, by decide⟩
    obtain ⟨T65, h65, X65, e65, W65, st65⟩ := stD X63 hx hZ e63 Ar65 (j := (3 : Int32)) hin65 (g := (mkF m 164 #[.val (.ref ao0), .val (.int 0), .val (.int 0), .val (.int 0), .val (.double t0), .second, .val (.long ((2 : Int64) * ((2 : Int32).toInt64))), .second, .val (.int 1), .val (.int 2), .val (.double t2), .second, .val (.int 1)] [(.double (FP.dsub t3 (FP.dmul t2 (FP.ddiv t1 t0)))), (.int 3), (.ref tb)])) rfl rfl (hb hby d7_164)
    refine own_go (x' := T65.setTop (mkF m 165 #[.val (.ref ao0), .val (.int 0), .val (.int 0), .val (.int 0), .val (.double t0), .second, .val (.long ((2 : Int64) * ((2 : Int32).toInt64))), .second, .val (.int 1), .val (.int 2), .val (.double t2), .second, .val (.int 1)] [])) st65 ?_
    replace F_ao0_rows := Fld.other W65 F_ao0_rows (Or.inl ne_ao0_tb)
    replace F_ao0_columns := Fld.other W65 F_ao0_columns (Or.inl ne_ao0_tb)
    replace F_ao0_tableau := Fld.other W65 F_ao0_tableau (Or.inl ne_ao0_tb)
    replace F_ao0_value := Fld.other W65 F_ao0_value (Or.inl ne_ao0_tb)
    replace F_ao0_cost := Fld.other W65 F_ao0_cost (Or.inl ne_ao0_tb)
    replace F_ao0_basic := Fld.other W65 F_ao0_basic (Or.inl ne_ao0_tb)
    replace F_ao0_nonbasic := Fld.other W65 F_ao0_nonbasic (Or.inl ne_ao0_tb)
    replace V_co := V_co.other W65 (Ne.symm ne_tb_co)
    replace V_bs := V_bs.other W65 (Ne.symm ne_tb_bs)
    replace V_nb := V_nb.other W65 (Ne.symm ne_tb_nb)
    replace V_va := V_va.other W65 (Ne.symm ne_tb_va)
    replace Zs := Nat.le_trans Zs (Keep.of_wr W65).1
    replace Nf := Fr.snoc X65 Nf g_tb
    replace Kp := Kp.wr W65 (Or.inl (by simp))
    have V_tb : Arv Z h65 tb kt .double (4 : Int32) [(.double (FP.ddiv (4607182418800017408 : UInt64) t0)), (.double (FP.ddiv t1 t0)), (.double (FP.dsub t2 (FP.dmul t2 (FP.ddiv (4607182418800017408 : UInt64) t0)))), (.double (FP.dsub t3 (FP.dmul t2 (FP.ddiv t1 t0))))] (.double 0) := Arv.set Ar65 q65 Sz65 Nn65 Hh65 Gg65 rfl W65 3 rfl (Nat.le_of_ble_eq_true rfl)
    refine own_go (x' := T65.setTop (mkF m 131 #[.val (.ref ao0), .val (.int 0), .val (.int 0), .val (.int 0), .val (.double t0), .second, .val (.long ((2 : Int64) * ((2 : Int32).toInt64))), .second, .val (.int 1), .val (.int 2), .val (.double t2), .second, .val (.int ((1 : Int32) + (1 : Int32)))] [])) (fun _ k => XS.iinc X65.here hx rfl (hb hby d7_165) rfl (l' := #[.val (.ref ao0), .val (.int 0), .val (.int 0), .val (.int 0), .val (.double t0), .second, .val (.long ((2 : Int64) * ((2 : Int32).toInt64))), .second, .val (.int 1), .val (.int 2), .val (.double t2), .second, .val (.int ((1 : Int32) + (1 : Int32)))]) rfl (XS.goto X65.here hx rfl (pc0 := 168) (pc' := 131) rfl (hb hby d7_168) (by decide) (by decide) k)) ?_
    rw [show ((1 : Int32) + (1 : Int32)) = (2 : Int32) from by decide +kernel]
    refine own_go (x' := T65.setTop (mkF m 134 #[.val (.ref ao0), .val (.int 0), .val (.int 0), .val (.int 0), .val (.double t0), .second, .val (.long ((2 : Int64) * ((2 : Int32).toInt64))), .second, .val (.int 1), .val (.int 2), .val (.double t2), .second, .val (.int 2)] [(.ref ao0), (.int 2)])) (fun _ k => XS.iload X65.here hx rfl (hb hby d7_131) rfl (XS.aloadN X65.here hx rfl (hb hby d7_133) rfl rfl k)) ?_
    obtain ⟨T66, X66, e66, st66⟩ := getF X65 hx hZ hown (host := "") (Or.inl (own_w hw 12 rfl)) Via.refl e65 F_ao0_columns (g := (mkF m 134 #[.val (.ref ao0), .val (.int 0), .val (.int 0), .val (.int 0), .val (.double t0), .second, .val (.long ((2 : Int64) * ((2 : Int32).toInt64))), .second, .val (.int 1), .val (.int 2), .val (.double t2), .second, .val (.int 2)] [(.ref ao0), (.int 2)])) rfl rfl (hb hby d7_134)
    refine own_go (x' := T66.setTop (mkF m 137 #[.val (.ref ao0), .val (.int 0), .val (.int 0), .val (.int 0), .val (.double t0), .second, .val (.long ((2 : Int64) * ((2 : Int32).toInt64))), .second, .val (.int 1), .val (.int 2), .val (.double t2), .second, .val (.int 2)] [(.int 2), (.int 2)])) st66 ?_
    refine own_go (x' := T66.setTop (mkF m 172 #[.val (.ref ao0), .val (.int 0), .val (.int 0), .val (.int 0), .val (.double t0), .second, .val (.long ((2 : Int64) * ((2 : Int32).toInt64))), .second, .val (.int 1), .val (.int 2), .val (.double t2), .second, .val (.int 2)] [(.ref ao0)])) (fun _ k => XS.icmpYes X66.here hx rfl (pc0 := 137) (pc' := 171) rfl (hb hby d7_137) rfl (flt (Int32.lt_irrefl)).2.1 (by decide) (by decide) (XS.aloadN X66.here hx rfl (hb hby d7_171) rfl rfl k)) ?_
    obtain ⟨T67, X67, e67, st67⟩ := getF X66 hx hZ hown (host := "") (Or.inl (own_w hw 14 rfl)) Via.refl e66 F_ao0_tableau (g := (mkF m 172 #[.val (.ref ao0), .val (.int 0), .val (.int 0), .val (.int 0), .val (.double t0), .second, .val (.long ((2 : Int64) * ((2 : Int32).toInt64))), .second, .val (.int 1), .val (.int 2), .val (.double t2), .second, .val (.int 2)] [(.ref ao0)])) rfl rfl (hb hby d7_172)
    refine own_go (x' := T67.setTop (mkF m 175 #[.val (.ref ao0), .val (.int 0), .val (.int 0), .val (.int 0), .val (.double t0), .second, .val (.long ((2 : Int64) * ((2 : Int32).toInt64))), .second, .val (.int 1), .val (.int 2), .val (.double t2), .second, .val (.int 2)] [(.ref tb)])) st67 ?_
    refine own_go (x' := T67.setTop (mkF m 179 #[.val (.ref ao0), .val (.int 0), .val (.int 0), .val (.int 0), .val (.double t0), .second, .val (.long ((2 : Int64) * ((2 : Int32).toInt64))), .second, .val (.int 1), .val (.int 2), .val (.double t2), .second, .val (.int 2)] [(.int ((2 : Int32) + (0 : Int32))), (.ref tb)])) (fun _ k => XS.iload X67.here hx rfl (hb hby d7_175) rfl (XS.iloadN X67.here hx rfl (hb hby d7_177) rfl (XS.iadd X67.here hx rfl (hb hby d7_178) rfl k))) ?_
    rw [show ((2 : Int32) + (0 : Int32)) = (2 : Int32) from by decide +kernel]
    refine own_go (x' := T67.setTop (mkF m 185 #[.val (.ref ao0), .val (.int 0), .val (.int 0), .val (.int 0), .val (.double t0), .second, .val (.long ((2 : Int64) * ((2 : Int32).toInt64))), .second, .val (.int 1), .val (.int 2), .val (.double t2), .second, .val (.int 2)] [(.double (FP.ddiv (FP.dneg t2) t0)), (.int 2), (.ref tb)])) (fun _ k => XS.dload X67.here hx rfl (hb hby d7_179) rfl (XS.dnegS X67.here hx rfl (hb hby d7_181) rfl rfl (XS.dload X67.here hx rfl (hb hby d7_182) rfl (XS.ddivS X67.here hx rfl (hb hby d7_184) rfl (own_nn (ddiv_mag (dneg_mag m_t2) b_t0 (by decide) (by decide))) rfl k)))) ?_
    obtain ⟨cl68, Ar68, q68, Sz68, Nn68, Hh68, Gg68⟩ := V_tb
    have hin68 : ¬ ((2 : Int32) < 0 ∨ cl68.slots.size ≤ ((2 : Int32)).toNatClampNeg) := inb_of Sz68 ⟨by decide, by decide⟩
    obtain ⟨T68, h68, X68, e68, W68, st68⟩ := stD X67 hx hZ e67 Ar68 (j := (2 : Int32)) hin68 (g := (mkF m 185 #[.val (.ref ao0), .val (.int 0), .val (.int 0), .val (.int 0), .val (.double t0), .second, .val (.long ((2 : Int64) * ((2 : Int32).toInt64))), .second, .val (.int 1), .val (.int 2), .val (.double t2), .second, .val (.int 2)] [(.double (FP.ddiv (FP.dneg t2) t0)), (.int 2), (.ref tb)])) rfl rfl (hb hby d7_185)
    refine own_go (x' := T68.setTop (mkF m 186 #[.val (.ref ao0), .val (.int 0), .val (.int 0), .val (.int 0), .val (.double t0), .second, .val (.long ((2 : Int64) * ((2 : Int32).toInt64))), .second, .val (.int 1), .val (.int 2), .val (.double t2), .second, .val (.int 2)] [])) st68 ?_
    replace F_ao0_rows := Fld.other W68 F_ao0_rows (Or.inl ne_ao0_tb)
    replace F_ao0_columns := Fld.other W68 F_ao0_columns (Or.inl ne_ao0_tb)
    replace F_ao0_tableau := Fld.other W68 F_ao0_tableau (Or.inl ne_ao0_tb)
    replace F_ao0_value := Fld.other W68 F_ao0_value (Or.inl ne_ao0_tb)
    replace F_ao0_cost := Fld.other W68 F_ao0_cost (Or.inl ne_ao0_tb)
    replace F_ao0_basic := Fld.other W68 F_ao0_basic (Or.inl ne_ao0_tb)
    replace F_ao0_nonbasic := Fld.other W68 F_ao0_nonbasic (Or.inl ne_ao0_tb)
    replace V_co := V_co.other W68 (Ne.symm ne_tb_co)
    replace V_bs := V_bs.other W68 (Ne.symm ne_tb_bs)
    replace V_nb := V_nb.other W68 (Ne.symm ne_tb_nb)
    replace V_va := V_va.other W68 (Ne.symm ne_tb_va)
    replace Zs := Nat.le_trans Zs (Keep.of_wr W68).1
    replace Nf := Fr.snoc X68 Nf g_tb
    replace Kp := Kp.wr W68 (Or.inl (by simp))
    have V_tb : Arv Z h68 tb kt .double (4 : Int32) [(.double (FP.ddiv (4607182418800017408 : UInt64) t0)), (.double (FP.ddiv t1 t0)), (.double (FP.ddiv (FP.dneg t2) t0)), (.double (FP.dsub t3 (FP.dmul t2 (FP.ddiv t1 t0))))] (.double 0) := Arv.set Ar68 q68 Sz68 Nn68 Hh68 Gg68 rfl W68 2 rfl (Nat.le_of_ble_eq_true rfl)
    refine own_go (x' := T68.setTop (mkF m 187 #[.val (.ref ao0), .val (.int 0), .val (.int 0), .val (.int 0), .val (.double t0), .second, .val (.long ((2 : Int64) * ((2 : Int32).toInt64))), .second, .val (.int 1), .val (.int 2), .val (.double t2), .second, .val (.int 2)] [(.ref ao0)])) (fun _ k => XS.aloadN X68.here hx rfl (hb hby d7_186) rfl rfl k) ?_
    obtain ⟨T69, X69, e69, st69⟩ := getF X68 hx hZ hown (host := "") (Or.inl (own_w hw 25 rfl)) Via.refl e68 F_ao0_value (g := (mkF m 187 #[.val (.ref ao0), .val (.int 0), .val (.int 0), .val (.int 0), .val (.double t0), .second, .val (.long ((2 : Int64) * ((2 : Int32).toInt64))), .second, .val (.int 1), .val (.int 2), .val (.double t2), .second, .val (.int 2)] [(.ref ao0)])) rfl rfl (hb hby d7_187)
    refine own_go (x' := T69.setTop (mkF m 190 #[.val (.ref ao0), .val (.int 0), .val (.int 0), .val (.int 0), .val (.double t0), .second, .val (.long ((2 : Int64) * ((2 : Int32).toInt64))), .second, .val (.int 1), .val (.int 2), .val (.double t2), .second, .val (.int 2)] [(.ref va)])) st69 ?_
    refine own_go (x' := T69.setTop (mkF m 193 #[.val (.ref ao0), .val (.int 0), .val (.int 0), .val (.int 0), .val (.double t0), .second, .val (.long ((2 : Int64) * ((2 : Int32).toInt64))), .second, .val (.int 1), .val (.int 2), .val (.double t2), .second, .val (.int 2)] [(.int 1), (.ref va), (.int 1), (.ref va)])) (fun _ k => XS.iload X69.here hx rfl (hb hby d7_190) rfl (Jvm.Free.XT.dup2 X69.here hx rfl (hb hby d7_192) rfl rfl rfl k)) ?_
    obtain ⟨cl70, Ar70, q70, Sz70, Nn70, Hh70, Gg70⟩ := id V_va
    have hin70 : ¬ ((1 : Int32) < 0 ∨ cl70.slots.size ≤ ((1 : Int32)).toNatClampNeg) := inb_of Sz70 ⟨by decide, by decide⟩
    refine own_go (x' := T69.setTop (mkF m 194 #[.val (.ref ao0), .val (.int 0), .val (.int 0), .val (.int 0), .val (.double t0), .second, .val (.long ((2 : Int64) * ((2 : Int32).toInt64))), .second, .val (.int 1), .val (.int 2), .val (.double t2), .second, .val (.int 2)] [(.double w1), (.int 1), (.ref va)])) (X69.daload hx (j := (1 : Int32)) (v := (.double w1)) (Eq.trans (congrArg (fun h_ => h_[_]?) e69) Ar70.1) (State.isArrayOf_alike hZ.alike Ar70.2.1) Ar70.2.2 hin70 (Hh70.at hin70 rfl) (g := (mkF m 193 #[.val (.ref ao0), .val (.int 0), .val (.int 0), .val (.int 0), .val (.double t0), .second, .val (.long ((2 : Int64) * ((2 : Int32).toInt64))), .second, .val (.int 1), .val (.int 2), .val (.double t2), .second, .val (.int 2)] [(.int 1), (.ref va), (.int 1), (.ref va)])) rfl rfl (hb hby d7_193)) ?_
    refine own_go (x' := T69.setTop (mkF m 197 #[.val (.ref ao0), .val (.int 0), .val (.int 0), .val (.int 0), .val (.double t0), .second, .val (.long ((2 : Int64) * ((2 : Int32).toInt64))), .second, .val (.int 1), .val (.int 2), .val (.double t2), .second, .val (.int 2)] [(.ref ao0), (.double t2), (.double w1), (.int 1), (.ref va)])) (fun _ k => XS.dload X69.here hx rfl (hb hby d7_194) rfl (XS.aloadN X69.here hx rfl (hb hby d7_196) rfl rfl k)) ?_
    obtain ⟨T71, X71, e71, st71⟩ := getF X69 hx hZ hown (host := "") (Or.inl (own_w hw 25 rfl)) Via.refl e69 F_ao0_value (g := (mkF m 197 #[.val (.ref ao0), .val (.int 0), .val (.int 0), .val (.int 0), .val (.double t0), .second, .val (.long ((2 : Int64) * ((2 : Int32).toInt64))), .second, .val (.int 1), .val (.int 2), .val (.double t2), .second, .val (.int 2)] [(.ref ao0), (.double t2), (.double w1), (.int 1), (.ref va)])) rfl rfl (hb hby d7_197)
    refine own_go (x' := T71.setTop (mkF m 200 #[.val (.ref ao0), .val (.int 0), .val (.int 0), .val (.int 0), .val (.double t0), .second, .val (.long ((2 : Int64) * ((2 : Int32).toInt64))), .second, .val (.int 1), .val (.int 2), .val (.double t2), .second, .val (.int 2)] [(.ref va), (.double t2), (.double w1), (.int 1), (.ref va)])) st71 ?_
    refine own_go (x' := T71.setTop (mkF m 201 #[.val (.ref ao0), .val (.int 0), .val (.int 0), .val (.int 0), .val (.double t0), .second, .val (.long ((2 : Int64) * ((2 : Int32).toInt64))), .second, .val (.int 1), .val (.int 2), .val (.double t2), .second, .val (.int 2)] [(.int 0), (.ref va), (.double t2), (.double w1), (.int 1), (.ref va)])) (fun _ k => XS.iloadN X71.here hx rfl (hb hby d7_200) rfl k) ?_
    obtain ⟨cl72, Ar72, q72, Sz72, Nn72, Hh72, Gg72⟩ := id V_va
    have hin72 : ¬ ((0 : Int32) < 0 ∨ cl72.slots.size ≤ ((0 : Int32)).toNatClampNeg) := inb_of Sz72 ⟨by decide, by decide⟩
    refine own_go (x' := T71.setTop (mkF m 202 #[.val (.ref ao0), .val (.int 0), .val (.int 0), .val (.int 0), .val (.double t0), .second, .val (.long ((2 : Int64) * ((2 : Int32).toInt64))), .second, .val (.int 1), .val (.int 2), .val (.double t2), .second, .val (.int 2)] [(.double (FP.ddiv w0 t0)), (.double t2), (.double w1), (.int 1), (.ref va)])) (X71.daload hx (j := (0 : Int32)) (v := (.double (FP.ddiv w0 t0))) (Eq.trans (congrArg (fun h_ => h_[_]?) e71) Ar72.1) (State.isArrayOf_alike hZ.alike Ar72.2.1) Ar72.2.2 hin72 (Hh72.at hin72 rfl) (g := (mkF m 201 #[.val (.ref ao0), .val (.int 0), .val (.int 0), .val (.int 0), .val (.double t0), .second, .val (.long ((2 : Int64) * ((2 : Int32).toInt64))), .second, .val (.int 1), .val (.int 2), .val (.double t2), .second, .val (.int 2)] [(.int 0), (.ref va), (.double t2), (.double w1), (.int 1), (.ref va)])) rfl rfl (hb hby d7_201)) ?_
    refine own_go (x' := T71.setTop (mkF m 204 #[.val (.ref ao0), .val (.int 0), .val (.int 0), .val (.int 0), .val (.double t0), .second, .val (.long ((2 : Int64) * ((2 : Int32).toInt64))), .second, .val (.int 1), .val (.int 2), .val (.double t2), .second, .val (.int 2)] [(.double (FP.dsub w1 (FP.dmul t2 (FP.ddiv w0 t0)))), (.int 1), (.ref va)])) (fun _ k => XS.dmulS X71.here hx rfl (hb hby d7_202) rfl (own_nn (Jvm.Free.Fl.dmul_mag m_t2 (ddiv_mag m_w0 b_t0 (by decide) (by decide)) (by decide) (by decide))) rfl (XS.dsubS X71.here hx rfl (hb hby d7_203) rfl (own_nn (Jvm.Free.Fl.dsub_mag (m_w1.mono (by decide : 1056 ≤ 1091)) ((Jvm.Free.Fl.dmul_mag m_t2 (ddiv_mag m_w0 b_t0 (by decide) (by decide)) (by decide) (by decide)).mono (by decide : 1091 ≤ 1091)) (by decide))) rfl k)) ?_
    obtain ⟨cl73, Ar73, q73, Sz73, Nn73, Hh73, Gg73⟩ := V_va
    have hin73 : ¬ ((1 : Int32) < 0 ∨ cl73.slots.size ≤ ((1 : Int32)).toNatClampNeg) := inb_of Sz73 ⟨by decide, by decide⟩
    obtain ⟨T73, h73, X73, e73, W73, st73⟩ := stD X71 hx hZ e71 Ar73 (j := (1 : Int32)) hin73 (g := (mkF m 204 #[.val (.ref ao0), .val (.int 0), .val (.int 0), .val (.int 0), .val (.double t0), .second, .val (.long ((2 : Int64) * ((2 : Int32).toInt64))), .second, .val (.int 1), .val (.int 2), .val (.double t2), .second, .val (.int 2)] [(.double (FP.dsub w1 (FP.dmul t2 (FP.ddiv w0 t0)))), (.int 1), (.ref va)])) rfl rfl (hb hby d7_204)
    refine own_go (x' := T73.setTop (mkF m 205 #[.val (.ref ao0), .val (.int 0), .val (.int 0), .val (.int 0), .val (.double t0), .second, .val (.long ((2 : Int64) * ((2 : Int32).toInt64))), .second, .val (.int 1), .val (.int 2), .val (.double t2), .second, .val (.int 2)] [])) st73 ?_
    replace F_ao0_rows := Fld.other W73 F_ao0_rows (Or.inl ne_ao0_va)
    replace F_ao0_columns := Fld.other W73 F_ao0_columns (Or.inl ne_ao0_va)
    replace F_ao0_tableau := Fld.other W73 F_ao0_tableau (Or.inl ne_ao0_va)
    replace F_ao0_value := Fld.other W73 F_ao0_value (Or.inl ne_ao0_va)
    replace F_ao0_cost := Fld.other W73 F_ao0_cost (Or.inl ne_ao0_va)
    replace F_ao0_basic := Fld.other W73 F_ao0_basic (Or.inl ne_ao0_va)
    replace F_ao0_nonbasic := Fld.other W73 F_ao0_nonbasic (Or.inl ne_ao0_va)
    replace V_co := V_co.other W73 (Ne.symm ne_va_co)
    replace V_bs := V_bs.other W73 (Ne.symm ne_va_bs)
    replace V_nb := V_nb.other W73 (Ne.symm ne_va_nb)
    replace V_tb := V_tb.other W73 ne_tb_va
    replace Zs := Nat.le_trans Zs (Keep.of_wr W73).1
    replace Nf := Fr.snoc X73 Nf g_va
    replace Kp := Kp.wr W73 (Or.inl (by simp))
    have V_va : Arv Z h73 va kv .double (2 : Int32) [(.double (FP.ddiv w0 t0)), (.double (FP.dsub w1 (FP.dmul t2 (FP.ddiv w0 t0))))] (.double 0) := Arv.set Ar73 q73 Sz73 Nn73 Hh73 Gg73 rfl W73 1 rfl (Nat.le_of_ble_eq_true rfl)
    refine own_go (x' := T73.setTop (mkF m 208 #[.val (.ref ao0), .val (.int 0), .val (.int 0), .val (.int 0), .val (.double t0), .second, .val (.long ((2 : Int64) * ((2 : Int32).toInt64))), .second, .val (.int 1), .val (.int 2), .val (.double t2), .second, .val (.int 2)] [(.ref ao0), (.long ((2 : Int64) * ((2 : Int32).toInt64)))])) (fun _ k => XS.lload X73.here hx rfl (hb hby d7_205) rfl (XS.aloadN X73.here hx rfl (hb hby d7_207) rfl rfl k)) ?_
    obtain ⟨T74, X74, e74, st74⟩ := getF X73 hx hZ hown (host := "") (Or.inl (own_w hw 12 rfl)) Via.refl e73 F_ao0_columns (g := (mkF m 208 #[.val (.ref ao0), .val (.int 0), .val (.int 0), .val (.int 0), .val (.double t0), .second, .val (.long ((2 : Int64) * ((2 : Int32).toInt64))), .second, .val (.int 1), .val (.int 2), .val (.double t2), .second, .val (.int 2)] [(.ref ao0), (.long ((2 : Int64) * ((2 : Int32).toInt64)))])) rfl rfl (hb hby d7_208)
    refine own_go (x' := T74.setTop (mkF m 211 #[.val (.ref ao0), .val (.int 0), .val (.int 0), .val (.int 0), .val (.double t0), .second, .val (.long ((2 : Int64) * ((2 : Int32).toInt64))), .second, .val (.int 1), .val (.int 2), .val (.double t2), .second, .val (.int 2)] [(.int 2), (.long ((2 : Int64) * ((2 : Int32).toInt64)))])) st74 ?_
    refine own_go (x' := T74.setTop (mkF m 86 #[.val (.ref ao0), .val (.int 0), .val (.int 0), .val (.int 0), .val (.double t0), .second, .val (.long (((2 : Int64) * ((2 : Int32).toInt64)) + ((2 : Int32).toInt64))), .second, .val (.int ((1 : Int32) + (1 : Int32))), .val (.int 2), .val (.double t2), .second, .val (.int 2)] [])) (fun _ k => XS.i2l X74.here hx rfl (hb hby d7_211) rfl (XS.ladd X74.here hx rfl (hb hby d7_212) rfl (XS.lstore X74.here hx rfl (hb hby d7_213) rfl (l' := #[.val (.ref ao0), .val (.int 0), .val (.int 0), .val (.int 0), .val (.double t0), .second, .val (.long (((2 : Int64) * ((2 : Int32).toInt64)) + ((2 : Int32).toInt64))), .second, .val (.int 1), .val (.int 2), .val (.double t2), .second, .val (.int 2)]) rfl (XS.iinc X74.here hx rfl (hb hby d7_215) rfl (l' := #[.val (.ref ao0), .val (.int 0), .val (.int 0), .val (.int 0), .val (.double t0), .second, .val (.long (((2 : Int64) * ((2 : Int32).toInt64)) + ((2 : Int32).toInt64))), .second, .val (.int ((1 : Int32) + (1 : Int32))), .val (.int 2), .val (.double t2), .second, .val (.int 2)]) rfl (XS.goto X74.here hx rfl (pc0 := 218) (pc' := 86) rfl (hb hby d7_218) (by decide) (by decide) k))))) ?_
    rw [show ((1 : Int32) + (1 : Int32)) = (2 : Int32) from by decide +kernel]
    refine own_go (x' := T74.setTop (mkF m 89 #[.val (.ref ao0), .val (.int 0), .val (.int 0), .val (.int 0), .val (.double t0), .second, .val (.long (((2 : Int64) * ((2 : Int32).toInt64)) + ((2 : Int32).toInt64))), .second, .val (.int 2), .val (.int 2), .val (.double t2), .second, .val (.int 2)] [(.ref ao0), (.int 2)])) (fun _ k => XS.iload X74.here hx rfl (hb hby d7_86) rfl (XS.aloadN X74.here hx rfl (hb hby d7_88) rfl rfl k)) ?_
    obtain ⟨T75, X75, e75, st75⟩ := getF X74 hx hZ hown (host := "") (Or.inl (own_w hw 10 rfl)) Via.refl e74 F_ao0_rows (g := (mkF m 89 #[.val (.ref ao0), .val (.int 0), .val (.int 0), .val (.int 0), .val (.double t0), .second, .val (.long (((2 : Int64) * ((2 : Int32).toInt64)) + ((2 : Int32).toInt64))), .second, .val (.int 2), .val (.int 2), .val (.double t2), .second, .val (.int 2)] [(.ref ao0), (.int 2)])) rfl rfl (hb hby d7_89)
    refine own_go (x' := T75.setTop (mkF m 92 #[.val (.ref ao0), .val (.int 0), .val (.int 0), .val (.int 0), .val (.double t0), .second, .val (.long (((2 : Int64) * ((2 : Int32).toInt64)) + ((2 : Int32).toInt64))), .second, .val (.int 2), .val (.int 2), .val (.double t2), .second, .val (.int 2)] [(.int 2), (.int 2)])) st75 ?_
    refine own_go (x' := T75.setTop (mkF m 222 #[.val (.ref ao0), .val (.int 0), .val (.int 0), .val (.int 0), .val (.double t0), .second, .val (.long (((2 : Int64) * ((2 : Int32).toInt64)) + ((2 : Int32).toInt64))), .second, .val (.int 2), .val (.int 2), .val (.double t2), .second, .val (.int 2)] [(.ref ao0)])) (fun _ k => XS.icmpYes X75.here hx rfl (pc0 := 92) (pc' := 221) rfl (hb hby d7_92) rfl (flt (Int32.lt_irrefl)).2.1 (by decide) (by decide) (XS.aloadN X75.here hx rfl (hb hby d7_221) rfl rfl k)) ?_
    obtain ⟨T76, X76, e76, st76⟩ := getF X75 hx hZ hown (host := "") (Or.inl (own_w hw 27 rfl)) Via.refl e75 F_ao0_cost (g := (mkF m 222 #[.val (.ref ao0), .val (.int 0), .val (.int 0), .val (.int 0), .val (.double t0), .second, .val (.long (((2 : Int64) * ((2 : Int32).toInt64)) + ((2 : Int32).toInt64))), .second, .val (.int 2), .val (.int 2), .val (.double t2), .second, .val (.int 2)] [(.ref ao0)])) rfl rfl (hb hby d7_222)
    refine own_go (x' := T76.setTop (mkF m 225 #[.val (.ref ao0), .val (.int 0), .val (.int 0), .val (.int 0), .val (.double t0), .second, .val (.long (((2 : Int64) * ((2 : Int32).toInt64)) + ((2 : Int32).toInt64))), .second, .val (.int 2), .val (.int 2), .val (.double t2), .second, .val (.int 2)] [(.ref co)])) st76 ?_
    refine own_go (x' := T76.setTop (mkF m 226 #[.val (.ref ao0), .val (.int 0), .val (.int 0), .val (.int 0), .val (.double t0), .second, .val (.long (((2 : Int64) * ((2 : Int32).toInt64)) + ((2 : Int32).toInt64))), .second, .val (.int 2), .val (.int 2), .val (.double t2), .second, .val (.int 2)] [(.int 0), (.ref co)])) (fun _ k => XS.iloadN X76.here hx rfl (hb hby d7_225) rfl k) ?_
    obtain ⟨cl77, Ar77, q77, Sz77, Nn77, Hh77, Gg77⟩ := id V_co
    have hin77 : ¬ ((0 : Int32) < 0 ∨ cl77.slots.size ≤ ((0 : Int32)).toNatClampNeg) := inb_of Sz77 ⟨by decide, by decide⟩
    refine own_go (x' := T76.setTop (mkF m 227 #[.val (.ref ao0), .val (.int 0), .val (.int 0), .val (.int 0), .val (.double t0), .second, .val (.long (((2 : Int64) * ((2 : Int32).toInt64)) + ((2 : Int32).toInt64))), .second, .val (.int 2), .val (.int 2), .val (.double t2), .second, .val (.int 2)] [(.double c0)])) (X76.daload hx (j := (0 : Int32)) (v := (.double c0)) (Eq.trans (congrArg (fun h_ => h_[_]?) e76) Ar77.1) (State.isArrayOf_alike hZ.alike Ar77.2.1) Ar77.2.2 hin77 (Hh77.at hin77 rfl) (g := (mkF m 226 #[.val (.ref ao0), .val (.int 0), .val (.int 0), .val (.int 0), .val (.double t0), .second, .val (.long (((2 : Int64) * ((2 : Int32).toInt64)) + ((2 : Int32).toInt64))), .second, .val (.int 2), .val (.int 2), .val (.double t2), .second, .val (.int 2)] [(.int 0), (.ref co)])) rfl rfl (hb hby d7_226)) ?_
    refine own_go (x' := T76.setTop (mkF m 235 #[.val (.ref ao0), .val (.int 0), .val (.int 0), .val (.int 0), .val (.double t0), .second, .val (.long (((2 : Int64) * ((2 : Int32).toInt64)) + ((2 : Int32).toInt64))), .second, .val (.double c0), .second, .val (.int 0), .unset, .val (.int 2)] [(.ref ao0), (.int 0)])) (fun _ k => XS.dstore X76.here hx rfl (hb hby d7_227) rfl (l' := #[.val (.ref ao0), .val (.int 0), .val (.int 0), .val (.int 0), .val (.double t0), .second, .val (.long (((2 : Int64) * ((2 : Int32).toInt64)) + ((2 : Int32).toInt64))), .second, .val (.double c0), .second, .val (.double t2), .second, .val (.int 2)]) rfl (XS.iconst X76.here hx rfl (hb hby d7_229) (XS.istore X76.here hx rfl (hb hby d7_230) rfl (l' := #[.val (.ref ao0), .val (.int 0), .val (.int 0), .val (.int 0), .val (.double t0), .second, .val (.long (((2 : Int64) * ((2 : Int32).toInt64)) + ((2 : Int32).toInt64))), .second, .val (.double c0), .second, .val (.int 0), .unset, .val (.int 2)]) rfl (XS.iload X76.here hx rfl (hb hby d7_232) rfl (XS.aloadN X76.here hx rfl (hb hby d7_234) rfl rfl k))))) ?_
    obtain ⟨T78, X78, e78, st78⟩ := getF X76 hx hZ hown (host := "") (Or.inl (own_w hw 12 rfl)) Via.refl e76 F_ao0_columns (g := (mkF m 235 #[.val (.ref ao0), .val (.int 0), .val (.int 0), .val (.int 0), .val (.double t0), .second, .val (.long (((2 : Int64) * ((2 : Int32).toInt64)) + ((2 : Int32).toInt64))), .second, .val (.double c0), .second, .val (.int 0), .unset, .val (.int 2)] [(.ref ao0), (.int 0)])) rfl rfl (hb hby d7_235)
    refine own_go (x' := T78.setTop (mkF m 238 #[.val (.ref ao0), .val (.int 0), .val (.int 0), .val (.int 0), .val (.double t0), .second, .val (.long (((2 : Int64) * ((2 : Int32).toInt64)) + ((2 : Int32).toInt64))), .second, .val (.double c0), .second, .val (.int 0), .unset, .val (.int 2)] [(.int 2), (.int 0)])) st78 ?_
    refine own_go (x' := T78.setTop (mkF m 242 #[.val (.ref ao0), .val (.int 0), .val (.int 0), .val (.int 0), .val (.double t0), .second, .val (.long (((2 : Int64) * ((2 : Int32).toInt64)) + ((2 : Int32).toInt64))), .second, .val (.double c0), .second, .val (.int 0), .unset, .val (.int 2)] [(.ref ao0)])) (fun _ k => XS.icmpNo X78.here hx rfl (hb hby d7_238) rfl (tlt (by decide +kernel : ((0 : Int32) < (2 : Int32)))).2.1 (XS.aloadN X78.here hx rfl (hb hby d7_241) rfl rfl k)) ?_
    obtain ⟨T79, X79, e79, st79⟩ := getF X78 hx hZ hown (host := "") (Or.inl (own_w hw 27 rfl)) Via.refl e78 F_ao0_cost (g := (mkF m 242 #[.val (.ref ao0), .val (.int 0), .val (.int 0), .val (.int 0), .val (.double t0), .second, .val (.long (((2 : Int64) * ((2 : Int32).toInt64)) + ((2 : Int32).toInt64))), .second, .val (.double c0), .second, .val (.int 0), .unset, .val (.int 2)] [(.ref ao0)])) rfl rfl (hb hby d7_242)
    refine own_go (x' := T79.setTop (mkF m 245 #[.val (.ref ao0), .val (.int 0), .val (.int 0), .val (.int 0), .val (.double t0), .second, .val (.long (((2 : Int64) * ((2 : Int32).toInt64)) + ((2 : Int32).toInt64))), .second, .val (.double c0), .second, .val (.int 0), .unset, .val (.int 2)] [(.ref co)])) st79 ?_
    refine own_go (x' := T79.setTop (mkF m 248 #[.val (.ref ao0), .val (.int 0), .val (.int 0), .val (.int 0), .val (.double t0), .second, .val (.long (((2 : Int64) * ((2 : Int32).toInt64)) + ((2 : Int32).toInt64))), .second, .val (.double c0), .second, .val (.int 0), .unset, .val (.int 2)] [(.int 0), (.ref co), (.int 0), (.ref co)])) (fun _ k => XS.iload X79.here hx rfl (hb hby d7_245) rfl (Jvm.Free.XT.dup2 X79.here hx rfl (hb hby d7_247) rfl rfl rfl k)) ?_
    obtain ⟨cl80, Ar80, q80, Sz80, Nn80, Hh80, Gg80⟩ := id V_co
    have hin80 : ¬ ((0 : Int32) < 0 ∨ cl80.slots.size ≤ ((0 : Int32)).toNatClampNeg) := inb_of Sz80 ⟨by decide, by decide⟩
    refine own_go (x' := T79.setTop (mkF m 249 #[.val (.ref ao0), .val (.int 0), .val (.int 0), .val (.int 0), .val (.double t0), .second, .val (.long (((2 : Int64) * ((2 : Int32).toInt64)) + ((2 : Int32).toInt64))), .second, .val (.double c0), .second, .val (.int 0), .unset, .val (.int 2)] [(.double c0), (.int 0), (.ref co)])) (X79.daload hx (j := (0 : Int32)) (v := (.double c0)) (Eq.trans (congrArg (fun h_ => h_[_]?) e79) Ar80.1) (State.isArrayOf_alike hZ.alike Ar80.2.1) Ar80.2.2 hin80 (Hh80.at hin80 rfl) (g := (mkF m 248 #[.val (.ref ao0), .val (.int 0), .val (.int 0), .val (.int 0), .val (.double t0), .second, .val (.long (((2 : Int64) * ((2 : Int32).toInt64)) + ((2 : Int32).toInt64))), .second, .val (.double c0), .second, .val (.int 0), .unset, .val (.int 2)] [(.int 0), (.ref co), (.int 0), (.ref co)])) rfl rfl (hb hby d7_248)) ?_
    refine own_go (x' := T79.setTop (mkF m 252 #[.val (.ref ao0), .val (.int 0), .val (.int 0), .val (.int 0), .val (.double t0), .second, .val (.long (((2 : Int64) * ((2 : Int32).toInt64)) + ((2 : Int32).toInt64))), .second, .val (.double c0), .second, .val (.int 0), .unset, .val (.int 2)] [(.ref ao0), (.double c0), (.double c0), (.int 0), (.ref co)])) (fun _ k => XS.dload X79.here hx rfl (hb hby d7_249) rfl (XS.aloadN X79.here hx rfl (hb hby d7_251) rfl rfl k)) ?_
    obtain ⟨T81, X81, e81, st81⟩ := getF X79 hx hZ hown (host := "") (Or.inl (own_w hw 14 rfl)) Via.refl e79 F_ao0_tableau (g := (mkF m 252 #[.val (.ref ao0), .val (.int 0), .val (.int 0), .val (.int 0), .val (.double t0), .second, .val (.long (((2 : Int64) * ((2 : Int32).toInt64)) + ((2 : Int32).toInt64))), .second, .val (.double c0), .second, .val (.int 0), .unset, .val (.int 2)] [(.ref ao0), (.double c0), (.double c0), (.int 0), (.ref co)])) rfl rfl (hb hby d7_252)
    refine own_go (x' := T81.setTop (mkF m 255 #[.val (.ref ao0), .val (.int 0), .val (.int 0), .val (.int 0), .val (.double t0), .second, .val (.long (((2 : Int64) * ((2 : Int32).toInt64)) + ((2 : Int32).toInt64))), .second, .val (.double c0), .second, .val (.int 0), .unset, .val (.int 2)] [(.ref tb), (.double c0), (.double c0), (.int 0), (.ref co)])) st81 ?_
    refine own_go (x' := T81.setTop (mkF m 259 #[.val (.ref ao0), .val (.int 0), .val (.int 0), .val (.int 0), .val (.double t0), .second, .val (.long (((2 : Int64) * ((2 : Int32).toInt64)) + ((2 : Int32).toInt64))), .second, .val (.double c0), .second, .val (.int 0), .unset, .val (.int 2)] [(.int ((0 : Int32) + (0 : Int32))), (.ref tb), (.double c0), (.double c0), (.int 0), (.ref co)])) (fun _ k => XS.iloadN X81.here hx rfl (hb hby d7_255) rfl (XS.iload X81.here hx rfl (hb hby d7_256) rfl (XS.iadd X81.here hx rfl (hb hby d7_258) rfl k))) ?_
    rw [show ((0 : Int32) + (0 : Int32)) = (0 : Int32) from by decide +kernel]
    obtain ⟨cl82, Ar82, q82, Sz82, Nn82, Hh82, Gg82⟩ := id V_tb
    have hin82 : ¬ ((0 : Int32) < 0 ∨ cl82.slots.size ≤ ((0 : Int32)).toNatClampNeg) := inb_of Sz82 ⟨by decide, by decide⟩
    refine own_go (x' := T81.setTop (mkF m 260 #[.val (.ref ao0), .val (.int 0), .val (.int 0), .val (.int 0), .val (.double t0), .second, .val (.long (((2 : Int64) * ((2 : Int32).toInt64)) + ((2 : Int32).toInt64))), .second, .val (.double c0), .second, .val (.int 0), .unset, .val (.int 2)] [(.double (FP.ddiv (4607182418800017408 : UInt64) t0)), (.double c0), (.double c0), (.int 0), (.ref co)])) (X81.daload hx (j := (0 : Int32)) (v := (.double (FP.ddiv (4607182418800017408 : UInt64) t0))) (Eq.trans (congrArg (fun h_ => h_[_]?) e81) Ar82.1) (State.isArrayOf_alike hZ.alike Ar82.2.1) Ar82.2.2 hin82 (Hh82.at hin82 rfl) (g := (mkF m 259 #[.val (.ref ao0), .val (.int 0), .val (.int 0), .val (.int 0), .val (.double t0), .second, .val (.long (((2 : Int64) * ((2 : Int32).toInt64)) + ((2 : Int32).toInt64))), .second, .val (.double c0), .second, .val (.int 0), .unset, .val (.int 2)] [(.int 0), (.ref tb), (.double c0), (.double c0), (.int 0), (.ref co)])) rfl rfl (hb hby d7_259)) ?_
    refine own_go (x' := T81.setTop (mkF m 262 #[.val (.ref ao0), .val (.int 0), .val (.int 0), .val (.int 0), .val (.double t0), .second, .val (.long (((2 : Int64) * ((2 : Int32).toInt64)) + ((2 : Int32).toInt64))), .second, .val (.double c0), .second, .val (.int 0), .unset, .val (.int 2)] [(.double (FP.dsub c0 (FP.dmul c0 (FP.ddiv (4607182418800017408 : UInt64) t0)))), (.int 0), (.ref co)])) (fun _ k => XS.dmulS X81.here hx rfl (hb hby d7_260) rfl (own_nn (Jvm.Free.Fl.dmul_mag m_c0 (ddiv_mag own_m1 b_t0 (by decide) (by decide)) (by decide) (by decide))) rfl (XS.dsubS X81.here hx rfl (hb hby d7_261) rfl (own_nn (Jvm.Free.Fl.dsub_mag (m_c0.mono (by decide : 1056 ≤ 1059)) ((Jvm.Free.Fl.dmul_mag m_c0 (ddiv_mag own_m1 b_t0 (by decide) (by decide)) (by decide) (by decide)).mono (by decide : 1059 ≤ 1059)) (by decide))) rfl k)) ?_
    obtain ⟨cl83, Ar83, q83, Sz83, Nn83, Hh83, Gg83⟩ := V_co
    have hin83 : ¬ ((0 : Int32) < 0 ∨ cl83.slots.size ≤ ((0 : Int32)).toNatClampNeg) := inb_of Sz83 ⟨by decide, by decide⟩
    obtain ⟨T83, h83, X83, e83, W83, st83⟩ := stD X81 hx hZ e81 Ar83 (j := (0 : Int32)) hin83 (g := (mkF m 262 #[.val (.ref ao0), .val (.int 0), .val (.int 0), .val (.int 0), .val (.double t0), .second, .val (.long (((2 : Int64) * ((2 : Int32).toInt64)) + ((2 : Int32).toInt64))), .second, .val (.double c0), .second, .val (.int 0), .unset, .val (.int 2)] [(.double (FP.dsub c0 (FP.dmul c0 (FP.ddiv (4607182418800017408 : UInt64) t0)))), (.int 0), (.ref co)])) rfl rfl (hb hby d7_262)
    refine own_go (x' := T83.setTop (mkF m 263 #[.val (.ref ao0), .val (.int 0), .val (.int 0), .val (.int 0), .val (.double t0), .second, .val (.long (((2 : Int64) * ((2 : Int32).toInt64)) + ((2 : Int32).toInt64))), .second, .val (.double c0), .second, .val (.int 0), .unset, .val (.int 2)] [])) st83 ?_
    replace F_ao0_rows := Fld.other W83 F_ao0_rows (Or.inl ne_ao0_co)
    replace F_ao0_columns := Fld.other W83 F_ao0_columns (Or.inl ne_ao0_co)
    replace F_ao0_tableau := Fld.other W83 F_ao0_tableau (Or.inl ne_ao0_co)
    replace F_ao0_value := Fld.other W83 F_ao0_value (Or.inl ne_ao0_co)
    replace F_ao0_cost := Fld.other W83 F_ao0_cost (Or.inl ne_ao0_co)
    replace F_ao0_basic := Fld.other W83 F_ao0_basic (Or.inl ne_ao0_co)
    replace F_ao0_nonbasic := Fld.other W83 F_ao0_nonbasic (Or.inl ne_ao0_co)
    replace V_bs := V_bs.other W83 (Ne.symm ne_co_bs)
    replace V_nb := V_nb.other W83 (Ne.symm ne_co_nb)
    replace V_tb := V_tb.other W83 ne_tb_co
    replace V_va := V_va.other W83 ne_va_co
    replace Zs := Nat.le_trans Zs (Keep.of_wr W83).1
    replace Nf := Fr.snoc X83 Nf g_co
    replace Kp := Kp.wr W83 (Or.inl (by simp))
    have V_co : Arv Z h83 co kc .double (2 : Int32) [(.double (FP.dsub c0 (FP.dmul c0 (FP.ddiv (4607182418800017408 : UInt64) t0)))), (.double c1)] (.double 0) := Arv.set Ar83 q83 Sz83 Nn83 Hh83 Gg83 rfl W83 0 rfl (Nat.le_of_ble_eq_true rfl)
    refine own_go (x' := T83.setTop (mkF m 232 #[.val (.ref ao0), .val (.int 0), .val (.int 0), .val (.int 0), .val (.double t0), .second, .val (.long (((2 : Int64) * ((2 : Int32).toInt64)) + ((2 : Int32).toInt64))), .second, .val (.double c0), .second, .val (.int ((0 : Int32) + (1 : Int32))), .unset, .val (.int 2)] [])) (fun _ k => XS.iinc X83.here hx rfl (hb hby d7_263) rfl (l' := #[.val (.ref ao0), .val (.int 0), .val (.int 0), .val (.int 0), .val (.double t0), .second, .val (.long (((2 : Int64) * ((2 : Int32).toInt64)) + ((2 : Int32).toInt64))), .second, .val (.double c0), .second, .val (.int ((0 : Int32) + (1 : Int32))), .unset, .val (.int 2)]) rfl (XS.goto X83.here hx rfl (pc0 := 266) (pc' := 232) rfl (hb hby d7_266) (by decide) (by decide) k)) ?_
    rw [show ((0 : Int32) + (1 : Int32)) = (1 : Int32) from by decide +kernel]
    refine own_go (x' := T83.setTop (mkF m 235 #[.val (.ref ao0), .val (.int 0), .val (.int 0), .val (.int 0), .val (.double t0), .second, .val (.long (((2 : Int64) * ((2 : Int32).toInt64)) + ((2 : Int32).toInt64))), .second, .val (.double c0), .second, .val (.int 1), .unset, .val (.int 2)] [(.ref ao0), (.int 1)])) (fun _ k => XS.iload X83.here hx rfl (hb hby d7_232) rfl (XS.aloadN X83.here hx rfl (hb hby d7_234) rfl rfl k)) ?_
    obtain ⟨T84, X84, e84, st84⟩ := getF X83 hx hZ hown (host := "") (Or.inl (own_w hw 12 rfl)) Via.refl e83 F_ao0_columns (g := (mkF m 235 #[.val (.ref ao0), .val (.int 0), .val (.int 0), .val (.int 0), .val (.double t0), .second, .val (.long (((2 : Int64) * ((2 : Int32).toInt64)) + ((2 : Int32).toInt64))), .second, .val (.double c0), .second, .val (.int 1), .unset, .val (.int 2)] [(.ref ao0), (.int 1)])) rfl rfl (hb hby d7_235)
    refine own_go (x' := T84.setTop (mkF m 238 #[.val (.ref ao0), .val (.int 0), .val (.int 0), .val (.int 0), .val (.double t0), .second, .val (.long (((2 : Int64) * ((2 : Int32).toInt64)) + ((2 : Int32).toInt64))), .second, .val (.double c0), .second, .val (.int 1), .unset, .val (.int 2)] [(.int 2), (.int 1)])) st84 ?_
    refine own_go (x' := T84.setTop (mkF m 242 #[.val (.ref ao0), .val (.int 0), .val (.int 0), .val (.int 0), .val (.double t0), .second, .val (.long (((2 : Int64) * ((2 : Int32).toInt64)) + ((2 : Int32).toInt64))), .second, .val (.double c0), .second, .val (.int 1), .unset, .val (.int 2)] [(.ref ao0)])) (fun _ k => XS.icmpNo X84.here hx rfl (hb hby d7_238) rfl (tlt (by decide +kernel : ((1 : Int32) < (2 : Int32)))).2.1 (XS.aloadN X84.here hx rfl (hb hby d7_241) rfl rfl k)) ?_
    obtain ⟨T85, X85, e85, st85⟩ := getF X84 hx hZ hown (host := "") (Or.inl (own_w hw 27 rfl)) Via.refl e84 F_ao0_cost (g := (mkF m 242 #[.val (.ref ao0), .val (.int 0), .val (.int 0), .val (.int 0), .val (.double t0), .second, .val (.long (((2 : Int64) * ((2 : Int32).toInt64)) + ((2 : Int32).toInt64))), .second, .val (.double c0), .second, .val (.int 1), .unset, .val (.int 2)] [(.ref ao0)])) rfl rfl (hb hby d7_242)
    refine own_go (x' := T85.setTop (mkF m 245 #[.val (.ref ao0), .val (.int 0), .val (.int 0), .val (.int 0), .val (.double t0), .second, .val (.long (((2 : Int64) * ((2 : Int32).toInt64)) + ((2 : Int32).toInt64))), .second, .val (.double c0), .second, .val (.int 1), .unset, .val (.int 2)] [(.ref co)])) st85 ?_
    refine own_go (x' := T85.setTop (mkF m 248 #[.val (.ref ao0), .val (.int 0), .val (.int 0), .val (.int 0), .val (.double t0), .second, .val (.long (((2 : Int64) * ((2 : Int32).toInt64)) + ((2 : Int32).toInt64))), .second, .val (.double c0), .second, .val (.int 1), .unset, .val (.int 2)] [(.int 1), (.ref co), (.int 1), (.ref co)])) (fun _ k => XS.iload X85.here hx rfl (hb hby d7_245) rfl (Jvm.Free.XT.dup2 X85.here hx rfl (hb hby d7_247) rfl rfl rfl k)) ?_
    obtain ⟨cl86, Ar86, q86, Sz86, Nn86, Hh86, Gg86⟩ := id V_co
    have hin86 : ¬ ((1 : Int32) < 0 ∨ cl86.slots.size ≤ ((1 : Int32)).toNatClampNeg) := inb_of Sz86 ⟨by decide, by decide⟩
    refine own_go (x' := T85.setTop (mkF m 249 #[.val (.ref ao0), .val (.int 0), .val (.int 0), .val (.int 0), .val (.double t0), .second, .val (.long (((2 : Int64) * ((2 : Int32).toInt64)) + ((2 : Int32).toInt64))), .second, .val (.double c0), .second, .val (.int 1), .unset, .val (.int 2)] [(.double c1), (.int 1), (.ref co)])) (X85.daload hx (j := (1 : Int32)) (v := (.double c1)) (Eq.trans (congrArg (fun h_ => h_[_]?) e85) Ar86.1) (State.isArrayOf_alike hZ.alike Ar86.2.1) Ar86.2.2 hin86 (Hh86.at hin86 rfl) (g := (mkF m 248 #[.val (.ref ao0), .val (.int 0), .val (.int 0), .val (.int 0), .val (.double t0), .second, .val (.long (((2 : Int64) * ((2 : Int32).toInt64)) + ((2 : Int32).toInt64))), .second, .val (.double c0), .second, .val (.int 1), .unset, .val (.int 2)] [(.int 1), (.ref co), (.int 1), (.ref co)])) rfl rfl (hb hby d7_248)) ?_
    refine own_go (x' := T85.setTop (mkF m 252 #[.val (.ref ao0), .val (.int 0), .val (.int 0), .val (.int 0), .val (.double t0), .second, .val (.long (((2 : Int64) * ((2 : Int32).toInt64)) + ((2 : Int32).toInt64))), .second, .val (.double c0), .second, .val (.int 1), .unset, .val (.int 2)] [(.ref ao0), (.double c0), (.double c1), (.int 1), (.ref co)])) (fun _ k => XS.dload X85.here hx rfl (hb hby d7_249) rfl (XS.aloadN X85.here hx rfl (hb hby d7_251) rfl rfl k)) ?_
    obtain ⟨T87, X87, e87, st87⟩ := getF X85 hx hZ hown (host := "") (Or.inl (own_w hw 14 rfl)) Via.refl e85 F_ao0_tableau (g := (mkF m 252 #[.val (.ref ao0), .val (.int 0), .val (.int 0), .val (.int 0), .val (.double t0), .second, .val (.long (((2 : Int64) * ((2 : Int32).toInt64)) + ((2 : Int32).toInt64))), .second, .val (.double c0), .second, .val (.int 1), .unset, .val (.int 2)] [(.ref ao0), (.double c0), (.double c1), (.int 1), (.ref co)])) rfl rfl (hb hby d7_252)
    refine own_go (x' := T87.setTop (mkF m 255 #[.val (.ref ao0), .val (.int 0), .val (.int 0), .val (.int 0), .val (.double t0), .second, .val (.long (((2 : Int64) * ((2 : Int32).toInt64)) + ((2 : Int32).toInt64))), .second, .val (.double c0), .second, .val (.int 1), .unset, .val (.int 2)] [(.ref tb), (.double c0), (.double c1), (.int 1), (.ref co)])) st87 ?_
    refine own_go (x' := T87.setTop (mkF m 259 #[.val (.ref ao0), .val (.int 0), .val (.int 0), .val (.int 0), .val (.double t0), .second, .val (.long (((2 : Int64) * ((2 : Int32).toInt64)) + ((2 : Int32).toInt64))), .second, .val (.double c0), .second, .val (.int 1), .unset, .val (.int 2)] [(.int ((0 : Int32) + (1 : Int32))), (.ref tb), (.double c0), (.double c1), (.int 1), (.ref co)])) (fun _ k => XS.iloadN X87.here hx rfl (hb hby d7_255) rfl (XS.iload X87.here hx rfl (hb hby d7_256) rfl (XS.iadd X87.here hx rfl (hb hby d7_258) rfl k))) ?_
    rw [show ((0 : Int32) + (1 : Int32)) = (1 : Int32) from by decide +kernel]
    obtain ⟨cl88, Ar88, q88, Sz88, Nn88, Hh88, Gg88⟩ := id V_tb
    have hin88 : ¬ ((1 : Int32) < 0 ∨ cl88.slots.size ≤ ((1 : Int32)).toNatClampNeg) := inb_of Sz88 ⟨by decide, by decide⟩
    refine own_go (x' := T87.setTop (mkF m 260 #[.val (.ref ao0), .val (.int 0), .val (.int 0), .val (.int 0), .val (.double t0), .second, .val (.long (((2 : Int64) * ((2 : Int32).toInt64)) + ((2 : Int32).toInt64))), .second, .val (.double c0), .second, .val (.int 1), .unset, .val (.int 2)] [(.double (FP.ddiv t1 t0)), (.double c0), (.double c1), (.int 1), (.ref co)])) (X87.daload hx (j := (1 : Int32)) (v := (.double (FP.ddiv t1 t0))) (Eq.trans (congrArg (fun h_ => h_[_]?) e87) Ar88.1) (State.isArrayOf_alike hZ.alike Ar88.2.1) Ar88.2.2 hin88 (Hh88.at hin88 rfl) (g := (mkF m 259 #[.val (.ref ao0), .val (.int 0), .val (.int 0), .val (.int 0), .val (.double t0), .second, .val (.long (((2 : Int64) * ((2 : Int32).toInt64)) + ((2 : Int32).toInt64))), .second, .val (.double c0), .second, .val (.int 1), .unset, .val (.int 2)] [(.int 1), (.ref tb), (.double c0), (.double c1), (.int 1), (.ref co)])) rfl rfl (hb hby d7_259)) ?_
    refine own_go (x' := T87.setTop (mkF m 262 #[.val (.ref ao0), .val (.int 0), .val (.int 0), .val (.int 0), .val (.double t0), .second, .val (.long (((2 : Int64) * ((2 : Int32).toInt64)) + ((2 : Int32).toInt64))), .second, .val (.double c0), .second, .val (.int 1), .unset, .val (.int 2)] [(.double (FP.dsub c1 (FP.dmul c0 (FP.ddiv t1 t0)))), (.int 1), (.ref co)])) (fun _ k => XS.dmulS X87.here hx rfl (hb hby d7_260) rfl (own_nn (Jvm.Free.Fl.dmul_mag m_c0 (ddiv_mag m_t1 b_t0 (by decide) (by decide)) (by decide) (by decide))) rfl (XS.dsubS X87.here hx rfl (hb hby d7_261) rfl (own_nn (Jvm.Free.Fl.dsub_mag (m_c1.mono (by decide : 1056 ≤ 1091)) ((Jvm.Free.Fl.dmul_mag m_c0 (ddiv_mag m_t1 b_t0 (by decide) (by decide)) (by decide) (by decide)).mono (by decide : 1091 ≤ 1091)) (by decide))) rfl k)) ?_
    obtain ⟨cl89, Ar89, q89, Sz89, Nn89, Hh89, Gg89⟩ := V_co
    have hin89 : ¬ ((1 : Int32) < 0 ∨ cl89.slots.size ≤ ((1 : Int32)).toNatClampNeg) := inb_of Sz89 ⟨by decide, by decide⟩
    obtain ⟨T89, h89, X89, e89, W89, st89⟩ := stD X87 hx hZ e87 Ar89 (j := (1 : Int32)) hin89 (g := (mkF m 262 #[.val (.ref ao0), .val (.int 0), .val (.int 0), .val (.int 0), .val (.double t0), .second, .val (.long (((2 : Int64) * ((2 : Int32).toInt64)) + ((2 : Int32).toInt64))), .second, .val (.double c0), .second, .val (.int 1), .unset, .val (.int 2)] [(.double (FP.dsub c1 (FP.dmul c0 (FP.ddiv t1 t0)))), (.int 1), (.ref co)])) rfl rfl (hb hby d7_262)
    refine own_go (x' := T89.setTop (mkF m 263 #[.val (.ref ao0), .val (.int 0), .val (.int 0), .val (.int 0), .val (.double t0), .second, .val (.long (((2 : Int64) * ((2 : Int32).toInt64)) + ((2 : Int32).toInt64))), .second, .val (.double c0), .second, .val (.int 1), .unset, .val (.int 2)] [])) st89 ?_
    replace F_ao0_rows := Fld.other W89 F_ao0_rows (Or.inl ne_ao0_co)
    replace F_ao0_columns := Fld.other W89 F_ao0_columns (Or.inl ne_ao0_co)
    replace F_ao0_tableau := Fld.other W89 F_ao0_tableau (Or.inl ne_ao0_co)
    replace F_ao0_value := Fld.other W89 F_ao0_value (Or.inl ne_ao0_co)
    replace F_ao0_cost := Fld.other W89 F_ao0_cost (Or.inl ne_ao0_co)
    replace F_ao0_basic := Fld.other W89 F_ao0_basic (Or.inl ne_ao0_co)
    replace F_ao0_nonbasic := Fld.other W89 F_ao0_nonbasic (Or.inl ne_ao0_co)
    replace V_bs := V_bs.other W89 (Ne.symm ne_co_bs)
    replace V_nb := V_nb.other W89 (Ne.symm ne_co_nb)
    replace V_tb := V_tb.other W89 ne_tb_co
    replace V_va := V_va.other W89 ne_va_co
    replace Zs := Nat.le_trans Zs (Keep.of_wr W89).1
    replace Nf := Fr.snoc X89 Nf g_co
    replace Kp := Kp.wr W89 (Or.inl (by simp))
    have V_co : Arv Z h89 co kc .double (2 : Int32) [(.double (FP.dsub c0 (FP.dmul c0 (FP.ddiv (4607182418800017408 : UInt64) t0)))), (.double (FP.dsub c1 (FP.dmul c0 (FP.ddiv t1 t0))))] (.double 0) := Arv.set Ar89 q89 Sz89 Nn89 Hh89 Gg89 rfl W89 1 rfl (Nat.le_of_ble_eq_true rfl)
    refine own_go (x' := T89.setTop (mkF m 232 #[.val (.ref ao0), .val (.int 0), .val (.int 0), .val (.int 0), .val (.double t0), .second, .val (.long (((2 : Int64) * ((2 : Int32).toInt64)) + ((2 : Int32).toInt64))), .second, .val (.double c0), .second, .val (.int ((1 : Int32) + (1 : Int32))), .unset, .val (.int 2)] [])) (fun _ k => XS.iinc X89.here hx rfl (hb hby d7_263) rfl (l' := #[.val (.ref ao0), .val (.int 0), .val (.int 0), .val (.int 0), .val (.double t0), .second, .val (.long (((2 : Int64) * ((2 : Int32).toInt64)) + ((2 : Int32).toInt64))), .second, .val (.double c0), .second, .val (.int ((1 : Int32) + (1 : Int32))), .unset, .val (.int 2)]) rfl (XS.goto X89.here hx rfl (pc0 := 266) (pc' := 232) rfl (hb hby d7_266) (by decide) (by decide) k)) ?_
    rw [show ((1 : Int32) + (1 : Int32)) = (2 : Int32) from by decide +kernel]
    refine own_go (x' := T89.setTop (mkF m 235 #[.val (.ref ao0), .val (.int 0), .val (.int 0), .val (.int 0), .val (.double t0), .second, .val (.long (((2 : Int64) * ((2 : Int32).toInt64)) + ((2 : Int32).toInt64))), .second, .val (.double c0), .second, .val (.int 2), .unset, .val (.int 2)] [(.ref ao0), (.int 2)])) (fun _ k => XS.iload X89.here hx rfl (hb hby d7_232) rfl (XS.aloadN X89.here hx rfl (hb hby d7_234) rfl rfl k)) ?_
    obtain ⟨T90, X90, e90, st90⟩ := getF X89 hx hZ hown (host := "") (Or.inl (own_w hw 12 rfl)) Via.refl e89 F_ao0_columns (g := (mkF m 235 #[.val (.ref ao0), .val (.int 0), .val (.int 0), .val (.int 0), .val (.double t0), .second, .val (.long (((2 : Int64) * ((2 : Int32).toInt64)) + ((2 : Int32).toInt64))), .second, .val (.double c0), .second, .val (.int 2), .unset, .val (.int 2)] [(.ref ao0), (.int 2)])) rfl rfl (hb hby d7_235)
    refine own_go (x' := T90.setTop (mkF m 238 #[.val (.ref ao0), .val (.int 0), .val (.int 0), .val (.int 0), .val (.double t0), .second, .val (.long (((2 : Int64) * ((2 : Int32).toInt64)) + ((2 : Int32).toInt64))), .second, .val (.double c0), .second, .val (.int 2), .unset, .val (.int 2)] [(.int 2), (.int 2)])) st90 ?_
    refine own_go (x' := T90.setTop (mkF m 270 #[.val (.ref ao0), .val (.int 0), .val (.int 0), .val (.int 0), .val (.double t0), .second, .val (.long (((2 : Int64) * ((2 : Int32).toInt64)) + ((2 : Int32).toInt64))), .second, .val (.double c0), .second, .val (.int 2), .unset, .val (.int 2)] [(.ref ao0)])) (fun _ k => XS.icmpYes X90.here hx rfl (pc0 := 238) (pc' := 269) rfl (hb hby d7_238) rfl (flt (Int32.lt_irrefl)).2.1 (by decide) (by decide) (XS.aloadN X90.here hx rfl (hb hby d7_269) rfl rfl k)) ?_
    obtain ⟨T91, X91, e91, st91⟩ := getF X90 hx hZ hown (host := "") (Or.inl (own_w hw 27 rfl)) Via.refl e90 F_ao0_cost (g := (mkF m 270 #[.val (.ref ao0), .val (.int 0), .val (.int 0), .val (.int 0), .val (.double t0), .second, .val (.long (((2 : Int64) * ((2 : Int32).toInt64)) + ((2 : Int32).toInt64))), .second, .val (.double c0), .second, .val (.int 2), .unset, .val (.int 2)] [(.ref ao0)])) rfl rfl (hb hby d7_270)
    refine own_go (x' := T91.setTop (mkF m 273 #[.val (.ref ao0), .val (.int 0), .val (.int 0), .val (.int 0), .val (.double t0), .second, .val (.long (((2 : Int64) * ((2 : Int32).toInt64)) + ((2 : Int32).toInt64))), .second, .val (.double c0), .second, .val (.int 2), .unset, .val (.int 2)] [(.ref co)])) st91 ?_
    refine own_go (x' := T91.setTop (mkF m 280 #[.val (.ref ao0), .val (.int 0), .val (.int 0), .val (.int 0), .val (.double t0), .second, .val (.long (((2 : Int64) * ((2 : Int32).toInt64)) + ((2 : Int32).toInt64))), .second, .val (.double c0), .second, .val (.int 2), .unset, .val (.int 2)] [(.double (FP.ddiv (FP.dneg c0) t0)), (.int 0), (.ref co)])) (fun _ k => XS.iloadN X91.here hx rfl (hb hby d7_273) rfl (XS.dload X91.here hx rfl (hb hby d7_274) rfl (XS.dnegS X91.here hx rfl (hb hby d7_276) rfl rfl (XS.dload X91.here hx rfl (hb hby d7_277) rfl (XS.ddivS X91.here hx rfl (hb hby d7_279) rfl (own_nn (ddiv_mag (dneg_mag m_c0) b_t0 (by decide) (by decide))) rfl k))))) ?_
    obtain ⟨cl92, Ar92, q92, Sz92, Nn92, Hh92, Gg92⟩ := V_co
    have hin92 : ¬ ((0 : Int32) < 0 ∨ cl92.slots.size ≤ ((0 : Int32)).toNatClampNeg) := inb_of Sz92 ⟨by decide, by decide⟩
    obtain ⟨T92, h92, X92, e92, W92, st92⟩ := stD X91 hx hZ e91 Ar92 (j := (0 : Int32)) hin92 (g := (mkF m 280 #[.val (.ref ao0), .val (.int 0), .val (.int 0), .val (.int 0), .val (.double t0), .second, .val (.long (((2 : Int64) * ((2 : Int32).toInt64)) + ((2 : Int32).toInt64))), .second, .val (.double c0), .second, .val (.int 2), .unset, .val (.int 2)] [(.double (FP.ddiv (FP.dneg c0) t0)), (.int 0), (.ref co)])) rfl rfl (hb hby d7_280)
    refine own_go (x' := T92.setTop (mkF m 281 #[.val (.ref ao0), .val (.int 0), .val (.int 0), .val (.int 0), .val (.double t0), .second, .val (.long (((2 : Int64) * ((2 : Int32).toInt64)) + ((2 : Int32).toInt64))), .second, .val (.double c0), .second, .val (.int 2), .unset, .val (.int 2)] [])) st92 ?_
    replace F_ao0_rows := Fld.other W92 F_ao0_rows (Or.inl ne_ao0_co)
    replace F_ao0_columns := Fld.other W92 F_ao0_columns (Or.inl ne_ao0_co)
    replace F_ao0_tableau := Fld.other W92 F_ao0_tableau (Or.inl ne_ao0_co)
    replace F_ao0_value := Fld.other W92 F_ao0_value (Or.inl ne_ao0_co)
    replace F_ao0_cost := Fld.other W92 F_ao0_cost (Or.inl ne_ao0_co)
    replace F_ao0_basic := Fld.other W92 F_ao0_basic (Or.inl ne_ao0_co)
    replace F_ao0_nonbasic := Fld.other W92 F_ao0_nonbasic (Or.inl ne_ao0_co)
    replace V_bs := V_bs.other W92 (Ne.symm ne_co_bs)
    replace V_nb := V_nb.other W92 (Ne.symm ne_co_nb)
    replace V_tb := V_tb.other W92 ne_tb_co
    replace V_va := V_va.other W92 ne_va_co
    replace Zs := Nat.le_trans Zs (Keep.of_wr W92).1
    replace Nf := Fr.snoc X92 Nf g_co
    replace Kp := Kp.wr W92 (Or.inl (by simp))
    have V_co : Arv Z h92 co kc .double (2 : Int32) [(.double (FP.ddiv (FP.dneg c0) t0)), (.double (FP.dsub c1 (FP.dmul c0 (FP.ddiv t1 t0))))] (.double 0) := Arv.set Ar92 q92 Sz92 Nn92 Hh92 Gg92 rfl W92 0 rfl (Nat.le_of_ble_eq_true rfl)
    refine own_go (x' := T92.setTop (mkF m 282 #[.val (.ref ao0), .val (.int 0), .val (.int 0), .val (.int 0), .val (.double t0), .second, .val (.long (((2 : Int64) * ((2 : Int32).toInt64)) + ((2 : Int32).toInt64))), .second, .val (.double c0), .second, .val (.int 2), .unset, .val (.int 2)] [(.ref ao0)])) (fun _ k => XS.aloadN X92.here hx rfl (hb hby d7_281) rfl rfl k) ?_
    obtain ⟨T93, X93, e93, st93⟩ := getF X92 hx hZ hown (host := "") (Or.inl (own_w hw 30 rfl)) Via.refl e92 F_ao0_basic (g := (mkF m 282 #[.val (.ref ao0), .val (.int 0), .val (.int 0), .val (.int 0), .val (.double t0), .second, .val (.long (((2 : Int64) * ((2 : Int32).toInt64)) + ((2 : Int32).toInt64))), .second, .val (.double c0), .second, .val (.int 2), .unset, .val (.int 2)] [(.ref ao0)])) rfl rfl (hb hby d7_282)
    refine own_go (x' := T93.setTop (mkF m 285 #[.val (.ref ao0), .val (.int 0), .val (.int 0), .val (.int 0), .val (.double t0), .second, .val (.long (((2 : Int64) * ((2 : Int32).toInt64)) + ((2 : Int32).toInt64))), .second, .val (.double c0), .second, .val (.int 2), .unset, .val (.int 2)] [(.ref bs)])) st93 ?_
    refine own_go (x' := T93.setTop (mkF m 286 #[.val (.ref ao0), .val (.int 0), .val (.int 0), .val (.int 0), .val (.double t0), .second, .val (.long (((2 : Int64) * ((2 : Int32).toInt64)) + ((2 : Int32).toInt64))), .second, .val (.double c0), .second, .val (.int 2), .unset, .val (.int 2)] [(.int 0), (.ref bs)])) (fun _ k => XS.iloadN X93.here hx rfl (hb hby d7_285) rfl k) ?_
    obtain ⟨cl94, Ar94, q94, Sz94, Nn94, Hh94, Gg94⟩ := id V_bs
    have hin94 : ¬ ((0 : Int32) < 0 ∨ cl94.slots.size ≤ ((0 : Int32)).toNatClampNeg) := inb_of Sz94 ⟨by decide, by decide⟩
    refine own_go (x' := T93.setTop (mkF m 287 #[.val (.ref ao0), .val (.int 0), .val (.int 0), .val (.int 0), .val (.double t0), .second, .val (.long (((2 : Int64) * ((2 : Int32).toInt64)) + ((2 : Int32).toInt64))), .second, .val (.double c0), .second, .val (.int 2), .unset, .val (.int 2)] [(.int 2)])) (X93.iaload hx (j := (0 : Int32)) (v := (.int 2)) (Eq.trans (congrArg (fun h_ => h_[_]?) e93) Ar94.1) (State.isArrayOf_alike hZ.alike Ar94.2.1) Ar94.2.2 hin94 (Hh94.at hin94 rfl) (g := (mkF m 286 #[.val (.ref ao0), .val (.int 0), .val (.int 0), .val (.int 0), .val (.double t0), .second, .val (.long (((2 : Int64) * ((2 : Int32).toInt64)) + ((2 : Int32).toInt64))), .second, .val (.double c0), .second, .val (.int 2), .unset, .val (.int 2)] [(.int 0), (.ref bs)])) rfl rfl (hb hby d7_286)) ?_
    refine own_go (x' := T93.setTop (mkF m 290 #[.val (.ref ao0), .val (.int 0), .val (.int 0), .val (.int 0), .val (.double t0), .second, .val (.long (((2 : Int64) * ((2 : Int32).toInt64)) + ((2 : Int32).toInt64))), .second, .val (.double c0), .second, .val (.int 2), .unset, .val (.int 2)] [(.ref ao0)])) (fun _ k => XS.istore X93.here hx rfl (hb hby d7_287) rfl (l' := #[.val (.ref ao0), .val (.int 0), .val (.int 0), .val (.int 0), .val (.double t0), .second, .val (.long (((2 : Int64) * ((2 : Int32).toInt64)) + ((2 : Int32).toInt64))), .second, .val (.double c0), .second, .val (.int 2), .unset, .val (.int 2)]) rfl (XS.aloadN X93.here hx rfl (hb hby d7_289) rfl rfl k)) ?_
    obtain ⟨T95, X95, e95, st95⟩ := getF X93 hx hZ hown (host := "") (Or.inl (own_w hw 30 rfl)) Via.refl e93 F_ao0_basic (g := (mkF m 290 #[.val (.ref ao0), .val (.int 0), .val (.int 0), .val (.int 0), .val (.double t0), .second, .val (.long (((2 : Int64) * ((2 : Int32).toInt64)) + ((2 : Int32).toInt64))), .second, .val (.double c0), .second, .val (.int 2), .unset, .val (.int 2)] [(.ref ao0)])) rfl rfl (hb hby d7_290)
    refine own_go (x' := T95.setTop (mkF m 293 #[.val (.ref ao0), .val (.int 0), .val (.int 0), .val (.int 0), .val (.double t0), .second, .val (.long (((2 : Int64) * ((2 : Int32).toInt64)) + ((2 : Int32).toInt64))), .second, .val (.double c0), .second, .val (.int 2), .unset, .val (.int 2)] [(.ref bs)])) st95 ?_
    refine own_go (x' := T95.setTop (mkF m 295 #[.val (.ref ao0), .val (.int 0), .val (.int 0), .val (.int 0), .val (.double t0), .second, .val (.long (((2 : Int64) * ((2 : Int32).toInt64)) + ((2 : Int32).toInt64))), .second, .val (.double c0), .second, .val (.int 2), .unset, .val (.int 2)] [(.ref ao0), (.int 0), (.ref bs)])) (fun _ k => XS.iloadN X95.here hx rfl (hb hby d7_293) rfl (XS.aloadN X95.here hx rfl (hb hby d7_294) rfl rfl k)) ?_
    obtain ⟨T96, X96, e96, st96⟩ := getF X95 hx hZ hown (host := "") (Or.inl (own_w hw 32 rfl)) Via.refl e95 F_ao0_nonbasic (g := (mkF m 295 #[.val (.ref ao0), .val (.int 0), .val (.int 0), .val (.int 0), .val (.double t0), .second, .val (.long (((2 : Int64) * ((2 : Int32).toInt64)) + ((2 : Int32).toInt64))), .second, .val (.double c0), .second, .val (.int 2), .unset, .val (.int 2)] [(.ref ao0), (.int 0), (.ref bs)])) rfl rfl (hb hby d7_295)
    refine own_go (x' := T96.setTop (mkF m 298 #[.val (.ref ao0), .val (.int 0), .val (.int 0), .val (.int 0), .val (.double t0), .second, .val (.long (((2 : Int64) * ((2 : Int32).toInt64)) + ((2 : Int32).toInt64))), .second, .val (.double c0), .second, .val (.int 2), .unset, .val (.int 2)] [(.ref nb), (.int 0), (.ref bs)])) st96 ?_
    refine own_go (x' := T96.setTop (mkF m 299 #[.val (.ref ao0), .val (.int 0), .val (.int 0), .val (.int 0), .val (.double t0), .second, .val (.long (((2 : Int64) * ((2 : Int32).toInt64)) + ((2 : Int32).toInt64))), .second, .val (.double c0), .second, .val (.int 2), .unset, .val (.int 2)] [(.int 0), (.ref nb), (.int 0), (.ref bs)])) (fun _ k => XS.iloadN X96.here hx rfl (hb hby d7_298) rfl k) ?_
    obtain ⟨cl97, Ar97, q97, Sz97, Nn97, Hh97, Gg97⟩ := id V_nb
    have hin97 : ¬ ((0 : Int32) < 0 ∨ cl97.slots.size ≤ ((0 : Int32)).toNatClampNeg) := inb_of Sz97 ⟨by decide, by decide⟩
    refine own_go (x' := T96.setTop (mkF m 300 #[.val (.ref ao0), .val (.int 0), .val (.int 0), .val (.int 0), .val (.double t0), .second, .val (.long (((2 : Int64) * ((2 : Int32).toInt64)) + ((2 : Int32).toInt64))), .second, .val (.double c0), .second, .val (.int 2), .unset, .val (.int 2)] [(.int 0), (.int 0), (.ref bs)])) (X96.iaload hx (j := (0 : Int32)) (v := (.int 0)) (Eq.trans (congrArg (fun h_ => h_[_]?) e96) Ar97.1) (State.isArrayOf_alike hZ.alike Ar97.2.1) Ar97.2.2 hin97 (Hh97.at hin97 rfl) (g := (mkF m 299 #[.val (.ref ao0), .val (.int 0), .val (.int 0), .val (.int 0), .val (.double t0), .second, .val (.long (((2 : Int64) * ((2 : Int32).toInt64)) + ((2 : Int32).toInt64))), .second, .val (.double c0), .second, .val (.int 2), .unset, .val (.int 2)] [(.int 0), (.ref nb), (.int 0), (.ref bs)])) rfl rfl (hb hby d7_299)) ?_
    obtain ⟨cl98, Ar98, q98, Sz98, Nn98, Hh98, Gg98⟩ := V_bs
    have hin98 : ¬ ((0 : Int32) < 0 ∨ cl98.slots.size ≤ ((0 : Int32)).toNatClampNeg) := inb_of Sz98 ⟨by decide, by decide⟩
    obtain ⟨T98, h98, X98, e98, W98, st98⟩ := stI X96 hx hZ e96 Ar98 (j := (0 : Int32)) hin98 (g := (mkF m 300 #[.val (.ref ao0), .val (.int 0), .val (.int 0), .val (.int 0), .val (.double t0), .second, .val (.long (((2 : Int64) * ((2 : Int32).toInt64)) + ((2 : Int32).toInt64))), .second, .val (.double c0), .second, .val (.int 2), .unset, .val (.int 2)] [(.int 0), (.int 0), (.ref bs)])) rfl rfl (hb hby d7_300)
    refine own_go (x' := T98.setTop (mkF m 301 #[.val (.ref ao0), .val (.int 0), .val (.int 0), .val (.int 0), .val (.double t0), .second, .val (.long (((2 : Int64) * ((2 : Int32).toInt64)) + ((2 : Int32).toInt64))), .second, .val (.double c0), .second, .val (.int 2), .unset, .val (.int 2)] [])) st98 ?_
    replace F_ao0_rows := Fld.other W98 F_ao0_rows (Or.inl ne_ao0_bs)
    replace F_ao0_columns := Fld.other W98 F_ao0_columns (Or.inl ne_ao0_bs)
    replace F_ao0_tableau := Fld.other W98 F_ao0_tableau (Or.inl ne_ao0_bs)
    replace F_ao0_value := Fld.other W98 F_ao0_value (Or.inl ne_ao0_bs)
    replace F_ao0_cost := Fld.other W98 F_ao0_cost (Or.inl ne_ao0_bs)
    replace F_ao0_basic := Fld.other W98 F_ao0_basic (Or.inl ne_ao0_bs)
    replace F_ao0_nonbasic := Fld.other W98 F_ao0_nonbasic (Or.inl ne_ao0_bs)
    replace V_nb := V_nb.other W98 (Ne.symm ne_bs_nb)
    replace V_tb := V_tb.other W98 ne_tb_bs
    replace V_va := V_va.other W98 ne_va_bs
    replace V_co := V_co.other W98 ne_co_bs
    replace Zs := Nat.le_trans Zs (Keep.of_wr W98).1
    replace Nf := Fr.snoc X98 Nf g_bs
    replace Kp := Kp.wr W98 (Or.inl (by simp))
    have V_bs : Arv Z h98 bs kb .int (2 : Int32) [(.int 0), (.int 3)] (.int 0) := Arv.set Ar98 q98 Sz98 Nn98 Hh98 Gg98 rfl W98 0 rfl (Nat.le_of_ble_eq_true rfl)
    refine own_go (x' := T98.setTop (mkF m 302 #[.val (.ref ao0), .val (.int 0), .val (.int 0), .val (.int 0), .val (.double t0), .second, .val (.long (((2 : Int64) * ((2 : Int32).toInt64)) + ((2 : Int32).toInt64))), .second, .val (.double c0), .second, .val (.int 2), .unset, .val (.int 2)] [(.ref ao0)])) (fun _ k => XS.aloadN X98.here hx rfl (hb hby d7_301) rfl rfl k) ?_
    obtain ⟨T99, X99, e99, st99⟩ := getF X98 hx hZ hown (host := "") (Or.inl (own_w hw 32 rfl)) Via.refl e98 F_ao0_nonbasic (g := (mkF m 302 #[.val (.ref ao0), .val (.int 0), .val (.int 0), .val (.int 0), .val (.double t0), .second, .val (.long (((2 : Int64) * ((2 : Int32).toInt64)) + ((2 : Int32).toInt64))), .second, .val (.double c0), .second, .val (.int 2), .unset, .val (.int 2)] [(.ref ao0)])) rfl rfl (hb hby d7_302)
    refine own_go (x' := T99.setTop (mkF m 305 #[.val (.ref ao0), .val (.int 0), .val (.int 0), .val (.int 0), .val (.double t0), .second, .val (.long (((2 : Int64) * ((2 : Int32).toInt64)) + ((2 : Int32).toInt64))), .second, .val (.double c0), .second, .val (.int 2), .unset, .val (.int 2)] [(.ref nb)])) st99 ?_
    refine own_go (x' := T99.setTop (mkF m 308 #[.val (.ref ao0), .val (.int 0), .val (.int 0), .val (.int 0), .val (.double t0), .second, .val (.long (((2 : Int64) * ((2 : Int32).toInt64)) + ((2 : Int32).toInt64))), .second, .val (.double c0), .second, .val (.int 2), .unset, .val (.int 2)] [(.int 2), (.int 0), (.ref nb)])) (fun _ k => XS.iloadN X99.here hx rfl (hb hby d7_305) rfl (XS.iload X99.here hx rfl (hb hby d7_306) rfl k)) ?_
    obtain ⟨cl100, Ar100, q100, Sz100, Nn100, Hh100, Gg100⟩ := V_nb
    have hin100 : ¬ ((0 : Int32) < 0 ∨ cl100.slots.size ≤ ((0 : Int32)).toNatClampNeg) := inb_of Sz100 ⟨by decide, by decide⟩
    obtain ⟨T100, h100, X100, e100, W100, st100⟩ := stI X99 hx hZ e99 Ar100 (j := (0 : Int32)) hin100 (g := (mkF m 308 #[.val (.ref ao0), .val (.int 0), .val (.int 0), .val (.int 0), .val (.double t0), .second, .val (.long (((2 : Int64) * ((2 : Int32).toInt64)) + ((2 : Int32).toInt64))), .second, .val (.double c0), .second, .val (.int 2), .unset, .val (.int 2)] [(.int 2), (.int 0), (.ref nb)])) rfl rfl (hb hby d7_308)
    refine own_go (x' := T100.setTop (mkF m 309 #[.val (.ref ao0), .val (.int 0), .val (.int 0), .val (.int 0), .val (.double t0), .second, .val (.long (((2 : Int64) * ((2 : Int32).toInt64)) + ((2 : Int32).toInt64))), .second, .val (.double c0), .second, .val (.int 2), .unset, .val (.int 2)] [])) st100 ?_
    replace F_ao0_rows := Fld.other W100 F_ao0_rows (Or.inl ne_ao0_nb)
    replace F_ao0_columns := Fld.other W100 F_ao0_columns (Or.inl ne_ao0_nb)
    replace F_ao0_tableau := Fld.other W100 F_ao0_tableau (Or.inl ne_ao0_nb)
    replace F_ao0_value := Fld.other W100 F_ao0_value (Or.inl ne_ao0_nb)
    replace F_ao0_cost := Fld.other W100 F_ao0_cost (Or.inl ne_ao0_nb)
    replace F_ao0_basic := Fld.other W100 F_ao0_basic (Or.inl ne_ao0_nb)
    replace F_ao0_nonbasic := Fld.other W100 F_ao0_nonbasic (Or.inl ne_ao0_nb)
    replace V_tb := V_tb.other W100 ne_tb_nb
    replace V_va := V_va.other W100 ne_va_nb
    replace V_co := V_co.other W100 ne_co_nb
    replace V_bs := V_bs.other W100 ne_bs_nb
    replace Zs := Nat.le_trans Zs (Keep.of_wr W100).1
    replace Nf := Fr.snoc X100 Nf g_nb
    replace Kp := Kp.wr W100 (Or.inl (by simp))
    have V_nb : Arv Z h100 nb kn .int (2 : Int32) [(.int 2), (.int 1)] (.int 0) := Arv.set Ar100 q100 Sz100 Nn100 Hh100 Gg100 rfl W100 0 rfl (Nat.le_of_ble_eq_true rfl)
    refine own_go (x' := T100.setTop (mkF m 311 #[.val (.ref ao0), .val (.int 0), .val (.int 0), .val (.int 0), .val (.double t0), .second, .val (.long (((2 : Int64) * ((2 : Int32).toInt64)) + ((2 : Int32).toInt64))), .second, .val (.double c0), .second, .val (.int 2), .unset, .val (.int 2)] [(.long (((2 : Int64) * ((2 : Int32).toInt64)) + ((2 : Int32).toInt64)))])) (fun _ k => XS.lload X100.here hx rfl (hb hby d7_309) rfl k) ?_
    refine own_retJ X100 hx hlk hret (hb hby d7_311) ?_ (by decide) (by decide)
    rw [e100]
    exact Or.inr ⟨hc125, by rw [show (((2 : Int64) * ((2 : Int32).toInt64)) + ((2 : Int32).toInt64)) = (6 : Int64) from by decide], Nf, Kp, V_tb, V_va, V_co, V_bs, V_nb⟩
def Q_rm7_1 (Z : State) (ao0 tb va co bs nb : Addr) (kt kv kc kb kn : ClassId) (t0 t1 t2 t3 : UInt64) (w0 w1 : UInt64) (c0 c1 : UInt64) (h0 : Heap) (n0 : Nat) (v : Option Value) (h : Heap) (L : List Loc) : Prop := (cmpValue (FP.dcmp t0 (0 : UInt64)) .l = 0 ∧ v = some (.long (4 : Int64)) ∧ Fr n0 L ∧ Keep h0 h [tb, va, co, bs, nb] ∧ Arv Z h tb kt .double (4 : Int32) [(.double t0), (.double t1), (.double (FP.ddiv (4607182418800017408 : UInt64) t2)), (.double (FP.ddiv t3 t2))] (.double 0) ∧ Arv Z h va kv .double (2 : Int32) [(.double w0), (.double (FP.ddiv w1 t2))] (.double 0) ∧ Arv Z h co kc .double (2 : Int32) [(.double (FP.ddiv (FP.dneg c0) t2)), (.double (FP.dsub c1 (FP.dmul c0 (FP.ddiv t3 t2))))] (.double 0) ∧ Arv Z h bs kb .int (2 : Int32) [(.int 2), (.int 0)] (.int (0 : Int32)) ∧ Arv Z h nb kn .int (2 : Int32) [(.int 3), (.int 1)] (.int (0 : Int32))) ∨ (¬ cmpValue (FP.dcmp t0 (0 : UInt64)) .l = 0 ∧ v = some (.long (6 : Int64)) ∧ Fr n0 L ∧ Keep h0 h [tb, va, co, bs, nb] ∧ Arv Z h tb kt .double (4 : Int32) [(.double (FP.ddiv (FP.dneg t0) t2)), (.double (FP.dsub t1 (FP.dmul t0 (FP.ddiv t3 t2)))), (.double (FP.ddiv (4607182418800017408 : UInt64) t2)), (.double (FP.ddiv t3 t2))] (.double 0) ∧ Arv Z h va kv .double (2 : Int32) [(.double (FP.dsub w0 (FP.dmul t0 (FP.ddiv w1 t2)))), (.double (FP.ddiv w1 t2))] (.double 0) ∧ Arv Z h co kc .double (2 : Int32) [(.double (FP.ddiv (FP.dneg c0) t2)), (.double (FP.dsub c1 (FP.dmul c0 (FP.ddiv t3 t2))))] (.double 0) ∧ Arv Z h bs kb .int (2 : Int32) [(.int 2), (.int 0)] (.int (0 : Int32)) ∧ Arv Z h nb kn .int (2 : Int32) [(.int 3), (.int 1)] (.int (0 : Int32)))
theorem pn_rm7_1 : plainName "com/example/moving_tokens/movingtokens/DualSimplex" = true := by first | (simp [plainName, overriddenIn]; done) | decide +kernel
theorem ef_rm7_1 (m : MethodId) (x0 : Addr) (x1 : Int32) (x2 : Int32) : entryFrame m #[(.ref x0), (.int x1), (.int x2)] 13 = mkF m 0 #[.val (.ref x0), .val (.int x1), .val (.int x2), .unset, .unset, .unset, .unset, .unset, .unset, .unset, .unset, .unset, .unset] [] := by first | (simp [entryFrame, mkF, argsToLocals, Value.category]; done) | rfl
set_option maxRecDepth 65536 in
set_option maxHeartbeats 40000000 in
theorem rm7_1 (l : Launch) (Z : State) (a0 : Array Value) (hw : ∀ d ∈ tables_1, d.before a0 Z = true) (ws : List Jvm.Cond) (ao0 tb va co bs nb : Addr) (kt kv kc kb kn : ClassId) (t0 t1 t2 t3 : UInt64) (w0 w1 : UInt64) (c0 c1 : UInt64) (h0 : Heap) (n0 : Nat) (Z0 : n0 ≤ h0.size) (F_ao0_rows : Fld Z h0 ao0 "com/example/moving_tokens/movingtokens/DualSimplex" "rows" "I" (.int 2)) (F_ao0_columns : Fld Z h0 ao0 "com/example/moving_tokens/movingtokens/DualSimplex" "columns" "I" (.int 2)) (F_ao0_tableau : Fld Z h0 ao0 "com/example/moving_tokens/movingtokens/DualSimplex" "tableau" "[D" (.ref tb)) (F_ao0_value : Fld Z h0 ao0 "com/example/moving_tokens/movingtokens/DualSimplex" "value" "[D" (.ref va)) (F_ao0_cost : Fld Z h0 ao0 "com/example/moving_tokens/movingtokens/DualSimplex" "cost" "[D" (.ref co)) (F_ao0_basic : Fld Z h0 ao0 "com/example/moving_tokens/movingtokens/DualSimplex" "basic" "[I" (.ref bs)) (F_ao0_nonbasic : Fld Z h0 ao0 "com/example/moving_tokens/movingtokens/DualSimplex" "nonbasic" "[I" (.ref nb)) (V_tb : Arv Z h0 tb kt .double (4 : Int32) [(.double t0), (.double t1), (.double t2), (.double t3)] (.double 0)) (V_va : Arv Z h0 va kv .double (2 : Int32) [(.double w0), (.double w1)] (.double 0)) (V_co : Arv Z h0 co kc .double (2 : Int32) [(.double c0), (.double c1)] (.double 0)) (V_bs : Arv Z h0 bs kb .int (2 : Int32) [(.int 2), (.int 3)] (.int (0 : Int32))) (V_nb : Arv Z h0 nb kn .int (2 : Int32) [(.int 0), (.int 1)] (.int (0 : Int32))) (m_t0 : Jvm.Free.Fl.Mag64 1056 t0) (m_t1 : Jvm.Free.Fl.Mag64 1056 t1) (m_t2 : Jvm.Free.Fl.Mag64 1056 t2) (m_t3 : Jvm.Free.Fl.Mag64 1056 t3) (m_w0 : Jvm.Free.Fl.Mag64 1056 w0) (m_w1 : Jvm.Free.Fl.Mag64 1056 w1) (m_c0 : Jvm.Free.Fl.Mag64 1056 c0) (m_c1 : Jvm.Free.Fl.Mag64 1056 c1) (b_t2 : Big64 1023 t2) (ne_ao0_tb : ao0 ≠ tb) (ne_ao0_va : ao0 ≠ va) (ne_ao0_co : ao0 ≠ co) (ne_ao0_bs : ao0 ≠ bs) (ne_ao0_nb : ao0 ≠ nb) (ne_tb_va : tb ≠ va) (ne_tb_co : tb ≠ co) (ne_tb_bs : tb ≠ bs) (ne_tb_nb : tb ≠ nb) (ne_va_co : va ≠ co) (ne_va_bs : va ≠ bs) (ne_va_nb : va ≠ nb) (ne_co_bs : co ≠ bs) (ne_co_nb : co ≠ nb) (ne_bs_nb : bs ≠ nb) (g_tb : n0 ≤ tb) (g_va : n0 ≤ va) (g_co : n0 ≤ co) (g_bs : n0 ≤ bs) (g_nb : n0 ≤ nb) :
    MetFree l (⟨"com/example/moving_tokens/movingtokens/DualSimplex", "pivot", "(II)J"⟩ : MethodName) (head1 (Jvm.Cond.code (⟨"com/example/moving_tokens/movingtokens/DualSimplex", "pivot", "(II)J"⟩ : MethodName) prog_14_method_7_code 13 (some .long) :: ws) ({ frames := 0, cells := 0, slots := 0, locals := 0 } : Room)) (fun a U => a = #[(.ref ao0), (.int 1), (.int 0)] ∧ Z.Warmed39 U.vm ∧ U.heap = h0) (fun _ _ _ _ _ => True) (fun _ U o U' => ∃ v L, o = .returned v ∧ (Q_rm7_1 Z ao0 tb va co bs nb kt kv kc kb kn t0 t1 t2 t3 w0 w1 c0 c1 h0 n0) v U'.heap L ∧ FrameEnd U o U' L ({ frames := 0, cells := 0, slots := 0, locals := 0 } : Room).cells ({ frames := 0, cells := 0, slots := 0, locals := 0 } : Room).slots) := by
  refine MetFree.of_bodySF (plainFor_of_name pn_rm7_1) hisR ?_
  intro p e s m args below meth c s₁ Bd hml0 hP hK
  obtain ⟨rfl, hZ, hh⟩ := hP
  have hx := Bd.exec
  have hby := Bd.bytes
  have hlk := BodyLoose.notSynchronized Bd
  have hret := Bd.returns
  have hml : c.maxLocals = 13 := hml0
  have hown : s.vm.findClass "com/example/moving_tokens/movingtokens/DualSimplex" = some m.cls := findClass_of_methodNamed Bd.named
  have hnm := (name_of_methodNamed Bd.named Bd.method).1
  have X0 : Stand p l e ({ frames := 0, cells := 0, slots := 0, locals := 0 } : Room) s m #[(.ref ao0), (.int 1), (.int 0)] below meth c s₁ [] 0 0 := Stand.of_body Bd
  have e0 : s₁.heap = h0 := by rw [← hh, Bd.state]; rfl
  have Nf := Fr.nil n0
  have Zs := Z0
  have Kp : Keep h0 h0 [tb, va, co, bs, nb] := Keep.refl _ _
  show own_End p e below s (Q_rm7_1 Z ao0 tb va co bs nb kt kv kc kb kn t0 t1 t2 t3 w0 w1 c0 c1 h0 n0) ({ frames := 0, cells := 0, slots := 0, locals := 0 } : Room).cells ({ frames := 0, cells := 0, slots := 0, locals := 0 } : Room).slots (s₁.setTop (entryFrame m #[(.ref ao0), (.int 1), (.int 0)] 13))
  refine own_go (x' := s₁.setTop (mkF m 0 #[.val (.ref ao0), .val (.int 1), .val (.int 0), .unset, .unset, .unset, .unset, .unset, .unset, .unset, .unset, .unset, .unset] [])) (fun t k => castTop (ef_rm7_1 m ao0 (1 : Int32) (0 : Int32)) k) ?_
  refine own_go (x' := s₁.setTop (mkF m 2 #[.val (.ref ao0), .val (.int 1), .val (.int 0), .unset, .unset, .unset, .unset, .unset, .unset, .unset, .unset, .unset, .unset] [(.ref ao0), (.int 1)])) (fun _ k => XS.iloadN X0.here hx rfl (hb hby d7_0) rfl (XS.aloadN X0.here hx rfl (hb hby d7_1) rfl rfl k)) ?_
  obtain ⟨T1, X1, e1, st1⟩ := getF X0 hx hZ hown (host := "") (Or.inl (own_w hw 12 rfl)) Via.refl e0 F_ao0_columns (g := (mkF m 2 #[.val (.ref ao0), .val (.int 1), .val (.int 0), .unset, .unset, .unset, .unset, .unset, .unset, .unset, .unset, .unset, .unset] [(.ref ao0), (.int 1)])) rfl rfl (hb hby d7_2)
  refine own_go (x' := T1.setTop (mkF m 5 #[.val (.ref ao0), .val (.int 1), .val (.int 0), .unset, .unset, .unset, .unset, .unset, .unset, .unset, .unset, .unset, .unset] [(.int 2), (.int 1)])) st1 ?_
  refine own_go (x' := T1.setTop (mkF m 7 #[.val (.ref ao0), .val (.int 1), .val (.int 0), .val (.int ((1 : Int32) * (2 : Int32))), .unset, .unset, .unset, .unset, .unset, .unset, .unset, .unset, .unset] [])) (fun _ k => XS.imul X1.here hx rfl (hb hby d7_5) rfl (XS.istoreN X1.here hx rfl (hb hby d7_6) rfl (l' := #[.val (.ref ao0), .val (.int 1), .val (.int 0), .val (.int ((1 : Int32) * (2 : Int32))), .unset, .unset, .unset, .unset, .unset, .unset, .unset, .unset, .unset]) rfl k)) ?_
  rw [show ((1 : Int32) * (2 : Int32)) = (2 : Int32) from by decide +kernel]
  refine own_go (x' := T1.setTop (mkF m 8 #[.val (.ref ao0), .val (.int 1), .val (.int 0), .val (.int 2), .unset, .unset, .unset, .unset, .unset, .unset, .unset, .unset, .unset] [(.ref ao0)])) (fun _ k => XS.aloadN X1.here hx rfl (hb hby d7_7) rfl rfl k) ?_
  obtain ⟨T2, X2, e2, st2⟩ := getF X1 hx hZ hown (host := "") (Or.inl (own_w hw 14 rfl)) Via.refl e1 F_ao0_tableau (g := (mkF m 8 #[.val (.ref ao0), .val (.int 1), .val (.int 0), .val (.int 2), .unset, .unset, .unset, .unset, .unset, .unset, .unset, .unset, .unset] [(.ref ao0)])) rfl rfl (hb hby d7_8)
  refine own_go (x' := T2.setTop (mkF m 11 #[.val (.ref ao0), .val (.int 1), .val (.int 0), .val (.int 2), .unset, .unset, .unset, .unset, .unset, .unset, .unset, .unset, .unset] [(.ref tb)])) st2 ?_
  refine own_go (x' := T2.setTop (mkF m 14 #[.val (.ref ao0), .val (.int 1), .val (.int 0), .val (.int 2), .unset, .unset, .unset, .unset, .unset, .unset, .unset, .unset, .unset] [(.int ((2 : Int32) + (0 : Int32))), (.ref tb)])) (fun _ k => XS.iloadN X2.here hx rfl (hb hby d7_11) rfl (XS.iloadN X2.here hx rfl (hb hby d7_12) rfl (XS.iadd X2.here hx rfl (hb hby d7_13) rfl k))) ?_
  rw [show ((2 : Int32) + (0 : Int32)) = (2 : Int32) from by decide +kernel]
  obtain ⟨cl3, Ar3, q3, Sz3, Nn3, Hh3, Gg3⟩ := id V_tb
  have hin3 : ¬ ((2 : Int32) < 0 ∨ cl3.slots.size ≤ ((2 : Int32)).toNatClampNeg) := inb_of Sz3 ⟨by decide, by decide⟩
  refine own_go (x' := T2.setTop (mkF m 15 #[.val (.ref ao0), .val (.int 1), .val (.int 0), .val (.int 2), .unset, .unset, .unset, .unset, .unset, .unset, .unset, .unset, .unset] [(.double t2)])) (X2.daload hx (j := (2 : Int32)) (v := (.double t2)) (Eq.trans (congrArg (fun h_ => h_[_]?) e2) Ar3.1) (State.isArrayOf_alike hZ.alike Ar3.2.1) Ar3.2.2 hin3 (Hh3.at hin3 rfl) (g := (mkF m 14 #[.val (.ref ao0), .val (.int 1), .val (.int 0), .val (.int 2), .unset, .unset, .unset, .unset, .unset, .unset, .unset, .unset, .unset] [(.int 2), (.ref tb)])) rfl rfl (hb hby d7_14)) ?_
  refine own_go (x' := T2.setTop (mkF m 23 #[.val (.ref ao0), .val (.int 1), .val (.int 0), .val (.int 2), .val (.double t2), .second, .val (.int 0), .unset, .unset, .unset, .unset, .unset, .unset] [(.ref ao0), (.int 0)])) (fun _ k => XS.dstore X2.here hx rfl (hb hby d7_15) rfl (l' := #[.val (.ref ao0), .val (.int 1), .val (.int 0), .val (.int 2), .val (.double t2), .second, .unset, .unset, .unset, .unset, .unset, .unset, .unset]) rfl (XS.iconst X2.here hx rfl (hb hby d7_17) (XS.istore X2.here hx rfl (hb hby d7_18) rfl (l' := #[.val (.ref ao0), .val (.int 1), .val (.int 0), .val (.int 2), .val (.double t2), .second, .val (.int 0), .unset, .unset, .unset, .unset, .unset, .unset]) rfl (XS.iload X2.here hx rfl (hb hby d7_20) rfl (XS.aloadN X2.here hx rfl (hb hby d7_22) rfl rfl k))))) ?_
  obtain ⟨T4, X4, e4, st4⟩ := getF X2 hx hZ hown (host := "") (Or.inl (own_w hw 12 rfl)) Via.refl e2 F_ao0_columns (g := (mkF m 23 #[.val (.ref ao0), .val (.int 1), .val (.int 0), .val (.int 2), .val (.double t2), .second, .val (.int 0), .unset, .unset, .unset, .unset, .unset, .unset] [(.ref ao0), (.int 0)])) rfl rfl (hb hby d7_23)
  refine own_go (x' := T4.setTop (mkF m 26 #[.val (.ref ao0), .val (.int 1), .val (.int 0), .val (.int 2), .val (.double t2), .second, .val (.int 0), .unset, .unset, .unset, .unset, .unset, .unset] [(.int 2), (.int 0)])) st4 ?_
  refine own_go (x' := T4.setTop (mkF m 30 #[.val (.ref ao0), .val (.int 1), .val (.int 0), .val (.int 2), .val (.double t2), .second, .val (.int 0), .unset, .unset, .unset, .unset, .unset, .unset] [(.ref ao0)])) (fun _ k => XS.icmpNo X4.here hx rfl (hb hby d7_26) rfl (tlt (by decide +kernel : ((0 : Int32) < (2 : Int32)))).2.1 (XS.aloadN X4.here hx rfl (hb hby d7_29) rfl rfl k)) ?_
  obtain ⟨T5, X5, e5, st5⟩ := getF X4 hx hZ hown (host := "") (Or.inl (own_w hw 14 rfl)) Via.refl e4 F_ao0_tableau (g := (mkF m 30 #[.val (.ref ao0), .val (.int 1), .val (.int 0), .val (.int 2), .val (.double t2), .second, .val (.int 0), .unset, .unset, .unset, .unset, .unset, .unset] [(.ref ao0)])) rfl rfl (hb hby d7_30)
  refine own_go (x' := T5.setTop (mkF m 33 #[.val (.ref ao0), .val (.int 1), .val (.int 0), .val (.int 2), .val (.double t2), .second, .val (.int 0), .unset, .unset, .unset, .unset, .unset, .unset] [(.ref tb)])) st5 ?_
  refine own_go (x' := T5.setTop (mkF m 37 #[.val (.ref ao0), .val (.int 1), .val (.int 0), .val (.int 2), .val (.double t2), .second, .val (.int 0), .unset, .unset, .unset, .unset, .unset, .unset] [(.int ((2 : Int32) + (0 : Int32))), (.ref tb)])) (fun _ k => XS.iloadN X5.here hx rfl (hb hby d7_33) rfl (XS.iload X5.here hx rfl (hb hby d7_34) rfl (XS.iadd X5.here hx rfl (hb hby d7_36) rfl k))) ?_
  rw [show ((2 : Int32) + (0 : Int32)) = (2 : Int32) from by decide +kernel]
  refine own_go (x' := T5.setTop (mkF m 38 #[.val (.ref ao0), .val (.int 1), .val (.int 0), .val (.int 2), .val (.double t2), .second, .val (.int 0), .unset, .unset, .unset, .unset, .unset, .unset] [(.int 2), (.ref tb), (.int 2), (.ref tb)])) (fun _ k => Jvm.Free.XT.dup2 X5.here hx rfl (hb hby d7_37) rfl rfl rfl k) ?_
  obtain ⟨cl6, Ar6, q6, Sz6, Nn6, Hh6, Gg6⟩ := id V_tb
  have hin6 : ¬ ((2 : Int32) < 0 ∨ cl6.slots.size ≤ ((2 : Int32)).toNatClampNeg) := inb_of Sz6 ⟨by decide, by decide⟩
  refine own_go (x' := T5.setTop (mkF m 39 #[.val (.ref ao0), .val (.int 1), .val (.int 0), .val (.int 2), .val (.double t2), .second, .val (.int 0), .unset, .unset, .unset, .unset, .unset, .unset] [(.double t2), (.int 2), (.ref tb)])) (X5.daload hx (j := (2 : Int32)) (v := (.double t2)) (Eq.trans (congrArg (fun h_ => h_[_]?) e5) Ar6.1) (State.isArrayOf_alike hZ.alike Ar6.2.1) Ar6.2.2 hin6 (Hh6.at hin6 rfl) (g := (mkF m 38 #[.val (.ref ao0), .val (.int 1), .val (.int 0), .val (.int 2), .val (.double t2), .second, .val (.int 0), .unset, .unset, .unset, .unset, .unset, .unset] [(.int 2), (.ref tb), (.int 2), (.ref tb)])) rfl rfl (hb hby d7_38)) ?_
  refine own_go (x' := T5.setTop (mkF m 42 #[.val (.ref ao0), .val (.int 1), .val (.int 0), .val (.int 2), .val (.double t2), .second, .val (.int 0), .unset, .unset, .unset, .unset, .unset, .unset] [(.double (FP.ddiv t2 t2)), (.int 2), (.ref tb)])) (fun _ k => XS.dload X5.here hx rfl (hb hby d7_39) rfl (XS.ddivS X5.here hx rfl (hb hby d7_41) rfl (own_nn (ddiv_mag m_t2 b_t2 (by decide) (by decide))) rfl k)) ?_
  obtain ⟨cl7, Ar7, q7, Sz7, Nn7, Hh7, Gg7⟩ := V_tb
  have hin7 : ¬ ((2 : Int32) < 0 ∨ cl7.slots.size ≤ ((2 : Int32)).toNatClampNeg) := inb_of Sz7 ⟨by decide, by decide⟩
  obtain ⟨T7, h7, X7, e7, W7, st7⟩ := stD X5 hx hZ e5 Ar7 (j := (2 : Int32)) hin7 (g := (mkF m 42 #[.val (.ref ao0), .val (.int 1), .val (.int 0), .val (.int 2), .val (.double t2), .second, .val (.int 0), .unset, .unset, .unset, .unset, .unset, .unset] [(.double (FP.ddiv t2 t2)), (.int 2), (.ref tb)])) rfl rfl (hb hby d7_42)
  refine own_go (x' := T7.setTop (mkF m 43 #[.val (.ref ao0), .val (.int 1), .val (.int 0), .val (.int 2), .val (.double t2), .second, .val (.int 0), .unset, .unset, .unset, .unset, .unset, .unset] [])) st7 ?_
  replace F_ao0_rows := Fld.other W7 F_ao0_rows (Or.inl ne_ao0_tb)
  replace F_ao0_columns := Fld.other W7 F_ao0_columns (Or.inl ne_ao0_tb)
  replace F_ao0_tableau := Fld.other W7 F_ao0_tableau (Or.inl ne_ao0_tb)
  replace F_ao0_value := Fld.other W7 F_ao0_value (Or.inl ne_ao0_tb)
  replace F_ao0_cost := Fld.other W7 F_ao0_cost (Or.inl ne_ao0_tb)
  replace F_ao0_basic := Fld.other W7 F_ao0_basic (Or.inl ne_ao0_tb)
  replace F_ao0_nonbasic := Fld.other W7 F_ao0_nonbasic (Or.inl ne_ao0_tb)
  replace V_va := V_va.other W7 (Ne.symm ne_tb_va)
  replace V_co := V_co.other W7 (Ne.symm ne_tb_co)
  replace V_bs := V_bs.other W7 (Ne.symm ne_tb_bs)
  replace V_nb := V_nb.other W7 (Ne.symm ne_tb_nb)
  replace Zs := Nat.le_trans Zs (Keep.of_wr W7).1
  replace Nf := Fr.snoc X7 Nf g_tb
  replace Kp := Kp.wr W7 (Or.inl (by simp))
  have V_tb : Arv Z h7 tb kt .double (4 : Int32) [(.double t0), (.double t1), (.double (FP.ddiv t2 t2)), (.double t3)] (.double 0) := Arv.set Ar7 q7 Sz7 Nn7 Hh7 Gg7 rfl W7 2 rfl (Nat.le_of_ble_eq_true rfl)
  refine own_go (x' := T7.setTop (mkF m 20 #[.val (.ref ao0), .val (.int 1), .val (.int 0), .val (.int 2), .val (.double t2), .second, .val (.int ((0 : Int32) + (1 : Int32))), .unset, .unset, .unset, .unset, .unset, .unset] [])) (fun _ k => XS.iinc X7.here hx rfl (hb hby d7_43) rfl (l' := #[.val (.ref ao0), .val (.int 1), .val (.int 0), .val (.int 2), .val (.double t2), .second, .val (.int ((0 : Int32) + (1 : Int32))), .unset, .unset, .unset, .unset, .unset, .unset]) rfl (XS.goto X7.here hx rfl (pc0 := 46) (pc' := 20) rfl (hb hby d7_46) (by decide) (by decide) k)) ?_
  rw [show ((0 : Int32) + (1 : Int32)) = (1 : Int32) from by decide +kernel]
  refine own_go (x' := T7.setTop (mkF m 23 #[.val (.ref ao0), .val (.int 1), .val (.int 0), .val (.int 2), .val (.double t2), .second, .val (.int 1), .unset, .unset, .unset, .unset, .unset, .unset] [(.ref ao0), (.int 1)])) (fun _ k => XS.iload X7.here hx rfl (hb hby d7_20) rfl (XS.aloadN X7.here hx rfl (hb hby d7_22) rfl rfl k)) ?_
  obtain ⟨T8, X8, e8, st8⟩ := getF X7 hx hZ hown (host := "") (Or.inl (own_w hw 12 rfl)) Via.refl e7 F_ao0_columns (g := (mkF m 23 #[.val (.ref ao0), .val (.int 1), .val (.int 0), .val (.int 2), .val (.double t2), .second, .val (.int 1), .unset, .unset, .unset, .unset, .unset, .unset] [(.ref ao0), (.int 1)])) rfl rfl (hb hby d7_23)
  refine own_go (x' := T8.setTop (mkF m 26 #[.val (.ref ao0), .val (.int 1), .val (.int 0), .val (.int 2), .val (.double t2), .second, .val (.int 1), .unset, .unset, .unset, .unset, .unset, .unset] [(.int 2), (.int 1)])) st8 ?_
  refine own_go (x' := T8.setTop (mkF m 30 #[.val (.ref ao0), .val (.int 1), .val (.int 0), .val (.int 2), .val (.double t2), .second, .val (.int 1), .unset, .unset, .unset, .unset, .unset, .unset] [(.ref ao0)])) (fun _ k => XS.icmpNo X8.here hx rfl (hb hby d7_26) rfl (tlt (by decide +kernel : ((1 : Int32) < (2 : Int32)))).2.1 (XS.aloadN X8.here hx rfl (hb hby d7_29) rfl rfl k)) ?_
  obtain ⟨T9, X9, e9, st9⟩ := getF X8 hx hZ hown (host := "") (Or.inl (own_w hw 14 rfl)) Via.refl e8 F_ao0_tableau (g := (mkF m 30 #[.val (.ref ao0), .val (.int 1), .val (.int 0), .val (.int 2), .val (.double t2), .second, .val (.int 1), .unset, .unset, .unset, .unset, .unset, .unset] [(.ref ao0)])) rfl rfl (hb hby d7_30)
  refine own_go (x' := T9.setTop (mkF m 33 #[.val (.ref ao0), .val (.int 1), .val (.int 0), .val (.int 2), .val (.double t2), .second, .val (.int 1), .unset, .unset, .unset, .unset, .unset, .unset] [(.ref tb)])) st9 ?_
  refine own_go (x' := T9.setTop (mkF m 37 #[.val (.ref ao0), .val (.int 1), .val (.int 0), .val (.int 2), .val (.double t2), .second, .val (.int 1), .unset, .unset, .unset, .unset, .unset, .unset] [(.int ((2 : Int32) + (1 : Int32))), (.ref tb)])) (fun _ k => XS.iloadN X9.here hx rfl (hb hby d7_33) rfl (XS.iload X9.here hx rfl (hb hby d7_34) rfl (XS.iadd X9.here hx rfl (hb hby d7_36) rfl k))) ?_
  rw [show ((2 : Int32) + (1 : Int32)) = (3 : Int32) from by decide +kernel]
  refine own_go (x' := T9.setTop (mkF m 38 #[.val (.ref ao0), .val (.int 1), .val (.int 0), .val (.int 2), .val (.double t2), .second, .val (.int 1), .unset, .unset, .unset, .unset, .unset, .unset] [(.int 3), (.ref tb), (.int 3), (.ref tb)])) (fun _ k => Jvm.Free.XT.dup2 X9.here hx rfl (hb hby d7_37) rfl rfl rfl k) ?_
  obtain ⟨cl10, Ar10, q10, Sz10, Nn10, Hh10, Gg10⟩ := id V_tb
  have hin10 : ¬ ((3 : Int32) < 0 ∨ cl10.slots.size ≤ ((3 : Int32)).toNatClampNeg) := inb_of Sz10 ⟨by decide, by decide⟩
  refine own_go (x' := T9.setTop (mkF m 39 #[.val (.ref ao0), .val (.int 1), .val (.int 0), .val (.int 2), .val (.double t2), .second, .val (.int 1), .unset, .unset, .unset, .unset, .unset, .unset] [(.double t3), (.int 3), (.ref tb)])) (X9.daload hx (j := (3 : Int32)) (v := (.double t3)) (Eq.trans (congrArg (fun h_ => h_[_]?) e9) Ar10.1) (State.isArrayOf_alike hZ.alike Ar10.2.1) Ar10.2.2 hin10 (Hh10.at hin10 rfl) (g := (mkF m 38 #[.val (.ref ao0), .val (.int 1), .val (.int 0), .val (.int 2), .val (.double t2), .second, .val (.int 1), .unset, .unset, .unset, .unset, .unset, .unset] [(.int 3), (.ref tb), (.int 3), (.ref tb)])) rfl rfl (hb hby d7_38)) ?_
  refine own_go (x' := T9.setTop (mkF m 42 #[.val (.ref ao0), .val (.int 1), .val (.int 0), .val (.int 2), .val (.double t2), .second, .val (.int 1), .unset, .unset, .unset, .unset, .unset, .unset] [(.double (FP.ddiv t3 t2)), (.int 3), (.ref tb)])) (fun _ k => XS.dload X9.here hx rfl (hb hby d7_39) rfl (XS.ddivS X9.here hx rfl (hb hby d7_41) rfl (own_nn (ddiv_mag m_t3 b_t2 (by decide) (by decide))) rfl k)) ?_
  obtain ⟨cl11, Ar11, q11, Sz11, Nn11, Hh11, Gg11⟩ := V_tb
  have hin11 : ¬ ((3 : Int32) < 0 ∨ cl11.slots.size ≤ ((3 : Int32)).toNatClampNeg) := inb_of Sz11 ⟨by decide, by decide⟩
  obtain ⟨T11, h11, X11, e11, W11, st11⟩ := stD X9 hx hZ e9 Ar11 (j := (3 : Int32)) hin11 (g := (mkF m 42 #[.val (.ref ao0), .val (.int 1), .val (.int 0), .val (.int 2), .val (.double t2), .second, .val (.int 1), .unset, .unset, .unset, .unset, .unset, .unset] [(.double (FP.ddiv t3 t2)), (.int 3), (.ref tb)])) rfl rfl (hb hby d7_42)
  refine own_go (x' := T11.setTop (mkF m 43 #[.val (.ref ao0), .val (.int 1), .val (.int 0), .val (.int 2), .val (.double t2), .second, .val (.int 1), .unset, .unset, .unset, .unset, .unset, .unset] [])) st11 ?_
  replace F_ao0_rows := Fld.other W11 F_ao0_rows (Or.inl ne_ao0_tb)
  replace F_ao0_columns := Fld.other W11 F_ao0_columns (Or.inl ne_ao0_tb)
  replace F_ao0_tableau := Fld.other W11 F_ao0_tableau (Or.inl ne_ao0_tb)
  replace F_ao0_value := Fld.other W11 F_ao0_value (Or.inl ne_ao0_tb)
  replace F_ao0_cost := Fld.other W11 F_ao0_cost (Or.inl ne_ao0_tb)
  replace F_ao0_basic := Fld.other W11 F_ao0_basic (Or.inl ne_ao0_tb)
  replace F_ao0_nonbasic := Fld.other W11 F_ao0_nonbasic (Or.inl ne_ao0_tb)
  replace V_va := V_va.other W11 (Ne.symm ne_tb_va)
  replace V_co := V_co.other W11 (Ne.symm ne_tb_co)
  replace V_bs := V_bs.other W11 (Ne.symm ne_tb_bs)
  replace V_nb := V_nb.other W11 (Ne.symm ne_tb_nb)
  replace Zs := Nat.le_trans Zs (Keep.of_wr W11).1
  replace Nf := Fr.snoc X11 Nf g_tb
  replace Kp := Kp.wr W11 (Or.inl (by simp))
  have V_tb : Arv Z h11 tb kt .double (4 : Int32) [(.double t0), (.double t1), (.double (FP.ddiv t2 t2)), (.double (FP.ddiv t3 t2))] (.double 0) := Arv.set Ar11 q11 Sz11 Nn11 Hh11 Gg11 rfl W11 3 rfl (Nat.le_of_ble_eq_true rfl)
  refine own_go (x' := T11.setTop (mkF m 20 #[.val (.ref ao0), .val (.int 1), .val (.int 0), .val (.int 2), .val (.double t2), .second, .val (.int ((1 : Int32) + (1 : Int32))), .unset, .unset, .unset, .unset, .unset, .unset] [])) (fun _ k => XS.iinc X11.here hx rfl (hb hby d7_43) rfl (l' := #[.val (.ref ao0), .val (.int 1), .val (.int 0), .val (.int 2), .val (.double t2), .second, .val (.int ((1 : Int32) + (1 : Int32))), .unset, .unset, .unset, .unset, .unset, .unset]) rfl (XS.goto X11.here hx rfl (pc0 := 46) (pc' := 20) rfl (hb hby d7_46) (by decide) (by decide) k)) ?_
  rw [show ((1 : Int32) + (1 : Int32)) = (2 : Int32) from by decide +kernel]
  refine own_go (x' := T11.setTop (mkF m 23 #[.val (.ref ao0), .val (.int 1), .val (.int 0), .val (.int 2), .val (.double t2), .second, .val (.int 2), .unset, .unset, .unset, .unset, .unset, .unset] [(.ref ao0), (.int 2)])) (fun _ k => XS.iload X11.here hx rfl (hb hby d7_20) rfl (XS.aloadN X11.here hx rfl (hb hby d7_22) rfl rfl k)) ?_
  obtain ⟨T12, X12, e12, st12⟩ := getF X11 hx hZ hown (host := "") (Or.inl (own_w hw 12 rfl)) Via.refl e11 F_ao0_columns (g := (mkF m 23 #[.val (.ref ao0), .val (.int 1), .val (.int 0), .val (.int 2), .val (.double t2), .second, .val (.int 2), .unset, .unset, .unset, .unset, .unset, .unset] [(.ref ao0), (.int 2)])) rfl rfl (hb hby d7_23)
  refine own_go (x' := T12.setTop (mkF m 26 #[.val (.ref ao0), .val (.int 1), .val (.int 0), .val (.int 2), .val (.double t2), .second, .val (.int 2), .unset, .unset, .unset, .unset, .unset, .unset] [(.int 2), (.int 2)])) st12 ?_
  refine own_go (x' := T12.setTop (mkF m 50 #[.val (.ref ao0), .val (.int 1), .val (.int 0), .val (.int 2), .val (.double t2), .second, .val (.int 2), .unset, .unset, .unset, .unset, .unset, .unset] [(.ref ao0)])) (fun _ k => XS.icmpYes X12.here hx rfl (pc0 := 26) (pc' := 49) rfl (hb hby d7_26) rfl (flt (Int32.lt_irrefl)).2.1 (by decide) (by decide) (XS.aloadN X12.here hx rfl (hb hby d7_49) rfl rfl k)) ?_
  obtain ⟨T13, X13, e13, st13⟩ := getF X12 hx hZ hown (host := "") (Or.inl (own_w hw 14 rfl)) Via.refl e12 F_ao0_tableau (g := (mkF m 50 #[.val (.ref ao0), .val (.int 1), .val (.int 0), .val (.int 2), .val (.double t2), .second, .val (.int 2), .unset, .unset, .unset, .unset, .unset, .unset] [(.ref ao0)])) rfl rfl (hb hby d7_50)
  refine own_go (x' := T13.setTop (mkF m 53 #[.val (.ref ao0), .val (.int 1), .val (.int 0), .val (.int 2), .val (.double t2), .second, .val (.int 2), .unset, .unset, .unset, .unset, .unset, .unset] [(.ref tb)])) st13 ?_
  refine own_go (x' := T13.setTop (mkF m 56 #[.val (.ref ao0), .val (.int 1), .val (.int 0), .val (.int 2), .val (.double t2), .second, .val (.int 2), .unset, .unset, .unset, .unset, .unset, .unset] [(.int ((2 : Int32) + (0 : Int32))), (.ref tb)])) (fun _ k => XS.iloadN X13.here hx rfl (hb hby d7_53) rfl (XS.iloadN X13.here hx rfl (hb hby d7_54) rfl (XS.iadd X13.here hx rfl (hb hby d7_55) rfl k))) ?_
  rw [show ((2 : Int32) + (0 : Int32)) = (2 : Int32) from by decide +kernel]
  refine own_go (x' := T13.setTop (mkF m 60 #[.val (.ref ao0), .val (.int 1), .val (.int 0), .val (.int 2), .val (.double t2), .second, .val (.int 2), .unset, .unset, .unset, .unset, .unset, .unset] [(.double (FP.ddiv (4607182418800017408 : UInt64) t2)), (.int 2), (.ref tb)])) (fun _ k => XS.dconst1 X13.here hx rfl (hb hby d7_56) rfl (XS.dload X13.here hx rfl (hb hby d7_57) rfl (XS.ddivS X13.here hx rfl (hb hby d7_59) rfl (own_nn (ddiv_mag own_m1 b_t2 (by decide) (by decide))) rfl k))) ?_
  obtain ⟨cl14, Ar14, q14, Sz14, Nn14, Hh14, Gg14⟩ := V_tb
  have hin14 : ¬ ((2 : Int32) < 0 ∨ cl14.slots.size ≤ ((2 : Int32)).toNatClampNeg) := inb_of Sz14 ⟨by decide, by decide⟩
  obtain ⟨T14, h14, X14, e14, W14, st14⟩ := stD X13 hx hZ e13 Ar14 (j := (2 : Int32)) hin14 (g := (mkF m 60 #[.val (.ref ao0), .val (.int 1), .val (.int 0), .val (.int 2), .val (.double t2), .second, .val (.int 2), .unset, .unset, .unset, .unset, .unset, .unset] [(.double (FP.ddiv (4607182418800017408 : UInt64) t2)), (.int 2), (.ref tb)])) rfl rfl (hb hby d7_60)
  refine own_go (x' := T14.setTop (mkF m 61 #[.val (.ref ao0), .val (.int 1), .val (.int 0), .val (.int 2), .val (.double t2), .second, .val (.int 2), .unset, .unset, .unset, .unset, .unset, .unset] [])) st14 ?_
  replace F_ao0_rows := Fld.other W14 F_ao0_rows (Or.inl ne_ao0_tb)
  replace F_ao0_columns := Fld.other W14 F_ao0_columns (Or.inl ne_ao0_tb)
  replace F_ao0_tableau := Fld.other W14 F_ao0_tableau (Or.inl ne_ao0_tb)
  replace F_ao0_value := Fld.other W14 F_ao0_value (Or.inl ne_ao0_tb)
  replace F_ao0_cost := Fld.other W14 F_ao0_cost (Or.inl ne_ao0_tb)
  replace F_ao0_basic := Fld.other W14 F_ao0_basic (Or.inl ne_ao0_tb)
  replace F_ao0_nonbasic := Fld.other W14 F_ao0_nonbasic (Or.inl ne_ao0_tb)
  replace V_va := V_va.other W14 (Ne.symm ne_tb_va)
  replace V_co := V_co.other W14 (Ne.symm ne_tb_co)
  replace V_bs := V_bs.other W14 (Ne.symm ne_tb_bs)
  replace V_nb := V_nb.other W14 (Ne.symm ne_tb_nb)
  replace Zs := Nat.le_trans Zs (Keep.of_wr W14).1
  replace Nf := Fr.snoc X14 Nf g_tb
  replace Kp := Kp.wr W14 (Or.inl (by simp))
  have V_tb : Arv Z h14 tb kt .double (4 : Int32) [(.double t0), (.double t1), (.double (FP.ddiv (4607182418800017408 : UInt64) t2)), (.double (FP.ddiv t3 t2))] (.double 0) := Arv.set Ar14 q14 Sz14 Nn14 Hh14 Gg14 rfl W14 2 rfl (Nat.le_of_ble_eq_true rfl)
  refine own_go (x' := T14.setTop (mkF m 62 #[.val (.ref ao0), .val (.int 1), .val (.int 0), .val (.int 2), .val (.double t2), .second, .val (.int 2), .unset, .unset, .unset, .unset, .unset, .unset] [(.ref ao0)])) (fun _ k => XS.aloadN X14.here hx rfl (hb hby d7_61) rfl rfl k) ?_
  obtain ⟨T15, X15, e15, st15⟩ := getF X14 hx hZ hown (host := "") (Or.inl (own_w hw 25 rfl)) Via.refl e14 F_ao0_value (g := (mkF m 62 #[.val (.ref ao0), .val (.int 1), .val (.int 0), .val (.int 2), .val (.double t2), .second, .val (.int 2), .unset, .unset, .unset, .unset, .unset, .unset] [(.ref ao0)])) rfl rfl (hb hby d7_62)
  refine own_go (x' := T15.setTop (mkF m 65 #[.val (.ref ao0), .val (.int 1), .val (.int 0), .val (.int 2), .val (.double t2), .second, .val (.int 2), .unset, .unset, .unset, .unset, .unset, .unset] [(.ref va)])) st15 ?_
  refine own_go (x' := T15.setTop (mkF m 67 #[.val (.ref ao0), .val (.int 1), .val (.int 0), .val (.int 2), .val (.double t2), .second, .val (.int 2), .unset, .unset, .unset, .unset, .unset, .unset] [(.int 1), (.ref va), (.int 1), (.ref va)])) (fun _ k => XS.iloadN X15.here hx rfl (hb hby d7_65) rfl (Jvm.Free.XT.dup2 X15.here hx rfl (hb hby d7_66) rfl rfl rfl k)) ?_
  obtain ⟨cl16, Ar16, q16, Sz16, Nn16, Hh16, Gg16⟩ := id V_va
  have hin16 : ¬ ((1 : Int32) < 0 ∨ cl16.slots.size ≤ ((1 : Int32)).toNatClampNeg) := inb_of Sz16 ⟨by decide, by decide⟩
  refine own_go (x' := T15.setTop (mkF m 68 #[.val (.ref ao0), .val (.int 1), .val (.int 0), .val (.int 2), .val (.double t2), .second, .val (.int 2), .unset, .unset, .unset, .unset, .unset, .unset] [(.double w1), (.int 1), (.ref va)])) (X15.daload hx (j := (1 : Int32)) (v := (.double w1)) (Eq.trans (congrArg (fun h_ => h_[_]?) e15) Ar16.1) (State.isArrayOf_alike hZ.alike Ar16.2.1) Ar16.2.2 hin16 (Hh16.at hin16 rfl) (g := (mkF m 67 #[.val (.ref ao0), .val (.int 1), .val (.int 0), .val (.int 2), .val (.double t2), .second, .val (.int 2), .unset, .unset, .unset, .unset, .unset, .unset] [(.int 1), (.ref va), (.int 1), (.ref va)])) rfl rfl (hb hby d7_67)) ?_
  refine own_go (x' := T15.setTop (mkF m 71 #[.val (.ref ao0), .val (.int 1), .val (.int 0), .val (.int 2), .val (.double t2), .second, .val (.int 2), .unset, .unset, .unset, .unset, .unset, .unset] [(.double (FP.ddiv w1 t2)), (.int 1), (.ref va)])) (fun _ k => XS.dload X15.here hx rfl (hb hby d7_68) rfl (XS.ddivS X15.here hx rfl (hb hby d7_70) rfl (own_nn (ddiv_mag m_w1 b_t2 (by decide) (by decide))) rfl k)) ?_
  obtain ⟨cl17, Ar17, q17, Sz17, Nn17, Hh17, Gg17⟩ := V_va
  have hin17 : ¬ ((1 : Int32) < 0 ∨ cl17.slots.size ≤ ((1 : Int32)).toNatClampNeg) := inb_of Sz17 ⟨by decide, by decide⟩
  obtain ⟨T17, h17, X17, e17, W17, st17⟩ := stD X15 hx hZ e15 Ar17 (j := (1 : Int32)) hin17 (g := (mkF m 71 #[.val (.ref ao0), .val (.int 1), .val (.int 0), .val (.int 2), .val (.double t2), .second, .val (.int 2), .unset, .unset, .unset, .unset, .unset, .unset] [(.double (FP.ddiv w1 t2)), (.int 1), (.ref va)])) rfl rfl (hb hby d7_71)
  refine own_go (x' := T17.setTop (mkF m 72 #[.val (.ref ao0), .val (.int 1), .val (.int 0), .val (.int 2), .val (.double t2), .second, .val (.int 2), .unset, .unset, .unset, .unset, .unset, .unset] [])) st17 ?_
  replace F_ao0_rows := Fld.other W17 F_ao0_rows (Or.inl ne_ao0_va)
  replace F_ao0_columns := Fld.other W17 F_ao0_columns (Or.inl ne_ao0_va)
  replace F_ao0_tableau := Fld.other W17 F_ao0_tableau (Or.inl ne_ao0_va)
  replace F_ao0_value := Fld.other W17 F_ao0_value (Or.inl ne_ao0_va)
  replace F_ao0_cost := Fld.other W17 F_ao0_cost (Or.inl ne_ao0_va)
  replace F_ao0_basic := Fld.other W17 F_ao0_basic (Or.inl ne_ao0_va)
  replace F_ao0_nonbasic := Fld.other W17 F_ao0_nonbasic (Or.inl ne_ao0_va)
  replace V_co := V_co.other W17 (Ne.symm ne_va_co)
  replace V_bs := V_bs.other W17 (Ne.symm ne_va_bs)
  replace V_nb := V_nb.other W17 (Ne.symm ne_va_nb)
  replace V_tb := V_tb.other W17 ne_tb_va
  replace Zs := Nat.le_trans Zs (Keep.of_wr W17).1
  replace Nf := Fr.snoc X17 Nf g_va
  replace Kp := Kp.wr W17 (Or.inl (by simp))
  have V_va : Arv Z h17 va kv .double (2 : Int32) [(.double w0), (.double (FP.ddiv w1 t2))] (.double 0) := Arv.set Ar17 q17 Sz17 Nn17 Hh17 Gg17 rfl W17 1 rfl (Nat.le_of_ble_eq_true rfl)
  refine own_go (x' := T17.setTop (mkF m 75 #[.val (.ref ao0), .val (.int 1), .val (.int 0), .val (.int 2), .val (.double t2), .second, .val (.int 2), .unset, .unset, .unset, .unset, .unset, .unset] [(.long 2)])) (fun t k => X17.ldc2Long hx hown (mvT hZ (own_w hw 59 rfl)) (g := (mkF m 72 #[.val (.ref ao0), .val (.int 1), .val (.int 0), .val (.int 2), .val (.double t2), .second, .val (.int 2), .unset, .unset, .unset, .unset, .unset, .unset] [])) rfl (hb hby d7_72) t k) ?_
  refine own_go (x' := T17.setTop (mkF m 76 #[.val (.ref ao0), .val (.int 1), .val (.int 0), .val (.int 2), .val (.double t2), .second, .val (.int 2), .unset, .unset, .unset, .unset, .unset, .unset] [(.ref ao0), (.long 2)])) (fun _ k => XS.aloadN X17.here hx rfl (hb hby d7_75) rfl rfl k) ?_
  obtain ⟨T18, X18, e18, st18⟩ := getF X17 hx hZ hown (host := "") (Or.inl (own_w hw 12 rfl)) Via.refl e17 F_ao0_columns (g := (mkF m 76 #[.val (.ref ao0), .val (.int 1), .val (.int 0), .val (.int 2), .val (.double t2), .second, .val (.int 2), .unset, .unset, .unset, .unset, .unset, .unset] [(.ref ao0), (.long 2)])) rfl rfl (hb hby d7_76)
  refine own_go (x' := T18.setTop (mkF m 79 #[.val (.ref ao0), .val (.int 1), .val (.int 0), .val (.int 2), .val (.double t2), .second, .val (.int 2), .unset, .unset, .unset, .unset, .unset, .unset] [(.int 2), (.long 2)])) st18 ?_
  refine own_go (x' := T18.setTop (mkF m 88 #[.val (.ref ao0), .val (.int 1), .val (.int 0), .val (.int 2), .val (.double t2), .second, .val (.long ((2 : Int64) * ((2 : Int32).toInt64))), .second, .val (.int 0), .unset, .unset, .unset, .unset] [(.int 0)])) (fun _ k => XS.i2l X18.here hx rfl (hb hby d7_79) rfl (XS.lmul X18.here hx rfl (hb hby d7_80) rfl (XS.lstore X18.here hx rfl (hb hby d7_81) rfl (l' := #[.val (.ref ao0), .val (.int 1), .val (.int 0), .val (.int 2), .val (.double t2), .second, .val (.long ((2 : Int64) * ((2 : Int32).toInt64))), .second, .unset, .unset, .unset, .unset, .unset]) rfl (XS.iconst X18.here hx rfl (hb hby d7_83) (XS.istore X18.here hx rfl (hb hby d7_84) rfl (l' := #[.val (.ref ao0), .val (.int 1), .val (.int 0), .val (.int 2), .val (.double t2), .second, .val (.long ((2 : Int64) * ((2 : Int32).toInt64))), .second, .val (.int 0), .unset, .unset, .unset, .unset]) rfl (XS.iload X18.here hx rfl (hb hby d7_86) rfl k)))))) ?_
  refine own_go (x' := T18.setTop (mkF m 89 #[.val (.ref ao0), .val (.int 1), .val (.int 0), .val (.int 2), .val (.double t2), .second, .val (.long ((2 : Int64) * ((2 : Int32).toInt64))), .second, .val (.int 0), .unset, .unset, .unset, .unset] [(.ref ao0), (.int 0)])) (fun _ k => XS.aloadN X18.here hx rfl (hb hby d7_88) rfl rfl k) ?_
  obtain ⟨T19, X19, e19, st19⟩ := getF X18 hx hZ hown (host := "") (Or.inl (own_w hw 10 rfl)) Via.refl e18 F_ao0_rows (g := (mkF m 89 #[.val (.ref ao0), .val (.int 1), .val (.int 0), .val (.int 2), .val (.double t2), .second, .val (.long ((2 : Int64) * ((2 : Int32).toInt64))), .second, .val (.int 0), .unset, .unset, .unset, .unset] [(.ref ao0), (.int 0)])) rfl rfl (hb hby d7_89)
  refine own_go (x' := T19.setTop (mkF m 92 #[.val (.ref ao0), .val (.int 1), .val (.int 0), .val (.int 2), .val (.double t2), .second, .val (.long ((2 : Int64) * ((2 : Int32).toInt64))), .second, .val (.int 0), .unset, .unset, .unset, .unset] [(.int 2), (.int 0)])) st19 ?_
  refine own_go (x' := T19.setTop (mkF m 98 #[.val (.ref ao0), .val (.int 1), .val (.int 0), .val (.int 2), .val (.double t2), .second, .val (.long ((2 : Int64) * ((2 : Int32).toInt64))), .second, .val (.int 0), .unset, .unset, .unset, .unset] [(.ref ao0), (.int 0)])) (fun _ k => XS.icmpNo X19.here hx rfl (hb hby d7_92) rfl (tlt (by decide +kernel : ((0 : Int32) < (2 : Int32)))).2.1 (XS.iload X19.here hx rfl (hb hby d7_95) rfl (XS.aloadN X19.here hx rfl (hb hby d7_97) rfl rfl k))) ?_
  obtain ⟨T20, X20, e20, st20⟩ := getF X19 hx hZ hown (host := "") (Or.inl (own_w hw 12 rfl)) Via.refl e19 F_ao0_columns (g := (mkF m 98 #[.val (.ref ao0), .val (.int 1), .val (.int 0), .val (.int 2), .val (.double t2), .second, .val (.long ((2 : Int64) * ((2 : Int32).toInt64))), .second, .val (.int 0), .unset, .unset, .unset, .unset] [(.ref ao0), (.int 0)])) rfl rfl (hb hby d7_98)
  refine own_go (x' := T20.setTop (mkF m 101 #[.val (.ref ao0), .val (.int 1), .val (.int 0), .val (.int 2), .val (.double t2), .second, .val (.long ((2 : Int64) * ((2 : Int32).toInt64))), .second, .val (.int 0), .unset, .unset, .unset, .unset] [(.int 2), (.int 0)])) st20 ?_
  refine own_go (x' := T20.setTop (mkF m 104 #[.val (.ref ao0), .val (.int 1), .val (.int 0), .val (.int 2), .val (.double t2), .second, .val (.long ((2 : Int64) * ((2 : Int32).toInt64))), .second, .val (.int 0), .val (.int ((0 : Int32) * (2 : Int32))), .unset, .unset, .unset] [])) (fun _ k => XS.imul X20.here hx rfl (hb hby d7_101) rfl (XS.istore X20.here hx rfl (hb hby d7_102) rfl (l' := #[.val (.ref ao0), .val (.int 1), .val (.int 0), .val (.int 2), .val (.double t2), .second, .val (.long ((2 : Int64) * ((2 : Int32).toInt64))), .second, .val (.int 0), .val (.int ((0 : Int32) * (2 : Int32))), .unset, .unset, .unset]) rfl k)) ?_
  rw [show ((0 : Int32) * (2 : Int32)) = (0 : Int32) from by decide +kernel]
  refine own_go (x' := T20.setTop (mkF m 105 #[.val (.ref ao0), .val (.int 1), .val (.int 0), .val (.int 2), .val (.double t2), .second, .val (.long ((2 : Int64) * ((2 : Int32).toInt64))), .second, .val (.int 0), .val (.int 0), .unset, .unset, .unset] [(.ref ao0)])) (fun _ k => XS.aloadN X20.here hx rfl (hb hby d7_104) rfl rfl k) ?_
  obtain ⟨T21, X21, e21, st21⟩ := getF X20 hx hZ hown (host := "") (Or.inl (own_w hw 14 rfl)) Via.refl e20 F_ao0_tableau (g := (mkF m 105 #[.val (.ref ao0), .val (.int 1), .val (.int 0), .val (.int 2), .val (.double t2), .second, .val (.long ((2 : Int64) * ((2 : Int32).toInt64))), .second, .val (.int 0), .val (.int 0), .unset, .unset, .unset] [(.ref ao0)])) rfl rfl (hb hby d7_105)
  refine own_go (x' := T21.setTop (mkF m 108 #[.val (.ref ao0), .val (.int 1), .val (.int 0), .val (.int 2), .val (.double t2), .second, .val (.long ((2 : Int64) * ((2 : Int32).toInt64))), .second, .val (.int 0), .val (.int 0), .unset, .unset, .unset] [(.ref tb)])) st21 ?_
  refine own_go (x' := T21.setTop (mkF m 112 #[.val (.ref ao0), .val (.int 1), .val (.int 0), .val (.int 2), .val (.double t2), .second, .val (.long ((2 : Int64) * ((2 : Int32).toInt64))), .second, .val (.int 0), .val (.int 0), .unset, .unset, .unset] [(.int ((0 : Int32) + (0 : Int32))), (.ref tb)])) (fun _ k => XS.iload X21.here hx rfl (hb hby d7_108) rfl (XS.iloadN X21.here hx rfl (hb hby d7_110) rfl (XS.iadd X21.here hx rfl (hb hby d7_111) rfl k))) ?_
  rw [show ((0 : Int32) + (0 : Int32)) = (0 : Int32) from by decide +kernel]
  obtain ⟨cl22, Ar22, q22, Sz22, Nn22, Hh22, Gg22⟩ := id V_tb
  have hin22 : ¬ ((0 : Int32) < 0 ∨ cl22.slots.size ≤ ((0 : Int32)).toNatClampNeg) := inb_of Sz22 ⟨by decide, by decide⟩
  refine own_go (x' := T21.setTop (mkF m 113 #[.val (.ref ao0), .val (.int 1), .val (.int 0), .val (.int 2), .val (.double t2), .second, .val (.long ((2 : Int64) * ((2 : Int32).toInt64))), .second, .val (.int 0), .val (.int 0), .unset, .unset, .unset] [(.double t0)])) (X21.daload hx (j := (0 : Int32)) (v := (.double t0)) (Eq.trans (congrArg (fun h_ => h_[_]?) e21) Ar22.1) (State.isArrayOf_alike hZ.alike Ar22.2.1) Ar22.2.2 hin22 (Hh22.at hin22 rfl) (g := (mkF m 112 #[.val (.ref ao0), .val (.int 1), .val (.int 0), .val (.int 2), .val (.double t2), .second, .val (.long ((2 : Int64) * ((2 : Int32).toInt64))), .second, .val (.int 0), .val (.int 0), .unset, .unset, .unset] [(.int 0), (.ref tb)])) rfl rfl (hb hby d7_112)) ?_
  refine own_go (x' := T21.setTop (mkF m 124 #[.val (.ref ao0), .val (.int 1), .val (.int 0), .val (.int 2), .val (.double t2), .second, .val (.long ((2 : Int64) * ((2 : Int32).toInt64))), .second, .val (.int 0), .val (.int 0), .val (.double t0), .second, .unset] [(.double (0 : UInt64)), (.double t0)])) (fun _ k => XS.dstore X21.here hx rfl (hb hby d7_113) rfl (l' := #[.val (.ref ao0), .val (.int 1), .val (.int 0), .val (.int 2), .val (.double t2), .second, .val (.long ((2 : Int64) * ((2 : Int32).toInt64))), .second, .val (.int 0), .val (.int 0), .val (.double t0), .second, .unset]) rfl (XS.iload X21.here hx rfl (hb hby d7_115) rfl (XS.iloadN X21.here hx rfl (hb hby d7_117) rfl (XS.icmpNo X21.here hx rfl (hb hby d7_118) rfl (feq (by decide +kernel : ¬ ((0 : Int32) = (1 : Int32)))).1 (XS.dload X21.here hx rfl (hb hby d7_121) rfl (XS.dconst0 X21.here hx rfl (hb hby d7_123) rfl k)))))) ?_
  refine own_go (x' := T21.setTop (mkF m 125 #[.val (.ref ao0), .val (.int 1), .val (.int 0), .val (.int 2), .val (.double t2), .second, .val (.long ((2 : Int64) * ((2 : Int32).toInt64))), .second, .val (.int 0), .val (.int 0), .val (.double t0), .second, .unset] [(.int (cmpValue (FP.dcmp t0 (0 : UInt64)) .l))])) (fun _ k => XS.dcmpS X21.here hx rfl (hb hby d7_124) rfl rfl k) ?_
  by_cases hc125 : (cmpValue (FP.dcmp t0 (0 : UInt64)) .l) = (0 : Int32)
  · refine own_go (x' := T21.setTop (mkF m 86 #[.val (.ref ao0), .val (.int 1), .val (.int 0), .val (.int 2), .val (.double t2), .second, .val (.long ((2 : Int64) * ((2 : Int32).toInt64))), .second, .val (.int ((0 : Int32) + (1 : Int32))), .val (.int 0), .val (.double t0), .second, .unset] [])) (fun _ k => XS.ifYes X21.here hx rfl (pc0 := 125) (pc' := 215) rfl (hb hby d7_125) rfl ((if0 _ _).trans (teq hc125).1) (by decide) (by decide) (XS.iinc X21.here hx rfl (hb hby d7_215) rfl (l' := #[.val (.ref ao0), .val (.int 1), .val (.int 0), .val (.int 2), .val (.double t2), .second, .val (.long ((2 : Int64) * ((2 : Int32).toInt64))), .second, .val (.int ((0 : Int32) + (1 : Int32))), .val (.int 0), .val (.double t0), .second, .unset]) rfl (XS.goto X21.here hx rfl (pc0 := 218) (pc' := 86) rfl (hb hby d7_218) (by decide) (by decide) k))) ?_
    rw [show ((0 : Int32) + (1 : Int32)) = (1 : Int32) from by decide +kernel]
    refine own_go (x' := T21.setTop (mkF m 89 #[.val (.ref ao0), .val (.int 1), .val (.int 0), .val (.int 2), .val (.double t2), .second, .val (.long ((2 : Int64) * ((2 : Int32).toInt64))), .second, .val (.int 1), .val (.int 0), .val (.double t0), .second, .unset] [(.ref ao0), (.int 1)])) (fun _ k => XS.iload X21.here hx rfl (hb hby d7_86) rfl (XS.aloadN X21.here hx rfl (hb hby d7_88) rfl rfl k)) ?_
    obtain ⟨T23, X23, e23, st23⟩ := getF X21 hx hZ hown (host := "") (Or.inl (own_w hw 10 rfl)) Via.refl e21 F_ao0_rows (g := (mkF m 89 #[.val (.ref ao0), .val (.int 1), .val (.int 0), .val (.int 2), .val (.double t2), .second, .val (.long ((2 : Int64) * ((2 : Int32).toInt64))), .second, .val (.int 1), .val (.int 0), .val (.double t0), .second, .unset] [(.ref ao0), (.int 1)])) rfl rfl (hb hby d7_89)
    refine own_go (x' := T23.setTop (mkF m 92 #[.val (.ref ao0), .val (.int 1), .val (.int 0), .val (.int 2), .val (.double t2), .second, .val (.long ((2 : Int64) * ((2 : Int32).toInt64))), .second, .val (.int 1), .val (.int 0), .val (.double t0), .second, .unset] [(.int 2), (.int 1)])) st23 ?_
    refine own_go (x' := T23.setTop (mkF m 98 #[.val (.ref ao0), .val (.int 1), .val (.int 0), .val (.int 2), .val (.double t2), .second, .val (.long ((2 : Int64) * ((2 : Int32).toInt64))), .second, .val (.int 1), .val (.int 0), .val (.double t0), .second, .unset] [(.ref ao0), (.int 1)])) (fun _ k => XS.icmpNo X23.here hx rfl (hb hby d7_92) rfl (tlt (by decide +kernel : ((1 : Int32) < (2 : Int32)))).2.1 (XS.iload X23.here hx rfl (hb hby d7_95) rfl (XS.aloadN X23.here hx rfl (hb hby d7_97) rfl rfl k))) ?_
    obtain ⟨T24, X24, e24, st24⟩ := getF X23 hx hZ hown (host := "") (Or.inl (own_w hw 12 rfl)) Via.refl e23 F_ao0_columns (g := (mkF m 98 #[.val (.ref ao0), .val (.int 1), .val (.int 0), .val (.int 2), .val (.double t2), .second, .val (.long ((2 : Int64) * ((2 : Int32).toInt64))), .second, .val (.int 1), .val (.int 0), .val (.double t0), .second, .unset] [(.ref ao0), (.int 1)])) rfl rfl (hb hby d7_98)
    refine own_go (x' := T24.setTop (mkF m 101 #[.val (.ref ao0), .val (.int 1), .val (.int 0), .val (.int 2), .val (.double t2), .second, .val (.long ((2 : Int64) * ((2 : Int32).toInt64))), .second, .val (.int 1), .val (.int 0), .val (.double t0), .second, .unset] [(.int 2), (.int 1)])) st24 ?_
    refine own_go (x' := T24.setTop (mkF m 104 #[.val (.ref ao0), .val (.int 1), .val (.int 0), .val (.int 2), .val (.double t2), .second, .val (.long ((2 : Int64) * ((2 : Int32).toInt64))), .second, .val (.int 1), .val (.int ((1 : Int32) * (2 : Int32))), .val (.double t0), .second, .unset] [])) (fun _ k => XS.imul X24.here hx rfl (hb hby d7_101) rfl (XS.istore X24.here hx rfl (hb hby d7_102) rfl (l' := #[.val (.ref ao0), .val (.int 1), .val (.int 0), .val (.int 2), .val (.double t2), .second, .val (.long ((2 : Int64) * ((2 : Int32).toInt64))), .second, .val (.int 1), .val (.int ((1 : Int32) * (2 : Int32))), .val (.double t0), .second, .unset]) rfl k)) ?_
    rw [show ((1 : Int32) * (2 : Int32)) = (2 : Int32) from by decide +kernel]
    refine own_go (x' := T24.setTop (mkF m 105 #[.val (.ref ao0), .val (.int 1), .val (.int 0), .val (.int 2), .val (.double t2), .second, .val (.long ((2 : Int64) * ((2 : Int32).toInt64))), .second, .val (.int 1), .val (.int 2), .val (.double t0), .second, .unset] [(.ref ao0)])) (fun _ k => XS.aloadN X24.here hx rfl (hb hby d7_104) rfl rfl k) ?_
    obtain ⟨T25, X25, e25, st25⟩ := getF X24 hx hZ hown (host := "") (Or.inl (own_w hw 14 rfl)) Via.refl e24 F_ao0_tableau (g := (mkF m 105 #[.val (.ref ao0), .val (.int 1), .val (.int 0), .val (.int 2), .val (.double t2), .second, .val (.long ((2 : Int64) * ((2 : Int32).toInt64))), .second, .val (.int 1), .val (.int 2), .val (.double t0), .second, .unset] [(.ref ao0)])) rfl rfl (hb hby d7_105)
    refine own_go (x' := T25.setTop (mkF m 108 #[.val (.ref ao0), .val (.int 1), .val (.int 0), .val (.int 2), .val (.double t2), .second, .val (.long ((2 : Int64) * ((2 : Int32).toInt64))), .second, .val (.int 1), .val (.int 2), .val (.double t0), .second, .unset] [(.ref tb)])) st25 ?_
    refine own_go (x' := T25.setTop (mkF m 112 #[.val (.ref ao0), .val (.int 1), .val (.int 0), .val (.int 2), .val (.double t2), .second, .val (.long ((2 : Int64) * ((2 : Int32).toInt64))), .second, .val (.int 1), .val (.int 2), .val (.double t0), .second, .unset] [(.int ((2 : Int32) + (0 : Int32))), (.ref tb)])) (fun _ k => XS.iload X25.here hx rfl (hb hby d7_108) rfl (XS.iloadN X25.here hx rfl (hb hby d7_110) rfl (XS.iadd X25.here hx rfl (hb hby d7_111) rfl k))) ?_
    rw [show ((2 : Int32) + (0 : Int32)) = (2 : Int32) from by decide +kernel]
    obtain ⟨cl26, Ar26, q26, Sz26, Nn26, Hh26, Gg26⟩ := id V_tb
    have hin26 : ¬ ((2 : Int32) < 0 ∨ cl26.slots.size ≤ ((2 : Int32)).toNatClampNeg) := inb_of Sz26 ⟨by decide, by decide⟩
    refine own_go (x' := T25.setTop (mkF m 113 #[.val (.ref ao0), .val (.int 1), .val (.int 0), .val (.int 2), .val (.double t2), .second, .val (.long ((2 : Int64) * ((2 : Int32).toInt64))), .second, .val (.int 1), .val (.int 2), .val (.double t0), .second, .unset] [(.double (FP.ddiv (4607182418800017408 : UInt64) t2))])) (X25.daload hx (j := (2 : Int32)) (v := (.double (FP.ddiv (4607182418800017408 : UInt64) t2))) (Eq.trans (congrArg (fun h_ => h_[_]?) e25) Ar26.1) (State.isArrayOf_alike hZ.alike Ar26.2.1) Ar26.2.2 hin26 (Hh26.at hin26 rfl) (g := (mkF m 112 #[.val (.ref ao0), .val (.int 1), .val (.int 0), .val (.int 2), .val (.double t2), .second, .val (.long ((2 : Int64) * ((2 : Int32).toInt64))), .second, .val (.int 1), .val (.int 2), .val (.double t0), .second, .unset] [(.int 2), (.ref tb)])) rfl rfl (hb hby d7_112)) ?_
    generalize (FP.ddiv (4607182418800017408 : UInt64) t2) = fz27
    refine own_go (x' := T25.setTop (mkF m 86 #[.val (.ref ao0), .val (.int 1), .val (.int 0), .val (.int 2), .val (.double t2), .second, .val (.long ((2 : Int64) * ((2 : Int32).toInt64))), .second, .val (.int ((1 : Int32) + (1 : Int32))), .val (.int 2), .val (.double fz27), .second, .unset] [])) (fun _ k => XS.dstore X25.here hx rfl (hb hby d7_113) rfl (l' := #[.val (.ref ao0), .val (.int 1), .val (.int 0), .val (.int 2), .val (.double t2), .second, .val (.long ((2 : Int64) * ((2 : Int32).toInt64))), .second, .val (.int 1), .val (.int 2), .val (.double fz27), .second, .unset]) rfl (XS.iload X25.here hx rfl (hb hby d7_115) rfl (XS.iloadN X25.here hx rfl (hb hby d7_117) rfl (XS.icmpYes X25.here hx rfl (pc0 := 118) (pc' := 215) rfl (hb hby d7_118) rfl (teq rfl).1 (by decide) (by decide) (XS.iinc X25.here hx rfl (hb hby d7_215) rfl (l' := #[.val (.ref ao0), .val (.int 1), .val (.int 0), .val (.int 2), .val (.double t2), .second, .val (.long ((2 : Int64) * ((2 : Int32).toInt64))), .second, .val (.int ((1 : Int32) + (1 : Int32))), .val (.int 2), .val (.double fz27), .second, .unset]) rfl (XS.goto X25.here hx rfl (pc0 := 218) (pc' := 86) rfl (hb hby d7_218) (by decide) (by decide) k)))))) ?_
    rw [show ((1 : Int32) + (1 : Int32)) = (2 : Int32) from by decide +kernel]
    refine own_go (x' := T25.setTop (mkF m 89 #[.val (.ref ao0), .val (.int 1), .val (.int 0), .val (.int 2), .val (.double t2), .second, .val (.long ((2 : Int64) * ((2 : Int32).toInt64))), .second, .val (.int 2), .val (.int 2), .val (.double fz27), .second, .unset] [(.ref ao0), (.int 2)])) (fun _ k => XS.iload X25.here hx rfl (hb hby d7_86) rfl (XS.aloadN X25.here hx rfl (hb hby d7_88) rfl rfl k)) ?_
    obtain ⟨T28, X28, e28, st28⟩ := getF X25 hx hZ hown (host := "") (Or.inl (own_w hw 10 rfl)) Via.refl e25 F_ao0_rows (g := (mkF m 89 #[.val (.ref ao0), .val (.int 1), .val (.int 0), .val (.int 2), .val (.double t2), .second, .val (.long ((2 : Int64) * ((2 : Int32).toInt64))), .second, .val (.int 2), .val (.int 2), .val (.double fz27), .second, .unset] [(.ref ao0), (.int 2)])) rfl rfl (hb hby d7_89)
    refine own_go (x' := T28.setTop (mkF m 92 #[.val (.ref ao0), .val (.int 1), .val (.int 0), .val (.int 2), .val (.double t2), .second, .val (.long ((2 : Int64) * ((2 : Int32).toInt64))), .second, .val (.int 2), .val (.int 2), .val (.double fz27), .second, .unset] [(.int 2), (.int 2)])) st28 ?_
    refine own_go (x' := T28.setTop (mkF m 222 #[.val (.ref ao0), .val (.int 1), .val (.int 0), .val (.int 2), .val (.double t2), .second, .val (.long ((2 : Int64) * ((2 : Int32).toInt64))), .second, .val (.int 2), .val (.int 2), .val (.double fz27), .second, .unset] [(.ref ao0)])) (fun _ k => XS.icmpYes X28.here hx rfl (pc0 := 92) (pc' := 221) rfl (hb hby d7_92) rfl (flt (Int32.lt_irrefl)).2.1 (by decide) (by decide) (XS.aloadN X28.here hx rfl (hb hby d7_221) rfl rfl k)) ?_
    obtain ⟨T29, X29, e29, st29⟩ := getF X28 hx hZ hown (host := "") (Or.inl (own_w hw 27 rfl)) Via.refl e28 F_ao0_cost (g := (mkF m 222 #[.val (.ref ao0), .val (.int 1), .val (.int 0), .val (.int 2), .val (.double t2), .second, .val (.long ((2 : Int64) * ((2 : Int32).toInt64))), .second, .val (.int 2), .val (.int 2), .val (.double fz27), .second, .unset] [(.ref ao0)])) rfl rfl (hb hby d7_222)
    refine own_go (x' := T29.setTop (mkF m 225 #[.val (.ref ao0), .val (.int 1), .val (.int 0), .val (.int 2), .val (.double t2), .second, .val (.long ((2 : Int64) * ((2 : Int32).toInt64))), .second, .val (.int 2), .val (.int 2), .val (.double fz27), .second, .unset] [(.ref co)])) st29 ?_
    refine own_go (x' := T29.setTop (mkF m 226 #[.val (.ref ao0), .val (.int 1), .val (.int 0), .val (.int 2), .val (.double t2), .second, .val (.long ((2 : Int64) * ((2 : Int32).toInt64))), .second, .val (.int 2), .val (.int 2), .val (.double fz27), .second, .unset] [(.int 0), (.ref co)])) (fun _ k => XS.iloadN X29.here hx rfl (hb hby d7_225) rfl k) ?_
    obtain ⟨cl30, Ar30, q30, Sz30, Nn30, Hh30, Gg30⟩ := id V_co
    have hin30 : ¬ ((0 : Int32) < 0 ∨ cl30.slots.size ≤ ((0 : Int32)).toNatClampNeg) := inb_of Sz30 ⟨by decide, by decide⟩
    refine own_go (x' := T29.setTop (mkF m 227 #[.val (.ref ao0), .val (.int 1), .val (.int 0), .val (.int 2), .val (.double t2), .second, .val (.long ((2 : Int64) * ((2 : Int32).toInt64))), .second, .val (.int 2), .val (.int 2), .val (.double fz27), .second, .unset] [(.double c0)])) (X29.daload hx (j := (0 : Int32)) (v := (.double c0)) (Eq.trans (congrArg (fun h_ => h_[_]?) e29) Ar30.1) (State.isArrayOf_alike hZ.alike Ar30.2.1) Ar30.2.2 hin30 (Hh30.at hin30 rfl) (g := (mkF m 226 #[.val (.ref ao0), .val (.int 1), .val (.int 0), .val (.int 2), .val (.double t2), .second, .val (.long ((2 : Int64) * ((2 : Int32).toInt64))), .second, .val (.int 2), .val (.int 2), .val (.double fz27), .second, .unset] [(.int 0), (.ref co)])) rfl rfl (hb hby d7_226)) ?_
    refine own_go (x' := T29.setTop (mkF m 235 #[.val (.ref ao0), .val (.int 1), .val (.int 0), .val (.int 2), .val (.double t2), .second, .val (.long ((2 : Int64) * ((2 : Int32).toInt64))), .second, .val (.double c0), .second, .val (.int 0), .unset, .unset] [(.ref ao0), (.int 0)])) (fun _ k => XS.dstore X29.here hx rfl (hb hby d7_227) rfl (l' := #[.val (.ref ao0), .val (.int 1), .val (.int 0), .val (.int 2), .val (.double t2), .second, .val (.long ((2 : Int64) * ((2 : Int32).toInt64))), .second, .val (.double c0), .second, .val (.double fz27), .second, .unset]) rfl (XS.iconst X29.here hx rfl (hb hby d7_229) (XS.istore X29.here hx rfl (hb hby d7_230) rfl (l' := #[.val (.ref ao0), .val (.int 1), .val (.int 0), .val (.int 2), .val (.double t2), .second, .val (.long ((2 : Int64) * ((2 : Int32).toInt64))), .second, .val (.double c0), .second, .val (.int 0), .unset, .unset]) rfl (XS.iload X29.here hx rfl (hb hby d7_232) rfl (XS.aloadN X29.here hx rfl (hb hby d7_234) rfl rfl k))))) ?_
    obtain ⟨T31, X31, e31, st31⟩ := getF X29 hx hZ hown (host := "") (Or.inl (own_w hw 12 rfl)) Via.refl e29 F_ao0_columns (g := (mkF m 235 #[.val (.ref ao0), .val (.int 1), .val (.int 0), .val (.int 2), .val (.double t2), .second, .val (.long ((2 : Int64) * ((2 : Int32).toInt64))), .second, .val (.double c0), .second, .val (.int 0), .unset, .unset] [(.ref ao0), (.int 0)])) rfl rfl (hb hby d7_235)
    refine own_go (x' := T31.setTop (mkF m 238 #[.val (.ref ao0), .val (.int 1), .val (.int 0), .val (.int 2), .val (.double t2), .second, .val (.long ((2 : Int64) * ((2 : Int32).toInt64))), .second, .val (.double c0), .second, .val (.int 0), .unset, .unset] [(.int 2), (.int 0)])) st31 ?_
    refine own_go (x' := T31.setTop (mkF m 242 #[.val (.ref ao0), .val (.int 1), .val (.int 0), .val (.int 2), .val (.double t2), .second, .val (.long ((2 : Int64) * ((2 : Int32).toInt64))), .second, .val (.double c0), .second, .val (.int 0), .unset, .unset] [(.ref ao0)])) (fun _ k => XS.icmpNo X31.here hx rfl (hb hby d7_238) rfl (tlt (by decide +kernel : ((0 : Int32) < (2 : Int32)))).2.1 (XS.aloadN X31.here hx rfl (hb hby d7_241) rfl rfl k)) ?_
    obtain ⟨T32, X32, e32, st32⟩ := getF X31 hx hZ hown (host := "") (Or.inl (own_w hw 27 rfl)) Via.refl e31 F_ao0_cost (g := (mkF m 242 #[.val (.ref ao0), .val (.int 1), .val (.int 0), .val (.int 2), .val (.double t2), .second, .val (.long ((2 : Int64) * ((2 : Int32).toInt64))), .second, .val (.double c0), .second, .val (.int 0), .unset, .unset] [(.ref ao0)])) rfl rfl (hb hby d7_242)
    refine own_go (x' := T32.setTop (mkF m 245 #[.val (.ref ao0), .val (.int 1), .val (.int 0), .val (.int 2), .val (.double t2), .second, .val (.long ((2 : Int64) * ((2 : Int32).toInt64))), .second, .val (.double c0), .second, .val (.int 0), .unset, .unset] [(.ref co)])) st32 ?_
    refine own_go (x' := T32.setTop (mkF m 248 #[.val (.ref ao0), .val (.int 1), .val (.int 0), .val (.int 2), .val (.double t2), .second, .val (.long ((2 : Int64) * ((2 : Int32).toInt64))), .second, .val (.double c0), .second, .val (.int 0), .unset, .unset] [(.int 0), (.ref co), (.int 0), (.ref co)])) (fun _ k => XS.iload X32.here hx rfl (hb hby d7_245) rfl (Jvm.Free.XT.dup2 X32.here hx rfl (hb hby d7_247) rfl rfl rfl k)) ?_
    obtain ⟨cl33, Ar33, q33, Sz33, Nn33, Hh33, Gg33⟩ := id V_co
    have hin33 : ¬ ((0 : Int32) < 0 ∨ cl33.slots.size ≤ ((0 : Int32)).toNatClampNeg) := inb_of Sz33 ⟨by decide, by decide⟩
    refine own_go (x' := T32.setTop (mkF m 249 #[.val (.ref ao0), .val (.int 1), .val (.int 0), .val (.int 2), .val (.double t2), .second, .val (.long ((2 : Int64) * ((2 : Int32).toInt64))), .second, .val (.double c0), .second, .val (.int 0), .unset, .unset] [(.double c0), (.int 0), (.ref co)])) (X32.daload hx (j := (0 : Int32)) (v := (.double c0)) (Eq.trans (congrArg (fun h_ => h_[_]?) e32) Ar33.1) (State.isArrayOf_alike hZ.alike Ar33.2.1) Ar33.2.2 hin33 (Hh33.at hin33 rfl) (g := (mkF m 248 #[.val (.ref ao0), .val (.int 1), .val (.int 0), .val (.int 2), .val (.double t2), .second, .val (.long ((2 : Int64) * ((2 : Int32).toInt64))), .second, .val (.double c0), .second, .val (.int 0), .unset, .unset] [(.int 0), (.ref co), (.int 0), (.ref co)])) rfl rfl (hb hby d7_248)) ?_
    refine own_go (x' := T32.setTop (mkF m 252 #[.val (.ref ao0), .val (.int 1), .val (.int 0), .val (.int 2), .val (.double t2), .second, .val (.long ((2 : Int64) * ((2 : Int32).toInt64))), .second, .val (.double c0), .second, .val (.int 0), .unset, .unset] [(.ref ao0), (.double c0), (.double c0), (.int 0), (.ref co)])) (fun _ k => XS.dload X32.here hx rfl (hb hby d7_249) rfl (XS.aloadN X32.here hx rfl (hb hby d7_251) rfl rfl k)) ?_
    obtain ⟨T34, X34, e34, st34⟩ := getF X32 hx hZ hown (host := "") (Or.inl (own_w hw 14 rfl)) Via.refl e32 F_ao0_tableau (g := (mkF m 252 #[.val (.ref ao0), .val (.int 1), .val (.int 0), .val (.int 2), .val (.double t2), .second, .val (.long ((2 : Int64) * ((2 : Int32).toInt64))), .second, .val (.double c0), .second, .val (.int 0), .unset, .unset] [(.ref ao0), (.double c0), (.double c0), (.int 0), (.ref co)])) rfl rfl (hb hby d7_252)
    refine own_go (x' := T34.setTop (mkF m 255 #[.val (.ref ao0), .val (.int 1), .val (.int 0), .val (.int 2), .val (.double t2), .second, .val (.long ((2 : Int64) * ((2 : Int32).toInt64))), .second, .val (.double c0), .second, .val (.int 0), .unset, .unset] [(.ref tb), (.double c0), (.double c0), (.int 0), (.ref co)])) st34 ?_
    refine own_go (x' := T34.setTop (mkF m 259 #[.val (.ref ao0), .val (.int 1), .val (.int 0), .val (.int 2), .val (.double t2), .second, .val (.long ((2 : Int64) * ((2 : Int32).toInt64))), .second, .val (.double c0), .second, .val (.int 0), .unset, .unset] [(.int ((2 : Int32) + (0 : Int32))), (.ref tb), (.double c0), (.double c0), (.int 0), (.ref co)])) (fun _ k => XS.iloadN X34.here hx rfl (hb hby d7_255) rfl (XS.iload X34.here hx rfl (hb hby d7_256) rfl (XS.iadd X34.here hx rfl (hb hby d7_258) rfl k))) ?_
    rw [show ((2 : Int32) + (0 : Int32)) = (2 : Int32) from by decide +kernel]
    obtain ⟨cl35, Ar35, q35, Sz35, Nn35, Hh35, Gg35⟩ := id V_tb
    have hin35 : ¬ ((2 : Int32) < 0 ∨ cl35.slots.size ≤ ((2 : Int32)).toNatClampNeg) := inb_of Sz35 ⟨by decide, by decide⟩
    refine own_go (x' := T34.setTop (mkF m 260 #[.val (.ref ao0), .val (.int 1), .val (.int 0), .val (.int 2), .val (.double t2), .second, .val (.long ((2 : Int64) * ((2 : Int32).toInt64))), .second, .val (.double c0), .second, .val (.int 0), .unset, .unset] [(.double (FP.ddiv (4607182418800017408 : UInt64) t2)), (.double c0), (.double c0), (.int 0), (.ref co)])) (X34.daload hx (j := (2 : Int32)) (v := (.double (FP.ddiv (4607182418800017408 : UInt64) t2))) (Eq.trans (congrArg (fun h_ => h_[_]?) e34) Ar35.1) (State.isArrayOf_alike hZ.alike Ar35.2.1) Ar35.2.2 hin35 (Hh35.at hin35 rfl) (g := (mkF m 259 #[.val (.ref ao0), .val (.int 1), .val (.int 0), .val (.int 2), .val (.double t2), .second, .val (.long ((2 : Int64) * ((2 : Int32).toInt64))), .second, .val (.double c0), .second, .val (.int 0), .unset, .unset] [(.int 2), (.ref tb), (.double c0), (.double c0), (.int 0), (.ref co)])) rfl rfl (hb hby d7_259)) ?_
    refine own_go (x' := T34.setTop (mkF m 262 #[.val (.ref ao0), .val (.int 1), .val (.int 0), .val (.int 2), .val (.double t2), .second, .val (.long ((2 : Int64) * ((2 : Int32).toInt64))), .second, .val (.double c0), .second, .val (.int 0), .unset, .unset] [(.double (FP.dsub c0 (FP.dmul c0 (FP.ddiv (4607182418800017408 : UInt64) t2)))), (.int 0), (.ref co)])) (fun _ k => XS.dmulS X34.here hx rfl (hb hby d7_260) rfl (own_nn (Jvm.Free.Fl.dmul_mag m_c0 (ddiv_mag own_m1 b_t2 (by decide) (by decide)) (by decide) (by decide))) rfl (XS.dsubS X34.here hx rfl (hb hby d7_261) rfl (own_nn (Jvm.Free.Fl.dsub_mag (m_c0.mono (by decide : 1056 ≤ 1059)) ((Jvm.Free.Fl.dmul_mag m_c0 (ddiv_mag own_m1 b_t2 (by decide) (by decide)) (by decide) (by decide)).mono (by decide : 1059 ≤ 1059)) (by decide))) rfl k)) ?_
    obtain ⟨cl36, Ar36, q36, Sz36, Nn36, Hh36, Gg36⟩ := V_co
    have hin36 : ¬ ((0 : Int32) < 0 ∨ cl36.slots.size ≤ ((0 : Int32)).toNatClampNeg) := inb_of Sz36 ⟨by decide, by decide⟩
    obtain ⟨T36, h36, X36, e36, W36, st36⟩ := stD X34 hx hZ e34 Ar36 (j := (0 : Int32)) hin36 (g := (mkF m 262 #[.val (.ref ao0), .val (.int 1), .val (.int 0), .val (.int 2), .val (.double t2), .second, .val (.long ((2 : Int64) * ((2 : Int32).toInt64))), .second, .val (.double c0), .second, .val (.int 0), .unset, .unset] [(.double (FP.dsub c0 (FP.dmul c0 (FP.ddiv (4607182418800017408 : UInt64) t2)))), (.int 0), (.ref co)])) rfl rfl (hb hby d7_262)
    refine own_go (x' := T36.setTop (mkF m 263 #[.val (.ref ao0), .val (.int 1), .val (.int 0), .val (.int 2), .val (.double t2), .second, .val (.long ((2 : Int64) * ((2 : Int32).toInt64))), .second, .val (.double c0), .second, .val (.int 0), .unset, .unset] [])) st36 ?_
    replace F_ao0_rows := Fld.other W36 F_ao0_rows (Or.inl ne_ao0_co)
    replace F_ao0_columns := Fld.other W36 F_ao0_columns (Or.inl ne_ao0_co)
    replace F_ao0_tableau := Fld.other W36 F_ao0_tableau (Or.inl ne_ao0_co)
    replace F_ao0_value := Fld.other W36 F_ao0_value (Or.inl ne_ao0_co)
    replace F_ao0_cost := Fld.other W36 F_ao0_cost (Or.inl ne_ao0_co)
    replace F_ao0_basic := Fld.other W36 F_ao0_basic (Or.inl ne_ao0_co)
    replace F_ao0_nonbasic := Fld.other W36 F_ao0_nonbasic (Or.inl ne_ao0_co)
    replace V_bs := V_bs.other W36 (Ne.symm ne_co_bs)
    replace V_nb := V_nb.other W36 (Ne.symm ne_co_nb)
    replace V_tb := V_tb.other W36 ne_tb_co
    replace V_va := V_va.other W36 ne_va_co
    replace Zs := Nat.le_trans Zs (Keep.of_wr W36).1
    replace Nf := Fr.snoc X36 Nf g_co
    replace Kp := Kp.wr W36 (Or.inl (by simp))
    have V_co : Arv Z h36 co kc .double (2 : Int32) [(.double (FP.dsub c0 (FP.dmul c0 (FP.ddiv (4607182418800017408 : UInt64) t2)))), (.double c1)] (.double 0) := Arv.set Ar36 q36 Sz36 Nn36 Hh36 Gg36 rfl W36 0 rfl (Nat.le_of_ble_eq_true rfl)
    refine own_go (x' := T36.setTop (mkF m 232 #[.val (.ref ao0), .val (.int 1), .val (.int 0), .val (.int 2), .val (.double t2), .second, .val (.long ((2 : Int64) * ((2 : Int32).toInt64))), .second, .val (.double c0), .second, .val (.int ((0 : Int32) + (1 : Int32))), .unset, .unset] [])) (fun _ k => XS.iinc X36.here hx rfl (hb hby d7_263) rfl (l' := #[.val (.ref ao0), .val (.int 1), .val (.int 0), .val (.int 2), .val (.double t2), .second, .val (.long ((2 : Int64) * ((2 : Int32).toInt64))), .second, .val (.double c0), .second, .val (.int ((0 : Int32) + (1 : Int32))), .unset, .unset]) rfl (XS.goto X36.here hx rfl (pc0 := 266) (pc' := 232) rfl (hb hby d7_266) (by decide) (by decide) k)) ?_
    rw [show ((0 : Int32) + (1 : Int32)) = (1 : Int32) from by decide +kernel]
    refine own_go (x' := T36.setTop (mkF m 235 #[.val (.ref ao0), .val (.int 1), .val (.int 0), .val (.int 2), .val (.double t2), .second, .val (.long ((2 : Int64) * ((2 : Int32).toInt64))), .second, .val (.double c0), .second, .val (.int 1), .unset, .unset] [(.ref ao0), (.int 1)])) (fun _ k => XS.iload X36.here hx rfl (hb hby d7_232) rfl (XS.aloadN X36.here hx rfl (hb hby d7_234) rfl rfl k)) ?_
    obtain ⟨T37, X37, e37, st37⟩ := getF X36 hx hZ hown (host := "") (Or.inl (own_w hw 12 rfl)) Via.refl e36 F_ao0_columns (g := (mkF m 235 #[.val (.ref ao0), .val (.int 1), .val (.int 0), .val (.int 2), .val (.double t2), .second, .val (.long ((2 : Int64) * ((2 : Int32).toInt64))), .second, .val (.double c0), .second, .val (.int 1), .unset, .unset] [(.ref ao0), (.int 1)])) rfl rfl (hb hby d7_235)
    refine own_go (x' := T37.setTop (mkF m 238 #[.val (.ref ao0), .val (.int 1), .val (.int 0), .val (.int 2), .val (.double t2), .second, .val (.long ((2 : Int64) * ((2 : Int32).toInt64))), .second, .val (.double c0), .second, .val (.int 1), .unset, .unset] [(.int 2), (.int 1)])) st37 ?_
    refine own_go (x' := T37.setTop (mkF m 242 #[.val (.ref ao0), .val (.int 1), .val (.int 0), .val (.int 2), .val (.double t2), .second, .val (.long ((2 : Int64) * ((2 : Int32).toInt64))), .second, .val (.double c0), .second, .val (.int 1), .unset, .unset] [(.ref ao0)])) (fun _ k => XS.icmpNo X37.here hx rfl (hb hby d7_238) rfl (tlt (by decide +kernel : ((1 : Int32) < (2 : Int32)))).2.1 (XS.aloadN X37.here hx rfl (hb hby d7_241) rfl rfl k)) ?_
    obtain ⟨T38, X38, e38, st38⟩ := getF X37 hx hZ hown (host := "") (Or.inl (own_w hw 27 rfl)) Via.refl e37 F_ao0_cost (g := (mkF m 242 #[.val (.ref ao0), .val (.int 1), .val (.int 0), .val (.int 2), .val (.double t2), .second, .val (.long ((2 : Int64) * ((2 : Int32).toInt64))), .second, .val (.double c0), .second, .val (.int 1), .unset, .unset] [(.ref ao0)])) rfl rfl (hb hby d7_242)
    refine own_go (x' := T38.setTop (mkF m 245 #[.val (.ref ao0), .val (.int 1), .val (.int 0), .val (.int 2), .val (.double t2), .second, .val (.long ((2 : Int64) * ((2 : Int32).toInt64))), .second, .val (.double c0), .second, .val (.int 1), .unset, .unset] [(.ref co)])) st38 ?_
    refine own_go (x' := T38.setTop (mkF m 248 #[.val (.ref ao0), .val (.int 1), .val (.int 0), .val (.int 2), .val (.double t2), .second, .val (.long ((2 : Int64) * ((2 : Int32).toInt64))), .second, .val (.double c0), .second, .val (.int 1), .unset, .unset] [(.int 1), (.ref co), (.int 1), (.ref co)])) (fun _ k => XS.iload X38.here hx rfl (hb hby d7_245) rfl (Jvm.Free.XT.dup2 X38.here hx rfl (hb hby d7_247) rfl rfl rfl k)) ?_
    obtain ⟨cl39, Ar39, q39, Sz39, Nn39, Hh39, Gg39⟩ := id V_co
    have hin39 : ¬ ((1 : Int32) < 0 ∨ cl39.slots.size ≤ ((1 : Int32)).toNatClampNeg) := inb_of Sz39 ⟨by decide, by decide⟩
    refine own_go (x' := T38.setTop (mkF m 249 #[.val (.ref ao0), .val (.int 1), .val (.int 0), .val (.int 2), .val (.double t2), .second, .val (.long ((2 : Int64) * ((2 : Int32).toInt64))), .second, .val (.double c0), .second, .val (.int 1), .unset, .unset] [(.double c1), (.int 1), (.ref co)])) (X38.daload hx (j := (1 : Int32)) (v := (.double c1)) (Eq.trans (congrArg (fun h_ => h_[_]?) e38) Ar39.1) (State.isArrayOf_alike hZ.alike Ar39.2.1) Ar39.2.2 hin39 (Hh39.at hin39 rfl) (g := (mkF m 248 #[.val (.ref ao0), .val (.int 1), .val (.int 0), .val (.int 2), .val (.double t2), .second, .val (.long ((2 : Int64) * ((2 : Int32).toInt64))), .second, .val (.double c0), .second, .val (.int 1), .unset, .unset] [(.int 1), (.ref co), (.int 1), (.ref co)])) rfl rfl (hb hby d7_248)) ?_
    refine own_go (x' := T38.setTop (mkF m 252 #[.val (.ref ao0), .val (.int 1), .val (.int 0), .val (.int 2), .val (.double t2), .second, .val (.long ((2 : Int64) * ((2 : Int32).toInt64))), .second, .val (.double c0), .second, .val (.int 1), .unset, .unset] [(.ref ao0), (.double c0), (.double c1), (.int 1), (.ref co)])) (fun _ k => XS.dload X38.here hx rfl (hb hby d7_249) rfl (XS.aloadN X38.here hx rfl (hb hby d7_251) rfl rfl k)) ?_
    obtain ⟨T40, X40, e40, st40⟩ := getF X38 hx hZ hown (host := "") (Or.inl (own_w hw 14 rfl)) Via.refl e38 F_ao0_tableau (g := (mkF m 252 #[.val (.ref ao0), .val (.int 1), .val (.int 0), .val (.int 2), .val (.double t2), .second, .val (.long ((2 : Int64) * ((2 : Int32).toInt64))), .second, .val (.double c0), .second, .val (.int 1), .unset, .unset] [(.ref ao0), (.double c0), (.double c1), (.int 1), (.ref co)])) rfl rfl (hb hby d7_252)
    refine own_go (x' := T40.setTop (mkF m 255 #[.val (.ref ao0), .val (.int 1), .val (.int 0), .val (.int 2), .val (.double t2), .second, .val (.long ((2 : Int64) * ((2 : Int32).toInt64))), .second, .val (.double c0), .second, .val (.int 1), .unset, .unset] [(.ref tb), (.double c0), (.double c1), (.int 1), (.ref co)])) st40 ?_
    refine own_go (x' := T40.setTop (mkF m 259 #[.val (.ref ao0), .val (.int 1), .val (.int 0), .val (.int 2), .val (.double t2), .second, .val (.long ((2 : Int64) * ((2 : Int32).toInt64))), .second, .val (.double c0), .second, .val (.int 1), .unset, .unset] [(.int ((2 : Int32) + (1 : Int32))), (.ref tb), (.double c0), (.double c1), (.int 1), (.ref co)])) (fun _ k => XS.iloadN X40.here hx rfl (hb hby d7_255) rfl (XS.iload X40.here hx rfl (hb hby d7_256) rfl (XS.iadd X40.here hx rfl (hb hby d7_258) rfl k))) ?_
    rw [show ((2 : Int32) + (1 : Int32)) = (3 : Int32) from by decide +kernel]
    obtain ⟨cl41, Ar41, q41, Sz41, Nn41, Hh41, Gg41⟩ := id V_tb
    have hin41 : ¬ ((3 : Int32) < 0 ∨ cl41.slots.size ≤ ((3 : Int32)).toNatClampNeg) := inb_of Sz41 ⟨by decide, by decide⟩
    refine own_go (x' := T40.setTop (mkF m 260 #[.val (.ref ao0), .val (.int 1), .val (.int 0), .val (.int 2), .val (.double t2), .second, .val (.long ((2 : Int64) * ((2 : Int32).toInt64))), .second, .val (.double c0), .second, .val (.int 1), .unset, .unset] [(.double (FP.ddiv t3 t2)), (.double c0), (.double c1), (.int 1), (.ref co)])) (X40.daload hx (j := (3 : Int32)) (v := (.double (FP.ddiv t3 t2))) (Eq.trans (congrArg (fun h_ => h_[_]?) e40) Ar41.1) (State.isArrayOf_alike hZ.alike Ar41.2.1) Ar41.2.2 hin41 (Hh41.at hin41 rfl) (g := (mkF m 259 #[.val (.ref ao0), .val (.int 1), .val (.int 0), .val (.int 2), .val (.double t2), .second, .val (.long ((2 : Int64) * ((2 : Int32).toInt64))), .second, .val (.double c0), .second, .val (.int 1), .unset, .unset] [(.int 3), (.ref tb), (.double c0), (.double c1), (.int 1), (.ref co)])) rfl rfl (hb hby d7_259)) ?_
    refine own_go (x' := T40.setTop (mkF m 262 #[.val (.ref ao0), .val (.int 1), .val (.int 0), .val (.int 2), .val (.double t2), .second, .val (.long ((2 : Int64) * ((2 : Int32).toInt64))), .second, .val (.double c0), .second, .val (.int 1), .unset, .unset] [(.double (FP.dsub c1 (FP.dmul c0 (FP.ddiv t3 t2)))), (.int 1), (.ref co)])) (fun _ k => XS.dmulS X40.here hx rfl (hb hby d7_260) rfl (own_nn (Jvm.Free.Fl.dmul_mag m_c0 (ddiv_mag m_t3 b_t2 (by decide) (by decide)) (by decide) (by decide))) rfl (XS.dsubS X40.here hx rfl (hb hby d7_261) rfl (own_nn (Jvm.Free.Fl.dsub_mag (m_c1.mono (by decide : 1056 ≤ 1091)) ((Jvm.Free.Fl.dmul_mag m_c0 (ddiv_mag m_t3 b_t2 (by decide) (by decide)) (by decide) (by decide)).mono (by decide : 1091 ≤ 1091)) (by decide))) rfl k)) ?_
    obtain ⟨cl42, Ar42, q42, Sz42, Nn42, Hh42, Gg42⟩ := V_co
    have hin42 : ¬ ((1 : Int32) < 0 ∨ cl42.slots.size ≤ ((1 : Int32)).toNatClampNeg) := inb_of Sz42 ⟨by decide, by decide⟩
    obtain ⟨T42, h42, X42, e42, W42, st42⟩ := stD X40 hx hZ e40 Ar42 (j := (1 : Int32)) hin42 (g := (mkF m 262 #[.val (.ref ao0), .val (.int 1), .val (.int 0), .val (.int 2), .val (.double t2), .second, .val (.long ((2 : Int64) * ((2 : Int32).toInt64))), .second, .val (.double c0), .second, .val (.int 1), .unset, .unset] [(.double (FP.dsub c1 (FP.dmul c0 (FP.ddiv t3 t2)))), (.int 1), (.ref co)])) rfl rfl (hb hby d7_262)
    refine own_go (x' := T42.setTop (mkF m 263 #[.val (.ref ao0), .val (.int 1), .val (.int 0), .val (.int 2), .val (.double t2), .second, .val (.long ((2 : Int64) * ((2 : Int32).toInt64))), .second, .val (.double c0), .second, .val (.int 1), .unset, .unset] [])) st42 ?_
    replace F_ao0_rows := Fld.other W42 F_ao0_rows (Or.inl ne_ao0_co)
    replace F_ao0_columns := Fld.other W42 F_ao0_columns (Or.inl ne_ao0_co)
    replace F_ao0_tableau := Fld.other W42 F_ao0_tableau (Or.inl ne_ao0_co)
    replace F_ao0_value := Fld.other W42 F_ao0_value (Or.inl ne_ao0_co)
    replace F_ao0_cost := Fld.other W42 F_ao0_cost (Or.inl ne_ao0_co)
    replace F_ao0_basic := Fld.other W42 F_ao0_basic (Or.inl ne_ao0_co)
    replace F_ao0_nonbasic := Fld.other W42 F_ao0_nonbasic (Or.inl ne_ao0_co)
    replace V_bs := V_bs.other W42 (Ne.symm ne_co_bs)
    replace V_nb := V_nb.other W42 (Ne.symm ne_co_nb)
    replace V_tb := V_tb.other W42 ne_tb_co
    replace V_va := V_va.other W42 ne_va_co
    replace Zs := Nat.le_trans Zs (Keep.of_wr W42).1
    replace Nf := Fr.snoc X42 Nf g_co
    replace Kp := Kp.wr W42 (Or.inl (by simp))
    have V_co : Arv Z h42 co kc .double (2 : Int32) [(.double (FP.dsub c0 (FP.dmul c0 (FP.ddiv (4607182418800017408 : UInt64) t2)))), (.double (FP.dsub c1 (FP.dmul c0 (FP.ddiv t3 t2))))] (.double 0) := Arv.set Ar42 q42 Sz42 Nn42 Hh42 Gg42 rfl W42 1 rfl (Nat.le_of_ble_eq_true rfl)
    refine own_go (x' := T42.setTop (mkF m 232 #[.val (.ref ao0), .val (.int 1), .val (.int 0), .val (.int 2), .val (.double t2), .second, .val (.long ((2 : Int64) * ((2 : Int32).toInt64))), .second, .val (.double c0), .second, .val (.int ((1 : Int32) + (1 : Int32))), .unset, .unset] [])) (fun _ k => XS.iinc X42.here hx rfl (hb hby d7_263) rfl (l' := #[.val (.ref ao0), .val (.int 1), .val (.int 0), .val (.int 2), .val (.double t2), .second, .val (.long ((2 : Int64) * ((2 : Int32).toInt64))), .second, .val (.double c0), .second, .val (.int ((1 : Int32) + (1 : Int32))), .unset, .unset]) rfl (XS.goto X42.here hx rfl (pc0 := 266) (pc' := 232) rfl (hb hby d7_266) (by decide) (by decide) k)) ?_
    rw [show ((1 : Int32) + (1 : Int32)) = (2 : Int32) from by decide +kernel]
    refine own_go (x' := T42.setTop (mkF m 235 #[.val (.ref ao0), .val (.int 1), .val (.int 0), .val (.int 2), .val (.double t2), .second, .val (.long ((2 : Int64) * ((2 : Int32).toInt64))), .second, .val (.double c0), .second, .val (.int 2), .unset, .unset] [(.ref ao0), (.int 2)])) (fun _ k => XS.iload X42.here hx rfl (hb hby d7_232) rfl (XS.aloadN X42.here hx rfl (hb hby d7_234) rfl rfl k)) ?_
    obtain ⟨T43, X43, e43, st43⟩ := getF X42 hx hZ hown (host := "") (Or.inl (own_w hw 12 rfl)) Via.refl e42 F_ao0_columns (g := (mkF m 235 #[.val (.ref ao0), .val (.int 1), .val (.int 0), .val (.int 2), .val (.double t2), .second, .val (.long ((2 : Int64) * ((2 : Int32).toInt64))), .second, .val (.double c0), .second, .val (.int 2), .unset, .unset] [(.ref ao0), (.int 2)])) rfl rfl (hb hby d7_235)
    refine own_go (x' := T43.setTop (mkF m 238 #[.val (.ref ao0), .val (.int 1), .val (.int 0), .val (.int 2), .val (.double t2), .second, .val (.long ((2 : Int64) * ((2 : Int32).toInt64))), .second, .val (.double c0), .second, .val (.int 2), .unset, .unset] [(.int 2), (.int 2)])) st43 ?_
    refine own_go (x' := T43.setTop (mkF m 270 #[.val (.ref ao0), .val (.int 1), .val (.int 0), .val (.int 2), .val (.double t2), .second, .val (.long ((2 : Int64) * ((2 : Int32).toInt64))), .second, .val (.double c0), .second, .val (.int 2), .unset, .unset] [(.ref ao0)])) (fun _ k => XS.icmpYes X43.here hx rfl (pc0 := 238) (pc' := 269) rfl (hb hby d7_238) rfl (flt (Int32.lt_irrefl)).2.1 (by decide) (by decide) (XS.aloadN X43.here hx rfl (hb hby d7_269) rfl rfl k)) ?_
    obtain ⟨T44, X44, e44, st44⟩ := getF X43 hx hZ hown (host := "") (Or.inl (own_w hw 27 rfl)) Via.refl e43 F_ao0_cost (g := (mkF m 270 #[.val (.ref ao0), .val (.int 1), .val (.int 0), .val (.int 2), .val (.double t2), .second, .val (.long ((2 : Int64) * ((2 : Int32).toInt64))), .second, .val (.double c0), .second, .val (.int 2), .unset, .unset] [(.ref ao0)])) rfl rfl (hb hby d7_270)
    refine own_go (x' := T44.setTop (mkF m 273 #[.val (.ref ao0), .val (.int 1), .val (.int 0), .val (.int 2), .val (.double t2), .second, .val (.long ((2 : Int64) * ((2 : Int32).toInt64))), .second, .val (.double c0), .second, .val (.int 2), .unset, .unset] [(.ref co)])) st44 ?_
    refine own_go (x' := T44.setTop (mkF m 280 #[.val (.ref ao0), .val (.int 1), .val (.int 0), .val (.int 2), .val (.double t2), .second, .val (.long ((2 : Int64) * ((2 : Int32).toInt64))), .second, .val (.double c0), .second, .val (.int 2), .unset, .unset] [(.double (FP.ddiv (FP.dneg c0) t2)), (.int 0), (.ref co)])) (fun _ k => XS.iloadN X44.here hx rfl (hb hby d7_273) rfl (XS.dload X44.here hx rfl (hb hby d7_274) rfl (XS.dnegS X44.here hx rfl (hb hby d7_276) rfl rfl (XS.dload X44.here hx rfl (hb hby d7_277) rfl (XS.ddivS X44.here hx rfl (hb hby d7_279) rfl (own_nn (ddiv_mag (dneg_mag m_c0) b_t2 (by decide) (by decide))) rfl k))))) ?_
    obtain ⟨cl45, Ar45, q45, Sz45, Nn45, Hh45, Gg45⟩ := V_co
    have hin45 : ¬ ((0 : Int32) < 0 ∨ cl45.slots.size ≤ ((0 : Int32)).toNatClampNeg) := inb_of Sz45 ⟨by decide, by decide⟩
    obtain ⟨T45, h45, X45, e45, W45, st45⟩ := stD X44 hx hZ e44 Ar45 (j := (0 : Int32)) hin45 (g := (mkF m 280 #[.val (.ref ao0), .val (.int 1), .val (.int 0), .val (.int 2), .val (.double t2), .second, .val (.long ((2 : Int64) * ((2 : Int32).toInt64))), .second, .val (.double c0), .second, .val (.int 2), .unset, .unset] [(.double (FP.ddiv (FP.dneg c0) t2)), (.int 0), (.ref co)])) rfl rfl (hb hby d7_280)
    refine own_go (x' := T45.setTop (mkF m 281 #[.val (.ref ao0), .val (.int 1), .val (.int 0), .val (.int 2), .val (.double t2), .second, .val (.long ((2 : Int64) * ((2 : Int32).toInt64))), .second, .val (.double c0), .second, .val (.int 2), .unset, .unset] [])) st45 ?_
    replace F_ao0_rows := Fld.other W45 F_ao0_rows (Or.inl ne_ao0_co)
    replace F_ao0_columns := Fld.other W45 F_ao0_columns (Or.inl ne_ao0_co)
    replace F_ao0_tableau := Fld.other W45 F_ao0_tableau (Or.inl ne_ao0_co)
    replace F_ao0_value := Fld.other W45 F_ao0_value (Or.inl ne_ao0_co)
    replace F_ao0_cost := Fld.other W45 F_ao0_cost (Or.inl ne_ao0_co)
    replace F_ao0_basic := Fld.other W45 F_ao0_basic (Or.inl ne_ao0_co)
    replace F_ao0_nonbasic := Fld.other W45 F_ao0_nonbasic (Or.inl ne_ao0_co)
    replace V_bs := V_bs.other W45 (Ne.symm ne_co_bs)
    replace V_nb := V_nb.other W45 (Ne.symm ne_co_nb)
    replace V_tb := V_tb.other W45 ne_tb_co
    replace V_va := V_va.other W45 ne_va_co
    replace Zs := Nat.le_trans Zs (Keep.of_wr W45).1
    replace Nf := Fr.snoc X45 Nf g_co
    replace Kp := Kp.wr W45 (Or.inl (by simp))
    have V_co : Arv Z h45 co kc .double (2 : Int32) [(.double (FP.ddiv (FP.dneg c0) t2)), (.double (FP.dsub c1 (FP.dmul c0 (FP.ddiv t3 t2))))] (.double 0) := Arv.set Ar45 q45 Sz45 Nn45 Hh45 Gg45 rfl W45 0 rfl (Nat.le_of_ble_eq_true rfl)
    refine own_go (x' := T45.setTop (mkF m 282 #[.val (.ref ao0), .val (.int 1), .val (.int 0), .val (.int 2), .val (.double t2), .second, .val (.long ((2 : Int64) * ((2 : Int32).toInt64))), .second, .val (.double c0), .second, .val (.int 2), .unset, .unset] [(.ref ao0)])) (fun _ k => XS.aloadN X45.here hx rfl (hb hby d7_281) rfl rfl k) ?_
    obtain ⟨T46, X46, e46, st46⟩ := getF X45 hx hZ hown (host := "") (Or.inl (own_w hw 30 rfl)) Via.refl e45 F_ao0_basic (g := (mkF m 282 #[.val (.ref ao0), .val (.int 1), .val (.int 0), .val (.int 2), .val (.double t2), .second, .val (.long ((2 : Int64) * ((2 : Int32).toInt64))), .second, .val (.double c0), .second, .val (.int 2), .unset, .unset] [(.ref ao0)])) rfl rfl (hb hby d7_282)
    refine own_go (x' := T46.setTop (mkF m 285 #[.val (.ref ao0), .val (.int 1), .val (.int 0), .val (.int 2), .val (.double t2), .second, .val (.long ((2 : Int64) * ((2 : Int32).toInt64))), .second, .val (.double c0), .second, .val (.int 2), .unset, .unset] [(.ref bs)])) st46 ?_
    refine own_go (x' := T46.setTop (mkF m 286 #[.val (.ref ao0), .val (.int 1), .val (.int 0), .val (.int 2), .val (.double t2), .second, .val (.long ((2 : Int64) * ((2 : Int32).toInt64))), .second, .val (.double c0), .second, .val (.int 2), .unset, .unset] [(.int 1), (.ref bs)])) (fun _ k => XS.iloadN X46.here hx rfl (hb hby d7_285) rfl k) ?_
    obtain ⟨cl47, Ar47, q47, Sz47, Nn47, Hh47, Gg47⟩ := id V_bs
    have hin47 : ¬ ((1 : Int32) < 0 ∨ cl47.slots.size ≤ ((1 : Int32)).toNatClampNeg) := inb_of Sz47 ⟨by decide, by decide⟩
    refine own_go (x' := T46.setTop (mkF m 287 #[.val (.ref ao0), .val (.int 1), .val (.int 0), .val (.int 2), .val (.double t2), .second, .val (.long ((2 : Int64) * ((2 : Int32).toInt64))), .second, .val (.double c0), .second, .val (.int 2), .unset, .unset] [(.int 3)])) (X46.iaload hx (j := (1 : Int32)) (v := (.int 3)) (Eq.trans (congrArg (fun h_ => h_[_]?) e46) Ar47.1) (State.isArrayOf_alike hZ.alike Ar47.2.1) Ar47.2.2 hin47 (Hh47.at hin47 rfl) (g := (mkF m 286 #[.val (.ref ao0), .val (.int 1), .val (.int 0), .val (.int 2), .val (.double t2), .second, .val (.long ((2 : Int64) * ((2 : Int32).toInt64))), .second, .val (.double c0), .second, .val (.int 2), .unset, .unset] [(.int 1), (.ref bs)])) rfl rfl (hb hby d7_286)) ?_
    refine own_go (x' := T46.setTop (mkF m 290 #[.val (.ref ao0), .val (.int 1), .val (.int 0), .val (.int 2), .val (.double t2), .second, .val (.long ((2 : Int64) * ((2 : Int32).toInt64))), .second, .val (.double c0), .second, .val (.int 3), .unset, .unset] [(.ref ao0)])) (fun _ k => XS.istore X46.here hx rfl (hb hby d7_287) rfl (l' := #[.val (.ref ao0), .val (.int 1), .val (.int 0), .val (.int 2), .val (.double t2), .second, .val (.long ((2 : Int64) * ((2 : Int32).toInt64))), .second, .val (.double c0), .second, .val (.int 3), .unset, .unset]) rfl (XS.aloadN X46.here hx rfl (hb hby d7_289) rfl rfl k)) ?_
    obtain ⟨T48, X48, e48, st48⟩ := getF X46 hx hZ hown (host := "") (Or.inl (own_w hw 30 rfl)) Via.refl e46 F_ao0_basic (g := (mkF m 290 #[.val (.ref ao0), .val (.int 1), .val (.int 0), .val (.int 2), .val (.double t2), .second, .val (.long ((2 : Int64) * ((2 : Int32).toInt64))), .second, .val (.double c0), .second, .val (.int 3), .unset, .unset] [(.ref ao0)])) rfl rfl (hb hby d7_290)
    refine own_go (x' := T48.setTop (mkF m 293 #[.val (.ref ao0), .val (.int 1), .val (.int 0), .val (.int 2), .val (.double t2), .second, .val (.long ((2 : Int64) * ((2 : Int32).toInt64))), .second, .val (.double c0), .second, .val (.int 3), .unset, .unset] [(.ref bs)])) st48 ?_
    refine own_go (x' := T48.setTop (mkF m 295 #[.val (.ref ao0), .val (.int 1), .val (.int 0), .val (.int 2), .val (.double t2), .second, .val (.long ((2 : Int64) * ((2 : Int32).toInt64))), .second, .val (.double c0), .second, .val (.int 3), .unset, .unset] [(.ref ao0), (.int 1), (.ref bs)])) (fun _ k => XS.iloadN X48.here hx rfl (hb hby d7_293) rfl (XS.aloadN X48.here hx rfl (hb hby d7_294) rfl rfl k)) ?_
    obtain ⟨T49, X49, e49, st49⟩ := getF X48 hx hZ hown (host := "") (Or.inl (own_w hw 32 rfl)) Via.refl e48 F_ao0_nonbasic (g := (mkF m 295 #[.val (.ref ao0), .val (.int 1), .val (.int 0), .val (.int 2), .val (.double t2), .second, .val (.long ((2 : Int64) * ((2 : Int32).toInt64))), .second, .val (.double c0), .second, .val (.int 3), .unset, .unset] [(.ref ao0), (.int 1), (.ref bs)])) rfl rfl (hb hby d7_295)
    refine own_go (x' := T49.setTop (mkF m 298 #[.val (.ref ao0), .val (.int 1), .val (.int 0), .val (.int 2), .val (.double t2), .second, .val (.long ((2 : Int64) * ((2 : Int32).toInt64))), .second, .val (.double c0), .second, .val (.int 3), .unset, .unset] [(.ref nb), (.int 1), (.ref bs)])) st49 ?_
    refine own_go (x' := T49.setTop (mkF m 299 #[.val (.ref ao0), .val (.int 1), .val (.int 0), .val (.int 2), .val (.double t2), .second, .val (.long ((2 : Int64) * ((2 : Int32).toInt64))), .second, .val (.double c0), .second, .val (.int 3), .unset, .unset] [(.int 0), (.ref nb), (.int 1), (.ref bs)])) (fun _ k => XS.iloadN X49.here hx rfl (hb hby d7_298) rfl k) ?_
    obtain ⟨cl50, Ar50, q50, Sz50, Nn50, Hh50, Gg50⟩ := id V_nb
    have hin50 : ¬ ((0 : Int32) < 0 ∨ cl50.slots.size ≤ ((0 : Int32)).toNatClampNeg) := inb_of Sz50 ⟨by decide, by decide⟩
    refine own_go (x' := T49.setTop (mkF m 300 #[.val (.ref ao0), .val (.int 1), .val (.int 0), .val (.int 2), .val (.double t2), .second, .val (.long ((2 : Int64) * ((2 : Int32).toInt64))), .second, .val (.double c0), .second, .val (.int 3), .unset, .unset] [(.int 0), (.int 1), (.ref bs)])) (X49.iaload hx (j := (0 : Int32)) (v := (.int 0)) (Eq.trans (congrArg (fun h_ => h_[_]?) e49) Ar50.1) (State.isArrayOf_alike hZ.alike Ar50.2.1) Ar50.2.2 hin50 (Hh50.at hin50 rfl) (g := (mkF m 299 #[.val (.ref ao0), .val (.int 1), .val (.int 0), .val (.int 2), .val (.double t2), .second, .val (.long ((2 : Int64) * ((2 : Int32).toInt64))), .second, .val (.double c0), .second, .val (.int 3), .unset, .unset] [(.int 0), (.ref nb), (.int 1), (.ref bs)])) rfl rfl (hb hby d7_299)) ?_
    obtain ⟨cl51, Ar51, q51, Sz51, Nn51, Hh51, Gg51⟩ := V_bs
    have hin51 : ¬ ((1 : Int32) < 0 ∨ cl51.slots.size ≤ ((1 : Int32)).toNatClampNeg) := inb_of Sz51 ⟨by decide, by decide⟩
    obtain ⟨T51, h51, X51, e51, W51, st51⟩ := stI X49 hx hZ e49 Ar51 (j := (1 : Int32)) hin51 (g := (mkF m 300 #[.val (.ref ao0), .val (.int 1), .val (.int 0), .val (.int 2), .val (.double t2), .second, .val (.long ((2 : Int64) * ((2 : Int32).toInt64))), .second, .val (.double c0), .second, .val (.int 3), .unset, .unset] [(.int 0), (.int 1), (.ref bs)])) rfl rfl (hb hby d7_300)
    refine own_go (x' := T51.setTop (mkF m 301 #[.val (.ref ao0), .val (.int 1), .val (.int 0), .val (.int 2), .val (.double t2), .second, .val (.long ((2 : Int64) * ((2 : Int32).toInt64))), .second, .val (.double c0), .second, .val (.int 3), .unset, .unset] [])) st51 ?_
    replace F_ao0_rows := Fld.other W51 F_ao0_rows (Or.inl ne_ao0_bs)
    replace F_ao0_columns := Fld.other W51 F_ao0_columns (Or.inl ne_ao0_bs)
    replace F_ao0_tableau := Fld.other W51 F_ao0_tableau (Or.inl ne_ao0_bs)
    replace F_ao0_value := Fld.other W51 F_ao0_value (Or.inl ne_ao0_bs)
    replace F_ao0_cost := Fld.other W51 F_ao0_cost (Or.inl ne_ao0_bs)
    replace F_ao0_basic := Fld.other W51 F_ao0_basic (Or.inl ne_ao0_bs)
    replace F_ao0_nonbasic := Fld.other W51 F_ao0_nonbasic (Or.inl ne_ao0_bs)
    replace V_nb := V_nb.other W51 (Ne.symm ne_bs_nb)
    replace V_tb := V_tb.other W51 ne_tb_bs
    replace V_va := V_va.other W51 ne_va_bs
    replace V_co := V_co.other W51 ne_co_bs
    replace Zs := Nat.le_trans Zs (Keep.of_wr W51).1
    replace Nf := Fr.snoc X51 Nf g_bs
    replace Kp := Kp.wr W51 (Or.inl (by simp))
    have V_bs : Arv Z h51 bs kb .int (2 : Int32) [(.int 2), (.int 0)] (.int 0) := Arv.set Ar51 q51 Sz51 Nn51 Hh51 Gg51 rfl W51 1 rfl (Nat.le_of_ble_eq_true rfl)
    refine own_go (x' := T51.setTop (mkF m 302 #[.val (.ref ao0), .val (.int 1), .val (.int 0), .val (.int 2), .val (.double t2), .second, .val (.long ((2 : Int64) * ((2 : Int32).toInt64))), .second, .val (.double c0), .second, .val (.int 3), .unset, .unset] [(.ref ao0)])) (fun _ k => XS.aloadN X51.here hx rfl (hb hby d7_301) rfl rfl k) ?_
    obtain ⟨T52, X52, e52, st52⟩ := getF X51 hx hZ hown (host := "") (Or.inl (own_w hw 32 rfl)) Via.refl e51 F_ao0_nonbasic (g := (mkF m 302 #[.val (.ref ao0), .val (.int 1), .val (.int 0), .val (.int 2), .val (.double t2), .second, .val (.long ((2 : Int64) * ((2 : Int32).toInt64))), .second, .val (.double c0), .second, .val (.int 3), .unset, .unset] [(.ref ao0)])) rfl rfl (hb hby d7_302)
    refine own_go (x' := T52.setTop (mkF m 305 #[.val (.ref ao0), .val (.int 1), .val (.int 0), .val (.int 2), .val (.double t2), .second, .val (.long ((2 : Int64) * ((2 : Int32).toInt64))), .second, .val (.double c0), .second, .val (.int 3), .unset, .unset] [(.ref nb)])) st52 ?_
    refine own_go (x' := T52.setTop (mkF m 308 #[.val (.ref ao0), .val (.int 1), .val (.int 0), .val (.int 2), .val (.double t2), .second, .val (.long ((2 : Int64) * ((2 : Int32).toInt64))), .second, .val (.double c0), .second, .val (.int 3), .unset, .unset] [(.int 3), (.int 0), (.ref nb)])) (fun _ k => XS.iloadN X52.here hx rfl (hb hby d7_305) rfl (XS.iload X52.here hx rfl (hb hby d7_306) rfl k)) ?_
    obtain ⟨cl53, Ar53, q53, Sz53, Nn53, Hh53, Gg53⟩ := V_nb
    have hin53 : ¬ ((0 : Int32) < 0 ∨ cl53.slots.size ≤ ((0 : Int32)).toNatClampNeg) := inb_of Sz53 ⟨by decide, by decide⟩
    obtain ⟨T53, h53, X53, e53, W53, st53⟩ := stI X52 hx hZ e52 Ar53 (j := (0 : Int32)) hin53 (g := (mkF m 308 #[.val (.ref ao0), .val (.int 1), .val (.int 0), .val (.int 2), .val (.double t2), .second, .val (.long ((2 : Int64) * ((2 : Int32).toInt64))), .second, .val (.double c0), .second, .val (.int 3), .unset, .unset] [(.int 3), (.int 0), (.ref nb)])) rfl rfl (hb hby d7_308)
    refine own_go (x' := T53.setTop (mkF m 309 #[.val (.ref ao0), .val (.int 1), .val (.int 0), .val (.int 2), .val (.double t2), .second, .val (.long ((2 : Int64) * ((2 : Int32).toInt64))), .second, .val (.double c0), .second, .val (.int 3), .unset, .unset] [])) st53 ?_
    replace F_ao0_rows := Fld.other W53 F_ao0_rows (Or.inl ne_ao0_nb)
    replace F_ao0_columns := Fld.other W53 F_ao0_columns (Or.inl ne_ao0_nb)
    replace F_ao0_tableau := Fld.other W53 F_ao0_tableau (Or.inl ne_ao0_nb)
    replace F_ao0_value := Fld.other W53 F_ao0_value (Or.inl ne_ao0_nb)
    replace F_ao0_cost := Fld.other W53 F_ao0_cost (Or.inl ne_ao0_nb)
    replace F_ao0_basic := Fld.other W53 F_ao0_basic (Or.inl ne_ao0_nb)
    replace F_ao0_nonbasic := Fld.other W53 F_ao0_nonbasic (Or.inl ne_ao0_nb)
    replace V_tb := V_tb.other W53 ne_tb_nb
    replace V_va := V_va.other W53 ne_va_nb
    replace V_co := V_co.other W53 ne_co_nb
    replace V_bs := V_bs.other W53 ne_bs_nb
    replace Zs := Nat.le_trans Zs (Keep.of_wr W53).1
    replace Nf := Fr.snoc X53 Nf g_nb
    replace Kp := Kp.wr W53 (Or.inl (by simp))
    have V_nb : Arv Z h53 nb kn .int (2 : Int32) [(.int 3), (.int 1)] (.int 0) := Arv.set Ar53 q53 Sz53 Nn53 Hh53 Gg53 rfl W53 0 rfl (Nat.le_of_ble_eq_true rfl)
    refine own_go (x' := T53.setTop (mkF m 311 #[.val (.ref ao0), .val (.int 1), .val (.int 0), .val (.int 2), .val (.double t2), .second, .val (.long ((2 : Int64) * ((2 : Int32).toInt64))), .second, .val (.double c0), .second, .val (.int 3), .unset, .unset] [(.long ((2 : Int64) * ((2 : Int32).toInt64)))])) (fun _ k => XS.lload X53.here hx rfl (hb hby d7_309) rfl k) ?_
    refine own_retJ X53 hx hlk hret (hb hby d7_311) ?_ (by decide) (by decide)
    rw [e53]
    exact Or.inl ⟨hc125, by rw [show ((2 : Int64) * ((2 : Int32).toInt64)) = (4 : Int64) from by decide], Nf, Kp, V_tb, V_va, V_co, V_bs, V_nb⟩
  · refine own_go (x' := T21.setTop (mkF m 134 #[.val (.ref ao0), .val (.int 1), .val (.int 0), .val (.int 2), .val (.double t2), .second, .val (.long ((2 : Int64) * ((2 : Int32).toInt64))), .second, .val (.int 0), .val (.int 0), .val (.double t0), .second, .val (.int 0)] [(.ref ao0), (.int 0)])) (fun _ k => XS.ifNo X21.here hx rfl (hb hby d7_125) rfl ((if0 _ _).trans (feq hc125).1) (XS.iconst X21.here hx rfl (hb hby d7_128) (XS.istore X21.here hx rfl (hb hby d7_129) rfl (l' := #[.val (.ref ao0), .val (.int 1), .val (.int 0), .val (.int 2), .val (.double t2), .second, .val (.long ((2 : Int64) * ((2 : Int32).toInt64))), .second, .val (.int 0), .val (.int 0), .val (.double t0), .second, .val (.int 0)]) rfl (XS.iload X21.here hx rfl (hb hby d7_131) rfl (XS.aloadN X21.here hx rfl (hb hby d7_133) rfl rfl k))))) ?_
    obtain ⟨T54, X54, e54, st54⟩ := getF X21 hx hZ hown (host := "") (Or.inl (own_w hw 12 rfl)) Via.refl e21 F_ao0_columns (g := (mkF m 134 #[.val (.ref ao0), .val (.int 1), .val (.int 0), .val (.int 2), .val (.double t2), .second, .val (.long ((2 : Int64) * ((2 : Int32).toInt64))), .second, .val (.int 0), .val (.int 0), .val (.double t0), .second, .val (.int 0)] [(.ref ao0), (.int 0)])) rfl rfl (hb hby d7_134)
    refine own_go (x' := T54.setTop (mkF m 137 #[.val (.ref ao0), .val (.int 1), .val (.int 0), .val (.int 2), .val (.double t2), .second, .val (.long ((2 : Int64) * ((2 : Int32).toInt64))), .second, .val (.int 0), .val (.int 0), .val (.double t0), .second, .val (.int 0)] [(.int 2), (.int 0)])) st54 ?_
    refine own_go (x' := T54.setTop (mkF m 141 #[.val (.ref ao0), .val (.int 1), .val (.int 0), .val (.int 2), .val (.double t2), .second, .val (.long ((2 : Int64) * ((2 : Int32).toInt64))), .second, .val (.int 0), .val (.int 0), .val (.double t0), .second, .val (.int 0)] [(.ref ao0)])) (fun _ k => XS.icmpNo X54.here hx rfl (hb hby d7_137) rfl (tlt (by decide +kernel : ((0 : Int32) < (2 : Int32)))).2.1 (XS.aloadN X54.here hx rfl (hb hby d7_140) rfl rfl k)) ?_
    obtain ⟨T55, X55, e55, st55⟩ := getF X54 hx hZ hown (host := "") (Or.inl (own_w hw 14 rfl)) Via.refl e54 F_ao0_tableau (g := (mkF m 141 #[.val (.ref ao0), .val (.int 1), .val (.int 0), .val (.int 2), .val (.double t2), .second, .val (.long ((2 : Int64) * ((2 : Int32).toInt64))), .second, .val (.int 0), .val (.int 0), .val (.double t0), .second, .val (.int 0)] [(.ref ao0)])) rfl rfl (hb hby d7_141)
    refine own_go (x' := T55.setTop (mkF m 144 #[.val (.ref ao0), .val (.int 1), .val (.int 0), .val (.int 2), .val (.double t2), .second, .val (.long ((2 : Int64) * ((2 : Int32).toInt64))), .second, .val (.int 0), .val (.int 0), .val (.double t0), .second, .val (.int 0)] [(.ref tb)])) st55 ?_
    refine own_go (x' := T55.setTop (mkF m 149 #[.val (.ref ao0), .val (.int 1), .val (.int 0), .val (.int 2), .val (.double t2), .second, .val (.long ((2 : Int64) * ((2 : Int32).toInt64))), .second, .val (.int 0), .val (.int 0), .val (.double t0), .second, .val (.int 0)] [(.int ((0 : Int32) + (0 : Int32))), (.ref tb)])) (fun _ k => XS.iload X55.here hx rfl (hb hby d7_144) rfl (XS.iload X55.here hx rfl (hb hby d7_146) rfl (XS.iadd X55.here hx rfl (hb hby d7_148) rfl k))) ?_
    rw [show ((0 : Int32) + (0 : Int32)) = (0 : Int32) from by decide +kernel]
    refine own_go (x' := T55.setTop (mkF m 150 #[.val (.ref ao0), .val (.int 1), .val (.int 0), .val (.int 2), .val (.double t2), .second, .val (.long ((2 : Int64) * ((2 : Int32).toInt64))), .second, .val (.int 0), .val (.int 0), .val (.double t0), .second, .val (.int 0)] [(.int 0), (.ref tb), (.int 0), (.ref tb)])) (fun _ k => Jvm.Free.XT.dup2 X55.here hx rfl (hb hby d7_149) rfl rfl rfl k) ?_
    obtain ⟨cl56, Ar56, q56, Sz56, Nn56, Hh56, Gg56⟩ := id V_tb
    have hin56 : ¬ ((0 : Int32) < 0 ∨ cl56.slots.size ≤ ((0 : Int32)).toNatClampNeg) := inb_of Sz56 ⟨by decide, by decide⟩
    refine own_go (x' := T55.setTop (mkF m 151 #[.val (.ref ao0), .val (.int 1), .val (.int 0), .val (.int 2), .val (.double t2), .second, .val (.long ((2 : Int64) * ((2 : Int32).toInt64))), .second, .val (.int 0), .val (.int 0), .val (.double t0), .second, .val (.int 0)] [(.double t0), (.int 0), (.ref tb)])) (X55.daload hx (j := (0 : Int32)) (v := (.double t0)) (Eq.trans (congrArg (fun h_ => h_[_]?) e55) Ar56.1) (State.isArrayOf_alike hZ.alike Ar56.2.1) Ar56.2.2 hin56 (Hh56.at hin56 rfl) (g := (mkF m 150 #[.val (.ref ao0), .val (.int 1), .val (.int 0), .val (.int 2), .val (.double t2), .second, .val (.long ((2 : Int64) * ((2 : Int32).toInt64))), .second, .val (.int 0), .val (.int 0), .val (.double t0), .second, .val (.int 0)] [(.int 0), (.ref tb), (.int 0), (.ref tb)])) rfl rfl (hb hby d7_150)) ?_
    refine own_go (x' := T55.setTop (mkF m 154 #[.val (.ref ao0), .val (.int 1), .val (.int 0), .val (.int 2), .val (.double t2), .second, .val (.long ((2 : Int64) * ((2 : Int32).toInt64))), .second, .val (.int 0), .val (.int 0), .val (.double t0), .second, .val (.int 0)] [(.ref ao0), (.double t0), (.double t0), (.int 0), (.ref tb)])) (fun _ k => XS.dload X55.here hx rfl (hb hby d7_151) rfl (XS.aloadN X55.here hx rfl (hb hby d7_153) rfl rfl k)) ?_
    obtain ⟨T57, X57, e57, st57⟩ := getF X55 hx hZ hown (host := "") (Or.inl (own_w hw 14 rfl)) Via.refl e55 F_ao0_tableau (g := (mkF m 154 #[.val (.ref ao0), .val (.int 1), .val (.int 0), .val (.int 2), .val (.double t2), .second, .val (.long ((2 : Int64) * ((2 : Int32).toInt64))), .second, .val (.int 0), .val (.int 0), .val (.double t0), .second, .val (.int 0)] [(.ref ao0), (.double t0), (.double t0), (.int 0), (.ref tb)])) rfl rfl (hb hby d7_154)
    refine own_go (x' := T57.setTop (mkF m 157 #[.val (.ref ao0), .val (.int 1), .val (.int 0), .val (.int 2), .val (.double t2), .second, .val (.long ((2 : Int64) * ((2 : Int32).toInt64))), .second, .val (.int 0), .val (.int 0), .val (.double t0), .second, .val (.int 0)] [(.ref tb), (.double t0), (.double t0), (.int 0), (.ref tb)])) st57 ?_
    refine own_go (x' := T57.setTop (mkF m 161 #[.val (.ref ao0), .val (.int 1), .val (.int 0), .val (.int 2), .val (.double t2), .second, .val (.long ((2 : Int64) * ((2 : Int32).toInt64))), .second, .val (.int 0), .val (.int 0), .val (.double t0), .second, .val (.int 0)] [(.int ((2 : Int32) + (0 : Int32))), (.ref tb), (.double t0), (.double t0), (.int 0), (.ref tb)])) (fun _ k => XS.iloadN X57.here hx rfl (hb hby d7_157) rfl (XS.iload X57.here hx rfl (hb hby d7_158) rfl (XS.iadd X57.here hx rfl (hb hby d7_160) rfl k))) ?_
    rw [show ((2 : Int32) + (0 : Int32)) = (2 : Int32) from by decide +kernel]
    obtain ⟨cl58, Ar58, q58, Sz58, Nn58, Hh58, Gg58⟩ := id V_tb
    have hin58 : ¬ ((2 : Int32) < 0 ∨ cl58.slots.size ≤ ((2 : Int32)).toNatClampNeg) := inb_of Sz58 ⟨by decide, by decide⟩
    refine own_go (x' := T57.setTop (mkF m 162 #[.val (.ref ao0), .val (.int 1), .val (.int 0), .val (.int 2), .val (.double t2), .second, .val (.long ((2 : Int64) * ((2 : Int32).toInt64))), .second, .val (.int 0), .val (.int 0), .val (.double t0), .second, .val (.int 0)] [(.double (FP.ddiv (4607182418800017408 : UInt64) t2)), (.double t0), (.double t0), (.int 0), (.ref tb)])) (X57.daload hx (j := (2 : Int32)) (v := (.double (FP.ddiv (4607182418800017408 : UInt64) t2))) (Eq.trans (congrArg (fun h_ => h_[_]?) e57) Ar58.1) (State.isArrayOf_alike hZ.alike Ar58.2.1) Ar58.2.2 hin58 (Hh58.at hin58 rfl) (g := (mkF m 161 #[.val (.ref ao0), .val (.int 1), .val (.int 0), .val (.int 2), .val (.double t2), .second, .val (.long ((2 : Int64) * ((2 : Int32).toInt64))), .second, .val (.int 0), .val (.int 0), .val (.double t0), .second, .val (.int 0)] [(.int 2), (.ref tb), (.double t0), (.double t0), (.int 0), (.ref tb)])) rfl rfl (hb hby d7_161)) ?_
    refine own_go (x' := T57.setTop (mkF m 164 #[.val (.ref ao0), .val (.int 1), .val (.int 0), .val (.int 2), .val (.double t2), .second, .val (.long ((2 : Int64) * ((2 : Int32).toInt64))), .second, .val (.int 0), .val (.int 0), .val (.double t0), .second, .val (.int 0)] [(.double (FP.dsub t0 (FP.dmul t0 (FP.ddiv (4607182418800017408 : UInt64) t2)))), (.int 0), (.ref tb)])) (fun _ k => XS.dmulS X57.here hx rfl (hb hby d7_162) rfl (own_nn (Jvm.Free.Fl.dmul_mag m_t0 (ddiv_mag own_m1 b_t2 (by decide) (by decide)) (by decide) (by decide))) rfl (XS.dsubS X57.here hx rfl (hb hby d7_163) rfl (own_nn (Jvm.Free.Fl.dsub_mag (m_t0.mono (by decide : 1056 ≤ 1059)) ((Jvm.Free.Fl.dmul_mag m_t0 (ddiv_mag own_m1 b_t2 (by decide) (by decide)) (by decide) (by decide)).mono (by decide : 1059 ≤ 1059)) (by decide))) rfl k)) ?_
    obtain ⟨cl59, Ar59, q59, Sz59, Nn59, Hh59, Gg59⟩ := V_tb
    have hin59 : ¬ ((0 : Int32) < 0 ∨ cl59.slots.size ≤ ((0 : Int32)).toNatClampNeg) := inb_of Sz59 ⟨by decide, by decide⟩
    obtain ⟨T59, h59, X59, e59, W59, st59⟩ := stD X57 hx hZ e57 Ar59 (j := (0 : Int32)) hin59 (g := (mkF m 164 #[.val (.ref ao0), .val (.int 1), .val (.int 0), .val (.int 2), .val (.double t2), .second, .val (.long ((2 : Int64) * ((2 : Int32).toInt64))), .second, .val (.int 0), .val (.int 0), .val (.double t0), .second, .val (.int 0)] [(.double (FP.dsub t0 (FP.dmul t0 (FP.ddiv (4607182418800017408 : UInt64) t2)))), (.int 0), (.ref tb)])) rfl rfl (hb hby d7_164)
    refine own_go (x' := T59.setTop (mkF m 165 #[.val (.ref ao0), .val (.int 1), .val (.int 0), .val (.int 2), .val (.double t2), .second, .val (.long ((2 : Int64) * ((2 : Int32).toInt64))), .second, .val (.int 0), .val (.int 0), .val (.double t0), .second, .val (.int 0)] [])) st59 ?_
    replace F_ao0_rows := Fld.other W59 F_ao0_rows (Or.inl ne_ao0_tb)
    replace F_ao0_columns := Fld.other W59 F_ao0_columns (Or.inl ne_ao0_tb)
    replace F_ao0_tableau := Fld.other W59 F_ao0_tableau (Or.inl ne_ao0_tb)
    replace F_ao0_value := Fld.other W59 F_ao0_value (Or.inl ne_ao0_tb)
    replace F_ao0_cost := Fld.other W59 F_ao0_cost (Or.inl ne_ao0_tb)
    replace F_ao0_basic := Fld.other W59 F_ao0_basic (Or.inl ne_ao0_tb)
    replace F_ao0_nonbasic := Fld.other W59 F_ao0_nonbasic (Or.inl ne_ao0_tb)
    replace V_co := V_co.other W59 (Ne.symm ne_tb_co)
    replace V_bs := V_bs.other W59 (Ne.symm ne_tb_bs)
    replace V_nb := V_nb.other W59 (Ne.symm ne_tb_nb)
    replace V_va := V_va.other W59 (Ne.symm ne_tb_va)
    replace Zs := Nat.le_trans Zs (Keep.of_wr W59).1
    replace Nf := Fr.snoc X59 Nf g_tb
    replace Kp := Kp.wr W59 (Or.inl (by simp))
    have V_tb : Arv Z h59 tb kt .double (4 : Int32) [(.double (FP.dsub t0 (FP.dmul t0 (FP.ddiv (4607182418800017408 : UInt64) t2)))), (.double t1), (.double (FP.ddiv (4607182418800017408 : UInt64) t2)), (.double (FP.ddiv t3 t2))] (.double 0) := Arv.set Ar59 q59 Sz59 Nn59 Hh59 Gg59 rfl W59 0 rfl (Nat.le_of_ble_eq_true rfl)
    refine own_go (x' := T59.setTop (mkF m 131 #[.val (.ref ao0), .val (.int 1), .val (.int 0), .val (.int 2), .val (.double t2), .second, .val (.long ((2 : Int64) * ((2 : Int32).toInt64))), .second, .val (.int 0), .val (.int 0), .val (.double t0), .second, .val (.int ((0 : Int32) + (1 : Int32)))] [])) (fun _ k => XS.iinc X59.here hx rfl (hb hby d7_165) rfl (l' := #[.val (.ref ao0), .val (.int 1), .val (.int 0), .val (.int 2), .val (.double t2), .second, .val (.long ((2 : Int64) * ((2 : Int32).toInt64))), .second, .val (.int 0), .val (.int 0), .val (.double t0), .second, .val (.int ((0 : Int32) + (1 : Int32)))]) rfl (XS.goto X59.here hx rfl (pc0 := 168) (pc' := 131) rfl (hb hby d7_168) (by decide) (by decide) k)) ?_
    rw [show ((0 : Int32) + (1 : Int32)) = (1 : Int32) from by decide +kernel]
    refine own_go (x' := T59.setTop (mkF m 134 #[.val (.ref ao0), .val (.int 1), .val (.int 0), .val (.int 2), .val (.double t2), .second, .val (.long ((2 : Int64) * ((2 : Int32).toInt64))), .second, .val (.int 0), .val (.int 0), .val (.double t0), .second, .val (.int 1)] [(.ref ao0), (.int 1)])) (fun _ k => XS.iload X59.here hx rfl (hb hby d7_131) rfl (XS.aloadN X59.here hx rfl (hb hby d7_133) rfl rfl k)) ?_
    obtain ⟨T60, X60, e60, st60⟩ := getF X59 hx hZ hown (host := "") (Or.inl (own_w hw 12 rfl)) Via.refl e59 F_ao0_columns (g := (mkF m 134 #[.val (.ref ao0), .val (.int 1), .val (.int 0), .val (.int 2), .val (.double t2), .second, .val (.long ((2 : Int64) * ((2 : Int32).toInt64))), .second, .val (.int 0), .val (.int 0), .val (.double t0), .second, .val (.int 1)] [(.ref ao0), (.int 1)])) rfl rfl (hb hby d7_134)
    refine own_go (x' := T60.setTop (mkF m 137 #[.val (.ref ao0), .val (.int 1), .val (.int 0), .val (.int 2), .val (.double t2), .second, .val (.long ((2 : Int64) * ((2 : Int32).toInt64))), .second, .val (.int 0), .val (.int 0), .val (.double t0), .second, .val (.int 1)] [(.int 2), (.int 1)])) st60 ?_
    refine own_go (x' := T60.setTop (mkF m 141 #[.val (.ref ao0), .val (.int 1), .val (.int 0), .val (.int 2), .val (.double t2), .second, .val (.long ((2 : Int64) * ((2 : Int32).toInt64))), .second, .val (.int 0), .val (.int 0), .val (.double t0), .second, .val (.int 1)] [(.ref ao0)])) (fun _ k => XS.icmpNo X60.here hx rfl (hb hby d7_137) rfl (tlt (by decide +kernel : ((1 : Int32) < (2 : Int32)))).2.1 (XS.aloadN X60.here hx rfl (hb hby d7_140) rfl rfl k)) ?_
    obtain ⟨T61, X61, e61, st61⟩ := getF X60 hx hZ hown (host := "") (Or.inl (own_w hw 14 rfl)) Via.refl e60 F_ao0_tableau (g := (mkF m 141 #[.val (.ref ao0), .val (.int 1), .val (.int 0), .val (.int 2), .val (.double t2), .second, .val (.long ((2 : Int64) * ((2 : Int32).toInt64))), .second, .val (.int 0), .val (.int 0), .val (.double t0), .second, .val (.int 1)] [(.ref ao0)])) rfl rfl (hb hby d7_141)
    refine own_go (x' := T61.setTop (mkF m 144 #[.val (.ref ao0), .val (.int 1), .val (.int 0), .val (.int 2), .val (.double t2), .second, .val (.long ((2 : Int64) * ((2 : Int32).toInt64))), .second, .val (.int 0), .val (.int 0), .val (.double t0), .second, .val (.int 1)] [(.ref tb)])) st61 ?_
    refine own_go (x' := T61.setTop (mkF m 149 #[.val (.ref ao0), .val (.int 1), .val (.int 0), .val (.int 2), .val (.double t2), .second, .val (.long ((2 : Int64) * ((2 : Int32).toInt64))), .second, .val (.int 0), .val (.int 0), .val (.double t0), .second, .val (.int 1)] [(.int ((0 : Int32) + (1 : Int32))), (.ref tb)])) (fun _ k => XS.iload X61.here hx rfl (hb hby d7_144) rfl (XS.iload X61.here hx rfl (hb hby d7_146) rfl (XS.iadd X61.here hx rfl (hb hby d7_148) rfl k))) ?_
    rw [show ((0 : Int32) + (1 : Int32)) = (1 : Int32) from by decide +kernel]
    refine own_go (x' := T61.setTop (mkF m 150 #[.val (.ref ao0), .val (.int 1), .val (.int 0), .val (.int 2), .val (.double t2), .second, .val (.long ((2 : Int64) * ((2 : Int32).toInt64))), .second, .val (.int 0), .val (.int 0), .val (.double t0), .second, .val (.int 1)] [(.int 1), (.ref tb), (.int 1), (.ref tb)])) (fun _ k => Jvm.Free.XT.dup2 X61.here hx rfl (hb hby d7_149) rfl rfl rfl k) ?_
    obtain ⟨cl62, Ar62, q62, Sz62, Nn62, Hh62, Gg62⟩ := id V_tb
    have hin62 : ¬ ((1 : Int32) < 0 ∨ cl62.slots.size ≤ ((1 : Int32)).toNatClampNeg) := inb_of Sz62 ⟨by decide, by decide⟩
    refine own_go (x' := T61.setTop (mkF m 151 #[.val (.ref ao0), .val (.int 1), .val (.int 0), .val (.int 2), .val (.double t2), .second, .val (.long ((2 : Int64) * ((2 : Int32).toInt64))), .second, .val (.int 0), .val (.int 0), .val (.double t0), .second, .val (.int 1)] [(.double t1), (.int 1), (.ref tb)])) (X61.daload hx (j := (1 : Int32)) (v := (.double t1)) (Eq.trans (congrArg (fun h_ => h_[_]?) e61) Ar62.1) (State.isArrayOf_alike hZ.alike Ar62.2.1) Ar62.2.2 hin62 (Hh62.at hin62 rfl) (g := (mkF m 150 #[.val (.ref ao0), .val (.int 1), .val (.int 0), .val (.int 2), .val (.double t2), .second, .val (.long ((2 : Int64) * ((2 : Int32).toInt64))), .second, .val (.int 0), .val (.int 0), .val (.double t0), .second, .val (.int 1)] [(.int 1), (.ref tb), (.int 1), (.ref tb)])) rfl rfl (hb hby d7_150)) ?_
    refine own_go (x' := T61.setTop (mkF m 154 #[.val (.ref ao0), .val (.int 1), .val (.int 0), .val (.int 2), .val (.double t2), .second, .val (.long ((2 : Int64) * ((2 : Int32).toInt64))), .second, .val (.int 0), .val (.int 0), .val (.double t0), .second, .val (.int 1)] [(.ref ao0), (.double t0), (.double t1), (.int 1), (.ref tb)])) (fun _ k => XS.dload X61.here hx rfl (hb hby d7_151) rfl (XS.aloadN X61.here hx rfl (hb hby d7_153) rfl rfl k)) ?_
    obtain ⟨T63, X63, e63, st63⟩ := getF X61 hx hZ hown (host := "") (Or.inl (own_w hw 14 rfl)) Via.refl e61 F_ao0_tableau (g := (mkF m 154 #[.val (.ref ao0), .val (.int 1), .val (.int 0), .val (.int 2), .val (.double t2), .second, .val (.long ((2 : Int64) * ((2 : Int32).toInt64))), .second, .val (.int 0), .val (.int 0), .val (.double t0), .second, .val (.int 1)] [(.ref ao0), (.double t0), (.double t1), (.int 1), (.ref tb)])) rfl rfl (hb hby d7_154)
    refine own_go (x' := T63.setTop (mkF m 157 #[.val (.ref ao0), .val (.int 1), .val (.int 0), .val (.int 2), .val (.double t2), .second, .val (.long ((2 : Int64) * ((2 : Int32).toInt64))), .second, .val (.int 0), .val (.int 0), .val (.double t0), .second, .val (.int 1)] [(.ref tb), (.double t0), (.double t1), (.int 1), (.ref tb)])) st63 ?_
    refine own_go (x' := T63.setTop (mkF m 161 #[.val (.ref ao0), .val (.int 1), .val (.int 0), .val (.int 2), .val (.double t2), .second, .val (.long ((2 : Int64) * ((2 : Int32).toInt64))), .second, .val (.int 0), .val (.int 0), .val (.double t0), .second, .val (.int 1)] [(.int ((2 : Int32) + (1 : Int32))), (.ref tb), (.double t0), (.double t1), (.int 1), (.ref tb)])) (fun _ k => XS.iloadN X63.here hx rfl (hb hby d7_157) rfl (XS.iload X63.here hx rfl (hb hby d7_158) rfl (XS.iadd X63.here hx rfl (hb hby d7_160) rfl k))) ?_
    rw [show ((2 : Int32) + (1 : Int32)) = (3 : Int32) from by decide +kernel]
    obtain ⟨cl64, Ar64, q64, Sz64, Nn64, Hh64, Gg64⟩ := id V_tb
    have hin64 : ¬ ((3 : Int32) < 0 ∨ cl64.slots.size ≤ ((3 : Int32)).toNatClampNeg) := inb_of Sz64 ⟨by decide, by decide⟩
    refine own_go (x' := T63.setTop (mkF m 162 #[.val (.ref ao0), .val (.int 1), .val (.int 0), .val (.int 2), .val (.double t2), .second, .val (.long ((2 : Int64) * ((2 : Int32).toInt64))), .second, .val (.int 0), .val (.int 0), .val (.double t0), .second, .val (.int 1)] [(.double (FP.ddiv t3 t2)), (.double t0), (.double t1), (.int 1), (.ref tb)])) (X63.daload hx (j := (3 : Int32)) (v := (.double (FP.ddiv t3 t2))) (Eq.trans (congrArg (fun h_ => h_[_]?) e63) Ar64.1) (State.isArrayOf_alike hZ.alike Ar64.2.1) Ar64.2.2 hin64 (Hh64.at hin64 rfl) (g := (mkF m 161 #[.val (.ref ao0), .val (.int 1), .val (.int 0), .val (.int 2), .val (.double t2), .second, .val (.long ((2 : Int64) * ((2 : Int32).toInt64))), .second, .val (.int 0), .val (.int 0), .val (.double t0), .second, .val (.int 1)] [(.int 3), (.ref tb), (.double t0), (.double t1), (.int 1), (.ref tb)])) rfl rfl (hb hby d7_161)) ?_
    refine own_go (x' := T63.setTop (mkF m 164 #[.val (.ref ao0), .val (.int 1), .val (.int 0), .val (.int 2), .val (.double t2), .second, .val (.long ((2 : Int64) * ((2 : Int32).toInt64))), .second, .val (.int 0), .val (.int 0), .val (.double t0), .second, .val (.int 1)] [(.double (FP.dsub t1 (FP.dmul t0 (FP.ddiv t3 t2)))), (.int 1), (.ref tb)])) (fun _ k => XS.dmulS X63.here hx rfl (hb hby d7_162) rfl (own_nn (Jvm.Free.Fl.dmul_mag m_t0 (ddiv_mag m_t3 b_t2 (by decide) (by decide)) (by decide) (by decide))) rfl (XS.dsubS X63.here hx rfl (hb hby d7_163) rfl (own_nn (Jvm.Free.Fl.dsub_mag (m_t1.mono (by decide : 1056 ≤ 1091)) ((Jvm.Free.Fl.dmul_mag m_t0 (ddiv_mag m_t3 b_t2 (by decide) (by decide)) (by decide) (by decide)).mono (by decide : 1091 ≤ 1091)) (by decide))) rfl k)) ?_
    obtain ⟨cl65, Ar65, q65, Sz65, Nn65, Hh65, Gg65⟩ := V_tb
    have hin65 : ¬ ((1 : Int32) < 0 ∨ cl65.slots.size ≤ ((1 : Int32)).toNatClampNeg) := inb_of Sz65 ⟨by decide, by decide⟩
    obtain ⟨T65, h65, X65, e65, W65, st65⟩ := stD X63 hx hZ e63 Ar65 (j := (1 : Int32)) hin65 (g := (mkF m 164 #[.val (.ref ao0), .val (.int 1), .val (.int 0), .val (.int 2), .val (.double t2), .second, .val (.long ((2 : Int64) * ((2 : Int32).toInt64))), .second, .val (.int 0), .val (.int 0), .val (.double t0), .second, .val (.int 1)] [(.double (FP.dsub t1 (FP.dmul t0 (FP.ddiv t3 t2)))), (.int 1), (.ref tb)])) rfl rfl (hb hby d7_164)
    refine own_go (x' := T65.setTop (mkF m 165 #[.val (.ref ao0), .val (.int 1), .val (.int 0), .val (.int 2), .val (.double t2), .second, .val (.long ((2 : Int64) * ((2 : Int32).toInt64))), .second, .val (.int 0), .val (.int 0), .val (.double t0), .second, .val (.int 1)] [])) st65 ?_
    replace F_ao0_rows := Fld.other W65 F_ao0_rows (Or.inl ne_ao0_tb)
    replace F_ao0_columns := Fld.other W65 F_ao0_columns (Or.inl ne_ao0_tb)
    replace F_ao0_tableau := Fld.other W65 F_ao0_tableau (Or.inl ne_ao0_tb)
    replace F_ao0_value := Fld.other W65 F_ao0_value (Or.inl ne_ao0_tb)
    replace F_ao0_cost := Fld.other W65 F_ao0_cost (Or.inl ne_ao0_tb)
    replace F_ao0_basic := Fld.other W65 F_ao0_basic (Or.inl ne_ao0_tb)
    replace F_ao0_nonbasic := Fld.other W65 F_ao0_nonbasic (Or.inl ne_ao0_tb)
    replace V_co := V_co.other W65 (Ne.symm ne_tb_co)
    replace V_bs := V_bs.other W65 (Ne.symm ne_tb_bs)
    replace V_nb := V_nb.other W65 (Ne.symm ne_tb_nb)
    replace V_va := V_va.other W65 (Ne.symm ne_tb_va)
    replace Zs := Nat.le_trans Zs (Keep.of_wr W65).1
    replace Nf := Fr.snoc X65 Nf g_tb
    replace Kp := Kp.wr W65 (Or.inl (by simp))
    have V_tb : Arv Z h65 tb kt .double (4 : Int32) [(.double (FP.dsub t0 (FP.dmul t0 (FP.ddiv (4607182418800017408 : UInt64) t2)))), (.double (FP.dsub t1 (FP.dmul t0 (FP.ddiv t3 t2)))), (.double (FP.ddiv (4607182418800017408 : UInt64) t2)), (.double (FP.ddiv t3 t2))] (.double 0) := Arv.set Ar65 q65 Sz65 Nn65 Hh65 Gg65 rfl W65 1 rfl (Nat.le_of_ble_eq_true rfl)
    refine own_go (x' := T65.setTop (mkF m 131 #[.val (.ref ao0), .val (.int 1), .val (.int 0), .val (.int 2), .val (.double t2), .second, .val (.long ((2 : Int64) * ((2 : Int32).toInt64))), .second, .val (.int 0), .val (.int 0), .val (.double t0), .second, .val (.int ((1 : Int32) + (1 : Int32)))] [])) (fun _ k => XS.iinc X65.here hx rfl (hb hby d7_165) rfl (l' := #[.val (.ref ao0), .val (.int 1), .val (.int 0), .val (.int 2), .val (.double t2), .second, .val (.long ((2 : Int64) * ((2 : Int32).toInt64))), .second, .val (.int 0), .val (.int 0), .val (.double t0), .second, .val (.int ((1 : Int32) + (1 : Int32)))]) rfl (XS.goto X65.here hx rfl (pc0 := 168) (pc' := 131) rfl (hb hby d7_168) (by decide) (by decide) k)) ?_
    rw [show ((1 : Int32) + (1 : Int32)) = (2 : Int32) from by decide +kernel]
    refine own_go (x' := T65.setTop (mkF m 134 #[.val (.ref ao0), .val (.int 1), .val (.int 0), .val (.int 2), .val (.double t2), .second, .val (.long ((2 : Int64) * ((2 : Int32).toInt64))), .second, .val (.int 0), .val (.int 0), .val (.double t0), .second, .val (.int 2)] [(.ref ao0), (.int 2)])) (fun _ k => XS.iload X65.here hx rfl (hb hby d7_131) rfl (XS.aloadN X65.here hx rfl (hb hby d7_133) rfl rfl k)) ?_
    obtain ⟨T66, X66, e66, st66⟩ := getF X65 hx hZ hown (host := "") (Or.inl (own_w hw 12 rfl)) Via.refl e65 F_ao0_columns (g := (mkF m 134 #[.val (.ref ao0), .val (.int 1), .val (.int 0), .val (.int 2), .val (.double t2), .second, .val (.long ((2 : Int64) * ((2 : Int32).toInt64))), .second, .val (.int 0), .val (.int 0), .val (.double t0), .second, .val (.int 2)] [(.ref ao0), (.int 2)])) rfl rfl (hb hby d7_134)
    refine own_go (x' := T66.setTop (mkF m 137 #[.val (.ref ao0), .val (.int 1), .val (.int 0), .val (.int 2), .val (.double t2), .second, .val (.long ((2 : Int64) * ((2 : Int32).toInt64))), .second, .val (.int 0), .val (.int 0), .val (.double t0), .second, .val (.int 2)] [(.int 2), (.int 2)])) st66 ?_
    refine own_go (x' := T66.setTop (mkF m 172 #[.val (.ref ao0), .val (.int 1), .val (.int 0), .val (.int 2), .val (.double t2), .second, .val (.long ((2 : Int64) * ((2 : Int32).toInt64))), .second, .val (.int 0), .val (.int 0), .val (.double t0), .second, .val (.int 2)] [(.ref ao0)])) (fun _ k => XS.icmpYes X66.here hx rfl (pc0 := 137) (pc' := 171) rfl (hb hby d7_137) rfl (flt (Int32.lt_irrefl)).2.1 (by decide) (by decide) (XS.aloadN X66.here hx rfl (hb hby d7_171) rfl rfl k)) ?_
    obtain ⟨T67, X67, e67, st67⟩ := getF X66 hx hZ hown (host := "") (Or.inl (own_w hw 14 rfl)) Via.refl e66 F_ao0_tableau (g := (mkF m 172 #[.val (.ref ao0), .val (.int 1), .val (.int 0), .val (.int 2), .val (.double t2), .second, .val (.long ((2 : Int64) * ((2 : Int32).toInt64))), .second, .val (.int 0), .val (.int 0), .val (.double t0), .second, .val (.int 2)] [(.ref ao0)])) rfl rfl (hb hby d7_172)
    refine own_go (x' := T67.setTop (mkF m 175 #[.val (.ref ao0), .val (.int 1), .val (.int 0), .val (.int 2), .val (.double t2), .second, .val (.long ((2 : Int64) * ((2 : Int32).toInt64))), .second, .val (.int 0), .val (.int 0), .val (.double t0), .second, .val (.int 2)] [(.ref tb)])) st67 ?_
    refine own_go (x' := T67.setTop (mkF m 179 #[.val (.ref ao0), .val (.int 1), .val (.int 0), .val (.int 2), .val (.double t2), .second, .val (.long ((2 : Int64) * ((2 : Int32).toInt64))), .second, .val (.int 0), .val (.int 0), .val (.double t0), .second, .val (.int 2)] [(.int ((0 : Int32) + (0 : Int32))), (.ref tb)])) (fun _ k => XS.iload X67.here hx rfl (hb hby d7_175) rfl (XS.iloadN X67.here hx rfl (hb hby d7_177) rfl (XS.iadd X67.here hx rfl (hb hby d7_178) rfl k))) ?_
    rw [show ((0 : Int32) + (0 : Int32)) = (0 : Int32) from by decide +kernel]
    refine own_go (x' := T67.setTop (mkF m 185 #[.val (.ref ao0), .val (.int 1), .val (.int 0), .val (.int 2), .val (.double t2), .second, .val (.long ((2 : Int64) * ((2 : Int32).toInt64))), .second, .val (.int 0), .val (.int 0), .val (.double t0), .second, .val (.int 2)] [(.double (FP.ddiv (FP.dneg t0) t2)), (.int 0), (.ref tb)])) (fun _ k => XS.dload X67.here hx rfl (hb hby d7_179) rfl (XS.dnegS X67.here hx rfl (hb hby d7_181) rfl rfl (XS.dload X67.here hx rfl (hb hby d7_182) rfl (XS.ddivS X67.here hx rfl (hb hby d7_184) rfl (own_nn (ddiv_mag (dneg_mag m_t0) b_t2 (by decide) (by decide))) rfl k)))) ?_
    obtain ⟨cl68, Ar68, q68, Sz68, Nn68, Hh68, Gg68⟩ := V_tb
    have hin68 : ¬ ((0 : Int32) < 0 ∨ cl68.slots.size ≤ ((0 : Int32)).toNatClampNeg) := inb_of Sz68 ⟨by decide, by decide⟩
    obtain ⟨T68, h68, X68, e68, W68, st68⟩ := stD X67 hx hZ e67 Ar68 (j := (0 : Int32)) hin68 (g := (mkF m 185 #[.val (.ref ao0), .val (.int 1), .val (.int 0), .val (.int 2), .val (.double t2), .second, .val (.long ((2 : Int64) * ((2 : Int32).toInt64))), .second, .val (.int 0), .val (.int 0), .val (.double t0), .second, .val (.int 2)] [(.double (FP.ddiv (FP.dneg t0) t2)), (.int 0), (.ref tb)])) rfl rfl (hb hby d7_185)
    refine own_go (x' := T68.setTop (mkF m 186 #[.val (.ref ao0), .val (.int 1), .val (.int 0), .val (.int 2), .val (.double t2), .second, .val (.long ((2 : Int64) * ((2 : Int32).toInt64))), .second, .val (.int 0), .val (.int 0), .val (.double t0), .second, .val (.int 2)] [])) st68 ?_
    replace F_ao0_rows := Fld.other W68 F_ao0_rows (Or.inl ne_ao0_tb)
    replace F_ao0_columns := Fld.other W68 F_ao0_columns (Or.inl ne_ao0_tb)
    replace F_ao0_tableau := Fld.other W68 F_ao0_tableau (Or.inl ne_ao0_tb)
    replace F_ao0_value := Fld.other W68 F_ao0_value (Or.inl ne_ao0_tb)
    replace F_ao0_cost := Fld.other W68 F_ao0_cost (Or.inl ne_ao0_tb)
    replace F_ao0_basic := Fld.other W68 F_ao0_basic (Or.inl ne_ao0_tb)
    replace F_ao0_nonbasic := Fld.other W68 F_ao0_nonbasic (Or.inl ne_ao0_tb)
    replace V_co := V_co.other W68 (Ne.symm ne_tb_co)
    replace V_bs := V_bs.other W68 (Ne.symm ne_tb_bs)
    replace V_nb := V_nb.other W68 (Ne.symm ne_tb_nb)
    replace V_va := V_va.other W68 (Ne.symm ne_tb_va)
    replace Zs := Nat.le_trans Zs (Keep.of_wr W68).1
    replace Nf := Fr.snoc X68 Nf g_tb
    replace Kp := Kp.wr W68 (Or.inl (by simp))
    have V_tb : Arv Z h68 tb kt .double (4 : Int32) [(.double (FP.ddiv (FP.dneg t0) t2)), (.double (FP.dsub t1 (FP.dmul t0 (FP.ddiv t3 t2)))), (.double (FP.ddiv (4607182418800017408 : UInt64) t2)), (.double (FP.ddiv t3 t2))] (.double 0) := Arv.set Ar68 q68 Sz68 Nn68 Hh68 Gg68 rfl W68 0 rfl (Nat.le_of_ble_eq_true rfl)
    refine own_go (x' := T68.setTop (mkF m 187 #[.val (.ref ao0), .val (.int 1), .val (.int 0), .val (.int 2), .val (.double t2), .second, .val (.long ((2 : Int64) * ((2 : Int32).toInt64))), .second, .val (.int 0), .val (.int 0), .val (.double t0), .second, .val (.int 2)] [(.ref ao0)])) (fun _ k => XS.aloadN X68.here hx rfl (hb hby d7_186) rfl rfl k) ?_
    obtain ⟨T69, X69, e69, st69⟩ := getF X68 hx hZ hown (host := "") (Or.inl (own_w hw 25 rfl)) Via.refl e68 F_ao0_value (g := (mkF m 187 #[.val (.ref ao0), .val (.int 1), .val (.int 0), .val (.int 2), .val (.double t2), .second, .val (.long ((2 : Int64) * ((2 : Int32).toInt64))), .second, .val (.int 0), .val (.int 0), .val (.double t0), .second, .val (.int 2)] [(.ref ao0)])) rfl rfl (hb hby d7_187)
    refine own_go (x' := T69.setTop (mkF m 190 #[.val (.ref ao0), .val (.int 1), .val (.int 0), .val (.int 2), .val (.double t2), .second, .val (.long ((2 : Int64) * ((2 : Int32).toInt64))), .second, .val (.int 0), .val (.int 0), .val (.double t0), .second, .val (.int 2)] [(.ref va)])) st69 ?_
    refine own_go (x' := T69.setTop (mkF m 193 #[.val (.ref ao0), .val (.int 1), .val (.int 0), .val (.int 2), .val (.double t2), .second, .val (.long ((2 : Int64) * ((2 : Int32).toInt64))), .second, .val (.int 0), .val (.int 0), .val (.double t0), .second, .val (.int 2)] [(.int 0), (.ref va), (.int 0), (.ref va)])) (fun _ k => XS.iload X69.here hx rfl (hb hby d7_190) rfl (Jvm.Free.XT.dup2 X69.here hx rfl (hb hby d7_192) rfl rfl rfl k)) ?_
    obtain ⟨cl70, Ar70, q70, Sz70, Nn70, Hh70, Gg70⟩ := id V_va
    have hin70 : ¬ ((0 : Int32) < 0 ∨ cl70.slots.size ≤ ((0 : Int32)).toNatClampNeg) := inb_of Sz70 ⟨by decide, by decide⟩
    refine own_go (x' := T69.setTop (mkF m 194 #[.val (.ref ao0), .val (.int 1), .val (.int 0), .val (.int 2), .val (.double t2), .second, .val (.long ((2 : Int64) * ((2 : Int32).toInt64))), .second, .val (.int 0), .val (.int 0), .val (.double t0), .second, .val (.int 2)] [(.double w0), (.int 0), (.ref va)])) (X69.daload hx (j := (0 : Int32)) (v := (.double w0)) (Eq.trans (congrArg (fun h_ => h_[_]?) e69) Ar70.1) (State.isArrayOf_alike hZ.alike Ar70.2.1) Ar70.2.2 hin70 (Hh70.at hin70 rfl) (g := (mkF m 193 #[.val (.ref ao0), .val (.int 1), .val (.int 0), .val (.int 2), .val (.double t2), .second, .val (.long ((2 : Int64) * ((2 : Int32).toInt64))), .second, .val (.int 0), .val (.int 0), .val (.double t0), .second, .val (.int 2)] [(.int 0), (.ref va), (.int 0), (.ref va)])) rfl rfl (hb hby d7_193)) ?_
    refine own_go (x' := T69.setTop (mkF m 197 #[.val (.ref ao0), .val (.int 1), .val (.int 0), .val (.int 2), .val (.double t2), .second, .val (.long ((2 : Int64) * ((2 : Int32).toInt64))), .second, .val (.int 0), .val (.int 0), .val (.double t0), .second, .val (.int 2)] [(.ref ao0), (.double t0), (.double w0), (.int 0), (.ref va)])) (fun _ k => XS.dload X69.here hx rfl (hb hby d7_194) rfl (XS.aloadN X69.here hx rfl (hb hby d7_196) rfl rfl k)) ?_
    obtain ⟨T71, X71, e71, st71⟩ := getF X69 hx hZ hown (host := "") (Or.inl (own_w hw 25 rfl)) Via.refl e69 F_ao0_value (g := (mkF m 197 #[.val (.ref ao0), .val (.int 1), .val (.int 0), .val (.int 2), .val (.double t2), .second, .val (.long ((2 : Int64) * ((2 : Int32).toInt64))), .second, .val (.int 0), .val (.int 0), .val (.double t0), .second, .val (.int 2)] [(.ref ao0), (.double t0), (.double w0), (.int 0), (.ref va)])) rfl rfl (hb hby d7_197)
    refine own_go (x' := T71.setTop (mkF m 200 #[.val (.ref ao0), .val (.int 1), .val (.int 0), .val (.int 2), .val (.double t2), .second, .val (.long ((2 : Int64) * ((2 : Int32).toInt64))), .second, .val (.int 0), .val (.int 0), .val (.double t0), .second, .val (.int 2)] [(.ref va), (.double t0), (.double w0), (.int 0), (.ref va)])) st71 ?_
    refine own_go (x' := T71.setTop (mkF m 201 #[.val (.ref ao0), .val (.int 1), .val (.int 0), .val (.int 2), .val (.double t2), .second, .val (.long ((2 : Int64) * ((2 : Int32).toInt64))), .second, .val (.int 0), .val (.int 0), .val (.double t0), .second, .val (.int 2)] [(.int 1), (.ref va), (.double t0), (.double w0), (.int 0), (.ref va)])) (fun _ k => XS.iloadN X71.here hx rfl (hb hby d7_200) rfl k) ?_
    obtain ⟨cl72, Ar72, q72, Sz72, Nn72, Hh72, Gg72⟩ := id V_va
    have hin72 : ¬ ((1 : Int32) < 0 ∨ cl72.slots.size ≤ ((1 : Int32)).toNatClampNeg) := inb_of Sz72 ⟨by decide, by decide⟩
    refine own_go (x' := T71.setTop (mkF m 202 #[.val (.ref ao0), .val (.int 1), .val (.int 0), .val (.int 2), .val (.double t2), .second, .val (.long ((2 : Int64) * ((2 : Int32).toInt64))), .second, .val (.int 0), .val (.int 0), .val (.double t0), .second, .val (.int 2)] [(.double (FP.ddiv w1 t2)), (.double t0), (.double w0), (.int 0), (.ref va)])) (X71.daload hx (j := (1 : Int32)) (v := (.double (FP.ddiv w1 t2))) (Eq.trans (congrArg (fun h_ => h_[_]?) e71) Ar72.1) (State.isArrayOf_alike hZ.alike Ar72.2.1) Ar72.2.2 hin72 (Hh72.at hin72 rfl) (g := (mkF m 201 #[.val (.ref ao0), .val (.int 1), .val (.int 0), .val (.int 2), .val (.double t2), .second, .val (.long ((2 : Int64) * ((2 : Int32).toInt64))), .second, .val (.int 0), .val (.int 0), .val (.double t0), .second, .val (.int 2)] [(.int 1), (.ref va), (.double t0), (.double w0), (.int 0), (.ref va)])) rfl rfl (hb hby d7_201)) ?_
    refine own_go (x' := T71.setTop (mkF m 204 #[.val (.ref ao0), .val (.int 1), .val (.int 0), .val (.int 2), .val (.double t2), .second, .val (.long ((2 : Int64) * ((2 : Int32).toInt64))), .second, .val (.int 0), .val (.int 0), .val (.double t0), .second, .val (.int 2)] [(.double (FP.dsub w0 (FP.dmul t0 (FP.ddiv w1 t2)))), (.int 0), (.ref va)])) (fun _ k => XS.dmulS X71.here hx rfl (hb hby d7_202) rfl (own_nn (Jvm.Free.Fl.dmul_mag m_t0 (ddiv_mag m_w1 b_t2 (by decide) (by decide)) (by decide) (by decide))) rfl (XS.dsubS X71.here hx rfl (hb hby d7_203) rfl (own_nn (Jvm.Free.Fl.dsub_mag (m_w0.mono (by decide : 1056 ≤ 1091)) ((Jvm.Free.Fl.dmul_mag m_t0 (ddiv_mag m_w1 b_t2 (by decide) (by decide)) (by decide) (by decide)).mono (by decide : 1091 ≤ 1091)) (by decide))) rfl k)) ?_
    obtain ⟨cl73, Ar73, q73, Sz73, Nn73, Hh73, Gg73⟩ := V_va
    have hin73 : ¬ ((0 : Int32) < 0 ∨ cl73.slots.size ≤ ((0 : Int32)).toNatClampNeg) := inb_of Sz73 ⟨by decide, by decide⟩
    obtain ⟨T73, h73, X73, e73, W73, st73⟩ := stD X71 hx hZ e71 Ar73 (j := (0 : Int32)) hin73 (g := (mkF m 204 #[.val (.ref ao0), .val (.int 1), .val (.int 0), .val (.int 2), .val (.double t2), .second, .val (.long ((2 : Int64) * ((2 : Int32).toInt64))), .second, .val (.int 0), .val (.int 0), .val (.double t0), .second, .val (.int 2)] [(.double (FP.dsub w0 (FP.dmul t0 (FP.ddiv w1 t2)))), (.int 0), (.ref va)])) rfl rfl (hb hby d7_204)
    refine own_go (x' := T73.setTop (mkF m 205 #[.val (.ref ao0), .val (.int 1), .val (.int 0), .val (.int 2), .val (.double t2), .second, .val (.long ((2 : Int64) * ((2 : Int32).toInt64))), .second, .val (.int 0), .val (.int 0), .val (.double t0), .second, .val (.int 2)] [])) st73 ?_
    replace F_ao0_rows := Fld.other W73 F_ao0_rows (Or.inl ne_ao0_va)
    replace F_ao0_columns := Fld.other W73 F_ao0_columns (Or.inl ne_ao0_va)
    replace F_ao0_tableau := Fld.other W73 F_ao0_tableau (Or.inl ne_ao0_va)
    replace F_ao0_value := Fld.other W73 F_ao0_value (Or.inl ne_ao0_va)
    replace F_ao0_cost := Fld.other W73 F_ao0_cost (Or.inl ne_ao0_va)
    replace F_ao0_basic := Fld.other W73 F_ao0_basic (Or.inl ne_ao0_va)
    replace F_ao0_nonbasic := Fld.other W73 F_ao0_nonbasic (Or.inl ne_ao0_va)
    replace V_co := V_co.other W73 (Ne.symm ne_va_co)
    replace V_bs := V_bs.other W73 (Ne.symm ne_va_bs)
    replace V_nb := V_nb.other W73 (Ne.symm ne_va_nb)
    replace V_tb := V_tb.other W73 ne_tb_va
    replace Zs := Nat.le_trans Zs (Keep.of_wr W73).1
    replace Nf := Fr.snoc X73 Nf g_va
    replace Kp := Kp.wr W73 (Or.inl (by simp))
    have V_va : Arv Z h73 va kv .double (2 : Int32) [(.double (FP.dsub w0 (FP.dmul t0 (FP.ddiv w1 t2)))), (.double (FP.ddiv w1 t2))] (.double 0) := Arv.set Ar73 q73 Sz73 Nn73 Hh73 Gg73 rfl W73 0 rfl (Nat.le_of_ble_eq_true rfl)
    refine own_go (x' := T73.setTop (mkF m 208 #[.val (.ref ao0), .val (.int 1), .val (.int 0), .val (.int 2), .val (.double t2), .second, .val (.long ((2 : Int64) * ((2 : Int32).toInt64))), .second, .val (.int 0), .val (.int 0), .val (.double t0), .second, .val (.int 2)] [(.ref ao0), (.long ((2 : Int64) * ((2 : Int32).toInt64)))])) (fun _ k => XS.lload X73.here hx rfl (hb hby d7_205) rfl (XS.aloadN X73.here hx rfl (hb hby d7_207) rfl rfl k)) ?_
    obtain ⟨T74, X74, e74, st74⟩ := getF X73 hx hZ hown (host := "") (Or.inl (own_w hw 12 rfl)) Via.refl e73 F_ao0_columns (g := (mkF m 208 #[.val (.ref ao0), .val (.int 1), .val (.int 0), .val (.int 2), .val (.double t2), .second, .val (.long ((2 : Int64) * ((2 : Int32).toInt64))), .second, .val (.int 0), .val (.int 0), .val (.double t0), .second, .val (.int 2)] [(.ref ao0), (.long ((2 : Int64) * ((2 : Int32).toInt64)))])) rfl rfl (hb hby d7_208)
    refine own_go (x' := T74.setTop (mkF m 211 #[.val (.ref ao0), .val (.int 1), .val (.int 0), .val (.int 2), .val (.double t2), .second, .val (.long ((2 : Int64) * ((2 : Int32).toInt64))), .second, .val (.int 0), .val (.int 0), .val (.double t0), .second, .val (.int 2)] [(.int 2), (.long ((2 : Int64) * ((2 : Int32).toInt64)))])) st74 ?_
    refine own_go (x' := T74.setTop (mkF m 86 #[.val (.ref ao0), .val (.int 1), .val (.int 0), .val (.int 2), .val (.double t2), .second, .val (.long (((2 : Int64) * ((2 : Int32).toInt64)) + ((2 : Int32).toInt64))), .second, .val (.int ((0 : Int32) + (1 : Int32))), .val (.int 0), .val (.double t0), .second, .val (.int 2)] [])) (fun _ k => XS.i2l X74.here hx rfl (hb hby d7_211) rfl (XS.ladd X74.here hx rfl (hb hby d7_212) rfl (XS.lstore X74.here hx rfl (hb hby d7_213) rfl (l' := #[.val (.ref ao0), .val (.int 1), .val (.int 0), .val (.int 2), .val (.double t2), .second, .val (.long (((2 : Int64) * ((2 : Int32).toInt64)) + ((2 : Int32).toInt64))), .second, .val (.int 0), .val (.int 0), .val (.double t0), .second, .val (.int 2)]) rfl (XS.iinc X74.here hx rfl (hb hby d7_215) rfl (l' := #[.val (.ref ao0), .val (.int 1), .val (.int 0), .val (.int 2), .val (.double t2), .second, .val (.long (((2 : Int64) * ((2 : Int32).toInt64)) + ((2 : Int32).toInt64))), .second, .val (.int ((0 : Int32) + (1 : Int32))), .val (.int 0), .val (.double t0), .second, .val (.int 2)]) rfl (XS.goto X74.here hx rfl (pc0 := 218) (pc' := 86) rfl (hb hby d7_218) (by decide) (by decide) k))))) ?_
    rw [show ((0 : Int32) + (1 : Int32)) = (1 : Int32) from by decide +kernel]
    refine own_go (x' := T74.setTop (mkF m 89 #[.val (.ref ao0), .val (.int 1), .val (.int 0), .val (.int 2), .val (.double t2), .second, .val (.long (((2 : Int64) * ((2 : Int32).toInt64)) + ((2 : Int32).toInt64))), .second, .val (.int 1), .val (.int 0), .val (.double t0), .second, .val (.int 2)] [(.ref ao0), (.int 1)])) (fun _ k => XS.iload X74.here hx rfl (hb hby d7_86) rfl (XS.aloadN X74.here hx rfl (hb hby d7_88) rfl rfl k)) ?_
    obtain ⟨T75, X75, e75, st75⟩ := getF X74 hx hZ hown (host := "") (Or.inl (own_w hw 10 rfl)) Via.refl e74 F_ao0_rows (g := (mkF m 89 #[.val (.ref ao0), .val (.int 1), .val (.int 0), .val (.int 2), .val (.double t2), .second, .val (.long (((2 : Int64) * ((2 : Int32).toInt64)) + ((2 : Int32).toInt64))), .second, .val (.int 1), .val (.int 0), .val (.double t0), .second, .val (.int 2)] [(.ref ao0), (.int 1)])) rfl rfl (hb hby d7_89)
    refine own_go (x' := T75.setTop (mkF m 92 #[.val (.ref ao0), .val (.int 1), .val (.int 0), .val (.int 2), .val (.double t2), .second, .val (.long (((2 : Int64) * ((2 : Int32).toInt64)) + ((2 : Int32).toInt64))), .second, .val (.int 1), .val (.int 0), .val (.double t0), .second, .val (.int 2)] [(.int 2), (.int 1)])) st75 ?_
    refine own_go (x' := T75.setTop (mkF m 98 #[.val (.ref ao0), .val (.int 1), .val (.int 0), .val (.int 2), .val (.double t2), .second, .val (.long (((2 : Int64) * ((2 : Int32).toInt64)) + ((2 : Int32).toInt64))), .second, .val (.int 1), .val (.int 0), .val (.double t0), .second, .val (.int 2)] [(.ref ao0), (.int 1)])) (fun _ k => XS.icmpNo X75.here hx rfl (hb hby d7_92) rfl (tlt (by decide +kernel : ((1 : Int32) < (2 : Int32)))).2.1 (XS.iload X75.here hx rfl (hb hby d7_95) rfl (XS.aloadN X75.here hx rfl (hb hby d7_97) rfl rfl k))) ?_
    obtain ⟨T76, X76, e76, st76⟩ := getF X75 hx hZ hown (host := "") (Or.inl (own_w hw 12 rfl)) Via.refl e75 F_ao0_columns (g := (mkF m 98 #[.val (.ref ao0), .val (.int 1), .val (.int 0), .val (.int 2), .val (.double t2), .second, .val (.long (((2 : Int64) * ((2 : Int32).toInt64)) + ((2 : Int32).toInt64))), .second, .val (.int 1), .val (.int 0), .val (.double t0), .second, .val (.int 2)] [(.ref ao0), (.int 1)])) rfl rfl (hb hby d7_98)
    refine own_go (x' := T76.setTop (mkF m 101 #[.val (.ref ao0), .val (.int 1), .val (.int 0), .val (.int 2), .val (.double t2), .second, .val (.long (((2 : Int64) * ((2 : Int32).toInt64)) + ((2 : Int32).toInt64))), .second, .val (.int 1), .val (.int 0), .val (.double t0), .second, .val (.int 2)] [(.int 2), (.int 1)])) st76 ?_
    refine own_go (x' := T76.setTop (mkF m 104 #[.val (.ref ao0), .val (.int 1), .val (.int 0), .val (.int 2), .val (.double t2), .second, .val (.long (((2 : Int64) * ((2 : Int32).toInt64)) + ((2 : Int32).toInt64))), .second, .val (.int 1), .val (.int ((1 : Int32) * (2 : Int32))), .val (.double t0), .second, .val (.int 2)] [])) (fun _ k => XS.imul X76.here hx rfl (hb hby d7_101) rfl (XS.istore X76.here hx rfl (hb hby d7_102) rfl (l' := #[.val (.ref ao0), .val (.int 1), .val (.int 0), .val (.int 2), .val (.double t2), .second, .val (.long (((2 : Int64) * ((2 : Int32).toInt64)) + ((2 : Int32).toInt64))), .second, .val (.int 1), .val (.int ((1 : Int32) * (2 : Int32))), .val (.double t0), .second, .val (.int 2)]) rfl k)) ?_
    rw [show ((1 : Int32) * (2 : Int32)) = (2 : Int32) from by decide +kernel]
    refine own_go (x' := T76.setTop (mkF m 105 #[.val (.ref ao0), .val (.int 1), .val (.int 0), .val (.int 2), .val (.double t2), .second, .val (.long (((2 : Int64) * ((2 : Int32).toInt64)) + ((2 : Int32).toInt64))), .second, .val (.int 1), .val (.int 2), .val (.double t0), .second, .val (.int 2)] [(.ref ao0)])) (fun _ k => XS.aloadN X76.here hx rfl (hb hby d7_104) rfl rfl k) ?_
    obtain ⟨T77, X77, e77, st77⟩ := getF X76 hx hZ hown (host := "") (Or.inl (own_w hw 14 rfl)) Via.refl e76 F_ao0_tableau (g := (mkF m 105 #[.val (.ref ao0), .val (.int 1), .val (.int 0), .val (.int 2), .val (.double t2), .second, .val (.long (((2 : Int64) * ((2 : Int32).toInt64)) + ((2 : Int32).toInt64))), .second, .val (.int 1), .val (.int 2), .val (.double t0), .second, .val (.int 2)] [(.ref ao0)])) rfl rfl (hb hby d7_105)
    refine own_go (x' := T77.setTop (mkF m 108 #[.val (.ref ao0), .val (.int 1), .val (.int 0), .val (.int 2), .val (.double t2), .second, .val (.long (((2 : Int64) * ((2 : Int32).toInt64)) + ((2 : Int32).toInt64))), .second, .val (.int 1), .val (.int 2), .val (.double t0), .second, .val (.int 2)] [(.ref tb)])) st77 ?_
    refine own_go (x' := T77.setTop (mkF m 112 #[.val (.ref ao0), .val (.int 1), .val (.int 0), .val (.int 2), .val (.double t2), .second, .val (.long (((2 : Int64) * ((2 : Int32).toInt64)) + ((2 : Int32).toInt64))), .second, .val (.int 1), .val (.int 2), .val (.double t0), .second, .val (.int 2)] [(.int ((2 : Int32) + (0 : Int32))), (.ref tb)])) (fun _ k => XS.iload X77.here hx rfl (hb hby d7_108) rfl (XS.iloadN X77.here hx rfl (hb hby d7_110) rfl (XS.iadd X77.here hx rfl (hb hby d7_111) rfl k))) ?_
    rw [show ((2 : Int32) + (0 : Int32)) = (2 : Int32) from by decide +kernel]
    obtain ⟨cl78, Ar78, q78, Sz78, Nn78, Hh78, Gg78⟩ := id V_tb
    have hin78 : ¬ ((2 : Int32) < 0 ∨ cl78.slots.size ≤ ((2 : Int32)).toNatClampNeg) := inb_of Sz78 ⟨by decide, by decide⟩
    refine own_go (x' := T77.setTop (mkF m 113 #[.val (.ref ao0), .val (.int 1), .val (.int 0), .val (.int 2), .val (.double t2), .second, .val (.long (((2 : Int64) * ((2 : Int32).toInt64)) + ((2 : Int32).toInt64))), .second, .val (.int 1), .val (.int 2), .val (.double t0), .second, .val (.int 2)] [(.double (FP.ddiv (4607182418800017408 : UInt64) t2))])) (X77.daload hx (j := (2 : Int32)) (v := (.double (FP.ddiv (4607182418800017408 : UInt64) t2))) (Eq.trans (congrArg (fun h_ => h_[_]?) e77) Ar78.1) (State.isArrayOf_alike hZ.alike Ar78.2.1) Ar78.2.2 hin78 (Hh78.at hin78 rfl) (g := (mkF m 112 #[.val (.ref ao0), .val (.int 1), .val (.int 0), .val (.int 2), .val (.double t2), .second, .val (.long (((2 : Int64) * ((2 : Int32).toInt64)) + ((2 : Int32).toInt64))), .second, .val (.int 1), .val (.int 2), .val (.double t0), .second, .val (.int 2)] [(.int 2), (.ref tb)])) rfl rfl (hb hby d7_112)) ?_
    generalize (FP.ddiv (4607182418800017408 : UInt64) t2) = fz79
    refine own_go (x' := T77.setTop (mkF m 86 #[.val (.ref ao0), .val (.int 1), .val (.int 0), .val (.int 2), .val (.double t2), .second, .val (.long (((2 : Int64) * ((2 : Int32).toInt64)) + ((2 : Int32).toInt64))), .second, .val (.int ((1 : Int32) + (1 : Int32))), .val (.int 2), .val (.double fz79), .second, .val (.int 2)] [])) (fun _ k => XS.dstore X77.here hx rfl (hb hby d7_113) rfl (l' := #[.val (.ref ao0), .val (.int 1), .val (.int 0), .val (.int 2), .val (.double t2), .second, .val (.long (((2 : Int64) * ((2 : Int32).toInt64)) + ((2 : Int32).toInt64))), .second, .val (.int 1), .val (.int 2), .val (.double fz79), .second, .val (.int 2)]) rfl (XS.iload X77.here hx rfl (hb hby d7_115) rfl (XS.iloadN X77.here hx rfl (hb hby d7_117) rfl (XS.icmpYes X77.here hx rfl (pc0 := 118) (pc' := 215) rfl (hb hby d7_118) rfl (teq rfl).1 (by decide) (by decide) (XS.iinc X77.here hx rfl (hb hby d7_215) rfl (l' := #[.val (.ref ao0), .val (.int 1), .val (.int 0), .val (.int 2), .val (.double t2), .second, .val (.long (((2 : Int64) * ((2 : Int32).toInt64)) + ((2 : Int32).toInt64))), .second, .val (.int ((1 : Int32) + (1 : Int32))), .val (.int 2), .val (.double fz79), .second, .val (.int 2)]) rfl (XS.goto X77.here hx rfl (pc0 := 218) (pc' := 86) rfl (hb hby d7_218) (by decide) (by decide) k)))))) ?_
    rw [show ((1 : Int32) + (1 : Int32)) = (2 : Int32) from by decide +kernel]
    refine own_go (x' := T77.setTop (mkF m 89 #[.val (.ref ao0), .val (.int 1), .val (.int 0), .val (.int 2), .val (.double t2), .second, .val (.long (((2 : Int64) * ((2 : Int32).toInt64)) + ((2 : Int32).toInt64))), .second, .val (.int 2), .val (.int 2), .val (.double fz79), .second, .val (.int 2)] [(.ref ao0), (.int 2)])) (fun _ k => XS.iload X77.here hx rfl (hb hby d7_86) rfl (XS.aloadN X77.here hx rfl (hb hby d7_88) rfl rfl k)) ?_
    obtain ⟨T80, X80, e80, st80⟩ := getF X77 hx hZ hown (host := "") (Or.inl (own_w hw 10 rfl)) Via.refl e77 F_ao0_rows (g := (mkF m 89 #[.val (.ref ao0), .val (.int 1), .val (.int 0), .val (.int 2), .val (.double t2), .second, .val (.long (((2 : Int64) * ((2 : Int32).toInt64)) + ((2 : Int32).toInt64))), .second, .val (.int 2), .val (.int 2), .val (.double fz79), .second, .val (.int 2)] [(.ref ao0), (.int 2)])) rfl rfl (hb hby d7_89)
    refine own_go (x' := T80.setTop (mkF m 92 #[.val (.ref ao0), .val (.int 1), .val (.int 0), .val (.int 2), .val (.double t2), .second, .val (.long (((2 : Int64) * ((2 : Int32).toInt64)) + ((2 : Int32).toInt64))), .second, .val (.int 2), .val (.int 2), .val (.double fz79), .second, .val (.int 2)] [(.int 2), (.int 2)])) st80 ?_
    refine own_go (x' := T80.setTop (mkF m 222 #[.val (.ref ao0), .val (.int 1), .val (.int 0), .val (.int 2), .val (.double t2), .second, .val (.long (((2 : Int64) * ((2 : Int32).toInt64)) + ((2 : Int32).toInt64))), .second, .val (.int 2), .val (.int 2), .val (.double fz79), .second, .val (.int 2)] [(.ref ao0)])) (fun _ k => XS.icmpYes X80.here hx rfl (pc0 := 92) (pc' := 221) rfl (hb hby d7_92) rfl (flt (Int32.lt_irrefl)).2.1 (by decide) (by decide) (XS.aloadN X80.here hx rfl (hb hby d7_221) rfl rfl k)) ?_
    obtain ⟨T81, X81, e81, st81⟩ := getF X80 hx hZ hown (host := "") (Or.inl (own_w hw 27 rfl)) Via.refl e80 F_ao0_cost (g := (mkF m 222 #[.val (.ref ao0), .val (.int 1), .val (.int 0), .val (.int 2), .val (.double t2), .second, .val (.long (((2 : Int64) * ((2 : Int32).toInt64)) + ((2 : Int32).toInt64))), .second, .val (.int 2), .val (.int 2), .val (.double fz79), .second, .val (.int 2)] [(.ref ao0)])) rfl rfl (hb hby d7_222)
    refine own_go (x' := T81.setTop (mkF m 225 #[.val (.ref ao0), .val (.int 1), .val (.int 0), .val (.int 2), .val (.double t2), .second, .val (.long (((2 : Int64) * ((2 : Int32).toInt64)) + ((2 : Int32).toInt64))), .second, .val (.int 2), .val (.int 2), .val (.double fz79), .second, .val (.int 2)] [(.ref co)])) st81 ?_
    refine own_go (x' := T81.setTop (mkF m 226 #[.val (.ref ao0), .val (.int 1), .val (.int 0), .val (.int 2), .val (.double t2), .second, .val (.long (((2 : Int64) * ((2 : Int32).toInt64)) + ((2 : Int32).toInt64))), .second, .val (.int 2), .val (.int 2), .val (.double fz79), .second, .val (.int 2)] [(.int 0), (.ref co)])) (fun _ k => XS.iloadN X81.here hx rfl (hb hby d7_225) rfl k) ?_
    obtain ⟨cl82, Ar82, q82, Sz82, Nn82, Hh82, Gg82⟩ := id V_co
    have hin82 : ¬ ((0 : Int32) < 0 ∨ cl82.slots.size ≤ ((0 : Int32)).toNatClampNeg) := inb_of Sz82 ⟨by decide, by decide⟩
    refine own_go (x' := T81.setTop (mkF m 227 #[.val (.ref ao0), .val (.int 1), .val (.int 0), .val (.int 2), .val (.double t2), .second, .val (.long (((2 : Int64) * ((2 : Int32).toInt64)) + ((2 : Int32).toInt64))), .second, .val (.int 2), .val (.int 2), .val (.double fz79), .second, .val (.int 2)] [(.double c0)])) (X81.daload hx (j := (0 : Int32)) (v := (.double c0)) (Eq.trans (congrArg (fun h_ => h_[_]?) e81) Ar82.1) (State.isArrayOf_alike hZ.alike Ar82.2.1) Ar82.2.2 hin82 (Hh82.at hin82 rfl) (g := (mkF m 226 #[.val (.ref ao0), .val (.int 1), .val (.int 0), .val (.int 2), .val (.double t2), .second, .val (.long (((2 : Int64) * ((2 : Int32).toInt64)) + ((2 : Int32).toInt64))), .second, .val (.int 2), .val (.int 2), .val (.double fz79), .second, .val (.int 2)] [(.int 0), (.ref co)])) rfl rfl (hb hby d7_226)) ?_
    refine own_go (x' := T81.setTop (mkF m 235 #[.val (.ref ao0), .val (.int 1), .val (.int 0), .val (.int 2), .val (.double t2), .second, .val (.long (((2 : Int64) * ((2 : Int32).toInt64)) + ((2 : Int32).toInt64))), .second, .val (.double c0), .second, .val (.int 0), .unset, .val (.int 2)] [(.ref ao0), (.int 0)])) (fun _ k => XS.dstore X81.here hx rfl (hb hby d7_227) rfl (l' := #[.val (.ref ao0), .val (.int 1), .val (.int 0), .val (.int 2), .val (.double t2), .second, .val (.long (((2 : Int64) * ((2 : Int32).toInt64)) + ((2 : Int32).toInt64))), .second, .val (.double c0), .second, .val (.double fz79), .second, .val (.int 2)]) rfl (XS.iconst X81.here hx rfl (hb hby d7_229) (XS.istore X81.here hx rfl (hb hby d7_230) rfl (l' := #[.val (.ref ao0), .val (.int 1), .val (.int 0), .val (.int 2), .val (.double t2), .second, .val (.long (((2 : Int64) * ((2 : Int32).toInt64)) + ((2 : Int32).toInt64))), .second, .val (.double c0), .second, .val (.int 0), .unset, .val (.int 2)]) rfl (XS.iload X81.here hx rfl (hb hby d7_232) rfl (XS.aloadN X81.here hx rfl (hb hby d7_234) rfl rfl k))))) ?_
    obtain ⟨T83, X83, e83, st83⟩ := getF X81 hx hZ hown (host := "") (Or.inl (own_w hw 12 rfl)) Via.refl e81 F_ao0_columns (g := (mkF m 235 #[.val (.ref ao0), .val (.int 1), .val (.int 0), .val (.int 2), .val (.double t2), .second, .val (.long (((2 : Int64) * ((2 : Int32).toInt64)) + ((2 : Int32).toInt64))), .second, .val (.double c0), .second, .val (.int 0), .unset, .val (.int 2)] [(.ref ao0), (.int 0)])) rfl rfl (hb hby d7_235)
    refine own_go (x' := T83.setTop (mkF m 238 #[.val (.ref ao0), .val (.int 1), .val (.int 0), .val (.int 2), .val (.double t2), .second, .val (.long (((2 : Int64) * ((2 : Int32).toInt64)) + ((2 : Int32).toInt64))), .second, .val (.double c0), .second, .val (.int 0), .unset, .val (.int 2)] [(.int 2), (.int 0)])) st83 ?_
    refine own_go (x' := T83.setTop (mkF m 242 #[.val (.ref ao0), .val (.int 1), .val (.int 0), .val (.int 2), .val (.double t2), .second, .val (.long (((2 : Int64) * ((2 : Int32).toInt64)) + ((2 : Int32).toInt64))), .second, .val (.double c0), .second, .val (.int 0), .unset, .val (.int 2)] [(.ref ao0)])) (fun _ k => XS.icmpNo X83.here hx rfl (hb hby d7_238) rfl (tlt (by decide +kernel : ((0 : Int32) < (2 : Int32)))).2.1 (XS.aloadN X83.here hx rfl (hb hby d7_241) rfl rfl k)) ?_
    obtain ⟨T84, X84, e84, st84⟩ := getF X83 hx hZ hown (host := "") (Or.inl (own_w hw 27 rfl)) Via.refl e83 F_ao0_cost (g := (mkF m 242 #[.val (.ref ao0), .val (.int 1), .val (.int 0), .val (.int 2), .val (.double t2), .second, .val (.long (((2 : Int64) * ((2 : Int32).toInt64)) + ((2 : Int32).toInt64))), .second, .val (.double c0), .second, .val (.int 0), .unset, .val (.int 2)] [(.ref ao0)])) rfl rfl (hb hby d7_242)
    refine own_go (x' := T84.setTop (mkF m 245 #[.val (.ref ao0), .val (.int 1), .val (.int 0), .val (.int 2), .val (.double t2), .second, .val (.long (((2 : Int64) * ((2 : Int32).toInt64)) + ((2 : Int32).toInt64))), .second, .val (.double c0), .second, .val (.int 0), .unset, .val (.int 2)] [(.ref co)])) st84 ?_
    refine own_go (x' := T84.setTop (mkF m 248 #[.val (.ref ao0), .val (.int 1), .val (.int 0), .val (.int 2), .val (.double t2), .second, .val (.long (((2 : Int64) * ((2 : Int32).toInt64)) + ((2 : Int32).toInt64))), .second, .val (.double c0), .second, .val (.int 0), .unset, .val (.int 2)] [(.int 0), (.ref co), (.int 0), (.ref co)])) (fun _ k => XS.iload X84.here hx rfl (hb hby d7_245) rfl (Jvm.Free.XT.dup2 X84.here hx rfl (hb hby d7_247) rfl rfl rfl k)) ?_
    obtain ⟨cl85, Ar85, q85, Sz85, Nn85, Hh85, Gg85⟩ := id V_co
    have hin85 : ¬ ((0 : Int32) < 0 ∨ cl85.slots.size ≤ ((0 : Int32)).toNatClampNeg) := inb_of Sz85 ⟨by decide, by decide⟩
    refine own_go (x' := T84.setTop (mkF m 249 #[.val (.ref ao0), .val (.int 1), .val (.int 0), .val (.int 2), .val (.double t2), .second, .val (.long (((2 : Int64) * ((2 : Int32).toInt64)) + ((2 : Int32).toInt64))), .second, .val (.double c0), .second, .val (.int 0), .unset, .val (.int 2)] [(.double c0), (.int 0), (.ref co)])) (X84.daload hx (j := (0 : Int32)) (v := (.double c0)) (Eq.trans (congrArg (fun h_ => h_[_]?) e84) Ar85.1) (State.isArrayOf_alike hZ.alike Ar85.2.1) Ar85.2.2 hin85 (Hh85.at hin85 rfl) (g := (mkF m 248 #[.val (.ref ao0), .val (.int 1), .val (.int 0), .val (.int 2), .val (.double t2), .second, .val (.long (((2 : Int64) * ((2 : Int32).toInt64)) + ((2 : Int32).toInt64))), .second, .val (.double c0), .second, .val (.int 0), .unset, .val (.int 2)] [(.int 0), (.ref co), (.int 0), (.ref co)])) rfl rfl (hb hby d7_248)) ?_
    refine own_go (x' := T84.setTop (mkF m 252 #[.val (.ref ao0), .val (.int 1), .val (.int 0), .val (.int 2), .val (.double t2), .second, .val (.long (((2 : Int64) * ((2 : Int32).toInt64)) + ((2 : Int32).toInt64))), .second, .val (.double c0), .second, .val (.int 0), .unset, .val (.int 2)] [(.ref ao0), (.double c0), (.double c0), (.int 0), (.ref co)])) (fun _ k => XS.dload X84.here hx rfl (hb hby d7_249) rfl (XS.aloadN X84.here hx rfl (hb hby d7_251) rfl rfl k)) ?_
    obtain ⟨T86, X86, e86, st86⟩ := getF X84 hx hZ hown (host := "") (Or.inl (own_w hw 14 rfl)) Via.refl e84 F_ao0_tableau (g := (mkF m 252 #[.val (.ref ao0), .val (.int 1), .val (.int 0), .val (.int 2), .val (.double t2), .second, .val (.long (((2 : Int64) * ((2 : Int32).toInt64)) + ((2 : Int32).toInt64))), .second, .val (.double c0), .second, .val (.int 0), .unset, .val (.int 2)] [(.ref ao0), (.double c0), (.double c0), (.int 0), (.ref co)])) rfl rfl (hb hby d7_252)
    refine own_go (x' := T86.setTop (mkF m 255 #[.val (.ref ao0), .val (.int 1), .val (.int 0), .val (.int 2), .val (.double t2), .second, .val (.long (((2 : Int64) * ((2 : Int32).toInt64)) + ((2 : Int32).toInt64))), .second, .val (.double c0), .second, .val (.int 0), .unset, .val (.int 2)] [(.ref tb), (.double c0), (.double c0), (.int 0), (.ref co)])) st86 ?_
    refine own_go (x' := T86.setTop (mkF m 259 #[.val (.ref ao0), .val (.int 1), .val (.int 0), .val (.int 2), .val (.double t2), .second, .val (.long (((2 : Int64) * ((2 : Int32).toInt64)) + ((2 : Int32).toInt64))), .second, .val (.double c0), .second, .val (.int 0), .unset, .val (.int 2)] [(.int ((2 : Int32) + (0 : Int32))), (.ref tb), (.double c0), (.double c0), (.int 0), (.ref co)])) (fun _ k => XS.iloadN X86.here hx rfl (hb hby d7_255) rfl (XS.iload X86.here hx rfl (hb hby d7_256) rfl (XS.iadd X86.here hx rfl (hb hby d7_258) rfl k))) ?_
    rw [show ((2 : Int32) + (0 : Int32)) = (2 : Int32) from by decide +kernel]
    obtain ⟨cl87, Ar87, q87, Sz87, Nn87, Hh87, Gg87⟩ := id V_tb
    have hin87 : ¬ ((2 : Int32) < 0 ∨ cl87.slots.size ≤ ((2 : Int32)).toNatClampNeg) := inb_of Sz87 ⟨by decide, by decide⟩
    refine own_go (x' := T86.setTop (mkF m 260 #[.val (.ref ao0), .val (.int 1), .val (.int 0), .val (.int 2), .val (.double t2), .second, .val (.long (((2 : Int64) * ((2 : Int32).toInt64)) + ((2 : Int32).toInt64))), .second, .val (.double c0), .second, .val (.int 0), .unset, .val (.int 2)] [(.double (FP.ddiv (4607182418800017408 : UInt64) t2)), (.double c0), (.double c0), (.int 0), (.ref co)])) (X86.daload hx (j := (2 : Int32)) (v := (.double (FP.ddiv (4607182418800017408 : UInt64) t2))) (Eq.trans (congrArg (fun h_ => h_[_]?) e86) Ar87.1) (State.isArrayOf_alike hZ.alike Ar87.2.1) Ar87.2.2 hin87 (Hh87.at hin87 rfl) (g := (mkF m 259 #[.val (.ref ao0), .val (.int 1), .val (.int 0), .val (.int 2), .val (.double t2), .second, .val (.long (((2 : Int64) * ((2 : Int32).toInt64)) + ((2 : Int32).toInt64))), .second, .val (.double c0), .second, .val (.int 0), .unset, .val (.int 2)] [(.int 2), (.ref tb), (.double c0), (.double c0), (.int 0), (.ref co)])) rfl rfl (hb hby d7_259)) ?_
    refine own_go (x' := T86.setTop (mkF m 262 #[.val (.ref ao0), .val (.int 1), .val (.int 0), .val (.int 2), .val (.double t2), .second, .val (.long (((2 : Int64) * ((2 : Int32).toInt64)) + ((2 : Int32).toInt64))), .second, .val (.double c0), .second, .val (.int 0), .unset, .val (.int 2)] [(.double (FP.dsub c0 (FP.dmul c0 (FP.ddiv (4607182418800017408 : UInt64) t2)))), (.int 0), (.ref co)])) (fun _ k => XS.dmulS X86.here hx rfl (hb hby d7_260) rfl (own_nn (Jvm.Free.Fl.dmul_mag m_c0 (ddiv_mag own_m1 b_t2 (by decide) (by decide)) (by decide) (by decide))) rfl (XS.dsubS X86.here hx rfl (hb hby d7_261) rfl (own_nn (Jvm.Free.Fl.dsub_mag (m_c0.mono (by decide : 1056 ≤ 1059)) ((Jvm.Free.Fl.dmul_mag m_c0 (ddiv_mag own_m1 b_t2 (by decide) (by decide)) (by decide) (by decide)).mono (by decide : 1059 ≤ 1059)) (by decide))) rfl k)) ?_
    obtain ⟨cl88, Ar88, q88, Sz88, Nn88, Hh88, Gg88⟩ := V_co
    have hin88 : ¬ ((0 : Int32) < 0 ∨ cl88.slots.size ≤ ((0 : Int32)).toNatClampNeg) := inb_of Sz88 ⟨by decide, by decide⟩
    obtain ⟨T88, h88, X88, e88, W88, st88⟩ := stD X86 hx hZ e86 Ar88 (j := (0 : Int32)) hin88 (g := (mkF m 262 #[.val (.ref ao0), .val (.int 1), .val (.int 0), .val (.int 2), .val (.double t2), .second, .val (.long (((2 : Int64) * ((2 : Int32).toInt64)) + ((2 : Int32).toInt64))), .second, .val (.double c0), .second, .val (.int 0), .unset, .val (.int 2)] [(.double (FP.dsub c0 (FP.dmul c0 (FP.ddiv (4607182418800017408 : UInt64) t2)))), (.int 0), (.ref co)])) rfl rfl (hb hby d7_262)
    refine own_go (x' := T88.setTop (mkF m 263 #[.val (.ref ao0), .val (.int 1), .val (.int 0), .val (.int 2), .val (.double t2), .second, .val (.long (((2 : Int64) * ((2 : Int32).toInt64)) + ((2 : Int32).toInt64))), .second, .val (.double c0), .second, .val (.int 0), .unset, .val (.int 2)] [])) st88 ?_
    replace F_ao0_rows := Fld.other W88 F_ao0_rows (Or.inl ne_ao0_co)
    replace F_ao0_columns := Fld.other W88 F_ao0_columns (Or.inl ne_ao0_co)
    replace F_ao0_tableau := Fld.other W88 F_ao0_tableau (Or.inl ne_ao0_co)
    replace F_ao0_value := Fld.other W88 F_ao0_value (Or.inl ne_ao0_co)
    replace F_ao0_cost := Fld.other W88 F_ao0_cost (Or.inl ne_ao0_co)
    replace F_ao0_basic := Fld.other W88 F_ao0_basic (Or.inl ne_ao0_co)
    replace F_ao0_nonbasic := Fld.other W88 F_ao0_nonbasic (Or.inl ne_ao0_co)
    replace V_bs := V_bs.other W88 (Ne.symm ne_co_bs)
    replace V_nb := V_nb.other W88 (Ne.symm ne_co_nb)
    replace V_tb := V_tb.other W88 ne_tb_co
    replace V_va := V_va.other W88 ne_va_co
    replace Zs := Nat.le_trans Zs (Keep.of_wr W88).1
    replace Nf := Fr.snoc X88 Nf g_co
    replace Kp := Kp.wr W88 (Or.inl (by simp))
    have V_co : Arv Z h88 co kc .double (2 : Int32) [(.double (FP.dsub c0 (FP.dmul c0 (FP.ddiv (4607182418800017408 : UInt64) t2)))), (.double c1)] (.double 0) := Arv.set Ar88 q88 Sz88 Nn88 Hh88 Gg88 rfl W88 0 rfl (Nat.le_of_ble_eq_true rfl)
    refine own_go (x' := T88.setTop (mkF m 232 #[.val (.ref ao0), .val (.int 1), .val (.int 0), .val (.int 2), .val (.double t2), .second, .val (.long (((2 : Int64) * ((2 : Int32).toInt64)) + ((2 : Int32).toInt64))), .second, .val (.double c0), .second, .val (.int ((0 : Int32) + (1 : Int32))), .unset, .val (.int 2)] [])) (fun _ k => XS.iinc X88.here hx rfl (hb hby d7_263) rfl (l' := #[.val (.ref ao0), .val (.int 1), .val (.int 0), .val (.int 2), .val (.double t2), .second, .val (.long (((2 : Int64) * ((2 : Int32).toInt64)) + ((2 : Int32).toInt64))), .second, .val (.double c0), .second, .val (.int ((0 : Int32) + (1 : Int32))), .unset, .val (.int 2)]) rfl (XS.goto X88.here hx rfl (pc0 := 266) (pc' := 232) rfl (hb hby d7_266) (by decide) (by decide) k)) ?_
    rw [show ((0 : Int32) + (1 : Int32)) = (1 : Int32) from by decide +kernel]
    refine own_go (x' := T88.setTop (mkF m 235 #[.val (.ref ao0), .val (.int 1), .val (.int 0), .val (.int 2), .val (.double t2), .second, .val (.long (((2 : Int64) * ((2 : Int32).toInt64)) + ((2 : Int32).toInt64))), .second, .val (.double c0), .second, .val (.int 1), .unset, .val (.int 2)] [(.ref ao0), (.int 1)])) (fun _ k => XS.iload X88.here hx rfl (hb hby d7_232) rfl (XS.aloadN X88.here hx rfl (hb hby d7_234) rfl rfl k)) ?_
    obtain ⟨T89, X89, e89, st89⟩ := getF X88 hx hZ hown (host := "") (Or.inl (own_w hw 12 rfl)) Via.refl e88 F_ao0_columns (g := (mkF m 235 #[.val (.ref ao0), .val (.int 1), .val (.int 0), .val (.int 2), .val (.double t2), .second, .val (.long (((2 : Int64) * ((2 : Int32).toInt64)) + ((2 : Int32).toInt64))), .second, .val (.double c0), .second, .val (.int 1), .unset, .val (.int 2)] [(.ref ao0), (.int 1)])) rfl rfl (hb hby d7_235)
    refine own_go (x' := T89.setTop (mkF m 238 #[.val (.ref ao0), .val (.int 1), .val (.int 0), .val (.int 2), .val (.double t2), .second, .val (.long (((2 : Int64) * ((2 : Int32).toInt64)) + ((2 : Int32).toInt64))), .second, .val (.double c0), .second, .val (.int 1), .unset, .val (.int 2)] [(.int 2), (.int 1)])) st89 ?_
    refine own_go (x' := T89.setTop (mkF m 242 #[.val (.ref ao0), .val (.int 1), .val (.int 0), .val (.int 2), .val (.double t2), .second, .val (.long (((2 : Int64) * ((2 : Int32).toInt64)) + ((2 : Int32).toInt64))), .second, .val (.double c0), .second, .val (.int 1), .unset, .val (.int 2)] [(.ref ao0)])) (fun _ k => XS.icmpNo X89.here hx rfl (hb hby d7_238) rfl (tlt (by decide +kernel : ((1 : Int32) < (2 : Int32)))).2.1 (XS.aloadN X89.here hx rfl (hb hby d7_241) rfl rfl k)) ?_
    obtain ⟨T90, X90, e90, st90⟩ := getF X89 hx hZ hown (host := "") (Or.inl (own_w hw 27 rfl)) Via.refl e89 F_ao0_cost (g := (mkF m 242 #[.val (.ref ao0), .val (.int 1), .val (.int 0), .val (.int 2), .val (.double t2), .second, .val (.long (((2 : Int64) * ((2 : Int32).toInt64)) + ((2 : Int32).toInt64))), .second, .val (.double c0), .second, .val (.int 1), .unset, .val (.int 2)] [(.ref ao0)])) rfl rfl (hb hby d7_242)
    refine own_go (x' := T90.setTop (mkF m 245 #[.val (.ref ao0), .val (.int 1), .val (.int 0), .val (.int 2), .val (.double t2), .second, .val (.long (((2 : Int64) * ((2 : Int32).toInt64)) + ((2 : Int32).toInt64))), .second, .val (.double c0), .second, .val (.int 1), .unset, .val (.int 2)] [(.ref co)])) st90 ?_
    refine own_go (x' := T90.setTop (mkF m 248 #[.val (.ref ao0), .val (.int 1), .val (.int 0), .val (.int 2), .val (.double t2), .second, .val (.long (((2 : Int64) * ((2 : Int32).toInt64)) + ((2 : Int32).toInt64))), .second, .val (.double c0), .second, .val (.int 1), .unset, .val (.int 2)] [(.int 1), (.ref co), (.int 1), (.ref co)])) (fun _ k => XS.iload X90.here hx rfl (hb hby d7_245) rfl (Jvm.Free.XT.dup2 X90.here hx rfl (hb hby d7_247) rfl rfl rfl k)) ?_
    obtain ⟨cl91, Ar91, q91, Sz91, Nn91, Hh91, Gg91⟩ := id V_co
    have hin91 : ¬ ((1 : Int32) < 0 ∨ cl91.slots.size ≤ ((1 : Int32)).toNatClampNeg) := inb_of Sz91 ⟨by decide, by decide⟩
    refine own_go (x' := T90.setTop (mkF m 249 #[.val (.ref ao0), .val (.int 1), .val (.int 0), .val (.int 2), .val (.double t2), .second, .val (.long (((2 : Int64) * ((2 : Int32).toInt64)) + ((2 : Int32).toInt64))), .second, .val (.double c0), .second, .val (.int 1), .unset, .val (.int 2)] [(.double c1), (.int 1), (.ref co)])) (X90.daload hx (j := (1 : Int32)) (v := (.double c1)) (Eq.trans (congrArg (fun h_ => h_[_]?) e90) Ar91.1) (State.isArrayOf_alike hZ.alike Ar91.2.1) Ar91.2.2 hin91 (Hh91.at hin91 rfl) (g := (mkF m 248 #[.val (.ref ao0), .val (.int 1), .val (.int 0), .val (.int 2), .val (.double t2), .second, .val (.long (((2 : Int64) * ((2 : Int32).toInt64)) + ((2 : Int32).toInt64))), .second, .val (.double c0), .second, .val (.int 1), .unset, .val (.int 2)] [(.int 1), (.ref co), (.int 1), (.ref co)])) rfl rfl (hb hby d7_248)) ?_
    refine own_go (x' := T90.setTop (mkF m 252 #[.val (.ref ao0), .val (.int 1), .val (.int 0), .val (.int 2), .val (.double t2), .second, .val (.long (((2 : Int64) * ((2 : Int32).toInt64)) + ((2 : Int32).toInt64))), .second, .val (.double c0), .second, .val (.int 1), .unset, .val (.int 2)] [(.ref ao0), (.double c0), (.double c1), (.int 1), (.ref co)])) (fun _ k => XS.dload X90.here hx rfl (hb hby d7_249) rfl (XS.aloadN X90.here hx rfl (hb hby d7_251) rfl rfl k)) ?_
    obtain ⟨T92, X92, e92, st92⟩ := getF X90 hx hZ hown (host := "") (Or.inl (own_w hw 14 rfl)) Via.refl e90 F_ao0_tableau (g := (mkF m 252 #[.val (.ref ao0), .val (.int 1), .val (.int 0), .val (.int 2), .val (.double t2), .second, .val (.long (((2 : Int64) * ((2 : Int32).toInt64)) + ((2 : Int32).toInt64))), .second, .val (.double c0), .second, .val (.int 1), .unset, .val (.int 2)] [(.ref ao0), (.double c0), (.double c1), (.int 1), (.ref co)])) rfl rfl (hb hby d7_252)
    refine own_go (x' := T92.setTop (mkF m 255 #[.val (.ref ao0), .val (.int 1), .val (.int 0), .val (.int 2), .val (.double t2), .second, .val (.long (((2 : Int64) * ((2 : Int32).toInt64)) + ((2 : Int32).toInt64))), .second, .val (.double c0), .second, .val (.int 1), .unset, .val (.int 2)] [(.ref tb), (.double c0), (.double c1), (.int 1), (.ref co)])) st92 ?_
    refine own_go (x' := T92.setTop (mkF m 259 #[.val (.ref ao0), .val (.int 1), .val (.int 0), .val (.int 2), .val (.double t2), .second, .val (.long (((2 : Int64) * ((2 : Int32).toInt64)) + ((2 : Int32).toInt64))), .second, .val (.double c0), .second, .val (.int 1), .unset, .val (.int 2)] [(.int ((2 : Int32) + (1 : Int32))), (.ref tb), (.double c0), (.double c1), (.int 1), (.ref co)])) (fun _ k => XS.iloadN X92.here hx rfl (hb hby d7_255) rfl (XS.iload X92.here hx rfl (hb hby d7_256) rfl (XS.iadd X92.here hx rfl (hb hby d7_258) rfl k))) ?_
    rw [show ((2 : Int32) + (1 : Int32)) = (3 : Int32) from by decide +kernel]
    obtain ⟨cl93, Ar93, q93, Sz93, Nn93, Hh93, Gg93⟩ := id V_tb
    have hin93 : ¬ ((3 : Int32) < 0 ∨ cl93.slots.size ≤ ((3 : Int32)).toNatClampNeg) := inb_of Sz93 ⟨by decide, by decide⟩
    refine own_go (x' := T92.setTop (mkF m 260 #[.val (.ref ao0), .val (.int 1), .val (.int 0), .val (.int 2), .val (.double t2), .second, .val (.long (((2 : Int64) * ((2 : Int32).toInt64)) + ((2 : Int32).toInt64))), .second, .val (.double c0), .second, .val (.int 1), .unset, .val (.int 2)] [(.double (FP.ddiv t3 t2)), (.double c0), (.double c1), (.int 1), (.ref co)])) (X92.daload hx (j := (3 : Int32)) (v := (.double (FP.ddiv t3 t2))) (Eq.trans (congrArg (fun h_ => h_[_]?) e92) Ar93.1) (State.isArrayOf_alike hZ.alike Ar93.2.1) Ar93.2.2 hin93 (Hh93.at hin93 rfl) (g := (mkF m 259 #[.val (.ref ao0), .val (.int 1), .val (.int 0), .val (.int 2), .val (.double t2), .second, .val (.long (((2 : Int64) * ((2 : Int32).toInt64)) + ((2 : Int32).toInt64))), .second, .val (.double c0), .second, .val (.int 1), .unset, .val (.int 2)] [(.int 3), (.ref tb), (.double c0), (.double c1), (.int 1), (.ref co)])) rfl rfl (hb hby d7_259)) ?_
    refine own_go (x' := T92.setTop (mkF m 262 #[.val (.ref ao0), .val (.int 1), .val (.int 0), .val (.int 2), .val (.double t2), .second, .val (.long (((2 : Int64) * ((2 : Int32).toInt64)) + ((2 : Int32).toInt64))), .second, .val (.double c0), .second, .val (.int 1), .unset, .val (.int 2)] [(.double (FP.dsub c1 (FP.dmul c0 (FP.ddiv t3 t2)))), (.int 1), (.ref co)])) (fun _ k => XS.dmulS X92.here hx rfl (hb hby d7_260) rfl (own_nn (Jvm.Free.Fl.dmul_mag m_c0 (ddiv_mag m_t3 b_t2 (by decide) (by decide)) (by decide) (by decide))) rfl (XS.dsubS X92.here hx rfl (hb hby d7_261) rfl (own_nn (Jvm.Free.Fl.dsub_mag (m_c1.mono (by decide : 1056 ≤ 1091)) ((Jvm.Free.Fl.dmul_mag m_c0 (ddiv_mag m_t3 b_t2 (by decide) (by decide)) (by decide) (by decide)).mono (by decide : 1091 ≤ 1091)) (by decide))) rfl k)) ?_
    obtain ⟨cl94, Ar94, q94, Sz94, Nn94, Hh94, Gg94⟩ := V_co
    have hin94 : ¬ ((1 : Int32) < 0 ∨ cl94.slots.size ≤ ((1 : Int32)).toNatClampNeg) := inb_of Sz94 ⟨by decide, by decide⟩
    obtain ⟨T94, h94, X94, e94, W94, st94⟩ := stD X92 hx hZ e92 Ar94 (j := (1 : Int32)) hin94 (g := (mkF m 262 #[.val (.ref ao0), .val (.int 1), .val (.int 0), .val (.int 2), .val (.double t2), .second, .val (.long (((2 : Int64) * ((2 : Int32).toInt64)) + ((2 : Int32).toInt64))), .second, .val (.double c0), .second, .val (.int 1), .unset, .val (.int 2)] [(.double (FP.dsub c1 (FP.dmul c0 (FP.ddiv t3 t2)))), (.int 1), (.ref co)])) rfl rfl (hb hby d7_262)
    refine own_go (x' := T94.setTop (mkF m 263 #[.val (.ref ao0), .val (.int 1), .val (.int 0), .val (.int 2), .val (.double t2), .second, .val (.long (((2 : Int64) * ((2 : Int32).toInt64)) + ((2 : Int32).toInt64))), .second, .val (.double c0), .second, .val (.int 1), .unset, .val (.int 2)] [])) st94 ?_
    replace F_ao0_rows := Fld.other W94 F_ao0_rows (Or.inl ne_ao0_co)
    replace F_ao0_columns := Fld.other W94 F_ao0_columns (Or.inl ne_ao0_co)
    replace F_ao0_tableau := Fld.other W94 F_ao0_tableau (Or.inl ne_ao0_co)
    replace F_ao0_value := Fld.other W94 F_ao0_value (Or.inl ne_ao0_co)
    replace F_ao0_cost := Fld.other W94 F_ao0_cost (Or.inl ne_ao0_co)
    replace F_ao0_basic := Fld.other W94 F_ao0_basic (Or.inl ne_ao0_co)
    replace F_ao0_nonbasic := Fld.other W94 F_ao0_nonbasic (Or.inl ne_ao0_co)
    replace V_bs := V_bs.other W94 (Ne.symm ne_co_bs)
    replace V_nb := V_nb.other W94 (Ne.symm ne_co_nb)
    replace V_tb := V_tb.other W94 ne_tb_co
    replace V_va := V_va.other W94 ne_va_co
    replace Zs := Nat.le_trans Zs (Keep.of_wr W94).1
    replace Nf := Fr.snoc X94 Nf g_co
    replace Kp := Kp.wr W94 (Or.inl (by simp))
    have V_co : Arv Z h94 co kc .double (2 : Int32) [(.double (FP.dsub c0 (FP.dmul c0 (FP.ddiv (4607182418800017408 : UInt64) t2)))), (.double (FP.dsub c1 (FP.dmul c0 (FP.ddiv t3 t2))))] (.double 0) := Arv.set Ar94 q94 Sz94 Nn94 Hh94 Gg94 rfl W94 1 rfl (Nat.le_of_ble_eq_true rfl)
    refine own_go (x' := T94.setTop (mkF m 232 #[.val (.ref ao0), .val (.int 1), .val (.int 0), .val (.int 2), .val (.double t2), .second, .val (.long (((2 : Int64) * ((2 : Int32).toInt64)) + ((2 : Int32).toInt64))), .second, .val (.double c0), .second, .val (.int ((1 : Int32) + (1 : Int32))), .unset, .val (.int 2)] [])) (fun _ k => XS.iinc X94.here hx rfl (hb hby d7_263) rfl (l' := #[.val (.ref ao0), .val (.int 1), .val (.int 0), .val (.int 2), .val (.double t2), .second, .val (.long (((2 : Int64) * ((2 : Int32).toInt64)) + ((2 : Int32).toInt64))), .second, .val (.double c0), .second, .val (.int ((1 : Int32) + (1 : Int32))), .unset, .val (.int 2)]) rfl (XS.goto X94.here hx rfl (pc0 := 266) (pc' := 232) rfl (hb hby d7_266) (by decide) (by decide) k)) ?_
    rw [show ((1 : Int32) + (1 : Int32)) = (2 : Int32) from by decide +kernel]
    refine own_go (x' := T94.setTop (mkF m 235 #[.val (.ref ao0), .val (.int 1), .val (.int 0), .val (.int 2), .val (.double t2), .second, .val (.long (((2 : Int64) * ((2 : Int32).toInt64)) + ((2 : Int32).toInt64))), .second, .val (.double c0), .second, .val (.int 2), .unset, .val (.int 2)] [(.ref ao0), (.int 2)])) (fun _ k => XS.iload X94.here hx rfl (hb hby d7_232) rfl (XS.aloadN X94.here hx rfl (hb hby d7_234) rfl rfl k)) ?_
    obtain ⟨T95, X95, e95, st95⟩ := getF X94 hx hZ hown (host := "") (Or.inl (own_w hw 12 rfl)) Via.refl e94 F_ao0_columns (g := (mkF m 235 #[.val (.ref ao0), .val (.int 1), .val (.int 0), .val (.int 2), .val (.double t2), .second, .val (.long (((2 : Int64) * ((2 : Int32).toInt64)) + ((2 : Int32).toInt64))), .second, .val (.double c0), .second, .val (.int 2), .unset, .val (.int 2)] [(.ref ao0), (.int 2)])) rfl rfl (hb hby d7_235)
    refine own_go (x' := T95.setTop (mkF m 238 #[.val (.ref ao0), .val (.int 1), .val (.int 0), .val (.int 2), .val (.double t2), .second, .val (.long (((2 : Int64) * ((2 : Int32).toInt64)) + ((2 : Int32).toInt64))), .second, .val (.double c0), .second, .val (.int 2), .unset, .val (.int 2)] [(.int 2), (.int 2)])) st95 ?_
    refine own_go (x' := T95.setTop (mkF m 270 #[.val (.ref ao0), .val (.int 1), .val (.int 0), .val (.int 2), .val (.double t2), .second, .val (.long (((2 : Int64) * ((2 : Int32).toInt64)) + ((2 : Int32).toInt64))), .second, .val (.double c0), .second, .val (.int 2), .unset, .val (.int 2)] [(.ref ao0)])) (fun _ k => XS.icmpYes X95.here hx rfl (pc0 := 238) (pc' := 269) rfl (hb hby d7_238) rfl (flt (Int32.lt_irrefl)).2.1 (by decide) (by decide) (XS.aloadN X95.here hx rfl (hb hby d7_269) rfl rfl k)) ?_
    obtain ⟨T96, X96, e96, st96⟩ := getF X95 hx hZ hown (host := "") (Or.inl (own_w hw 27 rfl)) Via.refl e95 F_ao0_cost (g := (mkF m 270 #[.val (.ref ao0), .val (.int 1), .val (.int 0), .val (.int 2), .val (.double t2), .second, .val (.long (((2 : Int64) * ((2 : Int32).toInt64)) + ((2 : Int32).toInt64))), .second, .val (.double c0), .second, .val (.int 2), .unset, .val (.int 2)] [(.ref ao0)])) rfl rfl (hb hby d7_270)
    refine own_go (x' := T96.setTop (mkF m 273 #[.val (.ref ao0), .val (.int 1), .val (.int 0), .val (.int 2), .val (.double t2), .second, .val (.long (((2 : Int64) * ((2 : Int32).toInt64)) + ((2 : Int32).toInt64))), .second, .val (.double c0), .second, .val (.int 2), .unset, .val (.int 2)] [(.ref co)])) st96 ?_
    refine own_go (x' := T96.setTop (mkF m 280 #[.val (.ref ao0), .val (.int 1), .val (.int 0), .val (.int 2), .val (.double t2), .second, .val (.long (((2 : Int64) * ((2 : Int32).toInt64)) + ((2 : Int32).toInt64))), .second, .val (.double c0), .second, .val (.int 2), .unset, .val (.int 2)] [(.double (FP.ddiv (FP.dneg c0) t2)), (.int 0), (.ref co)])) (fun _ k => XS.iloadN X96.here hx rfl (hb hby d7_273) rfl (XS.dload X96.here hx rfl (hb hby d7_274) rfl (XS.dnegS X96.here hx rfl (hb hby d7_276) rfl rfl (XS.dload X96.here hx rfl (hb hby d7_277) rfl (XS.ddivS X96.here hx rfl (hb hby d7_279) rfl (own_nn (ddiv_mag (dneg_mag m_c0) b_t2 (by decide) (by decide))) rfl k))))) ?_
    obtain ⟨cl97, Ar97, q97, Sz97, Nn97, Hh97, Gg97⟩ := V_co
    have hin97 : ¬ ((0 : Int32) < 0 ∨ cl97.slots.size ≤ ((0 : Int32)).toNatClampNeg) := inb_of Sz97 ⟨by decide, by decide⟩
    obtain ⟨T97, h97, X97, e97, W97, st97⟩ := stD X96 hx hZ e96 Ar97 (j := (0 : Int32)) hin97 (g := (mkF m 280 #[.val (.ref ao0), .val (.int 1), .val (.int 0), .val (.int 2), .val (.double t2), .second, .val (.long (((2 : Int64) * ((2 : Int32).toInt64)) + ((2 : Int32).toInt64))), .second, .val (.double c0), .second, .val (.int 2), .unset, .val (.int 2)] [(.double (FP.ddiv (FP.dneg c0) t2)), (.int 0), (.ref co)])) rfl rfl (hb hby d7_280)
    refine own_go (x' := T97.setTop (mkF m 281 #[.val (.ref ao0), .val (.int 1), .val (.int 0), .val (.int 2), .val (.double t2), .second, .val (.long (((2 : Int64) * ((2 : Int32).toInt64)) + ((2 : Int32).toInt64))), .second, .val (.double c0), .second, .val (.int 2), .unset, .val (.int 2)] [])) st97 ?_
    replace F_ao0_rows := Fld.other W97 F_ao0_rows (Or.inl ne_ao0_co)
    replace F_ao0_columns := Fld.other W97 F_ao0_columns (Or.inl ne_ao0_co)
    replace F_ao0_tableau := Fld.other W97 F_ao0_tableau (Or.inl ne_ao0_co)
    replace F_ao0_value := Fld.other W97 F_ao0_value (Or.inl ne_ao0_co)
    replace F_ao0_cost := Fld.other W97 F_ao0_cost (Or.inl ne_ao0_co)
    replace F_ao0_basic := Fld.other W97 F_ao0_basic (Or.inl ne_ao0_co)
    replace F_ao0_nonbasic := Fld.other W97 F_ao0_nonbasic (Or.inl ne_ao0_co)
    replace V_bs := V_bs.other W97 (Ne.symm ne_co_bs)
    replace V_nb := V_nb.other W97 (Ne.symm ne_co_nb)
    replace V_tb := V_tb.other W97 ne_tb_co
    replace V_va := V_va.other W97 ne_va_co
    replace Zs := Nat.le_trans Zs (Keep.of_wr W97).1
    replace Nf := Fr.snoc X97 Nf g_co
    replace Kp := Kp.wr W97 (Or.inl (by simp))
    have V_co : Arv Z h97 co kc .double (2 : Int32) [(.double (FP.ddiv (FP.dneg c0) t2)), (.double (FP.dsub c1 (FP.dmul c0 (FP.ddiv t3 t2))))] (.double 0) := Arv.set Ar97 q97 Sz97 Nn97 Hh97 Gg97 rfl W97 0 rfl (Nat.le_of_ble_eq_true rfl)
    refine own_go (x' := T97.setTop (mkF m 282 #[.val (.ref ao0), .val (.int 1), .val (.int 0), .val (.int 2), .val (.double t2), .second, .val (.long (((2 : Int64) * ((2 : Int32).toInt64)) + ((2 : Int32).toInt64))), .second, .val (.double c0), .second, .val (.int 2), .unset, .val (.int 2)] [(.ref ao0)])) (fun _ k => XS.aloadN X97.here hx rfl (hb hby d7_281) rfl rfl k) ?_
    obtain ⟨T98, X98, e98, st98⟩ := getF X97 hx hZ hown (host := "") (Or.inl (own_w hw 30 rfl)) Via.refl e97 F_ao0_basic (g := (mkF m 282 #[.val (.ref ao0), .val (.int 1), .val (.int 0), .val (.int 2), .val (.double t2), .second, .val (.long (((2 : Int64) * ((2 : Int32).toInt64)) + ((2 : Int32).toInt64))), .second, .val (.double c0), .second, .val (.int 2), .unset, .val (.int 2)] [(.ref ao0)])) rfl rfl (hb hby d7_282)
    refine own_go (x' := T98.setTop (mkF m 285 #[.val (.ref ao0), .val (.int 1), .val (.int 0), .val (.int 2), .val (.double t2), .second, .val (.long (((2 : Int64) * ((2 : Int32).toInt64)) + ((2 : Int32).toInt64))), .second, .val (.double c0), .second, .val (.int 2), .unset, .val (.int 2)] [(.ref bs)])) st98 ?_
    refine own_go (x' := T98.setTop (mkF m 286 #[.val (.ref ao0), .val (.int 1), .val (.int 0), .val (.int 2), .val (.double t2), .second, .val (.long (((2 : Int64) * ((2 : Int32).toInt64)) + ((2 : Int32).toInt64))), .second, .val (.double c0), .second, .val (.int 2), .unset, .val (.int 2)] [(.int 1), (.ref bs)])) (fun _ k => XS.iloadN X98.here hx rfl (hb hby d7_285) rfl k) ?_
    obtain ⟨cl99, Ar99, q99, Sz99, Nn99, Hh99, Gg99⟩ := id V_bs
    have hin99 : ¬ ((1 : Int32) < 0 ∨ cl99.slots.size ≤ ((1 : Int32)).toNatClampNeg) := inb_of Sz99 ⟨by decide, by decide⟩
    refine own_go (x' := T98.setTop (mkF m 287 #[.val (.ref ao0), .val (.int 1), .val (.int 0), .val (.int 2), .val (.double t2), .second, .val (.long (((2 : Int64) * ((2 : Int32).toInt64)) + ((2 : Int32).toInt64))), .second, .val (.double c0), .second, .val (.int 2), .unset, .val (.int 2)] [(.int 3)])) (X98.iaload hx (j := (1 : Int32)) (v := (.int 3)) (Eq.trans (congrArg (fun h_ => h_[_]?) e98) Ar99.1) (State.isArrayOf_alike hZ.alike Ar99.2.1) Ar99.2.2 hin99 (Hh99.at hin99 rfl) (g := (mkF m 286 #[.val (.ref ao0), .val (.int 1), .val (.int 0), .val (.int 2), .val (.double t2), .second, .val (.long (((2 : Int64) * ((2 : Int32).toInt64)) + ((2 : Int32).toInt64))), .second, .val (.double c0), .second, .val (.int 2), .unset, .val (.int 2)] [(.int 1), (.ref bs)])) rfl rfl (hb hby d7_286)) ?_
    refine own_go (x' := T98.setTop (mkF m 290 #[.val (.ref ao0), .val (.int 1), .val (.int 0), .val (.int 2), .val (.double t2), .second, .val (.long (((2 : Int64) * ((2 : Int32).toInt64)) + ((2 : Int32).toInt64))), .second, .val (.double c0), .second, .val (.int 3), .unset, .val (.int 2)] [(.ref ao0)])) (fun _ k => XS.istore X98.here hx rfl (hb hby d7_287) rfl (l' := #[.val (.ref ao0), .val (.int 1), .val (.int 0), .val (.int 2), .val (.double t2), .second, .val (.long (((2 : Int64) * ((2 : Int32).toInt64)) + ((2 : Int32).toInt64))), .second, .val (.double c0), .second, .val (.int 3), .unset, .val (.int 2)]) rfl (XS.aloadN X98.here hx rfl (hb hby d7_289) rfl rfl k)) ?_
    obtain ⟨T100, X100, e100, st100⟩ := getF X98 hx hZ hown (host := "") (Or.inl (own_w hw 30 rfl)) Via.refl e98 F_ao0_basic (g := (mkF m 290 #[.val (.ref ao0), .val (.int 1), .val (.int 0), .val (.int 2), .val (.double t2), .second, .val (.long (((2 : Int64) * ((2 : Int32).toInt64)) + ((2 : Int32).toInt64))), .second, .val (.double c0), .second, .val (.int 3), .unset, .val (.int 2)] [(.ref ao0)])) rfl rfl (hb hby d7_290)
    refine own_go (x' := T100.setTop (mkF m 293 #[.val (.ref ao0), .val (.int 1), .val (.int 0), .val (.int 2), .val (.double t2), .second, .val (.long (((2 : Int64) * ((2 : Int32).toInt64)) + ((2 : Int32).toInt64))), .second, .val (.double c0), .second, .val (.int 3), .unset, .val (.int 2)] [(.ref bs)])) st100 ?_
    refine own_go (x' := T100.setTop (mkF m 295 #[.val (.ref ao0), .val (.int 1), .val (.int 0), .val (.int 2), .val (.double t2), .second, .val (.long (((2 : Int64) * ((2 : Int32).toInt64)) + ((2 : Int32).toInt64))), .second, .val (.double c0), .second, .val (.int 3), .unset, .val (.int 2)] [(.ref ao0), (.int 1), (.ref bs)])) (fun _ k => XS.iloadN X100.here hx rfl (hb hby d7_293) rfl (XS.aloadN X100.here hx rfl (hb hby d7_294) rfl rfl k)) ?_
    obtain ⟨T101, X101, e101, st101⟩ := getF X100 hx hZ hown (host := "") (Or.inl (own_w hw 32 rfl)) Via.refl e100 F_ao0_nonbasic (g := (mkF m 295 #[.val (.ref ao0), .val (.int 1), .val (.int 0), .val (.int 2), .val (.double t2), .second, .val (.long (((2 : Int64) * ((2 : Int32).toInt64)) + ((2 : Int32).toInt64))), .second, .val (.double c0), .second, .val (.int 3), .unset, .val (.int 2)] [(.ref ao0), (.int 1), (.ref bs)])) rfl rfl (hb hby d7_295)
    refine own_go (x' := T101.setTop (mkF m 298 #[.val (.ref ao0), .val (.int 1), .val (.int 0), .val (.int 2), .val (.double t2), .second, .val (.long (((2 : Int64) * ((2 : Int32).toInt64)) + ((2 : Int32).toInt64))), .second, .val (.double c0), .second, .val (.int 3), .unset, .val (.int 2)] [(.ref nb), (.int 1), (.ref bs)])) st101 ?_
    refine own_go (x' := T101.setTop (mkF m 299 #[.val (.ref ao0), .val (.int 1), .val (.int 0), .val (.int 2), .val (.double t2), .second, .val (.long (((2 : Int64) * ((2 : Int32).toInt64)) + ((2 : Int32).toInt64))), .second, .val (.double c0), .second, .val (.int 3), .unset, .val (.int 2)] [(.int 0), (.ref nb), (.int 1), (.ref bs)])) (fun _ k => XS.iloadN X101.here hx rfl (hb hby d7_298) rfl k) ?_
    obtain ⟨cl102, Ar102, q102, Sz102, Nn102, Hh102, Gg102⟩ := id V_nb
    have hin102 : ¬ ((0 : Int32) < 0 ∨ cl102.slots.size ≤ ((0 : Int32)).toNatClampNeg) := inb_of Sz102 ⟨by decide, by decide⟩
    refine own_go (x' := T101.setTop (mkF m 300 #[.val (.ref ao0), .val (.int 1), .val (.int 0), .val (.int 2), .val (.double t2), .second, .val (.long (((2 : Int64) * ((2 : Int32).toInt64)) + ((2 : Int32).toInt64))), .second, .val (.double c0), .second, .val (.int 3), .unset, .val (.int 2)] [(.int 0), (.int 1), (.ref bs)])) (X101.iaload hx (j := (0 : Int32)) (v := (.int 0)) (Eq.trans (congrArg (fun h_ => h_[_]?) e101) Ar102.1) (State.isArrayOf_alike hZ.alike Ar102.2.1) Ar102.2.2 hin102 (Hh102.at hin102 rfl) (g := (mkF m 299 #[.val (.ref ao0), .val (.int 1), .val (.int 0), .val (.int 2), .val (.double t2), .second, .val (.long (((2 : Int64) * ((2 : Int32).toInt64)) + ((2 : Int32).toInt64))), .second, .val (.double c0), .second, .val (.int 3), .unset, .val (.int 2)] [(.int 0), (.ref nb), (.int 1), (.ref bs)])) rfl rfl (hb hby d7_299)) ?_
    obtain ⟨cl103, Ar103, q103, Sz103, Nn103, Hh103, Gg103⟩ := V_bs
    have hin103 : ¬ ((1 : Int32) < 0 ∨ cl103.slots.size ≤ ((1 : Int32)).toNatClampNeg) := inb_of Sz103 ⟨by decide, by decide⟩
    obtain ⟨T103, h103, X103, e103, W103, st103⟩ := stI X101 hx hZ e101 Ar103 (j := (1 : Int32)) hin103 (g := (mkF m 300 #[.val (.ref ao0), .val (.int 1), .val (.int 0), .val (.int 2), .val (.double t2), .second, .val (.long (((2 : Int64) * ((2 : Int32).toInt64)) + ((2 : Int32).toInt64))), .second, .val (.double c0), .second, .val (.int 3), .unset, .val (.int 2)] [(.int 0), (.int 1), (.ref bs)])) rfl rfl (hb hby d7_300)
    refine own_go (x' := T103.setTop (mkF m 301 #[.val (.ref ao0), .val (.int 1), .val (.int 0), .val (.int 2), .val (.double t2), .second, .val (.long (((2 : Int64) * ((2 : Int32).toInt64)) + ((2 : Int32).toInt64))), .second, .val (.double c0), .second, .val (.int 3), .unset, .val (.int 2)] [])) st103 ?_
    replace F_ao0_rows := Fld.other W103 F_ao0_rows (Or.inl ne_ao0_bs)
    replace F_ao0_columns := Fld.other W103 F_ao0_columns (Or.inl ne_ao0_bs)
    replace F_ao0_tableau := Fld.other W103 F_ao0_tableau (Or.inl ne_ao0_bs)
    replace F_ao0_value := Fld.other W103 F_ao0_value (Or.inl ne_ao0_bs)
    replace F_ao0_cost := Fld.other W103 F_ao0_cost (Or.inl ne_ao0_bs)
    replace F_ao0_basic := Fld.other W103 F_ao0_basic (Or.inl ne_ao0_bs)
    replace F_ao0_nonbasic := Fld.other W103 F_ao0_nonbasic (Or.inl ne_ao0_bs)
    replace V_nb := V_nb.other W103 (Ne.symm ne_bs_nb)
    replace V_tb := V_tb.other W103 ne_tb_bs
    replace V_va := V_va.other W103 ne_va_bs
    replace V_co := V_co.other W103 ne_co_bs
    replace Zs := Nat.le_trans Zs (Keep.of_wr W103).1
    replace Nf := Fr.snoc X103 Nf g_bs
    replace Kp := Kp.wr W103 (Or.inl (by simp))
    have V_bs : Arv Z h103 bs kb .int (2 : Int32) [(.int 2), (.int 0)] (.int 0) := Arv.set Ar103 q103 Sz103 Nn103 Hh103 Gg103 rfl W103 1 rfl (Nat.le_of_ble_eq_true rfl)
    refine own_go (x' := T103.setTop (mkF m 302 #[.val (.ref ao0), .val (.int 1), .val (.int 0), .val (.int 2), .val (.double t2), .second, .val (.long (((2 : Int64) * ((2 : Int32).toInt64)) + ((2 : Int32).toInt64))), .second, .val (.double c0), .second, .val (.int 3), .unset, .val (.int 2)] [(.ref ao0)])) (fun _ k => XS.aloadN X103.here hx rfl (hb hby d7_301) rfl rfl k) ?_
    obtain ⟨T104, X104, e104, st104⟩ := getF X103 hx hZ hown (host := "") (Or.inl (own_w hw 32 rfl)) Via.refl e103 F_ao0_nonbasic (g := (mkF m 302 #[.val (.ref ao0), .val (.int 1), .val (.int 0), .val (.int 2), .val (.double t2), .second, .val (.long (((2 : Int64) * ((2 : Int32).toInt64)) + ((2 : Int32).toInt64))), .second, .val (.double c0), .second, .val (.int 3), .unset, .val (.int 2)] [(.ref ao0)])) rfl rfl (hb hby d7_302)
    refine own_go (x' := T104.setTop (mkF m 305 #[.val (.ref ao0), .val (.int 1), .val (.int 0), .val (.int 2), .val (.double t2), .second, .val (.long (((2 : Int64) * ((2 : Int32).toInt64)) + ((2 : Int32).toInt64))), .second, .val (.double c0), .second, .val (.int 3), .unset, .val (.int 2)] [(.ref nb)])) st104 ?_
    refine own_go (x' := T104.setTop (mkF m 308 #[.val (.ref ao0), .val (.int 1), .val (.int 0), .val (.int 2), .val (.double t2), .second, .val (.long (((2 : Int64) * ((2 : Int32).toInt64)) + ((2 : Int32).toInt64))), .second, .val (.double c0), .second, .val (.int 3), .unset, .val (.int 2)] [(.int 3), (.int 0), (.ref nb)])) (fun _ k => XS.iloadN X104.here hx rfl (hb hby d7_305) rfl (XS.iload X104.here hx rfl (hb hby d7_306) rfl k)) ?_
    obtain ⟨cl105, Ar105, q105, Sz105, Nn105, Hh105, Gg105⟩ := V_nb
    have hin105 : ¬ ((0 : Int32) < 0 ∨ cl105.slots.size ≤ ((0 : Int32)).toNatClampNeg) := inb_of Sz105 ⟨by decide, by decide⟩
    obtain ⟨T105, h105, X105, e105, W105, st105⟩ := stI X104 hx hZ e104 Ar105 (j := (0 : Int32)) hin105 (g := (mkF m 308 #[.val (.ref ao0), .val (.int 1), .val (.int 0), .val (.int 2), .val (.double t2), .second, .val (.long (((2 : Int64) * ((2 : Int32).toInt64)) + ((2 : Int32).toInt64))), .second, .val (.double c0), .second, .val (.int 3), .unset, .val (.int 2)] [(.int 3), (.int 0), (.ref nb)])) rfl rfl (hb hby d7_308)
    refine own_go (x' := T105.setTop (mkF m 309 #[.val (.ref ao0), .val (.int 1), .val (.int 0), .val (.int 2), .val (.double t2), .second, .val (.long (((2 : Int64) * ((2 : Int32).toInt64)) + ((2 : Int32).toInt64))), .second, .val (.double c0), .second, .val (.int 3), .unset, .val (.int 2)] [])) st105 ?_
    replace F_ao0_rows := Fld.other W105 F_ao0_rows (Or.inl ne_ao0_nb)
    replace F_ao0_columns := Fld.other W105 F_ao0_columns (Or.inl ne_ao0_nb)
    replace F_ao0_tableau := Fld.other W105 F_ao0_tableau (Or.inl ne_ao0_nb)
    replace F_ao0_value := Fld.other W105 F_ao0_value (Or.inl ne_ao0_nb)
    replace F_ao0_cost := Fld.other W105 F_ao0_cost (Or.inl ne_ao0_nb)
    replace F_ao0_basic := Fld.other W105 F_ao0_basic (Or.inl ne_ao0_nb)
    replace F_ao0_nonbasic := Fld.other W105 F_ao0_nonbasic (Or.inl ne_ao0_nb)
    replace V_tb := V_tb.other W105 ne_tb_nb
    replace V_va := V_va.other W105 ne_va_nb
    replace V_co := V_co.other W105 ne_co_nb
    replace V_bs := V_bs.other W105 ne_bs_nb
    replace Zs := Nat.le_trans Zs (Keep.of_wr W105).1
    replace Nf := Fr.snoc X105 Nf g_nb
    replace Kp := Kp.wr W105 (Or.inl (by simp))
    have V_nb : Arv Z h105 nb kn .int (2 : Int32) [(.int 3), (.int 1)] (.int 0) := Arv.set Ar105 q105 Sz105 Nn105 Hh105 Gg105 rfl W105 0 rfl (Nat.le_of_ble_eq_true rfl)
    refine own_go (x' := T105.setTop (mkF m 311 #[.val (.ref ao0), .val (.int 1), .val (.int 0), .val (.int 2), .val (.double t2), .second, .val (.long (((2 : Int64) * ((2 : Int32).toInt64)) + ((2 : Int32).toInt64))), .second, .val (.double c0), .second, .val (.int 3), .unset, .val (.int 2)] [(.long (((2 : Int64) * ((2 : Int32).toInt64)) + ((2 : Int32).toInt64)))])) (fun _ k => XS.lload X105.here hx rfl (hb hby d7_309) rfl k) ?_
    refine own_retJ X105 hx hlk hret (hb hby d7_311) ?_ (by decide) (by decide)
    rw [e105]
    exact Or.inr ⟨hc125, by rw [show (((2 : Int64) * ((2 : Int32).toInt64)) + ((2 : Int32).toInt64)) = (6 : Int64) from by decide], Nf, Kp, V_tb, V_va, V_co, V_bs, V_nb⟩
theorem own_lt {a b : Int32} : a < b ↔ a.toInt < b.toInt := Int32.lt_iff_toInt_lt
def own_rg (x : Int32) : Prop := ¬ x < (-8) ∧ ¬ (7 : Int32) < x
theorem own_rg16 {x : Int32} (h : own_rg x) : ∃ n, n < 16 ∧ x = Int32.ofNat n - 8 := by
  have h1 := mt own_lt.mpr h.1
  have h2 := mt own_lt.mpr h.2
  rw [show (-8 : Int32).toInt = -8 from by decide] at h1
  rw [show (7 : Int32).toInt = 7 from by decide] at h2
  refine ⟨(x.toInt + 8).toNat, by omega, ?_⟩
  have key : ∀ n, n < 16 → (Int32.ofNat n - 8).toInt = (n : Int) - 8 := by decide
  exact Int32.toInt_inj.mp (by rw [key _ (by omega)]; omega)
theorem own_rg8 {x : Int32} (h : own_rg x) (hn : x < 0) : ∃ n, n < 8 ∧ x = Int32.ofNat n - 8 := by
  obtain ⟨n, h1, rfl⟩ := own_rg16 h
  have key : ∀ n, n < 16 → Int32.ofNat n - 8 < 0 → n < 8 := by decide
  exact ⟨n, key n h1 hn, rfl⟩
theorem own_rgp {x : Int32} (h : own_rg x) (hn : ¬ x < 0) : ∃ n, n < 8 ∧ x = Int32.ofNat n := by
  obtain ⟨n, h1, rfl⟩ := own_rg16 h
  have key : ∀ n, n < 16 → ¬ Int32.ofNat n - 8 < 0 → n - 8 < 8 ∧ Int32.ofNat n - 8 = Int32.ofNat (n - 8) := by decide
  exact ⟨n - 8, (key n h1 hn).1, (key n h1 hn).2⟩
abbrev own_neg (x : UInt64) : Prop := cmpValue (FP.dcmp x (13665607370011141269 : UInt64)) .g < 0
theorem own_f1 : ∀ n, n < 16 → (own_neg (FP.i2d (Int32.ofNat n - 8)) ↔ Int32.ofNat n - 8 < 0) := by decide +kernel
theorem own_f2 : ∀ b, b < 8 → ∀ a, a < 8 → ¬ own_neg (FP.ddiv (FP.i2d (Int32.ofNat b - 8)) (FP.i2d (Int32.ofNat a - 8))) := by decide +kernel
theorem own_f3 : ∀ b, b < 8 → ∀ a, a < 8 → ∀ c, c < 8 → ∀ d, d < 8 → ¬ own_neg (FP.dsub (FP.i2d (Int32.ofNat d)) (FP.dmul (FP.i2d (Int32.ofNat c - 8)) (FP.ddiv (FP.i2d (Int32.ofNat b - 8)) (FP.i2d (Int32.ofNat a - 8))))) := by decide +kernel
theorem own_f4 : ∀ c, c < 8 → ∀ a, a < 8 → ¬ own_neg (FP.ddiv (FP.dneg (FP.i2d (Int32.ofNat c))) (FP.i2d (Int32.ofNat a - 8))) := by decide +kernel
theorem own_f5 : ∀ e, e < 8 → ∀ a, a < 8 → ∀ c, c < 8 → ∀ d, d < 8 → ¬ own_neg (FP.dsub (FP.i2d (Int32.ofNat d)) (FP.dmul (FP.i2d (Int32.ofNat c)) (FP.ddiv (FP.i2d (Int32.ofNat e)) (FP.i2d (Int32.ofNat a - 8))))) := by decide +kernel
theorem own_f6 : ∀ n, n < 16 → (cmpValue (FP.dcmp (FP.i2d (Int32.ofNat n - 8)) (0 : UInt64)) .l = 0 ↔ Int32.ofNat n - 8 = 0) := by decide +kernel
theorem own_tol {x : Int32} (h : own_rg x) : own_neg (FP.i2d x) ↔ x < 0 := by obtain ⟨n, h1, rfl⟩ := own_rg16 h; exact own_f1 n h1
theorem own_q2 {b a : Int32} (hb : own_rg b) (b0 : b < 0) (ha : own_rg a) (a0 : a < 0) : ¬ own_neg (FP.ddiv (FP.i2d b) (FP.i2d a)) := by
  obtain ⟨n, h1, rfl⟩ := own_rg8 hb b0
  obtain ⟨m, h2, rfl⟩ := own_rg8 ha a0
  exact own_f2 n h1 m h2
theorem own_q3 {b a c d : Int32} (hb : own_rg b) (b0 : b < 0) (ha : own_rg a) (a0 : a < 0) (hc : own_rg c) (c0 : c < 0) (hd : own_rg d) (d0 : ¬ d < 0) : ¬ own_neg (FP.dsub (FP.i2d d) (FP.dmul (FP.i2d c) (FP.ddiv (FP.i2d b) (FP.i2d a)))) := by
  obtain ⟨n, h1, rfl⟩ := own_rg8 hb b0
  obtain ⟨m, h2, rfl⟩ := own_rg8 ha a0
  obtain ⟨k, h3, rfl⟩ := own_rg8 hc c0
  obtain ⟨j, h4, rfl⟩ := own_rgp hd d0
  exact own_f3 n h1 m h2 k h3 j h4
theorem own_q4 {a c : Int32} (ha : own_rg a) (a0 : a < 0) (hc : own_rg c) (c0 : ¬ c < 0) : ¬ own_neg (FP.ddiv (FP.dneg (FP.i2d c)) (FP.i2d a)) := by
  obtain ⟨m, h2, rfl⟩ := own_rg8 ha a0
  obtain ⟨k, h3, rfl⟩ := own_rgp hc c0
  exact own_f4 k h3 m h2
theorem own_q5 {e a c d : Int32} (he : own_rg e) (e0 : ¬ e < 0) (ha : own_rg a) (a0 : a < 0) (hc : own_rg c) (c0 : ¬ c < 0) (hd : own_rg d) (d0 : ¬ d < 0) : ¬ own_neg (FP.dsub (FP.i2d d) (FP.dmul (FP.i2d c) (FP.ddiv (FP.i2d e) (FP.i2d a)))) := by
  obtain ⟨n, h1, rfl⟩ := own_rgp he e0
  obtain ⟨m, h2, rfl⟩ := own_rg8 ha a0
  obtain ⟨k, h3, rfl⟩ := own_rgp hc c0
  obtain ⟨j, h4, rfl⟩ := own_rgp hd d0
  exact own_f5 n h1 m h2 k h3 j h4
theorem own_q6 {c : Int32} (hc : own_rg c) : cmpValue (FP.dcmp (FP.i2d c) (0 : UInt64)) .l = 0 ↔ c = 0 := by obtain ⟨n, h1, rfl⟩ := own_rg16 hc; exact own_f6 n h1
theorem own_ltne {a : Int32} (h : a < 0) : ¬ a = 0 := fun q => by rw [q] at h; exact absurd h (by decide)
theorem pd_0 : parseMethodDescriptor "(Z)I" = some ⟨[.boolean], some .int⟩ := by decide +kernel
theorem pd_1 : parseMethodDescriptor "(IZ)I" = some ⟨[.int, .boolean], some .int⟩ := by decide +kernel
theorem pd_2 : parseMethodDescriptor "(II)J" = some ⟨[.int, .int], some .long⟩ := by decide +kernel
theorem d3_0 : decode prog_14_method_2_code 0 = .ok (.lload_n 1, 1) := by decide +kernel
theorem d3_1 : decode prog_14_method_2_code 1 = .ok (.lstore_n 3, 1) := by decide +kernel
theorem d3_2 : decode prog_14_method_2_code 2 = .ok (.iconst 0, 1) := by decide +kernel
theorem d3_3 : decode prog_14_method_2_code 3 = .ok (.istore 5, 2) := by decide +kernel
theorem d3_5 : decode prog_14_method_2_code 5 = .ok (.aload_n 0, 1) := by decide +kernel
theorem d3_6 : decode prog_14_method_2_code 6 = .ok (.iconst 0, 1) := by decide +kernel
theorem d3_7 : decode prog_14_method_2_code 7 = .ok (.invokevirtual 38, 3) := by decide +kernel
theorem d3_10 : decode prog_14_method_2_code 10 = .ok (.istore 6, 2) := by decide +kernel
theorem d3_12 : decode prog_14_method_2_code 12 = .ok (.iload 6, 2) := by decide +kernel
theorem d3_14 : decode prog_14_method_2_code 14 = .ok (.ifCond .lt 94, 3) := by decide +kernel
theorem d3_17 : decode prog_14_method_2_code 17 = .ok (.aload_n 0, 1) := by decide +kernel
theorem d3_18 : decode prog_14_method_2_code 18 = .ok (.iload 6, 2) := by decide +kernel
theorem d3_20 : decode prog_14_method_2_code 20 = .ok (.iload 5, 2) := by decide +kernel
theorem d3_22 : decode prog_14_method_2_code 22 = .ok (.bipush 50, 2) := by decide +kernel
theorem d3_24 : decode prog_14_method_2_code 24 = .ok (.if_icmp .lt 7, 3) := by decide +kernel
theorem d3_31 : decode prog_14_method_2_code 31 = .ok (.iconst 0, 1) := by decide +kernel
theorem d3_32 : decode prog_14_method_2_code 32 = .ok (.invokevirtual 42, 3) := by decide +kernel
theorem d3_35 : decode prog_14_method_2_code 35 = .ok (.istore 7, 2) := by decide +kernel
theorem d3_37 : decode prog_14_method_2_code 37 = .ok (.iload 7, 2) := by decide +kernel
theorem d3_39 : decode prog_14_method_2_code 39 = .ok (.ifCond .ge 5, 3) := by decide +kernel
theorem d3_42 : decode prog_14_method_2_code 42 = .ok (.iconst 0, 1) := by decide +kernel
theorem d3_43 : decode prog_14_method_2_code 43 = .ok (.ireturn, 1) := by decide +kernel
theorem d3_44 : decode prog_14_method_2_code 44 = .ok (.aload_n 0, 1) := by decide +kernel
theorem d3_45 : decode prog_14_method_2_code 45 = .ok (.getfield 28, 3) := by decide +kernel
theorem d3_48 : decode prog_14_method_2_code 48 = .ok (.iload 7, 2) := by decide +kernel
theorem d3_50 : decode prog_14_method_2_code 50 = .ok (.daload, 1) := by decide +kernel
theorem d3_51 : decode prog_14_method_2_code 51 = .ok (.ldc2_w 46, 3) := by decide +kernel
theorem d3_54 : decode prog_14_method_2_code 54 = .ok (.dcmp .l, 1) := by decide +kernel
theorem d3_55 : decode prog_14_method_2_code 55 = .ok (.ifCond .le 7, 3) := by decide +kernel
theorem d3_58 : decode prog_14_method_2_code 58 = .ok (.iconst 0, 1) := by decide +kernel
theorem d3_59 : decode prog_14_method_2_code 59 = .ok (.goto 7, 3) := by decide +kernel
theorem d3_62 : decode prog_14_method_2_code 62 = .ok (.iload 5, 2) := by decide +kernel
theorem d3_64 : decode prog_14_method_2_code 64 = .ok (.iconst 1, 1) := by decide +kernel
theorem d3_65 : decode prog_14_method_2_code 65 = .ok (.iadd, 1) := by decide +kernel
theorem d3_66 : decode prog_14_method_2_code 66 = .ok (.istore 5, 2) := by decide +kernel
theorem d3_68 : decode prog_14_method_2_code 68 = .ok (.lload_n 3, 1) := by decide +kernel
theorem d3_69 : decode prog_14_method_2_code 69 = .ok (.aload_n 0, 1) := by decide +kernel
theorem d3_70 : decode prog_14_method_2_code 70 = .ok (.iload 6, 2) := by decide +kernel
theorem d3_72 : decode prog_14_method_2_code 72 = .ok (.iload 7, 2) := by decide +kernel
theorem d3_74 : decode prog_14_method_2_code 74 = .ok (.invokevirtual 48, 3) := by decide +kernel
theorem d3_77 : decode prog_14_method_2_code 77 = .ok (.lsub, 1) := by decide +kernel
theorem d3_78 : decode prog_14_method_2_code 78 = .ok (.lstore_n 3, 1) := by decide +kernel
theorem d3_79 : decode prog_14_method_2_code 79 = .ok (.lload_n 3, 1) := by decide +kernel
theorem d3_80 : decode prog_14_method_2_code 80 = .ok (.lconst 0, 1) := by decide +kernel
theorem d3_81 : decode prog_14_method_2_code 81 = .ok (.lcmp, 1) := by decide +kernel
theorem d3_82 : decode prog_14_method_2_code 82 = .ok (.ifCond .ge 5, 3) := by decide +kernel
theorem d3_85 : decode prog_14_method_2_code 85 = .ok (.iconst 0, 1) := by decide +kernel
theorem d3_86 : decode prog_14_method_2_code 86 = .ok (.ireturn, 1) := by decide +kernel
theorem d3_87 : decode prog_14_method_2_code 87 = .ok (.aload_n 0, 1) := by decide +kernel
theorem d3_88 : decode prog_14_method_2_code 88 = .ok (.iload 5, 2) := by decide +kernel
theorem d3_90 : decode prog_14_method_2_code 90 = .ok (.bipush 50, 2) := by decide +kernel
theorem d3_92 : decode prog_14_method_2_code 92 = .ok (.if_icmp .lt 7, 3) := by decide +kernel
theorem d3_99 : decode prog_14_method_2_code 99 = .ok (.iconst 0, 1) := by decide +kernel
theorem d3_100 : decode prog_14_method_2_code 100 = .ok (.invokevirtual 38, 3) := by decide +kernel
theorem d3_103 : decode prog_14_method_2_code 103 = .ok (.istore 6, 2) := by decide +kernel
theorem d3_105 : decode prog_14_method_2_code 105 = .ok (.goto (-93), 3) := by decide +kernel
theorem d3_108 : decode prog_14_method_2_code 108 = .ok (.iconst 1, 1) := by decide +kernel
theorem d3_109 : decode prog_14_method_2_code 109 = .ok (.ireturn, 1) := by decide +kernel
def Q_rm3_0 (Z : State) (ao0 tb va co bs nb : Addr) (kt kv kc kb kn : ClassId) (bk bo ak aoo mkk moo u0 u1 : Int32) (jw : Int64) (h0 : Heap) (n0 : Nat) (v : Option Value) (h : Heap) (L : List Loc) : Prop := ∃ rr : Int32, v = some (.int rr) ∧ Fr n0 L ∧ Keep h0 h [tb, va, co, bs, nb] ∧ Arv Z h nb kn .int (2 : Int32) [(.int (if bk < 0 ∧ ak < 0 then (2 : Int32) else 0)), (.int (1 : Int32))] (.int (0 : Int32))
theorem pn_rm3_0 : plainName "com/example/moving_tokens/movingtokens/DualSimplex" = true := by first | (simp [plainName, overriddenIn]; done) | decide +kernel
theorem ef_rm3_0 (m : MethodId) (x0 : Addr) (x1 : Int64) : entryFrame m #[(.ref x0), (.long x1)] 8 = mkF m 0 #[.val (.ref x0), .val (.long x1), .second, .unset, .unset, .unset, .unset, .unset] [] := by first | (simp [entryFrame, mkF, argsToLocals, Value.category]; done) | rfl
set_option maxRecDepth 65536 in
set_option maxHeartbeats 40000000 in
theorem rm3_0 (l : Launch) (Z : State) (a0 : Array Value) (hw : ∀ d ∈ tables_1, d.before a0 Z = true) (ws : List Jvm.Cond) (ao0 tb va co bs nb : Addr) (kt kv kc kb kn : ClassId) (bk bo ak aoo mkk moo u0 u1 : Int32) (jw : Int64) (h0 : Heap) (n0 : Nat) (Z0 : n0 ≤ h0.size) (E_ao0 : Exa Z h0 ao0 "com/example/moving_tokens/movingtokens/DualSimplex") (F_ao0_rows : Fld Z h0 ao0 "com/example/moving_tokens/movingtokens/DualSimplex" "rows" "I" (.int 2)) (F_ao0_columns : Fld Z h0 ao0 "com/example/moving_tokens/movingtokens/DualSimplex" "columns" "I" (.int 2)) (F_ao0_tableau : Fld Z h0 ao0 "com/example/moving_tokens/movingtokens/DualSimplex" "tableau" "[D" (.ref tb)) (F_ao0_value : Fld Z h0 ao0 "com/example/moving_tokens/movingtokens/DualSimplex" "value" "[D" (.ref va)) (F_ao0_cost : Fld Z h0 ao0 "com/example/moving_tokens/movingtokens/DualSimplex" "cost" "[D" (.ref co)) (F_ao0_basic : Fld Z h0 ao0 "com/example/moving_tokens/movingtokens/DualSimplex" "basic" "[I" (.ref bs)) (F_ao0_nonbasic : Fld Z h0 ao0 "com/example/moving_tokens/movingtokens/DualSimplex" "nonbasic" "[I" (.ref nb)) (V_tb : Arv Z h0 tb kt .double (4 : Int32) [(.double (FP.i2d ak)), (.double (FP.i2d mkk)), (.double (FP.i2d aoo)), (.double (FP.i2d moo))] (.double 0)) (V_va : Arv Z h0 va kv .double (2 : Int32) [(.double (FP.i2d bk)), (.double (FP.i2d bo))] (.double 0)) (V_co : Arv Z h0 co kc .double (2 : Int32) [(.double (FP.i2d u0)), (.double (FP.i2d u1))] (.double 0)) (V_bs : Arv Z h0 bs kb .int (2 : Int32) [(.int 2), (.int 3)] (.int (0 : Int32))) (V_nb : Arv Z h0 nb kn .int (2 : Int32) [(.int 0), (.int 1)] (.int (0 : Int32))) (h_bk : own_rg bk) (h_bo : own_rg bo) (h_ak : own_rg ak) (h_aoo : own_rg aoo) (h_mkk : own_rg mkk) (h_moo : own_rg moo) (z_bo : ¬ bo < 0) (z_mkk : ¬ mkk < 0) (z_moo : ¬ moo < 0) (ne_ao0_tb : ao0 ≠ tb) (ne_ao0_va : ao0 ≠ va) (ne_ao0_co : ao0 ≠ co) (ne_ao0_bs : ao0 ≠ bs) (ne_ao0_nb : ao0 ≠ nb) (ne_tb_va : tb ≠ va) (ne_tb_co : tb ≠ co) (ne_tb_bs : tb ≠ bs) (ne_tb_nb : tb ≠ nb) (ne_va_co : va ≠ co) (ne_va_bs : va ≠ bs) (ne_va_nb : va ≠ nb) (ne_co_bs : co ≠ bs) (ne_co_nb : co ≠ nb) (ne_bs_nb : bs ≠ nb) (g_tb : n0 ≤ tb) (g_va : n0 ≤ va) (g_co : n0 ≤ co) (g_bs : n0 ≤ bs) (g_nb : n0 ≤ nb) :
    MetFree l (⟨"com/example/moving_tokens/movingtokens/DualSimplex", "solve", "(J)Z"⟩ : MethodName) (head1 (Jvm.Cond.code (⟨"com/example/moving_tokens/movingtokens/DualSimplex", "solve", "(J)Z"⟩ : MethodName) prog_14_method_2_code 8 (some .boolean) :: ws) ({ frames := 1, cells := 0, slots := 0, locals := 26 } : Room)) (fun a U => a = #[(.ref ao0), (.long jw)] ∧ Z.Warmed39 U.vm ∧ U.heap = h0) (fun _ _ _ _ _ => True) (fun _ U o U' => ∃ v L, o = .returned v ∧ (Q_rm3_0 Z ao0 tb va co bs nb kt kv kc kb kn bk bo ak aoo mkk moo u0 u1 jw h0 n0) v U'.heap L ∧ FrameEnd U o U' L ({ frames := 1, cells := 0, slots := 0, locals := 26 } : Room).cells ({ frames := 1, cells := 0, slots := 0, locals := 26 } : Room).slots) := by
  refine MetFree.of_bodySF (plainFor_of_name pn_rm3_0) hisR ?_
  intro p e s m args below meth c s₁ Bd hml0 hP hK
  obtain ⟨rfl, hZ, hh⟩ := hP
  have hx := Bd.exec
  have hby := Bd.bytes
  have hlk := BodyLoose.notSynchronized Bd
  have hret := Bd.returns
  have hml : c.maxLocals = 8 := hml0
  have hown : s.vm.findClass "com/example/moving_tokens/movingtokens/DualSimplex" = some m.cls := findClass_of_methodNamed Bd.named
  have hnm := (name_of_methodNamed Bd.named Bd.method).1
  have X0 : Stand p l e ({ frames := 1, cells := 0, slots := 0, locals := 26 } : Room) s m #[(.ref ao0), (.long jw)] below meth c s₁ [] 0 0 := Stand.of_body Bd
  have e0 : s₁.heap = h0 := by rw [← hh, Bd.state]; rfl
  have Nf := Fr.nil n0
  have Zs := Z0
  have Kp : Keep h0 h0 [tb, va, co, bs, nb] := Keep.refl _ _
  show own_End p e below s (Q_rm3_0 Z ao0 tb va co bs nb kt kv kc kb kn bk bo ak aoo mkk moo u0 u1 jw h0 n0) ({ frames := 1, cells := 0, slots := 0, locals := 26 } : Room).cells ({ frames := 1, cells := 0, slots := 0, locals := 26 } : Room).slots (s₁.setTop (entryFrame m #[(.ref ao0), (.long jw)] 8))
  refine own_go (x' := s₁.setTop (mkF m 0 #[.val (.ref ao0), .val (.long jw), .second, .unset, .unset, .unset, .unset, .unset] [])) (fun t k => castTop (ef_rm3_0 m ao0 jw) k) ?_
  refine own_go (x' := s₁.setTop (mkF m 5 #[.val (.ref ao0), .val (.long jw), .second, .val (.long jw), .second, .val (.int 0), .unset, .unset] [])) (fun _ k => XS.lloadN X0.here hx rfl (hb hby d3_0) rfl (XS.lstoreN X0.here hx rfl (hb hby d3_1) rfl (l' := #[.val (.ref ao0), .val (.long jw), .second, .val (.long jw), .second, .unset, .unset, .unset]) rfl (XS.iconst X0.here hx rfl (hb hby d3_2) (XS.istore X0.here hx rfl (hb hby d3_3) rfl (l' := #[.val (.ref ao0), .val (.long jw), .second, .val (.long jw), .second, .val (.int 0), .unset, .unset]) rfl k)))) ?_
  by_cases hbk : bk < (0 : Int32)
  · refine own_go (x' := s₁.setTop (mkF m 7 #[.val (.ref ao0), .val (.long jw), .second, .val (.long jw), .second, .val (.int 0), .unset, .unset] [(.int 0), (.ref ao0)])) (fun _ k => XS.aloadN X0.here hx rfl (hb hby d3_5) rfl rfl (XS.iconst X0.here hx rfl (hb hby d3_6) k)) ?_
    obtain ⟨cq1, q1, q1'⟩ := E_ao0.cell
    obtain ⟨_, _, ⟨T1, L1, k1, n1⟩, -, X1, ⟨Lc1, hQ1, l1, y1, z1⟩, st1⟩ := X0.privateBack hx (y := (⟨"com/example/moving_tokens/movingtokens/DualSimplex", "leavingRow", "(Z)I"⟩ : MethodName)) hown (mvT hZ (own_w hw 39 rfl)) (mvT hZ (own_w hw 40 rfl)) (mvT hZ (own_self (y := (⟨"com/example/moving_tokens/movingtokens/DualSimplex", "leavingRow", "(Z)I"⟩ : MethodName)) (own_w hw 2 rfl) (own_w hw 40 rfl) (own_w hw 41 rfl) (by decide))) (Cond.privateMethod_at (mvP hZ (own_w hw 41 rfl) (args := #[]))) (mvT hZ (own_w hw 42 rfl)) (by decide) (backOf (W := 0) (rm4_10 l Z a0 hw [] ao0 va kv (FP.i2d bk) (FP.i2d bo) h0 n0 Zs F_ao0_rows F_ao0_value V_va ((own_tol h_bk).mpr hbk) (mt (own_tol h_bo).mp z_bo)) hZ (own_w hw 42 rfl) (own_w hw 3 rfl) (by decide) (by decide)) (g := (mkF m 7 #[.val (.ref ao0), .val (.long jw), .second, .val (.long jw), .second, .val (.int 0), .unset, .unset] [(.int 0), (.ref ao0)])) rfl (by rw [hml]; rfl) (Steps.refl _) (a := ao0) (Eq.trans (congrArg (fun h_ => h_[_]?) e0) q1) q1' (argsL := [(.int 0)]) (rest := []) (lenOf pd_0 rfl) rfl (by show 2 * 0 + _ ≤ _; exact Nat.le_of_eq rfl) (hb hby d3_7) (fun _ _ => ⟨rfl, e0, (by decide : 0 + 0 ≤ _), (by decide : 0 + 0 ≤ _)⟩)
    dsimp only [Pt.U, Pt.locs, Pt.cells, Pt.slots] at X1 l1 y1 z1 st1 hQ1
    subst l1 y1 z1
    obtain ⟨hv1, Nq1, eq1⟩ := hQ1
    subst hv1
    replace Nf := Fr.app Nf Nq1
    refine own_go (x' := T1.setTop (mkF m 10 #[.val (.ref ao0), .val (.long jw), .second, .val (.long jw), .second, .val (.int 0), .unset, .unset] [(.int 0)])) (fun _ k => st1.trans k) ?_
    refine own_go (x' := T1.setTop (mkF m 17 #[.val (.ref ao0), .val (.long jw), .second, .val (.long jw), .second, .val (.int 0), .val (.int 0), .unset] [])) (fun _ k => XS.istore X1.here hx rfl (hb hby d3_10) rfl (l' := #[.val (.ref ao0), .val (.long jw), .second, .val (.long jw), .second, .val (.int 0), .val (.int 0), .unset]) rfl (XS.iload X1.here hx rfl (hb hby d3_12) rfl (XS.ifNo X1.here hx rfl (hb hby d3_14) rfl ((if0 _ _).trans (flt (Int32.lt_irrefl)).1) k))) ?_
    by_cases hak : ak < (0 : Int32)
    · refine own_go (x' := T1.setTop (mkF m 32 #[.val (.ref ao0), .val (.long jw), .second, .val (.long jw), .second, .val (.int 0), .val (.int 0), .unset] [(.int 0), (.int 0), (.ref ao0)])) (fun _ k => XS.aloadN X1.here hx rfl (hb hby d3_17) rfl rfl (XS.iload X1.here hx rfl (hb hby d3_18) rfl (XS.iload X1.here hx rfl (hb hby d3_20) rfl (XS.bipush X1.here hx rfl (hb hby d3_22) (XS.icmpYes X1.here hx rfl (pc0 := 24) (pc' := 31) rfl (hb hby d3_24) rfl (tlt (by decide +kernel : ((0 : Int32) < (50 : Int32)))).1 (by decide) (by decide) (XS.iconst X1.here hx rfl (hb hby d3_31) k)))))) ?_
      obtain ⟨cq2, q2, q2'⟩ := E_ao0.cell
      obtain ⟨_, _, ⟨T2, L2, k2, n2⟩, -, X2, ⟨Lc2, hQ2, l2, y2, z2⟩, st2⟩ := X1.privateBack hx (y := (⟨"com/example/moving_tokens/movingtokens/DualSimplex", "enteringColumn", "(IZ)I"⟩ : MethodName)) hown (mvT hZ (own_w hw 50 rfl)) (mvT hZ (own_w hw 51 rfl)) (mvT hZ (own_self (y := (⟨"com/example/moving_tokens/movingtokens/DualSimplex", "enteringColumn", "(IZ)I"⟩ : MethodName)) (own_w hw 2 rfl) (own_w hw 51 rfl) (own_w hw 52 rfl) (by decide))) (Cond.privateMethod_at (mvP hZ (own_w hw 52 rfl) (args := #[]))) (mvT hZ (own_w hw 53 rfl)) (by decide) (backOf (W := 0) (rm6_01 l Z a0 hw [] ao0 tb co kt kc (FP.i2d ak) (FP.i2d mkk) (FP.i2d aoo) (FP.i2d moo) (FP.i2d u0) (FP.i2d u1) h0 n0 Zs F_ao0_columns F_ao0_tableau F_ao0_cost V_tb V_co (Jvm.Free.Fl.i2d_mag u0) (Jvm.Free.Fl.i2d_mag u1) ((own_tol h_ak).mpr hak) (mt (own_tol h_mkk).mp z_mkk) (own_bigI (own_ltne hak))) hZ (own_w hw 53 rfl) (own_w hw 3 rfl) (by decide) (by decide)) (g := (mkF m 32 #[.val (.ref ao0), .val (.long jw), .second, .val (.long jw), .second, .val (.int 0), .val (.int 0), .unset] [(.int 0), (.int 0), (.ref ao0)])) rfl (by rw [hml]; rfl) (Steps.refl _) (a := ao0) (Eq.trans (congrArg (fun h_ => h_[_]?) eq1) q2) q2' (argsL := [(.int 0), (.int 0)]) (rest := []) (lenOf pd_1 rfl) rfl (by show 2 * 0 + _ ≤ _; exact Nat.le_of_eq rfl) (hb hby d3_32) (fun _ _ => ⟨rfl, eq1, (by decide : 0 + 0 ≤ _), (by decide : 0 + 0 ≤ _)⟩)
      dsimp only [Pt.U, Pt.locs, Pt.cells, Pt.slots] at X2 l2 y2 z2 st2 hQ2
      subst l2 y2 z2
      obtain ⟨hv2, Nq2, eq2⟩ := hQ2
      subst hv2
      replace Nf := Fr.app Nf Nq2
      refine own_go (x' := T2.setTop (mkF m 35 #[.val (.ref ao0), .val (.long jw), .second, .val (.long jw), .second, .val (.int 0), .val (.int 0), .unset] [(.int 0)])) (fun _ k => st2.trans k) ?_
      refine own_go (x' := T2.setTop (mkF m 45 #[.val (.ref ao0), .val (.long jw), .second, .val (.long jw), .second, .val (.int 0), .val (.int 0), .val (.int 0)] [(.ref ao0)])) (fun _ k => XS.istore X2.here hx rfl (hb hby d3_35) rfl (l' := #[.val (.ref ao0), .val (.long jw), .second, .val (.long jw), .second, .val (.int 0), .val (.int 0), .val (.int 0)]) rfl (XS.iload X2.here hx rfl (hb hby d3_37) rfl (XS.ifYes X2.here hx rfl (pc0 := 39) (pc' := 44) rfl (hb hby d3_39) rfl ((if0 _ _).trans (flt (Int32.lt_irrefl)).2.1) (by decide) (by decide) (XS.aloadN X2.here hx rfl (hb hby d3_44) rfl rfl k)))) ?_
      obtain ⟨T3, X3, e3, st3⟩ := getF X2 hx hZ hown (host := "") (Or.inl (own_w hw 27 rfl)) Via.refl eq2 F_ao0_cost (g := (mkF m 45 #[.val (.ref ao0), .val (.long jw), .second, .val (.long jw), .second, .val (.int 0), .val (.int 0), .val (.int 0)] [(.ref ao0)])) rfl rfl (hb hby d3_45)
      refine own_go (x' := T3.setTop (mkF m 48 #[.val (.ref ao0), .val (.long jw), .second, .val (.long jw), .second, .val (.int 0), .val (.int 0), .val (.int 0)] [(.ref co)])) st3 ?_
      refine own_go (x' := T3.setTop (mkF m 50 #[.val (.ref ao0), .val (.long jw), .second, .val (.long jw), .second, .val (.int 0), .val (.int 0), .val (.int 0)] [(.int 0), (.ref co)])) (fun _ k => XS.iload X3.here hx rfl (hb hby d3_48) rfl k) ?_
      obtain ⟨cl4, Ar4, q4, Sz4, Nn4, Hh4, Gg4⟩ := id V_co
      have hin4 : ¬ ((0 : Int32) < 0 ∨ cl4.slots.size ≤ ((0 : Int32)).toNatClampNeg) := inb_of Sz4 ⟨by decide, by decide⟩
      refine own_go (x' := T3.setTop (mkF m 51 #[.val (.ref ao0), .val (.long jw), .second, .val (.long jw), .second, .val (.int 0), .val (.int 0), .val (.int 0)] [(.double (FP.i2d u0))])) (X3.daload hx (j := (0 : Int32)) (v := (.double (FP.i2d u0))) (Eq.trans (congrArg (fun h_ => h_[_]?) e3) Ar4.1) (State.isArrayOf_alike hZ.alike Ar4.2.1) Ar4.2.2 hin4 (Hh4.at hin4 rfl) (g := (mkF m 50 #[.val (.ref ao0), .val (.long jw), .second, .val (.long jw), .second, .val (.int 0), .val (.int 0), .val (.int 0)] [(.int 0), (.ref co)])) rfl rfl (hb hby d3_50)) ?_
      refine own_go (x' := T3.setTop (mkF m 54 #[.val (.ref ao0), .val (.long jw), .second, .val (.long jw), .second, .val (.int 0), .val (.int 0), .val (.int 0)] [(.double (4442235333156365461 : UInt64)), (.double (FP.i2d u0))])) (fun t k => X3.ldc2DoubleC hx hown (mvT hZ (own_w hw 54 rfl)) (g := (mkF m 51 #[.val (.ref ao0), .val (.long jw), .second, .val (.long jw), .second, .val (.int 0), .val (.int 0), .val (.int 0)] [(.double (FP.i2d u0))])) rfl (hb hby d3_51) t k) ?_
      refine own_go (x' := T3.setTop (mkF m 55 #[.val (.ref ao0), .val (.long jw), .second, .val (.long jw), .second, .val (.int 0), .val (.int 0), .val (.int 0)] [(.int (cmpValue (FP.dcmp (FP.i2d u0) (4442235333156365461 : UInt64)) .l))])) (fun _ k => XS.dcmpS X3.here hx rfl (hb hby d3_54) rfl rfl k) ?_
      have mg55_6 : ∀ t, Steps p.tables e below (T3.setTop (mkF m 66 #[.val (.ref ao0), .val (.long jw), .second, .val (.long jw), .second, .val (.int 0), .val (.int 0), .val (.int 0)] [(.int (if (0 : Int32) < (cmpValue (FP.dcmp (FP.i2d u0) (4442235333156365461 : UInt64)) .l) then (0 : Int32) else ((0 : Int32) + (1 : Int32))))])) t → Steps p.tables e below (T3.setTop (mkF m 55 #[.val (.ref ao0), .val (.long jw), .second, .val (.long jw), .second, .val (.int 0), .val (.int 0), .val (.int 0)] [(.int (cmpValue (FP.dcmp (FP.i2d u0) (4442235333156365461 : UInt64)) .l))])) t := by
        intro t k
        by_cases hm55_5 : (0 : Int32) < (cmpValue (FP.dcmp (FP.i2d u0) (4442235333156365461 : UInt64)) .l)
        · simp only [if_pos hm55_5] at k
          exact XS.ifNo X3.here hx rfl (hb hby d3_55) rfl ((if0 _ _).trans (tlt hm55_5).2.2.2) (XS.iconst X3.here hx rfl (hb hby d3_58) (XS.goto X3.here hx rfl (pc0 := 59) (pc' := 66) rfl (hb hby d3_59) (by decide) (by decide) k))
        · simp only [if_neg hm55_5] at k
          exact XS.ifYes X3.here hx rfl (pc0 := 55) (pc' := 62) rfl (hb hby d3_55) rfl ((if0 _ _).trans (flt hm55_5).2.2.2) (by decide) (by decide) (XS.iload X3.here hx rfl (hb hby d3_62) rfl (XS.iconst X3.here hx rfl (hb hby d3_64) (XS.iadd X3.here hx rfl (hb hby d3_65) rfl k)))
      refine own_go (x' := T3.setTop (mkF m 66 #[.val (.ref ao0), .val (.long jw), .second, .val (.long jw), .second, .val (.int 0), .val (.int 0), .val (.int 0)] [(.int (if (0 : Int32) < (cmpValue (FP.dcmp (FP.i2d u0) (4442235333156365461 : UInt64)) .l) then (0 : Int32) else ((0 : Int32) + (1 : Int32))))])) mg55_6 ?_
      have hsx : (if (0 : Int32) < (cmpValue (FP.dcmp (FP.i2d u0) (4442235333156365461 : UInt64)) .l) then (0 : Int32) else ((0 : Int32) + (1 : Int32))) < (50 : Int32) := by split <;> decide
      generalize (if (0 : Int32) < (cmpValue (FP.dcmp (FP.i2d u0) (4442235333156365461 : UInt64)) .l) then (0 : Int32) else ((0 : Int32) + (1 : Int32))) = sx at hsx ⊢
      refine own_go (x' := T3.setTop (mkF m 68 #[.val (.ref ao0), .val (.long jw), .second, .val (.long jw), .second, .val (.int sx), .val (.int 0), .val (.int 0)] [])) (fun _ k => XS.istore X3.here hx rfl (hb hby d3_66) rfl (l' := #[.val (.ref ao0), .val (.long jw), .second, .val (.long jw), .second, .val (.int sx), .val (.int 0), .val (.int 0)]) rfl k) ?_
      by_cases hz : aoo = (0 : Int32)
      · refine own_go (x' := T3.setTop (mkF m 74 #[.val (.ref ao0), .val (.long jw), .second, .val (.long jw), .second, .val (.int sx), .val (.int 0), .val (.int 0)] [(.int 0), (.int 0), (.ref ao0), (.long jw)])) (fun _ k => XS.lloadN X3.here hx rfl (hb hby d3_68) rfl (XS.aloadN X3.here hx rfl (hb hby d3_69) rfl rfl (XS.iload X3.here hx rfl (hb hby d3_70) rfl (XS.iload X3.here hx rfl (hb hby d3_72) rfl k)))) ?_
        obtain ⟨cq7, q7, q7'⟩ := E_ao0.cell
        obtain ⟨_, _, ⟨T7, L7, k7, n7⟩, -, X7, ⟨Lc7, hQ7, l7, y7, z7⟩, st7⟩ := X3.privateBack hx (y := (⟨"com/example/moving_tokens/movingtokens/DualSimplex", "pivot", "(II)J"⟩ : MethodName)) hown (mvT hZ (own_w hw 55 rfl)) (mvT hZ (own_w hw 56 rfl)) (mvT hZ (own_self (y := (⟨"com/example/moving_tokens/movingtokens/DualSimplex", "pivot", "(II)J"⟩ : MethodName)) (own_w hw 2 rfl) (own_w hw 56 rfl) (own_w hw 57 rfl) (by decide))) (Cond.privateMethod_at (mvP hZ (own_w hw 57 rfl) (args := #[]))) (mvT hZ (own_w hw 58 rfl)) (by decide) (backOf (W := 2) (rm7_0 l Z a0 hw [] ao0 tb va co bs nb kt kv kc kb kn (FP.i2d ak) (FP.i2d mkk) (FP.i2d aoo) (FP.i2d moo) (FP.i2d bk) (FP.i2d bo) (FP.i2d u0) (FP.i2d u1) h0 n0 Zs F_ao0_rows F_ao0_columns F_ao0_tableau F_ao0_value F_ao0_cost F_ao0_basic F_ao0_nonbasic V_tb V_va V_co V_bs V_nb (Jvm.Free.Fl.i2d_mag ak) (Jvm.Free.Fl.i2d_mag mkk) (Jvm.Free.Fl.i2d_mag aoo) (Jvm.Free.Fl.i2d_mag moo) (Jvm.Free.Fl.i2d_mag bk) (Jvm.Free.Fl.i2d_mag bo) (Jvm.Free.Fl.i2d_mag u0) (Jvm.Free.Fl.i2d_mag u1) (own_bigI (own_ltne hak)) ne_ao0_tb ne_ao0_va ne_ao0_co ne_ao0_bs ne_ao0_nb ne_tb_va ne_tb_co ne_tb_bs ne_tb_nb ne_va_co ne_va_bs ne_va_nb ne_co_bs ne_co_nb ne_bs_nb g_tb g_va g_co g_bs g_nb) hZ (own_w hw 58 rfl) (own_w hw 3 rfl) (by decide) (by decide)) (g := (mkF m 74 #[.val (.ref ao0), .val (.long jw), .second, .val (.long jw), .second, .val (.int sx), .val (.int 0), .val (.int 0)] [(.int 0), (.int 0), (.ref ao0), (.long jw)])) rfl (by rw [hml]; rfl) (Steps.refl _) (a := ao0) (Eq.trans (congrArg (fun h_ => h_[_]?) e3) q7) q7' (argsL := [(.int 0), (.int 0)]) (rest := [(.long jw)]) (lenOf pd_2 rfl) rfl (by show 2 * 0 + _ ≤ _; exact Nat.le_of_eq rfl) (hb hby d3_74) (fun _ _ => ⟨rfl, e3, (by decide : 0 + 0 ≤ _), (by decide : 0 + 0 ≤ _)⟩)
        dsimp only [Pt.U, Pt.locs, Pt.cells, Pt.slots] at X7 l7 y7 z7 st7 hQ7
        subst l7 y7 z7
        obtain ⟨-, hv7, Nq7, K7, Vp7_tb, Vp7_va, Vp7_co, Vp7_bs, Vp7_nb⟩ := hQ7.resolve_right (fun q_ => q_.1 ((own_q6 h_aoo).mpr hz))
        subst hv7
        replace Nf := Fr.app Nf Nq7
        replace F_ao0_rows := F_ao0_rows.keep K7 (ninS ne_ao0_tb (ninS ne_ao0_va (ninS ne_ao0_co (ninS ne_ao0_bs (ninS ne_ao0_nb nin0)))))
        replace F_ao0_columns := F_ao0_columns.keep K7 (ninS ne_ao0_tb (ninS ne_ao0_va (ninS ne_ao0_co (ninS ne_ao0_bs (ninS ne_ao0_nb nin0)))))
        replace F_ao0_tableau := F_ao0_tableau.keep K7 (ninS ne_ao0_tb (ninS ne_ao0_va (ninS ne_ao0_co (ninS ne_ao0_bs (ninS ne_ao0_nb nin0)))))
        replace F_ao0_value := F_ao0_value.keep K7 (ninS ne_ao0_tb (ninS ne_ao0_va (ninS ne_ao0_co (ninS ne_ao0_bs (ninS ne_ao0_nb nin0)))))
        replace F_ao0_cost := F_ao0_cost.keep K7 (ninS ne_ao0_tb (ninS ne_ao0_va (ninS ne_ao0_co (ninS ne_ao0_bs (ninS ne_ao0_nb nin0)))))
        replace F_ao0_basic := F_ao0_basic.keep K7 (ninS ne_ao0_tb (ninS ne_ao0_va (ninS ne_ao0_co (ninS ne_ao0_bs (ninS ne_ao0_nb nin0)))))
        replace F_ao0_nonbasic := F_ao0_nonbasic.keep K7 (ninS ne_ao0_tb (ninS ne_ao0_va (ninS ne_ao0_co (ninS ne_ao0_bs (ninS ne_ao0_nb nin0)))))
        replace E_ao0 := E_ao0.keep K7
        replace Zs := Nat.le_trans Zs K7.1
        replace Kp := Kp.trans K7 (allS (Or.inl (by simp)) (allS (Or.inl (by simp)) (allS (Or.inl (by simp)) (allS (Or.inl (by simp)) (allS (Or.inl (by simp)) all0)))))
        replace V_tb := Vp7_tb
        replace V_va := Vp7_va
        replace V_co := Vp7_co
        replace V_bs := Vp7_bs
        replace V_nb := Vp7_nb
        refine own_go (x' := T7.setTop (mkF m 77 #[.val (.ref ao0), .val (.long jw), .second, .val (.long jw), .second, .val (.int sx), .val (.int 0), .val (.int 0)] [(.long 4), (.long jw)])) (fun _ k => st7.trans k) ?_
        refine own_go (x' := T7.setTop (mkF m 82 #[.val (.ref ao0), .val (.long jw), .second, .val (.long (jw - (4 : Int64))), .second, .val (.int sx), .val (.int 0), .val (.int 0)] [(.int (lcmpW (jw - (4 : Int64)) (0 : Int64)))])) (fun _ k => XS.lsub X7.here hx rfl (hb hby d3_77) rfl (XS.lstoreN X7.here hx rfl (hb hby d3_78) rfl (l' := #[.val (.ref ao0), .val (.long jw), .second, .val (.long (jw - (4 : Int64))), .second, .val (.int sx), .val (.int 0), .val (.int 0)]) rfl (XS.lloadN X7.here hx rfl (hb hby d3_79) rfl (XS.lconst X7.here hx rfl (hb hby d3_80) (XS.lcmp X7.here hx rfl (hb hby d3_81) rfl k))))) ?_
        by_cases hc82 : (jw - (4 : Int64)) < (0 : Int64)
        · refine own_go (x' := T7.setTop (mkF m 86 #[.val (.ref ao0), .val (.long jw), .second, .val (.long (jw - (4 : Int64))), .second, .val (.int sx), .val (.int 0), .val (.int 0)] [(.int 0)])) (fun _ k => XS.ifNo X7.here hx rfl (hb hby d3_82) rfl ((if0 _ _).trans (tlt ((lw_lt (jw - (4 : Int64)) (0 : Int64)).mpr hc82)).2.1) (XS.iconst X7.here hx rfl (hb hby d3_85) k)) ?_
          refine own_retN X7 hx hlk (t := .boolean) hret (by simp) (hb hby d3_86) (w := (0 : Int32)) rfl ?_ (by decide) (by decide)
          exact ⟨_, rfl, Nf, Kp, by rw [if_pos ⟨hbk, hak⟩]; exact V_nb⟩
        · refine own_go (x' := T7.setTop (mkF m 100 #[.val (.ref ao0), .val (.long jw), .second, .val (.long (jw - (4 : Int64))), .second, .val (.int sx), .val (.int 0), .val (.int 0)] [(.int 0), (.ref ao0)])) (fun _ k => XS.ifYes X7.here hx rfl (pc0 := 82) (pc' := 87) rfl (hb hby d3_82) rfl ((if0 _ _).trans (flt (fun q_ => hc82 ((lw_lt (jw - (4 : Int64)) (0 : Int64)).mp q_))).2.1) (by decide) (by decide) (XS.aloadN X7.here hx rfl (hb hby d3_87) rfl rfl (XS.iload X7.here hx rfl (hb hby d3_88) rfl (XS.bipush X7.here hx rfl (hb hby d3_90) (XS.icmpYes X7.here hx rfl (pc0 := 92) (pc' := 99) rfl (hb hby d3_92) rfl (tlt hsx).1 (by decide) (by decide) (XS.iconst X7.here hx rfl (hb hby d3_99) k)))))) ?_
          obtain ⟨cq8, q8, q8'⟩ := E_ao0.cell
          obtain ⟨_, _, ⟨T8, L8, k8, n8⟩, -, X8, ⟨Lc8, hQ8, l8, y8, z8⟩, st8⟩ := X7.privateBack hx (y := (⟨"com/example/moving_tokens/movingtokens/DualSimplex", "leavingRow", "(Z)I"⟩ : MethodName)) hown (mvT hZ (own_w hw 39 rfl)) (mvT hZ (own_w hw 40 rfl)) (mvT hZ (own_self (y := (⟨"com/example/moving_tokens/movingtokens/DualSimplex", "leavingRow", "(Z)I"⟩ : MethodName)) (own_w hw 2 rfl) (own_w hw 40 rfl) (own_w hw 41 rfl) (by decide))) (Cond.privateMethod_at (mvP hZ (own_w hw 41 rfl) (args := #[]))) (mvT hZ (own_w hw 42 rfl)) (by decide) (backOf (W := 0) (rm4_00 l Z a0 hw [] ao0 va kv (FP.ddiv (FP.i2d bk) (FP.i2d ak)) (FP.i2d bo) T7.heap n0 Zs F_ao0_rows F_ao0_value V_va (own_q2 h_bk hbk h_ak hak) (mt (own_tol h_bo).mp z_bo)) hZ (own_w hw 42 rfl) (own_w hw 3 rfl) (by decide) (by decide)) (g := (mkF m 100 #[.val (.ref ao0), .val (.long jw), .second, .val (.long (jw - (4 : Int64))), .second, .val (.int sx), .val (.int 0), .val (.int 0)] [(.int 0), (.ref ao0)])) rfl (by rw [hml]; rfl) (Steps.refl _) (a := ao0) (Eq.trans (congrArg (fun h_ => h_[_]?) rfl) q8) q8' (argsL := [(.int 0)]) (rest := []) (lenOf pd_0 rfl) rfl (by show 2 * 0 + _ ≤ _; exact Nat.le_of_eq rfl) (hb hby d3_100) (fun _ _ => ⟨rfl, rfl, (by decide : 0 + 0 ≤ _), (by decide : 0 + 0 ≤ _)⟩)
          dsimp only [Pt.U, Pt.locs, Pt.cells, Pt.slots] at X8 l8 y8 z8 st8 hQ8
          subst l8 y8 z8
          obtain ⟨hv8, Nq8, eq8⟩ := hQ8
          subst hv8
          replace Nf := Fr.app Nf Nq8
          refine own_go (x' := T8.setTop (mkF m 103 #[.val (.ref ao0), .val (.long jw), .second, .val (.long (jw - (4 : Int64))), .second, .val (.int sx), .val (.int 0), .val (.int 0)] [(.int (-1))])) (fun _ k => st8.trans k) ?_
          refine own_go (x' := T8.setTop (mkF m 109 #[.val (.ref ao0), .val (.long jw), .second, .val (.long (jw - (4 : Int64))), .second, .val (.int sx), .val (.int (-1)), .val (.int 0)] [(.int 1)])) (fun _ k => XS.istore X8.here hx rfl (hb hby d3_103) rfl (l' := #[.val (.ref ao0), .val (.long jw), .second, .val (.long (jw - (4 : Int64))), .second, .val (.int sx), .val (.int (-1)), .val (.int 0)]) rfl (XS.goto X8.here hx rfl (pc0 := 105) (pc' := 12) rfl (hb hby d3_105) (by decide) (by decide) (XS.iload X8.here hx rfl (hb hby d3_12) rfl (XS.ifYes X8.here hx rfl (pc0 := 14) (pc' := 108) rfl (hb hby d3_14) rfl ((if0 _ _).trans (tlt (by decide +kernel : ((-1 : Int32) < (0 : Int32)))).1) (by decide) (by decide) (XS.iconst X8.here hx rfl (hb hby d3_108) k))))) ?_
          refine own_retN X8 hx hlk (t := .boolean) hret (by simp) (hb hby d3_109) (w := (1 : Int32)) rfl ?_ (by decide) (by decide)
          rw [eq8]
          exact ⟨_, rfl, Nf, Kp, by rw [if_pos ⟨hbk, hak⟩]; exact V_nb⟩
      · refine own_go (x' := T3.setTop (mkF m 74 #[.val (.ref ao0), .val (.long jw), .second, .val (.long jw), .second, .val (.int sx), .val (.int 0), .val (.int 0)] [(.int 0), (.int 0), (.ref ao0), (.long jw)])) (fun _ k => XS.lloadN X3.here hx rfl (hb hby d3_68) rfl (XS.aloadN X3.here hx rfl (hb hby d3_69) rfl rfl (XS.iload X3.here hx rfl (hb hby d3_70) rfl (XS.iload X3.here hx rfl (hb hby d3_72) rfl k)))) ?_
        obtain ⟨cq9, q9, q9'⟩ := E_ao0.cell
        obtain ⟨_, _, ⟨T9, L9, k9, n9⟩, -, X9, ⟨Lc9, hQ9, l9, y9, z9⟩, st9⟩ := X3.privateBack hx (y := (⟨"com/example/moving_tokens/movingtokens/DualSimplex", "pivot", "(II)J"⟩ : MethodName)) hown (mvT hZ (own_w hw 55 rfl)) (mvT hZ (own_w hw 56 rfl)) (mvT hZ (own_self (y := (⟨"com/example/moving_tokens/movingtokens/DualSimplex", "pivot", "(II)J"⟩ : MethodName)) (own_w hw 2 rfl) (own_w hw 56 rfl) (own_w hw 57 rfl) (by decide))) (Cond.privateMethod_at (mvP hZ (own_w hw 57 rfl) (args := #[]))) (mvT hZ (own_w hw 58 rfl)) (by decide) (backOf (W := 2) (rm7_0 l Z a0 hw [] ao0 tb va co bs nb kt kv kc kb kn (FP.i2d ak) (FP.i2d mkk) (FP.i2d aoo) (FP.i2d moo) (FP.i2d bk) (FP.i2d bo) (FP.i2d u0) (FP.i2d u1) h0 n0 Zs F_ao0_rows F_ao0_columns F_ao0_tableau F_ao0_value F_ao0_cost F_ao0_basic F_ao0_nonbasic V_tb V_va V_co V_bs V_nb (Jvm.Free.Fl.i2d_mag ak) (Jvm.Free.Fl.i2d_mag mkk) (Jvm.Free.Fl.i2d_mag aoo) (Jvm.Free.Fl.i2d_mag moo) (Jvm.Free.Fl.i2d_mag bk) (Jvm.Free.Fl.i2d_mag bo) (Jvm.Free.Fl.i2d_mag u0) (Jvm.Free.Fl.i2d_mag u1) (own_bigI (own_ltne hak)) ne_ao0_tb ne_ao0_va ne_ao0_co ne_ao0_bs ne_ao0_nb ne_tb_va ne_tb_co ne_tb_bs ne_tb_nb ne_va_co ne_va_bs ne_va_nb ne_co_bs ne_co_nb ne_bs_nb g_tb g_va g_co g_bs g_nb) hZ (own_w hw 58 rfl) (own_w hw 3 rfl) (by decide) (by decide)) (g := (mkF m 74 #[.val (.ref ao0), .val (.long jw), .second, .val (.long jw), .second, .val (.int sx), .val (.int 0), .val (.int 0)] [(.int 0), (.int 0), (.ref ao0), (.long jw)])) rfl (by rw [hml]; rfl) (Steps.refl _) (a := ao0) (Eq.trans (congrArg (fun h_ => h_[_]?) e3) q9) q9' (argsL := [(.int 0), (.int 0)]) (rest := [(.long jw)]) (lenOf pd_2 rfl) rfl (by show 2 * 0 + _ ≤ _; exact Nat.le_of_eq rfl) (hb hby d3_74) (fun _ _ => ⟨rfl, e3, (by decide : 0 + 0 ≤ _), (by decide : 0 + 0 ≤ _)⟩)
        dsimp only [Pt.U, Pt.locs, Pt.cells, Pt.slots] at X9 l9 y9 z9 st9 hQ9
        subst l9 y9 z9
        obtain ⟨-, hv9, Nq9, K9, Vp9_tb, Vp9_va, Vp9_co, Vp9_bs, Vp9_nb⟩ := hQ9.resolve_left (fun q_ => (mt (own_q6 h_aoo).mp hz) q_.1)
        subst hv9
        replace Nf := Fr.app Nf Nq9
        replace F_ao0_rows := F_ao0_rows.keep K9 (ninS ne_ao0_tb (ninS ne_ao0_va (ninS ne_ao0_co (ninS ne_ao0_bs (ninS ne_ao0_nb nin0)))))
        replace F_ao0_columns := F_ao0_columns.keep K9 (ninS ne_ao0_tb (ninS ne_ao0_va (ninS ne_ao0_co (ninS ne_ao0_bs (ninS ne_ao0_nb nin0)))))
        replace F_ao0_tableau := F_ao0_tableau.keep K9 (ninS ne_ao0_tb (ninS ne_ao0_va (ninS ne_ao0_co (ninS ne_ao0_bs (ninS ne_ao0_nb nin0)))))
        replace F_ao0_value := F_ao0_value.keep K9 (ninS ne_ao0_tb (ninS ne_ao0_va (ninS ne_ao0_co (ninS ne_ao0_bs (ninS ne_ao0_nb nin0)))))
        replace F_ao0_cost := F_ao0_cost.keep K9 (ninS ne_ao0_tb (ninS ne_ao0_va (ninS ne_ao0_co (ninS ne_ao0_bs (ninS ne_ao0_nb nin0)))))
        replace F_ao0_basic := F_ao0_basic.keep K9 (ninS ne_ao0_tb (ninS ne_ao0_va (ninS ne_ao0_co (ninS ne_ao0_bs (ninS ne_ao0_nb nin0)))))
        replace F_ao0_nonbasic := F_ao0_nonbasic.keep K9 (ninS ne_ao0_tb (ninS ne_ao0_va (ninS ne_ao0_co (ninS ne_ao0_bs (ninS ne_ao0_nb nin0)))))
        replace E_ao0 := E_ao0.keep K9
        replace Zs := Nat.le_trans Zs K9.1
        replace Kp := Kp.trans K9 (allS (Or.inl (by simp)) (allS (Or.inl (by simp)) (allS (Or.inl (by simp)) (allS (Or.inl (by simp)) (allS (Or.inl (by simp)) all0)))))
        replace V_tb := Vp9_tb
        replace V_va := Vp9_va
        replace V_co := Vp9_co
        replace V_bs := Vp9_bs
        replace V_nb := Vp9_nb
        refine own_go (x' := T9.setTop (mkF m 77 #[.val (.ref ao0), .val (.long jw), .second, .val (.long jw), .second, .val (.int sx), .val (.int 0), .val (.int 0)] [(.long 6), (.long jw)])) (fun _ k => st9.trans k) ?_
        refine own_go (x' := T9.setTop (mkF m 82 #[.val (.ref ao0), .val (.long jw), .second, .val (.long (jw - (6 : Int64))), .second, .val (.int sx), .val (.int 0), .val (.int 0)] [(.int (lcmpW (jw - (6 : Int64)) (0 : Int64)))])) (fun _ k => XS.lsub X9.here hx rfl (hb hby d3_77) rfl (XS.lstoreN X9.here hx rfl (hb hby d3_78) rfl (l' := #[.val (.ref ao0), .val (.long jw), .second, .val (.long (jw - (6 : Int64))), .second, .val (.int sx), .val (.int 0), .val (.int 0)]) rfl (XS.lloadN X9.here hx rfl (hb hby d3_79) rfl (XS.lconst X9.here hx rfl (hb hby d3_80) (XS.lcmp X9.here hx rfl (hb hby d3_81) rfl k))))) ?_
        by_cases hc82 : (jw - (6 : Int64)) < (0 : Int64)
        · refine own_go (x' := T9.setTop (mkF m 86 #[.val (.ref ao0), .val (.long jw), .second, .val (.long (jw - (6 : Int64))), .second, .val (.int sx), .val (.int 0), .val (.int 0)] [(.int 0)])) (fun _ k => XS.ifNo X9.here hx rfl (hb hby d3_82) rfl ((if0 _ _).trans (tlt ((lw_lt (jw - (6 : Int64)) (0 : Int64)).mpr hc82)).2.1) (XS.iconst X9.here hx rfl (hb hby d3_85) k)) ?_
          refine own_retN X9 hx hlk (t := .boolean) hret (by simp) (hb hby d3_86) (w := (0 : Int32)) rfl ?_ (by decide) (by decide)
          exact ⟨_, rfl, Nf, Kp, by rw [if_pos ⟨hbk, hak⟩]; exact V_nb⟩
        · refine own_go (x' := T9.setTop (mkF m 99 #[.val (.ref ao0), .val (.long jw), .second, .val (.long (jw - (6 : Int64))), .second, .val (.int sx), .val (.int 0), .val (.int 0)] [(.ref ao0)])) (fun _ k => XS.ifYes X9.here hx rfl (pc0 := 82) (pc' := 87) rfl (hb hby d3_82) rfl ((if0 _ _).trans (flt (fun q_ => hc82 ((lw_lt (jw - (6 : Int64)) (0 : Int64)).mp q_))).2.1) (by decide) (by decide) (XS.aloadN X9.here hx rfl (hb hby d3_87) rfl rfl (XS.iload X9.here hx rfl (hb hby d3_88) rfl (XS.bipush X9.here hx rfl (hb hby d3_90) (XS.icmpYes X9.here hx rfl (pc0 := 92) (pc' := 99) rfl (hb hby d3_92) rfl (tlt hsx).1 (by decide) (by decide) k))))) ?_
          by_cases hng : own_neg (FP.dsub (FP.i2d bo) (FP.dmul (FP.i2d aoo) (FP.ddiv (FP.i2d bk) (FP.i2d ak))))
          · have hpos : ¬ aoo < 0 := fun q_ => own_q3 h_bk hbk h_ak hak h_aoo q_ h_bo z_bo hng
            refine own_go (x' := T9.setTop (mkF m 100 #[.val (.ref ao0), .val (.long jw), .second, .val (.long (jw - (6 : Int64))), .second, .val (.int sx), .val (.int 0), .val (.int 0)] [(.int 0), (.ref ao0)])) (fun _ k => XS.iconst X9.here hx rfl (hb hby d3_99) k) ?_
            obtain ⟨cq10, q10, q10'⟩ := E_ao0.cell
            obtain ⟨_, _, ⟨T10, L10, k10, n10⟩, -, X10, ⟨Lc10, hQ10, l10, y10, z10⟩, st10⟩ := X9.privateBack hx (y := (⟨"com/example/moving_tokens/movingtokens/DualSimplex", "leavingRow", "(Z)I"⟩ : MethodName)) hown (mvT hZ (own_w hw 39 rfl)) (mvT hZ (own_w hw 40 rfl)) (mvT hZ (own_self (y := (⟨"com/example/moving_tokens/movingtokens/DualSimplex", "leavingRow", "(Z)I"⟩ : MethodName)) (own_w hw 2 rfl) (own_w hw 40 rfl) (own_w hw 41 rfl) (by decide))) (Cond.privateMethod_at (mvP hZ (own_w hw 41 rfl) (args := #[]))) (mvT hZ (own_w hw 42 rfl)) (by decide) (backOf (W := 0) (rm4_01 l Z a0 hw [] ao0 va kv (FP.ddiv (FP.i2d bk) (FP.i2d ak)) (FP.dsub (FP.i2d bo) (FP.dmul (FP.i2d aoo) (FP.ddiv (FP.i2d bk) (FP.i2d ak)))) T9.heap n0 Zs F_ao0_rows F_ao0_value V_va (own_q2 h_bk hbk h_ak hak) hng) hZ (own_w hw 42 rfl) (own_w hw 3 rfl) (by decide) (by decide)) (g := (mkF m 100 #[.val (.ref ao0), .val (.long jw), .second, .val (.long (jw - (6 : Int64))), .second, .val (.int sx), .val (.int 0), .val (.int 0)] [(.int 0), (.ref ao0)])) rfl (by rw [hml]; rfl) (Steps.refl _) (a := ao0) (Eq.trans (congrArg (fun h_ => h_[_]?) rfl) q10) q10' (argsL := [(.int 0)]) (rest := []) (lenOf pd_0 rfl) rfl (by show 2 * 0 + _ ≤ _; exact Nat.le_of_eq rfl) (hb hby d3_100) (fun _ _ => ⟨rfl, rfl, (by decide : 0 + 0 ≤ _), (by decide : 0 + 0 ≤ _)⟩)
            dsimp only [Pt.U, Pt.locs, Pt.cells, Pt.slots] at X10 l10 y10 z10 st10 hQ10
            subst l10 y10 z10
            obtain ⟨hv10, Nq10, eq10⟩ := hQ10
            subst hv10
            replace Nf := Fr.app Nf Nq10
            refine own_go (x' := T10.setTop (mkF m 103 #[.val (.ref ao0), .val (.long jw), .second, .val (.long (jw - (6 : Int64))), .second, .val (.int sx), .val (.int 0), .val (.int 0)] [(.int 1)])) (fun _ k => st10.trans k) ?_
            refine own_go (x' := T10.setTop (mkF m 20 #[.val (.ref ao0), .val (.long jw), .second, .val (.long (jw - (6 : Int64))), .second, .val (.int sx), .val (.int 1), .val (.int 0)] [(.int 1), (.ref ao0)])) (fun _ k => XS.istore X10.here hx rfl (hb hby d3_103) rfl (l' := #[.val (.ref ao0), .val (.long jw), .second, .val (.long (jw - (6 : Int64))), .second, .val (.int sx), .val (.int 1), .val (.int 0)]) rfl (XS.goto X10.here hx rfl (pc0 := 105) (pc' := 12) rfl (hb hby d3_105) (by decide) (by decide) (XS.iload X10.here hx rfl (hb hby d3_12) rfl (XS.ifNo X10.here hx rfl (hb hby d3_14) rfl ((if0 _ _).trans (flt (by decide +kernel : ¬ ((1 : Int32) < (0 : Int32)))).1) (XS.aloadN X10.here hx rfl (hb hby d3_17) rfl rfl (XS.iload X10.here hx rfl (hb hby d3_18) rfl k)))))) ?_
            refine own_go (x' := T10.setTop (mkF m 32 #[.val (.ref ao0), .val (.long jw), .second, .val (.long (jw - (6 : Int64))), .second, .val (.int sx), .val (.int 1), .val (.int 0)] [(.int 0), (.int 1), (.ref ao0)])) (fun _ k => XS.iload X10.here hx rfl (hb hby d3_20) rfl (XS.bipush X10.here hx rfl (hb hby d3_22) (XS.icmpYes X10.here hx rfl (pc0 := 24) (pc' := 31) rfl (hb hby d3_24) rfl (tlt hsx).1 (by decide) (by decide) (XS.iconst X10.here hx rfl (hb hby d3_31) k)))) ?_
            obtain ⟨cq11, q11, q11'⟩ := E_ao0.cell
            obtain ⟨_, _, ⟨T11, L11, k11, n11⟩, -, X11, ⟨Lc11, hQ11, l11, y11, z11⟩, st11⟩ := X10.privateBack hx (y := (⟨"com/example/moving_tokens/movingtokens/DualSimplex", "enteringColumn", "(IZ)I"⟩ : MethodName)) hown (mvT hZ (own_w hw 50 rfl)) (mvT hZ (own_w hw 51 rfl)) (mvT hZ (own_self (y := (⟨"com/example/moving_tokens/movingtokens/DualSimplex", "enteringColumn", "(IZ)I"⟩ : MethodName)) (own_w hw 2 rfl) (own_w hw 51 rfl) (own_w hw 52 rfl) (by decide))) (Cond.privateMethod_at (mvP hZ (own_w hw 52 rfl) (args := #[]))) (mvT hZ (own_w hw 53 rfl)) (by decide) (backOf (W := 0) (rm6_10 l Z a0 hw [] ao0 tb co kt kc (FP.ddiv (4607182418800017408 : UInt64) (FP.i2d ak)) (FP.ddiv (FP.i2d mkk) (FP.i2d ak)) (FP.ddiv (FP.dneg (FP.i2d aoo)) (FP.i2d ak)) (FP.dsub (FP.i2d moo) (FP.dmul (FP.i2d aoo) (FP.ddiv (FP.i2d mkk) (FP.i2d ak)))) (FP.ddiv (FP.dneg (FP.i2d u0)) (FP.i2d ak)) (FP.dsub (FP.i2d u1) (FP.dmul (FP.i2d u0) (FP.ddiv (FP.i2d mkk) (FP.i2d ak)))) T9.heap n0 Zs F_ao0_columns F_ao0_tableau F_ao0_cost V_tb V_co  (own_q4 h_ak hak h_aoo hpos) (own_q5 h_mkk z_mkk h_ak hak h_aoo hpos h_moo z_moo)) hZ (own_w hw 53 rfl) (own_w hw 3 rfl) (by decide) (by decide)) (g := (mkF m 32 #[.val (.ref ao0), .val (.long jw), .second, .val (.long (jw - (6 : Int64))), .second, .val (.int sx), .val (.int 1), .val (.int 0)] [(.int 0), (.int 1), (.ref ao0)])) rfl (by rw [hml]; rfl) (Steps.refl _) (a := ao0) (Eq.trans (congrArg (fun h_ => h_[_]?) eq10) q11) q11' (argsL := [(.int 1), (.int 0)]) (rest := []) (lenOf pd_1 rfl) rfl (by show 2 * 0 + _ ≤ _; exact Nat.le_of_eq rfl) (hb hby d3_32) (fun _ _ => ⟨rfl, eq10, (by decide : 0 + 0 ≤ _), (by decide : 0 + 0 ≤ _)⟩)
            dsimp only [Pt.U, Pt.locs, Pt.cells, Pt.slots] at X11 l11 y11 z11 st11 hQ11
            subst l11 y11 z11
            obtain ⟨hv11, Nq11, eq11⟩ := hQ11
            subst hv11
            replace Nf := Fr.app Nf Nq11
            refine own_go (x' := T11.setTop (mkF m 35 #[.val (.ref ao0), .val (.long jw), .second, .val (.long (jw - (6 : Int64))), .second, .val (.int sx), .val (.int 1), .val (.int 0)] [(.int (-1))])) (fun _ k => st11.trans k) ?_
            refine own_go (x' := T11.setTop (mkF m 43 #[.val (.ref ao0), .val (.long jw), .second, .val (.long (jw - (6 : Int64))), .second, .val (.int sx), .val (.int 1), .val (.int (-1))] [(.int 0)])) (fun _ k => XS.istore X11.here hx rfl (hb hby d3_35) rfl (l' := #[.val (.ref ao0), .val (.long jw), .second, .val (.long (jw - (6 : Int64))), .second, .val (.int sx), .val (.int 1), .val (.int (-1))]) rfl (XS.iload X11.here hx rfl (hb hby d3_37) rfl (XS.ifNo X11.here hx rfl (hb hby d3_39) rfl ((if0 _ _).trans (tlt (by decide +kernel : ((-1 : Int32) < (0 : Int32)))).2.1) (XS.iconst X11.here hx rfl (hb hby d3_42) k)))) ?_
            refine own_retN X11 hx hlk (t := .boolean) hret (by simp) (hb hby d3_43) (w := (0 : Int32)) rfl ?_ (by decide) (by decide)
            rw [eq11]
            exact ⟨_, rfl, Nf, Kp, by rw [if_pos ⟨hbk, hak⟩]; exact V_nb⟩
          · refine own_go (x' := T9.setTop (mkF m 100 #[.val (.ref ao0), .val (.long jw), .second, .val (.long (jw - (6 : Int64))), .second, .val (.int sx), .val (.int 0), .val (.int 0)] [(.int 0), (.ref ao0)])) (fun _ k => XS.iconst X9.here hx rfl (hb hby d3_99) k) ?_
            obtain ⟨cq12, q12, q12'⟩ := E_ao0.cell
            obtain ⟨_, _, ⟨T12, L12, k12, n12⟩, -, X12, ⟨Lc12, hQ12, l12, y12, z12⟩, st12⟩ := X9.privateBack hx (y := (⟨"com/example/moving_tokens/movingtokens/DualSimplex", "leavingRow", "(Z)I"⟩ : MethodName)) hown (mvT hZ (own_w hw 39 rfl)) (mvT hZ (own_w hw 40 rfl)) (mvT hZ (own_self (y := (⟨"com/example/moving_tokens/movingtokens/DualSimplex", "leavingRow", "(Z)I"⟩ : MethodName)) (own_w hw 2 rfl) (own_w hw 40 rfl) (own_w hw 41 rfl) (by decide))) (Cond.privateMethod_at (mvP hZ (own_w hw 41 rfl) (args := #[]))) (mvT hZ (own_w hw 42 rfl)) (by decide) (backOf (W := 0) (rm4_00 l Z a0 hw [] ao0 va kv (FP.ddiv (FP.i2d bk) (FP.i2d ak)) (FP.dsub (FP.i2d bo) (FP.dmul (FP.i2d aoo) (FP.ddiv (FP.i2d bk) (FP.i2d ak)))) T9.heap n0 Zs F_ao0_rows F_ao0_value V_va (own_q2 h_bk hbk h_ak hak) hng) hZ (own_w hw 42 rfl) (own_w hw 3 rfl) (by decide) (by decide)) (g := (mkF m 100 #[.val (.ref ao0), .val (.long jw), .second, .val (.long (jw - (6 : Int64))), .second, .val (.int sx), .val (.int 0), .val (.int 0)] [(.int 0), (.ref ao0)])) rfl (by rw [hml]; rfl) (Steps.refl _) (a := ao0) (Eq.trans (congrArg (fun h_ => h_[_]?) rfl) q12) q12' (argsL := [(.int 0)]) (rest := []) (lenOf pd_0 rfl) rfl (by show 2 * 0 + _ ≤ _; exact Nat.le_of_eq rfl) (hb hby d3_100) (fun _ _ => ⟨rfl, rfl, (by decide : 0 + 0 ≤ _), (by decide : 0 + 0 ≤ _)⟩)
            dsimp only [Pt.U, Pt.locs, Pt.cells, Pt.slots] at X12 l12 y12 z12 st12 hQ12
            subst l12 y12 z12
            obtain ⟨hv12, Nq12, eq12⟩ := hQ12
            subst hv12
            replace Nf := Fr.app Nf Nq12
            refine own_go (x' := T12.setTop (mkF m 103 #[.val (.ref ao0), .val (.long jw), .second, .val (.long (jw - (6 : Int64))), .second, .val (.int sx), .val (.int 0), .val (.int 0)] [(.int (-1))])) (fun _ k => st12.trans k) ?_
            refine own_go (x' := T12.setTop (mkF m 109 #[.val (.ref ao0), .val (.long jw), .second, .val (.long (jw - (6 : Int64))), .second, .val (.int sx), .val (.int (-1)), .val (.int 0)] [(.int 1)])) (fun _ k => XS.istore X12.here hx rfl (hb hby d3_103) rfl (l' := #[.val (.ref ao0), .val (.long jw), .second, .val (.long (jw - (6 : Int64))), .second, .val (.int sx), .val (.int (-1)), .val (.int 0)]) rfl (XS.goto X12.here hx rfl (pc0 := 105) (pc' := 12) rfl (hb hby d3_105) (by decide) (by decide) (XS.iload X12.here hx rfl (hb hby d3_12) rfl (XS.ifYes X12.here hx rfl (pc0 := 14) (pc' := 108) rfl (hb hby d3_14) rfl ((if0 _ _).trans (tlt (by decide +kernel : ((-1 : Int32) < (0 : Int32)))).1) (by decide) (by decide) (XS.iconst X12.here hx rfl (hb hby d3_108) k))))) ?_
            refine own_retN X12 hx hlk (t := .boolean) hret (by simp) (hb hby d3_109) (w := (1 : Int32)) rfl ?_ (by decide) (by decide)
            rw [eq12]
            exact ⟨_, rfl, Nf, Kp, by rw [if_pos ⟨hbk, hak⟩]; exact V_nb⟩
    · refine own_go (x' := T1.setTop (mkF m 32 #[.val (.ref ao0), .val (.long jw), .second, .val (.long jw), .second, .val (.int 0), .val (.int 0), .unset] [(.int 0), (.int 0), (.ref ao0)])) (fun _ k => XS.aloadN X1.here hx rfl (hb hby d3_17) rfl rfl (XS.iload X1.here hx rfl (hb hby d3_18) rfl (XS.iload X1.here hx rfl (hb hby d3_20) rfl (XS.bipush X1.here hx rfl (hb hby d3_22) (XS.icmpYes X1.here hx rfl (pc0 := 24) (pc' := 31) rfl (hb hby d3_24) rfl (tlt (by decide +kernel : ((0 : Int32) < (50 : Int32)))).1 (by decide) (by decide) (XS.iconst X1.here hx rfl (hb hby d3_31) k)))))) ?_
      obtain ⟨cq13, q13, q13'⟩ := E_ao0.cell
      obtain ⟨_, _, ⟨T13, L13, k13, n13⟩, -, X13, ⟨Lc13, hQ13, l13, y13, z13⟩, st13⟩ := X1.privateBack hx (y := (⟨"com/example/moving_tokens/movingtokens/DualSimplex", "enteringColumn", "(IZ)I"⟩ : MethodName)) hown (mvT hZ (own_w hw 50 rfl)) (mvT hZ (own_w hw 51 rfl)) (mvT hZ (own_self (y := (⟨"com/example/moving_tokens/movingtokens/DualSimplex", "enteringColumn", "(IZ)I"⟩ : MethodName)) (own_w hw 2 rfl) (own_w hw 51 rfl) (own_w hw 52 rfl) (by decide))) (Cond.privateMethod_at (mvP hZ (own_w hw 52 rfl) (args := #[]))) (mvT hZ (own_w hw 53 rfl)) (by decide) (backOf (W := 0) (rm6_00 l Z a0 hw [] ao0 tb co kt kc (FP.i2d ak) (FP.i2d mkk) (FP.i2d aoo) (FP.i2d moo) (FP.i2d u0) (FP.i2d u1) h0 n0 Zs F_ao0_columns F_ao0_tableau F_ao0_cost V_tb V_co  (mt (own_tol h_ak).mp hak) (mt (own_tol h_mkk).mp z_mkk)) hZ (own_w hw 53 rfl) (own_w hw 3 rfl) (by decide) (by decide)) (g := (mkF m 32 #[.val (.ref ao0), .val (.long jw), .second, .val (.long jw), .second, .val (.int 0), .val (.int 0), .unset] [(.int 0), (.int 0), (.ref ao0)])) rfl (by rw [hml]; rfl) (Steps.refl _) (a := ao0) (Eq.trans (congrArg (fun h_ => h_[_]?) eq1) q13) q13' (argsL := [(.int 0), (.int 0)]) (rest := []) (lenOf pd_1 rfl) rfl (by show 2 * 0 + _ ≤ _; exact Nat.le_of_eq rfl) (hb hby d3_32) (fun _ _ => ⟨rfl, eq1, (by decide : 0 + 0 ≤ _), (by decide : 0 + 0 ≤ _)⟩)
      dsimp only [Pt.U, Pt.locs, Pt.cells, Pt.slots] at X13 l13 y13 z13 st13 hQ13
      subst l13 y13 z13
      obtain ⟨hv13, Nq13, eq13⟩ := hQ13
      subst hv13
      replace Nf := Fr.app Nf Nq13
      refine own_go (x' := T13.setTop (mkF m 35 #[.val (.ref ao0), .val (.long jw), .second, .val (.long jw), .second, .val (.int 0), .val (.int 0), .unset] [(.int (-1))])) (fun _ k => st13.trans k) ?_
      refine own_go (x' := T13.setTop (mkF m 43 #[.val (.ref ao0), .val (.long jw), .second, .val (.long jw), .second, .val (.int 0), .val (.int 0), .val (.int (-1))] [(.int 0)])) (fun _ k => XS.istore X13.here hx rfl (hb hby d3_35) rfl (l' := #[.val (.ref ao0), .val (.long jw), .second, .val (.long jw), .second, .val (.int 0), .val (.int 0), .val (.int (-1))]) rfl (XS.iload X13.here hx rfl (hb hby d3_37) rfl (XS.ifNo X13.here hx rfl (hb hby d3_39) rfl ((if0 _ _).trans (tlt (by decide +kernel : ((-1 : Int32) < (0 : Int32)))).2.1) (XS.iconst X13.here hx rfl (hb hby d3_42) k)))) ?_
      refine own_retN X13 hx hlk (t := .boolean) hret (by simp) (hb hby d3_43) (w := (0 : Int32)) rfl ?_ (by decide) (by decide)
      rw [eq13]
      exact ⟨_, rfl, Nf, Kp, by rw [if_neg (fun q_ => hak q_.2)]; exact V_nb⟩
  · refine own_go (x' := s₁.setTop (mkF m 7 #[.val (.ref ao0), .val (.long jw), .second, .val (.long jw), .second, .val (.int 0), .unset, .unset] [(.int 0), (.ref ao0)])) (fun _ k => XS.aloadN X0.here hx rfl (hb hby d3_5) rfl rfl (XS.iconst X0.here hx rfl (hb hby d3_6) k)) ?_
    obtain ⟨cq14, q14, q14'⟩ := E_ao0.cell
    obtain ⟨_, _, ⟨T14, L14, k14, n14⟩, -, X14, ⟨Lc14, hQ14, l14, y14, z14⟩, st14⟩ := X0.privateBack hx (y := (⟨"com/example/moving_tokens/movingtokens/DualSimplex", "leavingRow", "(Z)I"⟩ : MethodName)) hown (mvT hZ (own_w hw 39 rfl)) (mvT hZ (own_w hw 40 rfl)) (mvT hZ (own_self (y := (⟨"com/example/moving_tokens/movingtokens/DualSimplex", "leavingRow", "(Z)I"⟩ : MethodName)) (own_w hw 2 rfl) (own_w hw 40 rfl) (own_w hw 41 rfl) (by decide))) (Cond.privateMethod_at (mvP hZ (own_w hw 41 rfl) (args := #[]))) (mvT hZ (own_w hw 42 rfl)) (by decide) (backOf (W := 0) (rm4_00 l Z a0 hw [] ao0 va kv (FP.i2d bk) (FP.i2d bo) h0 n0 Zs F_ao0_rows F_ao0_value V_va (mt (own_tol h_bk).mp hbk) (mt (own_tol h_bo).mp z_bo)) hZ (own_w hw 42 rfl) (own_w hw 3 rfl) (by decide) (by decide)) (g := (mkF m 7 #[.val (.ref ao0), .val (.long jw), .second, .val (.long jw), .second, .val (.int 0), .unset, .unset] [(.int 0), (.ref ao0)])) rfl (by rw [hml]; rfl) (Steps.refl _) (a := ao0) (Eq.trans (congrArg (fun h_ => h_[_]?) e0) q14) q14' (argsL := [(.int 0)]) (rest := []) (lenOf pd_0 rfl) rfl (by show 2 * 0 + _ ≤ _; exact Nat.le_of_eq rfl) (hb hby d3_7) (fun _ _ => ⟨rfl, e0, (by decide : 0 + 0 ≤ _), (by decide : 0 + 0 ≤ _)⟩)
    dsimp only [Pt.U, Pt.locs, Pt.cells, Pt.slots] at X14 l14 y14 z14 st14 hQ14
    subst l14 y14 z14
    obtain ⟨hv14, Nq14, eq14⟩ := hQ14
    subst hv14
    replace Nf := Fr.app Nf Nq14
    refine own_go (x' := T14.setTop (mkF m 10 #[.val (.ref ao0), .val (.long jw), .second, .val (.long jw), .second, .val (.int 0), .unset, .unset] [(.int (-1))])) (fun _ k => st14.trans k) ?_
    refine own_go (x' := T14.setTop (mkF m 109 #[.val (.ref ao0), .val (.long jw), .second, .val (.long jw), .second, .val (.int 0), .val (.int (-1)), .unset] [(.int 1)])) (fun _ k => XS.istore X14.here hx rfl (hb hby d3_10) rfl (l' := #[.val (.ref ao0), .val (.long jw), .second, .val (.long jw), .second, .val (.int 0), .val (.int (-1)), .unset]) rfl (XS.iload X14.here hx rfl (hb hby d3_12) rfl (XS.ifYes X14.here hx rfl (pc0 := 14) (pc' := 108) rfl (hb hby d3_14) rfl ((if0 _ _).trans (tlt (by decide +kernel : ((-1 : Int32) < (0 : Int32)))).1) (by decide) (by decide) (XS.iconst X14.here hx rfl (hb hby d3_108) k)))) ?_
    refine own_retN X14 hx hlk (t := .boolean) hret (by simp) (hb hby d3_109) (w := (1 : Int32)) rfl ?_ (by decide) (by decide)
    rw [eq14]
    exact ⟨_, rfl, Nf, Kp, by rw [if_neg (fun q_ => hbk q_.1)]; exact V_nb⟩
def Q_rm3_1 (Z : State) (ao0 tb va co bs nb : Addr) (kt kv kc kb kn : ClassId) (bk bo ak aoo mkk moo u0 u1 : Int32) (jw : Int64) (h0 : Heap) (n0 : Nat) (v : Option Value) (h : Heap) (L : List Loc) : Prop := ∃ rr : Int32, v = some (.int rr) ∧ Fr n0 L ∧ Keep h0 h [tb, va, co, bs, nb] ∧ Arv Z h nb kn .int (2 : Int32) [(.int (if bk < 0 ∧ ak < 0 then (3 : Int32) else 0)), (.int (1 : Int32))] (.int (0 : Int32))
theorem pn_rm3_1 : plainName "com/example/moving_tokens/movingtokens/DualSimplex" = true := by first | (simp [plainName, overriddenIn]; done) | decide +kernel
theorem ef_rm3_1 (m : MethodId) (x0 : Addr) (x1 : Int64) : entryFrame m #[(.ref x0), (.long x1)] 8 = mkF m 0 #[.val (.ref x0), .val (.long x1), .second, .unset, .unset, .unset, .unset, .unset] [] := by first | (simp [entryFrame, mkF, argsToLocals, Value.category]; done) | rfl
set_option maxRecDepth 65536 in
set_option maxHeartbeats 40000000 in
theorem rm3_1 (l : Launch) (Z : State) (a0 : Array Value) (hw : ∀ d ∈ tables_1, d.before a0 Z = true) (ws : List Jvm.Cond) (ao0 tb va co bs nb : Addr) (kt kv kc kb kn : ClassId) (bk bo ak aoo mkk moo u0 u1 : Int32) (jw : Int64) (h0 : Heap) (n0 : Nat) (Z0 : n0 ≤ h0.size) (E_ao0 : Exa Z h0 ao0 "com/example/moving_tokens/movingtokens/DualSimplex") (F_ao0_rows : Fld Z h0 ao0 "com/example/moving_tokens/movingtokens/DualSimplex" "rows" "I" (.int 2)) (F_ao0_columns : Fld Z h0 ao0 "com/example/moving_tokens/movingtokens/DualSimplex" "columns" "I" (.int 2)) (F_ao0_tableau : Fld Z h0 ao0 "com/example/moving_tokens/movingtokens/DualSimplex" "tableau" "[D" (.ref tb)) (F_ao0_value : Fld Z h0 ao0 "com/example/moving_tokens/movingtokens/DualSimplex" "value" "[D" (.ref va)) (F_ao0_cost : Fld Z h0 ao0 "com/example/moving_tokens/movingtokens/DualSimplex" "cost" "[D" (.ref co)) (F_ao0_basic : Fld Z h0 ao0 "com/example/moving_tokens/movingtokens/DualSimplex" "basic" "[I" (.ref bs)) (F_ao0_nonbasic : Fld Z h0 ao0 "com/example/moving_tokens/movingtokens/DualSimplex" "nonbasic" "[I" (.ref nb)) (V_tb : Arv Z h0 tb kt .double (4 : Int32) [(.double (FP.i2d aoo)), (.double (FP.i2d moo)), (.double (FP.i2d ak)), (.double (FP.i2d mkk))] (.double 0)) (V_va : Arv Z h0 va kv .double (2 : Int32) [(.double (FP.i2d bo)), (.double (FP.i2d bk))] (.double 0)) (V_co : Arv Z h0 co kc .double (2 : Int32) [(.double (FP.i2d u0)), (.double (FP.i2d u1))] (.double 0)) (V_bs : Arv Z h0 bs kb .int (2 : Int32) [(.int 2), (.int 3)] (.int (0 : Int32))) (V_nb : Arv Z h0 nb kn .int (2 : Int32) [(.int 0), (.int 1)] (.int (0 : Int32))) (h_bk : own_rg bk) (h_bo : own_rg bo) (h_ak : own_rg ak) (h_aoo : own_rg aoo) (h_mkk : own_rg mkk) (h_moo : own_rg moo) (z_bo : ¬ bo < 0) (z_mkk : ¬ mkk < 0) (z_moo : ¬ moo < 0) (ne_ao0_tb : ao0 ≠ tb) (ne_ao0_va : ao0 ≠ va) (ne_ao0_co : ao0 ≠ co) (ne_ao0_bs : ao0 ≠ bs) (ne_ao0_nb : ao0 ≠ nb) (ne_tb_va : tb ≠ va) (ne_tb_co : tb ≠ co) (ne_tb_bs : tb ≠ bs) (ne_tb_nb : tb ≠ nb) (ne_va_co : va ≠ co) (ne_va_bs : va ≠ bs) (ne_va_nb : va ≠ nb) (ne_co_bs : co ≠ bs) (ne_co_nb : co ≠ nb) (ne_bs_nb : bs ≠ nb) (g_tb : n0 ≤ tb) (g_va : n0 ≤ va) (g_co : n0 ≤ co) (g_bs : n0 ≤ bs) (g_nb : n0 ≤ nb) :
    MetFree l (⟨"com/example/moving_tokens/movingtokens/DualSimplex", "solve", "(J)Z"⟩ : MethodName) (head1 (Jvm.Cond.code (⟨"com/example/moving_tokens/movingtokens/DualSimplex", "solve", "(J)Z"⟩ : MethodName) prog_14_method_2_code 8 (some .boolean) :: ws) ({ frames := 1, cells := 0, slots := 0, locals := 26 } : Room)) (fun a U => a = #[(.ref ao0), (.long jw)] ∧ Z.Warmed39 U.vm ∧ U.heap = h0) (fun _ _ _ _ _ => True) (fun _ U o U' => ∃ v L, o = .returned v ∧ (Q_rm3_1 Z ao0 tb va co bs nb kt kv kc kb kn bk bo ak aoo mkk moo u0 u1 jw h0 n0) v U'.heap L ∧ FrameEnd U o U' L ({ frames := 1, cells := 0, slots := 0, locals := 26 } : Room).cells ({ frames := 1, cells := 0, slots := 0, locals := 26 } : Room).slots) := by
  refine MetFree.of_bodySF (plainFor_of_name pn_rm3_1) hisR ?_
  intro p e s m args below meth c s₁ Bd hml0 hP hK
  obtain ⟨rfl, hZ, hh⟩ := hP
  have hx := Bd.exec
  have hby := Bd.bytes
  have hlk := BodyLoose.notSynchronized Bd
  have hret := Bd.returns
  have hml : c.maxLocals = 8 := hml0
  have hown : s.vm.findClass "com/example/moving_tokens/movingtokens/DualSimplex" = some m.cls := findClass_of_methodNamed Bd.named
  have hnm := (name_of_methodNamed Bd.named Bd.method).1
  have X0 : Stand p l e ({ frames := 1, cells := 0, slots := 0, locals := 26 } : Room) s m #[(.ref ao0), (.long jw)] below meth c s₁ [] 0 0 := Stand.of_body Bd
  have e0 : s₁.heap = h0 := by rw [← hh, Bd.state]; rfl
  have Nf := Fr.nil n0
  have Zs := Z0
  have Kp : Keep h0 h0 [tb, va, co, bs, nb] := Keep.refl _ _
  show own_End p e below s (Q_rm3_1 Z ao0 tb va co bs nb kt kv kc kb kn bk bo ak aoo mkk moo u0 u1 jw h0 n0) ({ frames := 1, cells := 0, slots := 0, locals := 26 } : Room).cells ({ frames := 1, cells := 0, slots := 0, locals := 26 } : Room).slots (s₁.setTop (entryFrame m #[(.ref ao0), (.long jw)] 8))
  refine own_go (x' := s₁.setTop (mkF m 0 #[.val (.ref ao0), .val (.long jw), .second, .unset, .unset, .unset, .unset, .unset] [])) (fun t k => castTop (ef_rm3_1 m ao0 jw) k) ?_
  refine own_go (x' := s₁.setTop (mkF m 5 #[.val (.ref ao0), .val (.long jw), .second, .val (.long jw), .second, .val (.int 0), .unset, .unset] [])) (fun _ k => XS.lloadN X0.here hx rfl (hb hby d3_0) rfl (XS.lstoreN X0.here hx rfl (hb hby d3_1) rfl (l' := #[.val (.ref ao0), .val (.long jw), .second, .val (.long jw), .second, .unset, .unset, .unset]) rfl (XS.iconst X0.here hx rfl (hb hby d3_2) (XS.istore X0.here hx rfl (hb hby d3_3) rfl (l' := #[.val (.ref ao0), .val (.long jw), .second, .val (.long jw), .second, .val (.int 0), .unset, .unset]) rfl k)))) ?_
  by_cases hbk : bk < (0 : Int32)
  · refine own_go (x' := s₁.setTop (mkF m 7 #[.val (.ref ao0), .val (.long jw), .second, .val (.long jw), .second, .val (.int 0), .unset, .unset] [(.int 0), (.ref ao0)])) (fun _ k => XS.aloadN X0.here hx rfl (hb hby d3_5) rfl rfl (XS.iconst X0.here hx rfl (hb hby d3_6) k)) ?_
    obtain ⟨cq1, q1, q1'⟩ := E_ao0.cell
    obtain ⟨_, _, ⟨T1, L1, k1, n1⟩, -, X1, ⟨Lc1, hQ1, l1, y1, z1⟩, st1⟩ := X0.privateBack hx (y := (⟨"com/example/moving_tokens/movingtokens/DualSimplex", "leavingRow", "(Z)I"⟩ : MethodName)) hown (mvT hZ (own_w hw 39 rfl)) (mvT hZ (own_w hw 40 rfl)) (mvT hZ (own_self (y := (⟨"com/example/moving_tokens/movingtokens/DualSimplex", "leavingRow", "(Z)I"⟩ : MethodName)) (own_w hw 2 rfl) (own_w hw 40 rfl) (own_w hw 41 rfl) (by decide))) (Cond.privateMethod_at (mvP hZ (own_w hw 41 rfl) (args := #[]))) (mvT hZ (own_w hw 42 rfl)) (by decide) (backOf (W := 0) (rm4_01 l Z a0 hw [] ao0 va kv (FP.i2d bo) (FP.i2d bk) h0 n0 Zs F_ao0_rows F_ao0_value V_va (mt (own_tol h_bo).mp z_bo) ((own_tol h_bk).mpr hbk)) hZ (own_w hw 42 rfl) (own_w hw 3 rfl) (by decide) (by decide)) (g := (mkF m 7 #[.val (.ref ao0), .val (.long jw), .second, .val (.long jw), .second, .val (.int 0), .unset, .unset] [(.int 0), (.ref ao0)])) rfl (by rw [hml]; rfl) (Steps.refl _) (a := ao0) (Eq.trans (congrArg (fun h_ => h_[_]?) e0) q1) q1' (argsL := [(.int 0)]) (rest := []) (lenOf pd_0 rfl) rfl (by show 2 * 0 + _ ≤ _; exact Nat.le_of_eq rfl) (hb hby d3_7) (fun _ _ => ⟨rfl, e0, (by decide : 0 + 0 ≤ _), (by decide : 0 + 0 ≤ _)⟩)
    dsimp only [Pt.U, Pt.locs, Pt.cells, Pt.slots] at X1 l1 y1 z1 st1 hQ1
    subst l1 y1 z1
    obtain ⟨hv1, Nq1, eq1⟩ := hQ1
    subst hv1
    replace Nf := Fr.app Nf Nq1
    refine own_go (x' := T1.setTop (mkF m 10 #[.val (.ref ao0), .val (.long jw), .second, .val (.long jw), .second, .val (.int 0), .unset, .unset] [(.int 1)])) (fun _ k => st1.trans k) ?_
    refine own_go (x' := T1.setTop (mkF m 17 #[.val (.ref ao0), .val (.long jw), .second, .val (.long jw), .second, .val (.int 0), .val (.int 1), .unset] [])) (fun _ k => XS.istore X1.here hx rfl (hb hby d3_10) rfl (l' := #[.val (.ref ao0), .val (.long jw), .second, .val (.long jw), .second, .val (.int 0), .val (.int 1), .unset]) rfl (XS.iload X1.here hx rfl (hb hby d3_12) rfl (XS.ifNo X1.here hx rfl (hb hby d3_14) rfl ((if0 _ _).trans (flt (by decide +kernel : ¬ ((1 : Int32) < (0 : Int32)))).1) k))) ?_
    by_cases hak : ak < (0 : Int32)
    · refine own_go (x' := T1.setTop (mkF m 32 #[.val (.ref ao0), .val (.long jw), .second, .val (.long jw), .second, .val (.int 0), .val (.int 1), .unset] [(.int 0), (.int 1), (.ref ao0)])) (fun _ k => XS.aloadN X1.here hx rfl (hb hby d3_17) rfl rfl (XS.iload X1.here hx rfl (hb hby d3_18) rfl (XS.iload X1.here hx rfl (hb hby d3_20) rfl (XS.bipush X1.here hx rfl (hb hby d3_22) (XS.icmpYes X1.here hx rfl (pc0 := 24) (pc' := 31) rfl (hb hby d3_24) rfl (tlt (by decide +kernel : ((0 : Int32) < (50 : Int32)))).1 (by decide) (by decide) (XS.iconst X1.here hx rfl (hb hby d3_31) k)))))) ?_
      obtain ⟨cq2, q2, q2'⟩ := E_ao0.cell
      obtain ⟨_, _, ⟨T2, L2, k2, n2⟩, -, X2, ⟨Lc2, hQ2, l2, y2, z2⟩, st2⟩ := X1.privateBack hx (y := (⟨"com/example/moving_tokens/movingtokens/DualSimplex", "enteringColumn", "(IZ)I"⟩ : MethodName)) hown (mvT hZ (own_w hw 50 rfl)) (mvT hZ (own_w hw 51 rfl)) (mvT hZ (own_self (y := (⟨"com/example/moving_tokens/movingtokens/DualSimplex", "enteringColumn", "(IZ)I"⟩ : MethodName)) (own_w hw 2 rfl) (own_w hw 51 rfl) (own_w hw 52 rfl) (by decide))) (Cond.privateMethod_at (mvP hZ (own_w hw 52 rfl) (args := #[]))) (mvT hZ (own_w hw 53 rfl)) (by decide) (backOf (W := 0) (rm6_11 l Z a0 hw [] ao0 tb co kt kc (FP.i2d aoo) (FP.i2d moo) (FP.i2d ak) (FP.i2d mkk) (FP.i2d u0) (FP.i2d u1) h0 n0 Zs F_ao0_columns F_ao0_tableau F_ao0_cost V_tb V_co (Jvm.Free.Fl.i2d_mag u0) (Jvm.Free.Fl.i2d_mag u1) ((own_tol h_ak).mpr hak) (mt (own_tol h_mkk).mp z_mkk) (own_bigI (own_ltne hak))) hZ (own_w hw 53 rfl) (own_w hw 3 rfl) (by decide) (by decide)) (g := (mkF m 32 #[.val (.ref ao0), .val (.long jw), .second, .val (.long jw), .second, .val (.int 0), .val (.int 1), .unset] [(.int 0), (.int 1), (.ref ao0)])) rfl (by rw [hml]; rfl) (Steps.refl _) (a := ao0) (Eq.trans (congrArg (fun h_ => h_[_]?) eq1) q2) q2' (argsL := [(.int 1), (.int 0)]) (rest := []) (lenOf pd_1 rfl) rfl (by show 2 * 0 + _ ≤ _; exact Nat.le_of_eq rfl) (hb hby d3_32) (fun _ _ => ⟨rfl, eq1, (by decide : 0 + 0 ≤ _), (by decide : 0 + 0 ≤ _)⟩)
      dsimp only [Pt.U, Pt.locs, Pt.cells, Pt.slots] at X2 l2 y2 z2 st2 hQ2
      subst l2 y2 z2
      obtain ⟨hv2, Nq2, eq2⟩ := hQ2
      subst hv2
      replace Nf := Fr.app Nf Nq2
      refine own_go (x' := T2.setTop (mkF m 35 #[.val (.ref ao0), .val (.long jw), .second, .val (.long jw), .second, .val (.int 0), .val (.int 1), .unset] [(.int 0)])) (fun _ k => st2.trans k) ?_
      refine own_go (x' := T2.setTop (mkF m 45 #[.val (.ref ao0), .val (.long jw), .second, .val (.long jw), .second, .val (.int 0), .val (.int 1), .val (.int 0)] [(.ref ao0)])) (fun _ k => XS.istore X2.here hx rfl (hb hby d3_35) rfl (l' := #[.val (.ref ao0), .val (.long jw), .second, .val (.long jw), .second, .val (.int 0), .val (.int 1), .val (.int 0)]) rfl (XS.iload X2.here hx rfl (hb hby d3_37) rfl (XS.ifYes X2.here hx rfl (pc0 := 39) (pc' := 44) rfl (hb hby d3_39) rfl ((if0 _ _).trans (flt (Int32.lt_irrefl)).2.1) (by decide) (by decide) (XS.aloadN X2.here hx rfl (hb hby d3_44) rfl rfl k)))) ?_
      obtain ⟨T3, X3, e3, st3⟩ := getF X2 hx hZ hown (host := "") (Or.inl (own_w hw 27 rfl)) Via.refl eq2 F_ao0_cost (g := (mkF m 45 #[.val (.ref ao0), .val (.long jw), .second, .val (.long jw), .second, .val (.int 0), .val (.int 1), .val (.int 0)] [(.ref ao0)])) rfl rfl (hb hby d3_45)
      refine own_go (x' := T3.setTop (mkF m 48 #[.val (.ref ao0), .val (.long jw), .second, .val (.long jw), .second, .val (.int 0), .val (.int 1), .val (.int 0)] [(.ref co)])) st3 ?_
      refine own_go (x' := T3.setTop (mkF m 50 #[.val (.ref ao0), .val (.long jw), .second, .val (.long jw), .second, .val (.int 0), .val (.int 1), .val (.int 0)] [(.int 0), (.ref co)])) (fun _ k => XS.iload X3.here hx rfl (hb hby d3_48) rfl k) ?_
      obtain ⟨cl4, Ar4, q4, Sz4, Nn4, Hh4, Gg4⟩ := id V_co
      have hin4 : ¬ ((0 : Int32) < 0 ∨ cl4.slots.size ≤ ((0 : Int32)).toNatClampNeg) := inb_of Sz4 ⟨by decide, by decide⟩
      refine own_go (x' := T3.setTop (mkF m 51 #[.val (.ref ao0), .val (.long jw), .second, .val (.long jw), .second, .val (.int 0), .val (.int 1), .val (.int 0)] [(.double (FP.i2d u0))])) (X3.daload hx (j := (0 : Int32)) (v := (.double (FP.i2d u0))) (Eq.trans (congrArg (fun h_ => h_[_]?) e3) Ar4.1) (State.isArrayOf_alike hZ.alike Ar4.2.1) Ar4.2.2 hin4 (Hh4.at hin4 rfl) (g := (mkF m 50 #[.val (.ref ao0), .val (.long jw), .second, .val (.long jw), .second, .val (.int 0), .val (.int 1), .val (.int 0)] [(.int 0), (.ref co)])) rfl rfl (hb hby d3_50)) ?_
      refine own_go (x' := T3.setTop (mkF m 54 #[.val (.ref ao0), .val (.long jw), .second, .val (.long jw), .second, .val (.int 0), .val (.int 1), .val (.int 0)] [(.double (4442235333156365461 : UInt64)), (.double (FP.i2d u0))])) (fun t k => X3.ldc2DoubleC hx hown (mvT hZ (own_w hw 54 rfl)) (g := (mkF m 51 #[.val (.ref ao0), .val (.long jw), .second, .val (.long jw), .second, .val (.int 0), .val (.int 1), .val (.int 0)] [(.double (FP.i2d u0))])) rfl (hb hby d3_51) t k) ?_
      refine own_go (x' := T3.setTop (mkF m 55 #[.val (.ref ao0), .val (.long jw), .second, .val (.long jw), .second, .val (.int 0), .val (.int 1), .val (.int 0)] [(.int (cmpValue (FP.dcmp (FP.i2d u0) (4442235333156365461 : UInt64)) .l))])) (fun _ k => XS.dcmpS X3.here hx rfl (hb hby d3_54) rfl rfl k) ?_
      have mg55_6 : ∀ t, Steps p.tables e below (T3.setTop (mkF m 66 #[.val (.ref ao0), .val (.long jw), .second, .val (.long jw), .second, .val (.int 0), .val (.int 1), .val (.int 0)] [(.int (if (0 : Int32) < (cmpValue (FP.dcmp (FP.i2d u0) (4442235333156365461 : UInt64)) .l) then (0 : Int32) else ((0 : Int32) + (1 : Int32))))])) t → Steps p.tables e below (T3.setTop (mkF m 55 #[.val (.ref ao0), .val (.long jw), .second, .val (.long jw), .second, .val (.int 0), .val (.int 1), .val (.int 0)] [(.int (cmpValue (FP.dcmp (FP.i2d u0) (4442235333156365461 : UInt64)) .l))])) t := by
        intro t k
        by_cases hm55_5 : (0 : Int32) < (cmpValue (FP.dcmp (FP.i2d u0) (4442235333156365461 : UInt64)) .l)
        · simp only [if_pos hm55_5] at k
          exact XS.ifNo X3.here hx rfl (hb hby d3_55) rfl ((if0 _ _).trans (tlt hm55_5).2.2.2) (XS.iconst X3.here hx rfl (hb hby d3_58) (XS.goto X3.here hx rfl (pc0 := 59) (pc' := 66) rfl (hb hby d3_59) (by decide) (by decide) k))
        · simp only [if_neg hm55_5] at k
          exact XS.ifYes X3.here hx rfl (pc0 := 55) (pc' := 62) rfl (hb hby d3_55) rfl ((if0 _ _).trans (flt hm55_5).2.2.2) (by decide) (by decide) (XS.iload X3.here hx rfl (hb hby d3_62) rfl (XS.iconst X3.here hx rfl (hb hby d3_64) (XS.iadd X3.here hx rfl (hb hby d3_65) rfl k)))
      refine own_go (x' := T3.setTop (mkF m 66 #[.val (.ref ao0), .val (.long jw), .second, .val (.long jw), .second, .val (.int 0), .val (.int 1), .val (.int 0)] [(.int (if (0 : Int32) < (cmpValue (FP.dcmp (FP.i2d u0) (4442235333156365461 : UInt64)) .l) then (0 : Int32) else ((0 : Int32) + (1 : Int32))))])) mg55_6 ?_
      have hsx : (if (0 : Int32) < (cmpValue (FP.dcmp (FP.i2d u0) (4442235333156365461 : UInt64)) .l) then (0 : Int32) else ((0 : Int32) + (1 : Int32))) < (50 : Int32) := by split <;> decide
      generalize (if (0 : Int32) < (cmpValue (FP.dcmp (FP.i2d u0) (4442235333156365461 : UInt64)) .l) then (0 : Int32) else ((0 : Int32) + (1 : Int32))) = sx at hsx ⊢
      refine own_go (x' := T3.setTop (mkF m 68 #[.val (.ref ao0), .val (.long jw), .second, .val (.long jw), .second, .val (.int sx), .val (.int 1), .val (.int 0)] [])) (fun _ k => XS.istore X3.here hx rfl (hb hby d3_66) rfl (l' := #[.val (.ref ao0), .val (.long jw), .second, .val (.long jw), .second, .val (.int sx), .val (.int 1), .val (.int 0)]) rfl k) ?_
      by_cases hz : aoo = (0 : Int32)
      · refine own_go (x' := T3.setTop (mkF m 74 #[.val (.ref ao0), .val (.long jw), .second, .val (.long jw), .second, .val (.int sx), .val (.int 1), .val (.int 0)] [(.int 0), (.int 1), (.ref ao0), (.long jw)])) (fun _ k => XS.lloadN X3.here hx rfl (hb hby d3_68) rfl (XS.aloadN X3.here hx rfl (hb hby d3_69) rfl rfl (XS.iload X3.here hx rfl (hb hby d3_70) rfl (XS.iload X3.here hx rfl (hb hby d3_72) rfl k)))) ?_
        obtain ⟨cq7, q7, q7'⟩ := E_ao0.cell
        obtain ⟨_, _, ⟨T7, L7, k7, n7⟩, -, X7, ⟨Lc7, hQ7, l7, y7, z7⟩, st7⟩ := X3.privateBack hx (y := (⟨"com/example/moving_tokens/movingtokens/DualSimplex", "pivot", "(II)J"⟩ : MethodName)) hown (mvT hZ (own_w hw 55 rfl)) (mvT hZ (own_w hw 56 rfl)) (mvT hZ (own_self (y := (⟨"com/example/moving_tokens/movingtokens/DualSimplex", "pivot", "(II)J"⟩ : MethodName)) (own_w hw 2 rfl) (own_w hw 56 rfl) (own_w hw 57 rfl) (by decide))) (Cond.privateMethod_at (mvP hZ (own_w hw 57 rfl) (args := #[]))) (mvT hZ (own_w hw 58 rfl)) (by decide) (backOf (W := 2) (rm7_1 l Z a0 hw [] ao0 tb va co bs nb kt kv kc kb kn (FP.i2d aoo) (FP.i2d moo) (FP.i2d ak) (FP.i2d mkk) (FP.i2d bo) (FP.i2d bk) (FP.i2d u0) (FP.i2d u1) h0 n0 Zs F_ao0_rows F_ao0_columns F_ao0_tableau F_ao0_value F_ao0_cost F_ao0_basic F_ao0_nonbasic V_tb V_va V_co V_bs V_nb (Jvm.Free.Fl.i2d_mag aoo) (Jvm.Free.Fl.i2d_mag moo) (Jvm.Free.Fl.i2d_mag ak) (Jvm.Free.Fl.i2d_mag mkk) (Jvm.Free.Fl.i2d_mag bo) (Jvm.Free.Fl.i2d_mag bk) (Jvm.Free.Fl.i2d_mag u0) (Jvm.Free.Fl.i2d_mag u1) (own_bigI (own_ltne hak)) ne_ao0_tb ne_ao0_va ne_ao0_co ne_ao0_bs ne_ao0_nb ne_tb_va ne_tb_co ne_tb_bs ne_tb_nb ne_va_co ne_va_bs ne_va_nb ne_co_bs ne_co_nb ne_bs_nb g_tb g_va g_co g_bs g_nb) hZ (own_w hw 58 rfl) (own_w hw 3 rfl) (by decide) (by decide)) (g := (mkF m 74 #[.val (.ref ao0), .val (.long jw), .second, .val (.long jw), .second, .val (.int sx), .val (.int 1), .val (.int 0)] [(.int 0), (.int 1), (.ref ao0), (.long jw)])) rfl (by rw [hml]; rfl) (Steps.refl _) (a := ao0) (Eq.trans (congrArg (fun h_ => h_[_]?) e3) q7) q7' (argsL := [(.int 1), (.int 0)]) (rest := [(.long jw)]) (lenOf pd_2 rfl) rfl (by show 2 * 0 + _ ≤ _; exact Nat.le_of_eq rfl) (hb hby d3_74) (fun _ _ => ⟨rfl, e3, (by decide : 0 + 0 ≤ _), (by decide : 0 + 0 ≤ _)⟩)
        dsimp only [Pt.U, Pt.locs, Pt.cells, Pt.slots] at X7 l7 y7 z7 st7 hQ7
        subst l7 y7 z7
        obtain ⟨-, hv7, Nq7, K7, Vp7_tb, Vp7_va, Vp7_co, Vp7_bs, Vp7_nb⟩ := hQ7.resolve_right (fun q_ => q_.1 ((own_q6 h_aoo).mpr hz))
        subst hv7
        replace Nf := Fr.app Nf Nq7
        replace F_ao0_rows := F_ao0_rows.keep K7 (ninS ne_ao0_tb (ninS ne_ao0_va (ninS ne_ao0_co (ninS ne_ao0_bs (ninS ne_ao0_nb nin0)))))
        replace F_ao0_columns := F_ao0_columns.keep K7 (ninS ne_ao0_tb (ninS ne_ao0_va (ninS ne_ao0_co (ninS ne_ao0_bs (ninS ne_ao0_nb nin0)))))
        replace F_ao0_tableau := F_ao0_tableau.keep K7 (ninS ne_ao0_tb (ninS ne_ao0_va (ninS ne_ao0_co (ninS ne_ao0_bs (ninS ne_ao0_nb nin0)))))
        replace F_ao0_value := F_ao0_value.keep K7 (ninS ne_ao0_tb (ninS ne_ao0_va (ninS ne_ao0_co (ninS ne_ao0_bs (ninS ne_ao0_nb nin0)))))
        replace F_ao0_cost := F_ao0_cost.keep K7 (ninS ne_ao0_tb (ninS ne_ao0_va (ninS ne_ao0_co (ninS ne_ao0_bs (ninS ne_ao0_nb nin0)))))
        replace F_ao0_basic := F_ao0_basic.keep K7 (ninS ne_ao0_tb (ninS ne_ao0_va (ninS ne_ao0_co (ninS ne_ao0_bs (ninS ne_ao0_nb nin0)))))
        replace F_ao0_nonbasic := F_ao0_nonbasic.keep K7 (ninS ne_ao0_tb (ninS ne_ao0_va (ninS ne_ao0_co (ninS ne_ao0_bs (ninS ne_ao0_nb nin0)))))
        replace E_ao0 := E_ao0.keep K7
        replace Zs := Nat.le_trans Zs K7.1
        replace Kp := Kp.trans K7 (allS (Or.inl (by simp)) (allS (Or.inl (by simp)) (allS (Or.inl (by simp)) (allS (Or.inl (by simp)) (allS (Or.inl (by simp)) all0)))))
        replace V_tb := Vp7_tb
        replace V_va := Vp7_va
        replace V_co := Vp7_co
        replace V_bs := Vp7_bs
        replace V_nb := Vp7_nb
        refine own_go (x' := T7.setTop (mkF m 77 #[.val (.ref ao0), .val (.long jw), .second, .val (.long jw), .second, .val (.int sx), .val (.int 1), .val (.int 0)] [(.long 4), (.long jw)])) (fun _ k => st7.trans k) ?_
        refine own_go (x' := T7.setTop (mkF m 82 #[.val (.ref ao0), .val (.long jw), .second, .val (.long (jw - (4 : Int64))), .second, .val (.int sx), .val (.int 1), .val (.int 0)] [(.int (lcmpW (jw - (4 : Int64)) (0 : Int64)))])) (fun _ k => XS.lsub X7.here hx rfl (hb hby d3_77) rfl (XS.lstoreN X7.here hx rfl (hb hby d3_78) rfl (l' := #[.val (.ref ao0), .val (.long jw), .second, .val (.long (jw - (4 : Int64))), .second, .val (.int sx), .val (.int 1), .val (.int 0)]) rfl (XS.lloadN X7.here hx rfl (hb hby d3_79) rfl (XS.lconst X7.here hx rfl (hb hby d3_80) (XS.lcmp X7.here hx rfl (hb hby d3_81) rfl k))))) ?_
        by_cases hc82 : (jw - (4 : Int64)) < (0 : Int64)
        · refine own_go (x' := T7.setTop (mkF m 86 #[.val (.ref ao0), .val (.long jw), .second, .val (.long (jw - (4 : Int64))), .second, .val (.int sx), .val (.int 1), .val (.int 0)] [(.int 0)])) (fun _ k => XS.ifNo X7.here hx rfl (hb hby d3_82) rfl ((if0 _ _).trans (tlt ((lw_lt (jw - (4 : Int64)) (0 : Int64)).mpr hc82)).2.1) (XS.iconst X7.here hx rfl (hb hby d3_85) k)) ?_
          refine own_retN X7 hx hlk (t := .boolean) hret (by simp) (hb hby d3_86) (w := (0 : Int32)) rfl ?_ (by decide) (by decide)
          exact ⟨_, rfl, Nf, Kp, by rw [if_pos ⟨hbk, hak⟩]; exact V_nb⟩
        · refine own_go (x' := T7.setTop (mkF m 100 #[.val (.ref ao0), .val (.long jw), .second, .val (.long (jw - (4 : Int64))), .second, .val (.int sx), .val (.int 1), .val (.int 0)] [(.int 0), (.ref ao0)])) (fun _ k => XS.ifYes X7.here hx rfl (pc0 := 82) (pc' := 87) rfl (hb hby d3_82) rfl ((if0 _ _).trans (flt (fun q_ => hc82 ((lw_lt (jw - (4 : Int64)) (0 : Int64)).mp q_))).2.1) (by decide) (by decide) (XS.aloadN X7.here hx rfl (hb hby d3_87) rfl rfl (XS.iload X7.here hx rfl (hb hby d3_88) rfl (XS.bipush X7.here hx rfl (hb hby d3_90) (XS.icmpYes X7.here hx rfl (pc0 := 92) (pc' := 99) rfl (hb hby d3_92) rfl (tlt hsx).1 (by decide) (by decide) (XS.iconst X7.here hx rfl (hb hby d3_99) k)))))) ?_
          obtain ⟨cq8, q8, q8'⟩ := E_ao0.cell
          obtain ⟨_, _, ⟨T8, L8, k8, n8⟩, -, X8, ⟨Lc8, hQ8, l8, y8, z8⟩, st8⟩ := X7.privateBack hx (y := (⟨"com/example/moving_tokens/movingtokens/DualSimplex", "leavingRow", "(Z)I"⟩ : MethodName)) hown (mvT hZ (own_w hw 39 rfl)) (mvT hZ (own_w hw 40 rfl)) (mvT hZ (own_self (y := (⟨"com/example/moving_tokens/movingtokens/DualSimplex", "leavingRow", "(Z)I"⟩ : MethodName)) (own_w hw 2 rfl) (own_w hw 40 rfl) (own_w hw 41 rfl) (by decide))) (Cond.privateMethod_at (mvP hZ (own_w hw 41 rfl) (args := #[]))) (mvT hZ (own_w hw 42 rfl)) (by decide) (backOf (W := 0) (rm4_00 l Z a0 hw [] ao0 va kv (FP.i2d bo) (FP.ddiv (FP.i2d bk) (FP.i2d ak)) T7.heap n0 Zs F_ao0_rows F_ao0_value V_va (mt (own_tol h_bo).mp z_bo) (own_q2 h_bk hbk h_ak hak)) hZ (own_w hw 42 rfl) (own_w hw 3 rfl) (by decide) (by decide)) (g := (mkF m 100 #[.val (.ref ao0), .val (.long jw), .second, .val (.long (jw - (4 : Int64))), .second, .val (.int sx), .val (.int 1), .val (.int 0)] [(.int 0), (.ref ao0)])) rfl (by rw [hml]; rfl) (Steps.refl _) (a := ao0) (Eq.trans (congrArg (fun h_ => h_[_]?) rfl) q8) q8' (argsL := [(.int 0)]) (rest := []) (lenOf pd_0 rfl) rfl (by show 2 * 0 + _ ≤ _; exact Nat.le_of_eq rfl) (hb hby d3_100) (fun _ _ => ⟨rfl, rfl, (by decide : 0 + 0 ≤ _), (by decide : 0 + 0 ≤ _)⟩)
          dsimp only [Pt.U, Pt.locs, Pt.cells, Pt.slots] at X8 l8 y8 z8 st8 hQ8
          subst l8 y8 z8
          obtain ⟨hv8, Nq8, eq8⟩ := hQ8
          subst hv8
          replace Nf := Fr.app Nf Nq8
          refine own_go (x' := T8.setTop (mkF m 103 #[.val (.ref ao0), .val (.long jw), .second, .val (.long (jw - (4 : Int64))), .second, .val (.int sx), .val (.int 1), .val (.int 0)] [(.int (-1))])) (fun _ k => st8.trans k) ?_
          refine own_go (x' := T8.setTop (mkF m 109 #[.val (.ref ao0), .val (.long jw), .second, .val (.long (jw - (4 : Int64))), .second, .val (.int sx), .val (.int (-1)), .val (.int 0)] [(.int 1)])) (fun _ k => XS.istore X8.here hx rfl (hb hby d3_103) rfl (l' := #[.val (.ref ao0), .val (.long jw), .second, .val (.long (jw - (4 : Int64))), .second, .val (.int sx), .val (.int (-1)), .val (.int 0)]) rfl (XS.goto X8.here hx rfl (pc0 := 105) (pc' := 12) rfl (hb hby d3_105) (by decide) (by decide) (XS.iload X8.here hx rfl (hb hby d3_12) rfl (XS.ifYes X8.here hx rfl (pc0 := 14) (pc' := 108) rfl (hb hby d3_14) rfl ((if0 _ _).trans (tlt (by decide +kernel : ((-1 : Int32) < (0 : Int32)))).1) (by decide) (by decide) (XS.iconst X8.here hx rfl (hb hby d3_108) k))))) ?_
          refine own_retN X8 hx hlk (t := .boolean) hret (by simp) (hb hby d3_109) (w := (1 : Int32)) rfl ?_ (by decide) (by decide)
          rw [eq8]
          exact ⟨_, rfl, Nf, Kp, by rw [if_pos ⟨hbk, hak⟩]; exact V_nb⟩
      · refine own_go (x' := T3.setTop (mkF m 74 #[.val (.ref ao0), .val (.long jw), .second, .val (.long jw), .second, .val (.int sx), .val (.int 1), .val (.int 0)] [(.int 0), (.int 1), (.ref ao0), (.long jw)])) (fun _ k => XS.lloadN X3.here hx rfl (hb hby d3_68) rfl (XS.aloadN X3.here hx rfl (hb hby d3_69) rfl rfl (XS.iload X3.here hx rfl (hb hby d3_70) rfl (XS.iload X3.here hx rfl (hb hby d3_72) rfl k)))) ?_
        obtain ⟨cq9, q9, q9'⟩ := E_ao0.cell
        obtain ⟨_, _, ⟨T9, L9, k9, n9⟩, -, X9, ⟨Lc9, hQ9, l9, y9, z9⟩, st9⟩ := X3.privateBack hx (y := (⟨"com/example/moving_tokens/movingtokens/DualSimplex", "pivot", "(II)J"⟩ : MethodName)) hown (mvT hZ (own_w hw 55 rfl)) (mvT hZ (own_w hw 56 rfl)) (mvT hZ (own_self (y := (⟨"com/example/moving_tokens/movingtokens/DualSimplex", "pivot", "(II)J"⟩ : MethodName)) (own_w hw 2 rfl) (own_w hw 56 rfl) (own_w hw 57 rfl) (by decide))) (Cond.privateMethod_at (mvP hZ (own_w hw 57 rfl) (args := #[]))) (mvT hZ (own_w hw 58 rfl)) (by decide) (backOf (W := 2) (rm7_1 l Z a0 hw [] ao0 tb va co bs nb kt kv kc kb kn (FP.i2d aoo) (FP.i2d moo) (FP.i2d ak) (FP.i2d mkk) (FP.i2d bo) (FP.i2d bk) (FP.i2d u0) (FP.i2d u1) h0 n0 Zs F_ao0_rows F_ao0_columns F_ao0_tableau F_ao0_value F_ao0_cost F_ao0_basic F_ao0_nonbasic V_tb V_va V_co V_bs V_nb (Jvm.Free.Fl.i2d_mag aoo) (Jvm.Free.Fl.i2d_mag moo) (Jvm.Free.Fl.i2d_mag ak) (Jvm.Free.Fl.i2d_mag mkk) (Jvm.Free.Fl.i2d_mag bo) (Jvm.Free.Fl.i2d_mag bk) (Jvm.Free.Fl.i2d_mag u0) (Jvm.Free.Fl.i2d_mag u1) (own_bigI (own_ltne hak)) ne_ao0_tb ne_ao0_va ne_ao0_co ne_ao0_bs ne_ao0_nb ne_tb_va ne_tb_co ne_tb_bs ne_tb_nb ne_va_co ne_va_bs ne_va_nb ne_co_bs ne_co_nb ne_bs_nb g_tb g_va g_co g_bs g_nb) hZ (own_w hw 58 rfl) (own_w hw 3 rfl) (by decide) (by decide)) (g := (mkF m 74 #[.val (.ref ao0), .val (.long jw), .second, .val (.long jw), .second, .val (.int sx), .val (.int 1), .val (.int 0)] [(.int 0), (.int 1), (.ref ao0), (.long jw)])) rfl (by rw [hml]; rfl) (Steps.refl _) (a := ao0) (Eq.trans (congrArg (fun h_ => h_[_]?) e3) q9) q9' (argsL := [(.int 1), (.int 0)]) (rest := [(.long jw)]) (lenOf pd_2 rfl) rfl (by show 2 * 0 + _ ≤ _; exact Nat.le_of_eq rfl) (hb hby d3_74) (fun _ _ => ⟨rfl, e3, (by decide : 0 + 0 ≤ _), (by decide : 0 + 0 ≤ _)⟩)
        dsimp only [Pt.U, Pt.locs, Pt.cells, Pt.slots] at X9 l9 y9 z9 st9 hQ9
        subst l9 y9 z9
        obtain ⟨-, hv9, Nq9, K9, Vp9_tb, Vp9_va, Vp9_co, Vp9_bs, Vp9_nb⟩ := hQ9.resolve_left (fun q_ => (mt (own_q6 h_aoo).mp hz) q_.1)
        subst hv9
        replace Nf := Fr.app Nf Nq9
        replace F_ao0_rows := F_ao0_rows.keep K9 (ninS ne_ao0_tb (ninS ne_ao0_va (ninS ne_ao0_co (ninS ne_ao0_bs (ninS ne_ao0_nb nin0)))))
        replace F_ao0_columns := F_ao0_columns.keep K9 (ninS ne_ao0_tb (ninS ne_ao0_va (ninS ne_ao0_co (ninS ne_ao0_bs (ninS ne_ao0_nb nin0)))))
        replace F_ao0_tableau := F_ao0_tableau.keep K9 (ninS ne_ao0_tb (ninS ne_ao0_va (ninS ne_ao0_co (ninS ne_ao0_bs (ninS ne_ao0_nb nin0)))))
        replace F_ao0_value := F_ao0_value.keep K9 (ninS ne_ao0_tb (ninS ne_ao0_va (ninS ne_ao0_co (ninS ne_ao0_bs (ninS ne_ao0_nb nin0)))))
        replace F_ao0_cost := F_ao0_cost.keep K9 (ninS ne_ao0_tb (ninS ne_ao0_va (ninS ne_ao0_co (ninS ne_ao0_bs (ninS ne_ao0_nb nin0)))))
        replace F_ao0_basic := F_ao0_basic.keep K9 (ninS ne_ao0_tb (ninS ne_ao0_va (ninS ne_ao0_co (ninS ne_ao0_bs (ninS ne_ao0_nb nin0)))))
        replace F_ao0_nonbasic := F_ao0_nonbasic.keep K9 (ninS ne_ao0_tb (ninS ne_ao0_va (ninS ne_ao0_co (ninS ne_ao0_bs (ninS ne_ao0_nb nin0)))))
        replace E_ao0 := E_ao0.keep K9
        replace Zs := Nat.le_trans Zs K9.1
        replace Kp := Kp.trans K9 (allS (Or.inl (by simp)) (allS (Or.inl (by simp)) (allS (Or.inl (by simp)) (allS (Or.inl (by simp)) (allS (Or.inl (by simp)) all0)))))
        replace V_tb := Vp9_tb
        replace V_va := Vp9_va
        replace V_co := Vp9_co
        replace V_bs := Vp9_bs
        replace V_nb := Vp9_nb
        refine own_go (x' := T9.setTop (mkF m 77 #[.val (.ref ao0), .val (.long jw), .second, .val (.long jw), .second, .val (.int sx), .val (.int 1), .val (.int 0)] [(.long 6), (.long jw)])) (fun _ k => st9.trans k) ?_
        refine own_go (x' := T9.setTop (mkF m 82 #[.val (.ref ao0), .val (.long jw), .second, .val (.long (jw - (6 : Int64))), .second, .val (.int sx), .val (.int 1), .val (.int 0)] [(.int (lcmpW (jw - (6 : Int64)) (0 : Int64)))])) (fun _ k => XS.lsub X9.here hx rfl (hb hby d3_77) rfl (XS.lstoreN X9.here hx rfl (hb hby d3_78) rfl (l' := #[.val (.ref ao0), .val (.long jw), .second, .val (.long (jw - (6 : Int64))), .second, .val (.int sx), .val (.int 1), .val (.int 0)]) rfl (XS.lloadN X9.here hx rfl (hb hby d3_79) rfl (XS.lconst X9.here hx rfl (hb hby d3_80) (XS.lcmp X9.here hx rfl (hb hby d3_81) rfl k))))) ?_
        by_cases hc82 : (jw - (6 : Int64)) < (0 : Int64)
        · refine own_go (x' := T9.setTop (mkF m 86 #[.val (.ref ao0), .val (.long jw), .second, .val (.long (jw - (6 : Int64))), .second, .val (.int sx), .val (.int 1), .val (.int 0)] [(.int 0)])) (fun _ k => XS.ifNo X9.here hx rfl (hb hby d3_82) rfl ((if0 _ _).trans (tlt ((lw_lt (jw - (6 : Int64)) (0 : Int64)).mpr hc82)).2.1) (XS.iconst X9.here hx rfl (hb hby d3_85) k)) ?_
          refine own_retN X9 hx hlk (t := .boolean) hret (by simp) (hb hby d3_86) (w := (0 : Int32)) rfl ?_ (by decide) (by decide)
          exact ⟨_, rfl, Nf, Kp, by rw [if_pos ⟨hbk, hak⟩]; exact V_nb⟩
        · refine own_go (x' := T9.setTop (mkF m 99 #[.val (.ref ao0), .val (.long jw), .second, .val (.long (jw - (6 : Int64))), .second, .val (.int sx), .val (.int 1), .val (.int 0)] [(.ref ao0)])) (fun _ k => XS.ifYes X9.here hx rfl (pc0 := 82) (pc' := 87) rfl (hb hby d3_82) rfl ((if0 _ _).trans (flt (fun q_ => hc82 ((lw_lt (jw - (6 : Int64)) (0 : Int64)).mp q_))).2.1) (by decide) (by decide) (XS.aloadN X9.here hx rfl (hb hby d3_87) rfl rfl (XS.iload X9.here hx rfl (hb hby d3_88) rfl (XS.bipush X9.here hx rfl (hb hby d3_90) (XS.icmpYes X9.here hx rfl (pc0 := 92) (pc' := 99) rfl (hb hby d3_92) rfl (tlt hsx).1 (by decide) (by decide) k))))) ?_
          by_cases hng : own_neg (FP.dsub (FP.i2d bo) (FP.dmul (FP.i2d aoo) (FP.ddiv (FP.i2d bk) (FP.i2d ak))))
          · have hpos : ¬ aoo < 0 := fun q_ => own_q3 h_bk hbk h_ak hak h_aoo q_ h_bo z_bo hng
            refine own_go (x' := T9.setTop (mkF m 100 #[.val (.ref ao0), .val (.long jw), .second, .val (.long (jw - (6 : Int64))), .second, .val (.int sx), .val (.int 1), .val (.int 0)] [(.int 0), (.ref ao0)])) (fun _ k => XS.iconst X9.here hx rfl (hb hby d3_99) k) ?_
            obtain ⟨cq10, q10, q10'⟩ := E_ao0.cell
            obtain ⟨_, _, ⟨T10, L10, k10, n10⟩, -, X10, ⟨Lc10, hQ10, l10, y10, z10⟩, st10⟩ := X9.privateBack hx (y := (⟨"com/example/moving_tokens/movingtokens/DualSimplex", "leavingRow", "(Z)I"⟩ : MethodName)) hown (mvT hZ (own_w hw 39 rfl)) (mvT hZ (own_w hw 40 rfl)) (mvT hZ (own_self (y := (⟨"com/example/moving_tokens/movingtokens/DualSimplex", "leavingRow", "(Z)I"⟩ : MethodName)) (own_w hw 2 rfl) (own_w hw 40 rfl) (own_w hw 41 rfl) (by decide))) (Cond.privateMethod_at (mvP hZ (own_w hw 41 rfl) (args := #[]))) (mvT hZ (own_w hw 42 rfl)) (by decide) (backOf (W := 0) (rm4_10 l Z a0 hw [] ao0 va kv (FP.dsub (FP.i2d bo) (FP.dmul (FP.i2d aoo) (FP.ddiv (FP.i2d bk) (FP.i2d ak)))) (FP.ddiv (FP.i2d bk) (FP.i2d ak)) T9.heap n0 Zs F_ao0_rows F_ao0_value V_va hng (own_q2 h_bk hbk h_ak hak)) hZ (own_w hw 42 rfl) (own_w hw 3 rfl) (by decide) (by decide)) (g := (mkF m 100 #[.val (.ref ao0), .val (.long jw), .second, .val (.long (jw - (6 : Int64))), .second, .val (.int sx), .val (.int 1), .val (.int 0)] [(.int 0), (.ref ao0)])) rfl (by rw [hml]; rfl) (Steps.refl _) (a := ao0) (Eq.trans (congrArg (fun h_ => h_[_]?) rfl) q10) q10' (argsL := [(.int 0)]) (rest := []) (lenOf pd_0 rfl) rfl (by show 2 * 0 + _ ≤ _; exact Nat.le_of_eq rfl) (hb hby d3_100) (fun _ _ => ⟨rfl, rfl, (by decide : 0 + 0 ≤ _), (by decide : 0 + 0 ≤ _)⟩)
            dsimp only [Pt.U, Pt.locs, Pt.cells, Pt.slots] at X10 l10 y10 z10 st10 hQ10
            subst l10 y10 z10
            obtain ⟨hv10, Nq10, eq10⟩ := hQ10
            subst hv10
            replace Nf := Fr.app Nf Nq10
            refine own_go (x' := T10.setTop (mkF m 103 #[.val (.ref ao0), .val (.long jw), .second, .val (.long (jw - (6 : Int64))), .second, .val (.int sx), .val (.int 1), .val (.int 0)] [(.int 0)])) (fun _ k => st10.trans k) ?_
            refine own_go (x' := T10.setTop (mkF m 20 #[.val (.ref ao0), .val (.long jw), .second, .val (.long (jw - (6 : Int64))), .second, .val (.int sx), .val (.int 0), .val (.int 0)] [(.int 0), (.ref ao0)])) (fun _ k => XS.istore X10.here hx rfl (hb hby d3_103) rfl (l' := #[.val (.ref ao0), .val (.long jw), .second, .val (.long (jw - (6 : Int64))), .second, .val (.int sx), .val (.int 0), .val (.int 0)]) rfl (XS.goto X10.here hx rfl (pc0 := 105) (pc' := 12) rfl (hb hby d3_105) (by decide) (by decide) (XS.iload X10.here hx rfl (hb hby d3_12) rfl (XS.ifNo X10.here hx rfl (hb hby d3_14) rfl ((if0 _ _).trans (flt (Int32.lt_irrefl)).1) (XS.aloadN X10.here hx rfl (hb hby d3_17) rfl rfl (XS.iload X10.here hx rfl (hb hby d3_18) rfl k)))))) ?_
            refine own_go (x' := T10.setTop (mkF m 32 #[.val (.ref ao0), .val (.long jw), .second, .val (.long (jw - (6 : Int64))), .second, .val (.int sx), .val (.int 0), .val (.int 0)] [(.int 0), (.int 0), (.ref ao0)])) (fun _ k => XS.iload X10.here hx rfl (hb hby d3_20) rfl (XS.bipush X10.here hx rfl (hb hby d3_22) (XS.icmpYes X10.here hx rfl (pc0 := 24) (pc' := 31) rfl (hb hby d3_24) rfl (tlt hsx).1 (by decide) (by decide) (XS.iconst X10.here hx rfl (hb hby d3_31) k)))) ?_
            obtain ⟨cq11, q11, q11'⟩ := E_ao0.cell
            obtain ⟨_, _, ⟨T11, L11, k11, n11⟩, -, X11, ⟨Lc11, hQ11, l11, y11, z11⟩, st11⟩ := X10.privateBack hx (y := (⟨"com/example/moving_tokens/movingtokens/DualSimplex", "enteringColumn", "(IZ)I"⟩ : MethodName)) hown (mvT hZ (own_w hw 50 rfl)) (mvT hZ (own_w hw 51 rfl)) (mvT hZ (own_self (y := (⟨"com/example/moving_tokens/movingtokens/DualSimplex", "enteringColumn", "(IZ)I"⟩ : MethodName)) (own_w hw 2 rfl) (own_w hw 51 rfl) (own_w hw 52 rfl) (by decide))) (Cond.privateMethod_at (mvP hZ (own_w hw 52 rfl) (args := #[]))) (mvT hZ (own_w hw 53 rfl)) (by decide) (backOf (W := 0) (rm6_00 l Z a0 hw [] ao0 tb co kt kc (FP.ddiv (FP.dneg (FP.i2d aoo)) (FP.i2d ak)) (FP.dsub (FP.i2d moo) (FP.dmul (FP.i2d aoo) (FP.ddiv (FP.i2d mkk) (FP.i2d ak)))) (FP.ddiv (4607182418800017408 : UInt64) (FP.i2d ak)) (FP.ddiv (FP.i2d mkk) (FP.i2d ak)) (FP.ddiv (FP.dneg (FP.i2d u0)) (FP.i2d ak)) (FP.dsub (FP.i2d u1) (FP.dmul (FP.i2d u0) (FP.ddiv (FP.i2d mkk) (FP.i2d ak)))) T9.heap n0 Zs F_ao0_columns F_ao0_tableau F_ao0_cost V_tb V_co  (own_q4 h_ak hak h_aoo hpos) (own_q5 h_mkk z_mkk h_ak hak h_aoo hpos h_moo z_moo)) hZ (own_w hw 53 rfl) (own_w hw 3 rfl) (by decide) (by decide)) (g := (mkF m 32 #[.val (.ref ao0), .val (.long jw), .second, .val (.long (jw - (6 : Int64))), .second, .val (.int sx), .val (.int 0), .val (.int 0)] [(.int 0), (.int 0), (.ref ao0)])) rfl (by rw [hml]; rfl) (Steps.refl _) (a := ao0) (Eq.trans (congrArg (fun h_ => h_[_]?) eq10) q11) q11' (argsL := [(.int 0), (.int 0)]) (rest := []) (lenOf pd_1 rfl) rfl (by show 2 * 0 + _ ≤ _; exact Nat.le_of_eq rfl) (hb hby d3_32) (fun _ _ => ⟨rfl, eq10, (by decide : 0 + 0 ≤ _), (by decide : 0 + 0 ≤ _)⟩)
            dsimp only [Pt.U, Pt.locs, Pt.cells, Pt.slots] at X11 l11 y11 z11 st11 hQ11
            subst l11 y11 z11
            obtain ⟨hv11, Nq11, eq11⟩ := hQ11
            subst hv11
            replace Nf := Fr.app Nf Nq11
            refine own_go (x' := T11.setTop (mkF m 35 #[.val (.ref ao0), .val (.long jw), .second, .val (.long (jw - (6 : Int64))), .second, .val (.int sx), .val (.int 0), .val (.int 0)] [(.int (-1))])) (fun _ k => st11.trans k) ?_
            refine own_go (x' := T11.setTop (mkF m 43 #[.val (.ref ao0), .val (.long jw), .second, .val (.long (jw - (6 : Int64))), .second, .val (.int sx), .val (.int 0), .val (.int (-1))] [(.int 0)])) (fun _ k => XS.istore X11.here hx rfl (hb hby d3_35) rfl (l' := #[.val (.ref ao0), .val (.long jw), .second, .val (.long (jw - (6 : Int64))), .second, .val (.int sx), .val (.int 0), .val (.int (-1))]) rfl (XS.iload X11.here hx rfl (hb hby d3_37) rfl (XS.ifNo X11.here hx rfl (hb hby d3_39) rfl ((if0 _ _).trans (tlt (by decide +kernel : ((-1 : Int32) < (0 : Int32)))).2.1) (XS.iconst X11.here hx rfl (hb hby d3_42) k)))) ?_
            refine own_retN X11 hx hlk (t := .boolean) hret (by simp) (hb hby d3_43) (w := (0 : Int32)) rfl ?_ (by decide) (by decide)
            rw [eq11]
            exact ⟨_, rfl, Nf, Kp, by rw [if_pos ⟨hbk, hak⟩]; exact V_nb⟩
          · refine own_go (x' := T9.setTop (mkF m 100 #[.val (.ref ao0), .val (.long jw), .second, .val (.long (jw - (6 : Int64))), .second, .val (.int sx), .val (.int 1), .val (.int 0)] [(.int 0), (.ref ao0)])) (fun _ k => XS.iconst X9.here hx rfl (hb hby d3_99) k) ?_
            obtain ⟨cq12, q12, q12'⟩ := E_ao0.cell
            obtain ⟨_, _, ⟨T12, L12, k12, n12⟩, -, X12, ⟨Lc12, hQ12, l12, y12, z12⟩, st12⟩ := X9.privateBack hx (y := (⟨"com/example/moving_tokens/movingtokens/DualSimplex", "leavingRow", "(Z)I"⟩ : MethodName)) hown (mvT hZ (own_w hw 39 rfl)) (mvT hZ (own_w hw 40 rfl)) (mvT hZ (own_self (y := (⟨"com/example/moving_tokens/movingtokens/DualSimplex", "leavingRow", "(Z)I"⟩ : MethodName)) (own_w hw 2 rfl) (own_w hw 40 rfl) (own_w hw 41 rfl) (by decide))) (Cond.privateMethod_at (mvP hZ (own_w hw 41 rfl) (args := #[]))) (mvT hZ (own_w hw 42 rfl)) (by decide) (backOf (W := 0) (rm4_00 l Z a0 hw [] ao0 va kv (FP.dsub (FP.i2d bo) (FP.dmul (FP.i2d aoo) (FP.ddiv (FP.i2d bk) (FP.i2d ak)))) (FP.ddiv (FP.i2d bk) (FP.i2d ak)) T9.heap n0 Zs F_ao0_rows F_ao0_value V_va hng (own_q2 h_bk hbk h_ak hak)) hZ (own_w hw 42 rfl) (own_w hw 3 rfl) (by decide) (by decide)) (g := (mkF m 100 #[.val (.ref ao0), .val (.long jw), .second, .val (.long (jw - (6 : Int64))), .second, .val (.int sx), .val (.int 1), .val (.int 0)] [(.int 0), (.ref ao0)])) rfl (by rw [hml]; rfl) (Steps.refl _) (a := ao0) (Eq.trans (congrArg (fun h_ => h_[_]?) rfl) q12) q12' (argsL := [(.int 0)]) (rest := []) (lenOf pd_0 rfl) rfl (by show 2 * 0 + _ ≤ _; exact Nat.le_of_eq rfl) (hb hby d3_100) (fun _ _ => ⟨rfl, rfl, (by decide : 0 + 0 ≤ _), (by decide : 0 + 0 ≤ _)⟩)
            dsimp only [Pt.U, Pt.locs, Pt.cells, Pt.slots] at X12 l12 y12 z12 st12 hQ12
            subst l12 y12 z12
            obtain ⟨hv12, Nq12, eq12⟩ := hQ12
            subst hv12
            replace Nf := Fr.app Nf Nq12
            refine own_go (x' := T12.setTop (mkF m 103 #[.val (.ref ao0), .val (.long jw), .second, .val (.long (jw - (6 : Int64))), .second, .val (.int sx), .val (.int 1), .val (.int 0)] [(.int (-1))])) (fun _ k => st12.trans k) ?_
            refine own_go (x' := T12.setTop (mkF m 109 #[.val (.ref ao0), .val (.long jw), .second, .val (.long (jw - (6 : Int64))), .second, .val (.int sx), .val (.int (-1)), .val (.int 0)] [(.int 1)])) (fun _ k => XS.istore X12.here hx rfl (hb hby d3_103) rfl (l' := #[.val (.ref ao0), .val (.long jw), .second, .val (.long (jw - (6 : Int64))), .second, .val (.int sx), .val (.int (-1)), .val (.int 0)]) rfl (XS.goto X12.here hx rfl (pc0 := 105) (pc' := 12) rfl (hb hby d3_105) (by decide) (by decide) (XS.iload X12.here hx rfl (hb hby d3_12) rfl (XS.ifYes X12.here hx rfl (pc0 := 14) (pc' := 108) rfl (hb hby d3_14) rfl ((if0 _ _).trans (tlt (by decide +kernel : ((-1 : Int32) < (0 : Int32)))).1) (by decide) (by decide) (XS.iconst X12.here hx rfl (hb hby d3_108) k))))) ?_
            refine own_retN X12 hx hlk (t := .boolean) hret (by simp) (hb hby d3_109) (w := (1 : Int32)) rfl ?_ (by decide) (by decide)
            rw [eq12]
            exact ⟨_, rfl, Nf, Kp, by rw [if_pos ⟨hbk, hak⟩]; exact V_nb⟩
    · refine own_go (x' := T1.setTop (mkF m 32 #[.val (.ref ao0), .val (.long jw), .second, .val (.long jw), .second, .val (.int 0), .val (.int 1), .unset] [(.int 0), (.int 1), (.ref ao0)])) (fun _ k => XS.aloadN X1.here hx rfl (hb hby d3_17) rfl rfl (XS.iload X1.here hx rfl (hb hby d3_18) rfl (XS.iload X1.here hx rfl (hb hby d3_20) rfl (XS.bipush X1.here hx rfl (hb hby d3_22) (XS.icmpYes X1.here hx rfl (pc0 := 24) (pc' := 31) rfl (hb hby d3_24) rfl (tlt (by decide +kernel : ((0 : Int32) < (50 : Int32)))).1 (by decide) (by decide) (XS.iconst X1.here hx rfl (hb hby d3_31) k)))))) ?_
      obtain ⟨cq13, q13, q13'⟩ := E_ao0.cell
      obtain ⟨_, _, ⟨T13, L13, k13, n13⟩, -, X13, ⟨Lc13, hQ13, l13, y13, z13⟩, st13⟩ := X1.privateBack hx (y := (⟨"com/example/moving_tokens/movingtokens/DualSimplex", "enteringColumn", "(IZ)I"⟩ : MethodName)) hown (mvT hZ (own_w hw 50 rfl)) (mvT hZ (own_w hw 51 rfl)) (mvT hZ (own_self (y := (⟨"com/example/moving_tokens/movingtokens/DualSimplex", "enteringColumn", "(IZ)I"⟩ : MethodName)) (own_w hw 2 rfl) (own_w hw 51 rfl) (own_w hw 52 rfl) (by decide))) (Cond.privateMethod_at (mvP hZ (own_w hw 52 rfl) (args := #[]))) (mvT hZ (own_w hw 53 rfl)) (by decide) (backOf (W := 0) (rm6_10 l Z a0 hw [] ao0 tb co kt kc (FP.i2d aoo) (FP.i2d moo) (FP.i2d ak) (FP.i2d mkk) (FP.i2d u0) (FP.i2d u1) h0 n0 Zs F_ao0_columns F_ao0_tableau F_ao0_cost V_tb V_co  (mt (own_tol h_ak).mp hak) (mt (own_tol h_mkk).mp z_mkk)) hZ (own_w hw 53 rfl) (own_w hw 3 rfl) (by decide) (by decide)) (g := (mkF m 32 #[.val (.ref ao0), .val (.long jw), .second, .val (.long jw), .second, .val (.int 0), .val (.int 1), .unset] [(.int 0), (.int 1), (.ref ao0)])) rfl (by rw [hml]; rfl) (Steps.refl _) (a := ao0) (Eq.trans (congrArg (fun h_ => h_[_]?) eq1) q13) q13' (argsL := [(.int 1), (.int 0)]) (rest := []) (lenOf pd_1 rfl) rfl (by show 2 * 0 + _ ≤ _; exact Nat.le_of_eq rfl) (hb hby d3_32) (fun _ _ => ⟨rfl, eq1, (by decide : 0 + 0 ≤ _), (by decide : 0 + 0 ≤ _)⟩)
      dsimp only [Pt.U, Pt.locs, Pt.cells, Pt.slots] at X13 l13 y13 z13 st13 hQ13
      subst l13 y13 z13
      obtain ⟨hv13, Nq13, eq13⟩ := hQ13
      subst hv13
      replace Nf := Fr.app Nf Nq13
      refine own_go (x' := T13.setTop (mkF m 35 #[.val (.ref ao0), .val (.long jw), .second, .val (.long jw), .second, .val (.int 0), .val (.int 1), .unset] [(.int (-1))])) (fun _ k => st13.trans k) ?_
      refine own_go (x' := T13.setTop (mkF m 43 #[.val (.ref ao0), .val (.long jw), .second, .val (.long jw), .second, .val (.int 0), .val (.int 1), .val (.int (-1))] [(.int 0)])) (fun _ k => XS.istore X13.here hx rfl (hb hby d3_35) rfl (l' := #[.val (.ref ao0), .val (.long jw), .second, .val (.long jw), .second, .val (.int 0), .val (.int 1), .val (.int (-1))]) rfl (XS.iload X13.here hx rfl (hb hby d3_37) rfl (XS.ifNo X13.here hx rfl (hb hby d3_39) rfl ((if0 _ _).trans (tlt (by decide +kernel : ((-1 : Int32) < (0 : Int32)))).2.1) (XS.iconst X13.here hx rfl (hb hby d3_42) k)))) ?_
      refine own_retN X13 hx hlk (t := .boolean) hret (by simp) (hb hby d3_43) (w := (0 : Int32)) rfl ?_ (by decide) (by decide)
      rw [eq13]
      exact ⟨_, rfl, Nf, Kp, by rw [if_neg (fun q_ => hak q_.2)]; exact V_nb⟩
  · refine own_go (x' := s₁.setTop (mkF m 7 #[.val (.ref ao0), .val (.long jw), .second, .val (.long jw), .second, .val (.int 0), .unset, .unset] [(.int 0), (.ref ao0)])) (fun _ k => XS.aloadN X0.here hx rfl (hb hby d3_5) rfl rfl (XS.iconst X0.here hx rfl (hb hby d3_6) k)) ?_
    obtain ⟨cq14, q14, q14'⟩ := E_ao0.cell
    obtain ⟨_, _, ⟨T14, L14, k14, n14⟩, -, X14, ⟨Lc14, hQ14, l14, y14, z14⟩, st14⟩ := X0.privateBack hx (y := (⟨"com/example/moving_tokens/movingtokens/DualSimplex", "leavingRow", "(Z)I"⟩ : MethodName)) hown (mvT hZ (own_w hw 39 rfl)) (mvT hZ (own_w hw 40 rfl)) (mvT hZ (own_self (y := (⟨"com/example/moving_tokens/movingtokens/DualSimplex", "leavingRow", "(Z)I"⟩ : MethodName)) (own_w hw 2 rfl) (own_w hw 40 rfl) (own_w hw 41 rfl) (by decide))) (Cond.privateMethod_at (mvP hZ (own_w hw 41 rfl) (args := #[]))) (mvT hZ (own_w hw 42 rfl)) (by decide) (backOf (W := 0) (rm4_00 l Z a0 hw [] ao0 va kv (FP.i2d bo) (FP.i2d bk) h0 n0 Zs F_ao0_rows F_ao0_value V_va (mt (own_tol h_bo).mp z_bo) (mt (own_tol h_bk).mp hbk)) hZ (own_w hw 42 rfl) (own_w hw 3 rfl) (by decide) (by decide)) (g := (mkF m 7 #[.val (.ref ao0), .val (.long jw), .second, .val (.long jw), .second, .val (.int 0), .unset, .unset] [(.int 0), (.ref ao0)])) rfl (by rw [hml]; rfl) (Steps.refl _) (a := ao0) (Eq.trans (congrArg (fun h_ => h_[_]?) e0) q14) q14' (argsL := [(.int 0)]) (rest := []) (lenOf pd_0 rfl) rfl (by show 2 * 0 + _ ≤ _; exact Nat.le_of_eq rfl) (hb hby d3_7) (fun _ _ => ⟨rfl, e0, (by decide : 0 + 0 ≤ _), (by decide : 0 + 0 ≤ _)⟩)
    dsimp only [Pt.U, Pt.locs, Pt.cells, Pt.slots] at X14 l14 y14 z14 st14 hQ14
    subst l14 y14 z14
    obtain ⟨hv14, Nq14, eq14⟩ := hQ14
    subst hv14
    replace Nf := Fr.app Nf Nq14
    refine own_go (x' := T14.setTop (mkF m 10 #[.val (.ref ao0), .val (.long jw), .second, .val (.long jw), .second, .val (.int 0), .unset, .unset] [(.int (-1))])) (fun _ k => st14.trans k) ?_
    refine own_go (x' := T14.setTop (mkF m 109 #[.val (.ref ao0), .val (.long jw), .second, .val (.long jw), .second, .val (.int 0), .val (.int (-1)), .unset] [(.int 1)])) (fun _ k => XS.istore X14.here hx rfl (hb hby d3_10) rfl (l' := #[.val (.ref ao0), .val (.long jw), .second, .val (.long jw), .second, .val (.int 0), .val (.int (-1)), .unset]) rfl (XS.iload X14.here hx rfl (hb hby d3_12) rfl (XS.ifYes X14.here hx rfl (pc0 := 14) (pc' := 108) rfl (hb hby d3_14) rfl ((if0 _ _).trans (tlt (by decide +kernel : ((-1 : Int32) < (0 : Int32)))).1) (by decide) (by decide) (XS.iconst X14.here hx rfl (hb hby d3_108) k)))) ?_
    refine own_retN X14 hx hlk (t := .boolean) hret (by simp) (hb hby d3_109) (w := (1 : Int32)) rfl ?_ (by decide) (by decide)
    rw [eq14]
    exact ⟨_, rfl, Nf, Kp, by rw [if_neg (fun q_ => hbk q_.1)]; exact V_nb⟩
theorem d1_0 : decode prog_14_method_1_code 0 = .ok (.aload_n 0, 1) := by decide +kernel
theorem d1_1 : decode prog_14_method_1_code 1 = .ok (.invokespecial 1, 3) := by decide +kernel
theorem d1_4 : decode prog_14_method_1_code 4 = .ok (.aload_n 0, 1) := by decide +kernel
theorem d1_5 : decode prog_14_method_1_code 5 = .ok (.aload_n 2, 1) := by decide +kernel
theorem d1_6 : decode prog_14_method_1_code 6 = .ok (.arraylength, 1) := by decide +kernel
theorem d1_7 : decode prog_14_method_1_code 7 = .ok (.putfield 7, 3) := by decide +kernel
theorem d1_10 : decode prog_14_method_1_code 10 = .ok (.aload_n 0, 1) := by decide +kernel
theorem d1_11 : decode prog_14_method_1_code 11 = .ok (.aload_n 3, 1) := by decide +kernel
theorem d1_12 : decode prog_14_method_1_code 12 = .ok (.arraylength, 1) := by decide +kernel
theorem d1_13 : decode prog_14_method_1_code 13 = .ok (.putfield 13, 3) := by decide +kernel
theorem d1_16 : decode prog_14_method_1_code 16 = .ok (.aload_n 0, 1) := by decide +kernel
theorem d1_17 : decode prog_14_method_1_code 17 = .ok (.aload_n 1, 1) := by decide +kernel
theorem d1_18 : decode prog_14_method_1_code 18 = .ok (.putfield 16, 3) := by decide +kernel
theorem d1_21 : decode prog_14_method_1_code 21 = .ok (.aload_n 0, 1) := by decide +kernel
theorem d1_22 : decode prog_14_method_1_code 22 = .ok (.aload_n 2, 1) := by decide +kernel
theorem d1_23 : decode prog_14_method_1_code 23 = .ok (.invokevirtual 20, 3) := by decide +kernel
theorem d1_26 : decode prog_14_method_1_code 26 = .ok (.checkcast 21, 3) := by decide +kernel
theorem d1_29 : decode prog_14_method_1_code 29 = .ok (.putfield 25, 3) := by decide +kernel
theorem d1_32 : decode prog_14_method_1_code 32 = .ok (.aload_n 0, 1) := by decide +kernel
theorem d1_33 : decode prog_14_method_1_code 33 = .ok (.aload_n 3, 1) := by decide +kernel
theorem d1_34 : decode prog_14_method_1_code 34 = .ok (.invokevirtual 20, 3) := by decide +kernel
theorem d1_37 : decode prog_14_method_1_code 37 = .ok (.checkcast 21, 3) := by decide +kernel
theorem d1_40 : decode prog_14_method_1_code 40 = .ok (.putfield 28, 3) := by decide +kernel
theorem d1_43 : decode prog_14_method_1_code 43 = .ok (.aload_n 0, 1) := by decide +kernel
theorem d1_44 : decode prog_14_method_1_code 44 = .ok (.aload_n 0, 1) := by decide +kernel
theorem d1_45 : decode prog_14_method_1_code 45 = .ok (.getfield 7, 3) := by decide +kernel
theorem d1_48 : decode prog_14_method_1_code 48 = .ok (.newarray .int, 2) := by decide +kernel
theorem d1_50 : decode prog_14_method_1_code 50 = .ok (.putfield 31, 3) := by decide +kernel
theorem d1_53 : decode prog_14_method_1_code 53 = .ok (.aload_n 0, 1) := by decide +kernel
theorem d1_54 : decode prog_14_method_1_code 54 = .ok (.aload_n 0, 1) := by decide +kernel
theorem d1_55 : decode prog_14_method_1_code 55 = .ok (.getfield 13, 3) := by decide +kernel
theorem d1_58 : decode prog_14_method_1_code 58 = .ok (.newarray .int, 2) := by decide +kernel
theorem d1_60 : decode prog_14_method_1_code 60 = .ok (.putfield 35, 3) := by decide +kernel
theorem d1_63 : decode prog_14_method_1_code 63 = .ok (.iconst 0, 1) := by decide +kernel
theorem d1_64 : decode prog_14_method_1_code 64 = .ok (.istore 4, 2) := by decide +kernel
theorem d1_66 : decode prog_14_method_1_code 66 = .ok (.iload 4, 2) := by decide +kernel
theorem d1_68 : decode prog_14_method_1_code 68 = .ok (.aload_n 0, 1) := by decide +kernel
theorem d1_69 : decode prog_14_method_1_code 69 = .ok (.getfield 7, 3) := by decide +kernel
theorem d1_72 : decode prog_14_method_1_code 72 = .ok (.if_icmp .ge 23, 3) := by decide +kernel
theorem d1_75 : decode prog_14_method_1_code 75 = .ok (.aload_n 0, 1) := by decide +kernel
theorem d1_76 : decode prog_14_method_1_code 76 = .ok (.getfield 31, 3) := by decide +kernel
theorem d1_79 : decode prog_14_method_1_code 79 = .ok (.iload 4, 2) := by decide +kernel
theorem d1_81 : decode prog_14_method_1_code 81 = .ok (.aload_n 0, 1) := by decide +kernel
theorem d1_82 : decode prog_14_method_1_code 82 = .ok (.getfield 13, 3) := by decide +kernel
theorem d1_85 : decode prog_14_method_1_code 85 = .ok (.iload 4, 2) := by decide +kernel
theorem d1_87 : decode prog_14_method_1_code 87 = .ok (.iadd, 1) := by decide +kernel
theorem d1_88 : decode prog_14_method_1_code 88 = .ok (.iastore, 1) := by decide +kernel
theorem d1_89 : decode prog_14_method_1_code 89 = .ok (.iinc 4 1, 3) := by decide +kernel
theorem d1_92 : decode prog_14_method_1_code 92 = .ok (.goto (-26), 3) := by decide +kernel
theorem d1_95 : decode prog_14_method_1_code 95 = .ok (.iconst 0, 1) := by decide +kernel
theorem d1_96 : decode prog_14_method_1_code 96 = .ok (.istore 4, 2) := by decide +kernel
theorem d1_98 : decode prog_14_method_1_code 98 = .ok (.iload 4, 2) := by decide +kernel
theorem d1_100 : decode prog_14_method_1_code 100 = .ok (.aload_n 0, 1) := by decide +kernel
theorem d1_101 : decode prog_14_method_1_code 101 = .ok (.getfield 13, 3) := by decide +kernel
theorem d1_104 : decode prog_14_method_1_code 104 = .ok (.if_icmp .ge 18, 3) := by decide +kernel
theorem d1_107 : decode prog_14_method_1_code 107 = .ok (.aload_n 0, 1) := by decide +kernel
theorem d1_108 : decode prog_14_method_1_code 108 = .ok (.getfield 35, 3) := by decide +kernel
theorem d1_111 : decode prog_14_method_1_code 111 = .ok (.iload 4, 2) := by decide +kernel
theorem d1_113 : decode prog_14_method_1_code 113 = .ok (.iload 4, 2) := by decide +kernel
theorem d1_115 : decode prog_14_method_1_code 115 = .ok (.iastore, 1) := by decide +kernel
theorem d1_116 : decode prog_14_method_1_code 116 = .ok (.iinc 4 1, 3) := by decide +kernel
theorem d1_119 : decode prog_14_method_1_code 119 = .ok (.goto (-21), 3) := by decide +kernel
theorem d1_122 : decode prog_14_method_1_code 122 = .ok (.return_, 1) := by decide +kernel
def Q_rm1 (Z : State) (ao0 tb ab ac : Addr) (kt kab kac : ClassId) (t0 t1 t2 t3 : UInt64) (w0 w1 : UInt64) (c0 c1 : UInt64) (h0 : Heap) (n0 : Nat) (v : Option Value) (h : Heap) (L : List Loc) : Prop := ∃ (va co bs nb : Addr) (kv kc kb kn : ClassId), v = none ∧ Fr n0 L ∧ Keep h0 h [ao0] ∧ h0.size ≤ va ∧ h0.size ≤ co ∧ h0.size ≤ bs ∧ h0.size ≤ nb ∧ va ≠ co ∧ va ≠ bs ∧ va ≠ nb ∧ co ≠ bs ∧ co ≠ nb ∧ bs ≠ nb ∧ n0 ≤ va ∧ n0 ≤ co ∧ n0 ≤ bs ∧ n0 ≤ nb ∧ Exa Z h ao0 "com/example/moving_tokens/movingtokens/DualSimplex" ∧ Fld Z h ao0 "com/example/moving_tokens/movingtokens/DualSimplex" "rows" "I" (.int 2) ∧ Fld Z h ao0 "com/example/moving_tokens/movingtokens/DualSimplex" "columns" "I" (.int 2) ∧ Fld Z h ao0 "com/example/moving_tokens/movingtokens/DualSimplex" "tableau" "[D" (.ref tb) ∧ Fld Z h ao0 "com/example/moving_tokens/movingtokens/DualSimplex" "value" "[D" (.ref va) ∧ Fld Z h ao0 "com/example/moving_tokens/movingtokens/DualSimplex" "cost" "[D" (.ref co) ∧ Fld Z h ao0 "com/example/moving_tokens/movingtokens/DualSimplex" "basic" "[I" (.ref bs) ∧ Fld Z h ao0 "com/example/moving_tokens/movingtokens/DualSimplex" "nonbasic" "[I" (.ref nb) ∧ Arv Z h va kv .double (2 : Int32) [(.double w0), (.double w1)] (.double 0) ∧ Arv Z h co kc .double (2 : Int32) [(.double c0), (.double c1)] (.double 0) ∧ Arv Z h bs kb .int (2 : Int32) [(.int 2), (.int 3)] (.int (0 : Int32)) ∧ Arv Z h nb kn .int (2 : Int32) [(.int 0), (.int 1)] (.int (0 : Int32))
theorem pn_rm1 : plainName "com/example/moving_tokens/movingtokens/DualSimplex" = true := by first | (simp [plainName, overriddenIn]; done) | decide +kernel
theorem ef_rm1 (m : MethodId) (x0 : Addr) (x1 : Addr) (x2 : Addr) (x3 : Addr) : entryFrame m #[(.ref x0), (.ref x1), (.ref x2), (.ref x3)] 5 = mkF m 0 #[.val (.ref x0), .val (.ref x1), .val (.ref x2), .val (.ref x3), .unset] [] := by first | (simp [entryFrame, mkF, argsToLocals, Value.category]; done) | rfl
set_option maxRecDepth 65536 in
set_option maxHeartbeats 40000000 in
theorem rm1 (l : Launch) (Z : State) (a0 : Array Value) (hw : ∀ d ∈ tables_1, d.before a0 Z = true) (ws : List Jvm.Cond) (ao0 tb ab ac : Addr) (kt kab kac : ClassId) (t0 t1 t2 t3 : UInt64) (w0 w1 : UInt64) (c0 c1 : UInt64) (h0 : Heap) (n0 : Nat) (Z0 : n0 ≤ h0.size) (E_ao0 : Exa Z h0 ao0 "com/example/moving_tokens/movingtokens/DualSimplex") (F_ao0_rows : Fld Z h0 ao0 "com/example/moving_tokens/movingtokens/DualSimplex" "rows" "I" (.int 0)) (F_ao0_columns : Fld Z h0 ao0 "com/example/moving_tokens/movingtokens/DualSimplex" "columns" "I" (.int 0)) (F_ao0_tableau : Fld Z h0 ao0 "com/example/moving_tokens/movingtokens/DualSimplex" "tableau" "[D" .null) (F_ao0_value : Fld Z h0 ao0 "com/example/moving_tokens/movingtokens/DualSimplex" "value" "[D" .null) (F_ao0_cost : Fld Z h0 ao0 "com/example/moving_tokens/movingtokens/DualSimplex" "cost" "[D" .null) (F_ao0_basic : Fld Z h0 ao0 "com/example/moving_tokens/movingtokens/DualSimplex" "basic" "[I" .null) (F_ao0_nonbasic : Fld Z h0 ao0 "com/example/moving_tokens/movingtokens/DualSimplex" "nonbasic" "[I" .null) (V_tb : Arv Z h0 tb kt .double (4 : Int32) [(.double t0), (.double t1), (.double t2), (.double t3)] (.double 0)) (V_ab : Arv Z h0 ab kab .double (2 : Int32) [(.double w0), (.double w1)] (.double 0)) (V_ac : Arv Z h0 ac kac .double (2 : Int32) [(.double c0), (.double c1)] (.double 0)) (E_ab : Exa Z h0 ab "[D") (E_ac : Exa Z h0 ac "[D") (ne_ao0_tb : ao0 ≠ tb) (ne_ao0_ab : ao0 ≠ ab) (ne_ao0_ac : ao0 ≠ ac) (ne_tb_ab : tb ≠ ab) (ne_tb_ac : tb ≠ ac) (ne_ab_ac : ab ≠ ac) (g_ao0 : n0 ≤ ao0) :
    MetFree l (⟨"com/example/moving_tokens/movingtokens/DualSimplex", "<init>", "([D[D[D)V"⟩ : MethodName) (head1 (Jvm.Cond.code (⟨"com/example/moving_tokens/movingtokens/DualSimplex", "<init>", "([D[D[D)V"⟩ : MethodName) prog_14_method_1_code 5 none :: ws) ({ frames := 1, cells := 4, slots := 8, locals := 15 } : Room)) (fun a U => a = #[(.ref ao0), (.ref tb), (.ref ab), (.ref ac)] ∧ Z.Warmed39 U.vm ∧ U.heap = h0) (fun _ _ _ _ _ => True) (fun _ U o U' => ∃ v L, o = .returned v ∧ (Q_rm1 Z ao0 tb ab ac kt kab kac t0 t1 t2 t3 w0 w1 c0 c1 h0 n0) v U'.heap L ∧ FrameEnd U o U' L ({ frames := 1, cells := 4, slots := 8, locals := 15 } : Room).cells ({ frames := 1, cells := 4, slots := 8, locals := 15 } : Room).slots) := by
  refine MetFree.of_bodySF (plainFor_of_name pn_rm1) hisR ?_
  intro p e s m args below meth c s₁ Bd hml0 hP hK
  obtain ⟨rfl, hZ, hh⟩ := hP
  have hx := Bd.exec
  have hby := Bd.bytes
  have hlk := BodyLoose.notSynchronized Bd
  have hret := Bd.returns
  have hml : c.maxLocals = 5 := hml0
  have hown : s.vm.findClass "com/example/moving_tokens/movingtokens/DualSimplex" = some m.cls := findClass_of_methodNamed Bd.named
  have hnm := (name_of_methodNamed Bd.named Bd.method).1
  have X0 : Stand p l e ({ frames := 1, cells := 4, slots := 8, locals := 15 } : Room) s m #[(.ref ao0), (.ref tb), (.ref ab), (.ref ac)] below meth c s₁ [] 0 0 := Stand.of_body Bd
  have e0 : s₁.heap = h0 := by rw [← hh, Bd.state]; rfl
  have Nf := Fr.nil n0
  have Zs := Z0
  have Kp : Keep h0 h0 [ao0] := Keep.refl _ _
  show own_End p e below s (Q_rm1 Z ao0 tb ab ac kt kab kac t0 t1 t2 t3 w0 w1 c0 c1 h0 n0) ({ frames := 1, cells := 4, slots := 8, locals := 15 } : Room).cells ({ frames := 1, cells := 4, slots := 8, locals := 15 } : Room).slots (s₁.setTop (entryFrame m #[(.ref ao0), (.ref tb), (.ref ab), (.ref ac)] 5))
  refine own_go (x' := s₁.setTop (mkF m 0 #[.val (.ref ao0), .val (.ref tb), .val (.ref ab), .val (.ref ac), .unset] [])) (fun t k => castTop (ef_rm1 m ao0 tb ab ac) k) ?_
  refine own_go (x' := s₁.setTop (mkF m 1 #[.val (.ref ao0), .val (.ref tb), .val (.ref ab), .val (.ref ac), .unset] [(.ref ao0)])) (fun _ k => XS.aloadN X0.here hx rfl (hb hby d1_0) rfl rfl k) ?_
  obtain ⟨T1, X1, e1, st1⟩ := initO X0 hx hZ hown (own_w hw 7 rfl) (own_w hw 8 rfl) (own_w hw 9 rfl) e0 (g := (mkF m 1 #[.val (.ref ao0), .val (.ref tb), .val (.ref ab), .val (.ref ac), .unset] [(.ref ao0)])) rfl (by rw [hml]; rfl) rfl (hb hby d1_1) (by decide) (W := 0) (by show 2 * 0 + _ ≤ _; exact Nat.le_of_eq rfl) (by decide)
  refine own_go (x' := T1.setTop (mkF m 4 #[.val (.ref ao0), .val (.ref tb), .val (.ref ab), .val (.ref ac), .unset] [])) st1 ?_
  refine own_go (x' := T1.setTop (mkF m 6 #[.val (.ref ao0), .val (.ref tb), .val (.ref ab), .val (.ref ac), .unset] [(.ref ab), (.ref ao0)])) (fun _ k => XS.aloadN X1.here hx rfl (hb hby d1_4) rfl rfl (XS.aloadN X1.here hx rfl (hb hby d1_5) rfl rfl k)) ?_
  obtain ⟨cl2, Ar2, -, Sz2, Nn2, -, -⟩ := id V_ab
  refine own_go (x' := T1.setTop (mkF m 7 #[.val (.ref ao0), .val (.ref tb), .val (.ref ab), .val (.ref ac), .unset] [(.int 2), (.ref ao0)])) (fun t k => X1.arraylength hx (Eq.trans (congrArg (fun h_ => h_[_]?) e1) Ar2.1) (State.isArrayOf_alike hZ.alike Ar2.2.1) (g := (mkF m 6 #[.val (.ref ao0), .val (.ref tb), .val (.ref ab), .val (.ref ac), .unset] [(.ref ab), (.ref ao0)])) rfl rfl (hb hby d1_6) t (by rw [len_of Sz2 Nn2]; exact k)) ?_
  obtain ⟨T3, h3, X3, e3, W3, st3⟩ := putF X1 hx hZ hown (host := "") (Or.inl (own_w hw 10 rfl)) Via.refl e1 F_ao0_rows E_ao0 (Or.inr ⟨(own_w hw 11 rfl), rfl, hnm⟩) (own_w hw 2 rfl) (ty := .int) (by decide) rfl rfl (g := (mkF m 7 #[.val (.ref ao0), .val (.ref tb), .val (.ref ab), .val (.ref ac), .unset] [(.int 2), (.ref ao0)])) rfl rfl (hb hby d1_7)
  refine own_go (x' := T3.setTop (mkF m 10 #[.val (.ref ao0), .val (.ref tb), .val (.ref ab), .val (.ref ac), .unset] [])) st3 ?_
  replace E_ao0 := Exa.wr W3 E_ao0
  replace F_ao0_rows := Fld.same W3 F_ao0_rows
  replace F_ao0_columns := Fld.other W3 F_ao0_columns (Or.inr (slot_ne (Or.inr (own_w hw 13 rfl)) (Or.inr (own_w hw 11 rfl)) (by decide) (t := .int) (t' := .int) (by decide) (by decide)))
  replace F_ao0_tableau := Fld.other W3 F_ao0_tableau (Or.inr (slot_ne (Or.inr (own_w hw 15 rfl)) (Or.inr (own_w hw 11 rfl)) (by decide) (t := (.array .double)) (t' := .int) (by decide) (by decide)))
  replace F_ao0_value := Fld.other W3 F_ao0_value (Or.inr (slot_ne (Or.inr (own_w hw 26 rfl)) (Or.inr (own_w hw 11 rfl)) (by decide) (t := (.array .double)) (t' := .int) (by decide) (by decide)))
  replace F_ao0_cost := Fld.other W3 F_ao0_cost (Or.inr (slot_ne (Or.inr (own_w hw 28 rfl)) (Or.inr (own_w hw 11 rfl)) (by decide) (t := (.array .double)) (t' := .int) (by decide) (by decide)))
  replace F_ao0_basic := Fld.other W3 F_ao0_basic (Or.inr (slot_ne (Or.inr (own_w hw 31 rfl)) (Or.inr (own_w hw 11 rfl)) (by decide) (t := (.array .int)) (t' := .int) (by decide) (by decide)))
  replace F_ao0_nonbasic := Fld.other W3 F_ao0_nonbasic (Or.inr (slot_ne (Or.inr (own_w hw 33 rfl)) (Or.inr (own_w hw 11 rfl)) (by decide) (t := (.array .int)) (t' := .int) (by decide) (by decide)))
  replace V_tb := V_tb.other W3 (Ne.symm ne_ao0_tb)
  replace V_ab := V_ab.other W3 (Ne.symm ne_ao0_ab)
  replace E_ab := Exa.wr W3 E_ab
  replace V_ac := V_ac.other W3 (Ne.symm ne_ao0_ac)
  replace E_ac := Exa.wr W3 E_ac
  replace Zs := Nat.le_trans Zs (Keep.of_wr W3).1
  replace Nf := Fr.snoc X3 Nf g_ao0
  replace Kp := Kp.wr W3 (Or.inl (by simp))
  refine own_go (x' := T3.setTop (mkF m 12 #[.val (.ref ao0), .val (.ref tb), .val (.ref ab), .val (.ref ac), .unset] [(.ref ac), (.ref ao0)])) (fun _ k => XS.aloadN X3.here hx rfl (hb hby d1_10) rfl rfl (XS.aloadN X3.here hx rfl (hb hby d1_11) rfl rfl k)) ?_
  obtain ⟨cl4, Ar4, -, Sz4, Nn4, -, -⟩ := id V_ac
  refine own_go (x' := T3.setTop (mkF m 13 #[.val (.ref ao0), .val (.ref tb), .val (.ref ab), .val (.ref ac), .unset] [(.int 2), (.ref ao0)])) (fun t k => X3.arraylength hx (Eq.trans (congrArg (fun h_ => h_[_]?) e3) Ar4.1) (State.isArrayOf_alike hZ.alike Ar4.2.1) (g := (mkF m 12 #[.val (.ref ao0), .val (.ref tb), .val (.ref ab), .val (.ref ac), .unset] [(.ref ac), (.ref ao0)])) rfl rfl (hb hby d1_12) t (by rw [len_of Sz4 Nn4]; exact k)) ?_
  obtain ⟨T5, h5, X5, e5, W5, st5⟩ := putF X3 hx hZ hown (host := "") (Or.inl (own_w hw 12 rfl)) Via.refl e3 F_ao0_columns E_ao0 (Or.inr ⟨(own_w hw 13 rfl), rfl, hnm⟩) (own_w hw 2 rfl) (ty := .int) (by decide) rfl rfl (g := (mkF m 13 #[.val (.ref ao0), .val (.ref tb), .val (.ref ab), .val (.ref ac), .unset] [(.int 2), (.ref ao0)])) rfl rfl (hb hby d1_13)
  refine own_go (x' := T5.setTop (mkF m 16 #[.val (.ref ao0), .val (.ref tb), .val (.ref ab), .val (.ref ac), .unset] [])) st5 ?_
  replace E_ao0 := Exa.wr W5 E_ao0
  replace F_ao0_rows := Fld.other W5 F_ao0_rows (Or.inr (slot_ne (Or.inr (own_w hw 11 rfl)) (Or.inr (own_w hw 13 rfl)) (by decide) (t := .int) (t' := .int) (by decide) (by decide)))
  replace F_ao0_columns := Fld.same W5 F_ao0_columns
  replace F_ao0_tableau := Fld.other W5 F_ao0_tableau (Or.inr (slot_ne (Or.inr (own_w hw 15 rfl)) (Or.inr (own_w hw 13 rfl)) (by decide) (t := (.array .double)) (t' := .int) (by decide) (by decide)))
  replace F_ao0_value := Fld.other W5 F_ao0_value (Or.inr (slot_ne (Or.inr (own_w hw 26 rfl)) (Or.inr (own_w hw 13 rfl)) (by decide) (t := (.array .double)) (t' := .int) (by decide) (by decide)))
  replace F_ao0_cost := Fld.other W5 F_ao0_cost (Or.inr (slot_ne (Or.inr (own_w hw 28 rfl)) (Or.inr (own_w hw 13 rfl)) (by decide) (t := (.array .double)) (t' := .int) (by decide) (by decide)))
  replace F_ao0_basic := Fld.other W5 F_ao0_basic (Or.inr (slot_ne (Or.inr (own_w hw 31 rfl)) (Or.inr (own_w hw 13 rfl)) (by decide) (t := (.array .int)) (t' := .int) (by decide) (by decide)))
  replace F_ao0_nonbasic := Fld.other W5 F_ao0_nonbasic (Or.inr (slot_ne (Or.inr (own_w hw 33 rfl)) (Or.inr (own_w hw 13 rfl)) (by decide) (t := (.array .int)) (t' := .int) (by decide) (by decide)))
  replace V_tb := V_tb.other W5 (Ne.symm ne_ao0_tb)
  replace V_ab := V_ab.other W5 (Ne.symm ne_ao0_ab)
  replace E_ab := Exa.wr W5 E_ab
  replace V_ac := V_ac.other W5 (Ne.symm ne_ao0_ac)
  replace E_ac := Exa.wr W5 E_ac
  replace Zs := Nat.le_trans Zs (Keep.of_wr W5).1
  replace Nf := Fr.snoc X5 Nf g_ao0
  replace Kp := Kp.wr W5 (Or.inl (by simp))
  refine own_go (x' := T5.setTop (mkF m 18 #[.val (.ref ao0), .val (.ref tb), .val (.ref ab), .val (.ref ac), .unset] [(.ref tb), (.ref ao0)])) (fun _ k => XS.aloadN X5.here hx rfl (hb hby d1_16) rfl rfl (XS.aloadN X5.here hx rfl (hb hby d1_17) rfl rfl k)) ?_
  obtain ⟨T6, h6, X6, e6, W6, st6⟩ := putF X5 hx hZ hown (host := "") (Or.inl (own_w hw 14 rfl)) Via.refl e5 F_ao0_tableau E_ao0 (Or.inr ⟨(own_w hw 15 rfl), rfl, hnm⟩) (own_w hw 2 rfl) (ty := (.array .double)) (by decide) rfl rfl (g := (mkF m 18 #[.val (.ref ao0), .val (.ref tb), .val (.ref ab), .val (.ref ac), .unset] [(.ref tb), (.ref ao0)])) rfl rfl (hb hby d1_18)
  refine own_go (x' := T6.setTop (mkF m 21 #[.val (.ref ao0), .val (.ref tb), .val (.ref ab), .val (.ref ac), .unset] [])) st6 ?_
  replace E_ao0 := Exa.wr W6 E_ao0
  replace F_ao0_rows := Fld.other W6 F_ao0_rows (Or.inr (slot_ne (Or.inr (own_w hw 11 rfl)) (Or.inr (own_w hw 15 rfl)) (by decide) (t := .int) (t' := (.array .double)) (by decide) (by decide)))
  replace F_ao0_columns := Fld.other W6 F_ao0_columns (Or.inr (slot_ne (Or.inr (own_w hw 13 rfl)) (Or.inr (own_w hw 15 rfl)) (by decide) (t := .int) (t' := (.array .double)) (by decide) (by decide)))
  replace F_ao0_tableau := Fld.same W6 F_ao0_tableau
  replace F_ao0_value := Fld.other W6 F_ao0_value (Or.inr (slot_ne (Or.inr (own_w hw 26 rfl)) (Or.inr (own_w hw 15 rfl)) (by decide) (t := (.array .double)) (t' := (.array .double)) (by decide) (by decide)))
  replace F_ao0_cost := Fld.other W6 F_ao0_cost (Or.inr (slot_ne (Or.inr (own_w hw 28 rfl)) (Or.inr (own_w hw 15 rfl)) (by decide) (t := (.array .double)) (t' := (.array .double)) (by decide) (by decide)))
  replace F_ao0_basic := Fld.other W6 F_ao0_basic (Or.inr (slot_ne (Or.inr (own_w hw 31 rfl)) (Or.inr (own_w hw 15 rfl)) (by decide) (t := (.array .int)) (t' := (.array .double)) (by decide) (by decide)))
  replace F_ao0_nonbasic := Fld.other W6 F_ao0_nonbasic (Or.inr (slot_ne (Or.inr (own_w hw 33 rfl)) (Or.inr (own_w hw 15 rfl)) (by decide) (t := (.array .int)) (t' := (.array .double)) (by decide) (by decide)))
  replace V_tb := V_tb.other W6 (Ne.symm ne_ao0_tb)
  replace V_ab := V_ab.other W6 (Ne.symm ne_ao0_ab)
  replace E_ab := Exa.wr W6 E_ab
  replace V_ac := V_ac.other W6 (Ne.symm ne_ao0_ac)
  replace E_ac := Exa.wr W6 E_ac
  replace Zs := Nat.le_trans Zs (Keep.of_wr W6).1
  replace Nf := Fr.snoc X6 Nf g_ao0
  replace Kp := Kp.wr W6 (Or.inl (by simp))
  refine own_go (x' := T6.setTop (mkF m 23 #[.val (.ref ao0), .val (.ref tb), .val (.ref ab), .val (.ref ac), .unset] [(.ref ab), (.ref ao0)])) (fun _ k => XS.aloadN X6.here hx rfl (hb hby d1_21) rfl rfl (XS.aloadN X6.here hx rfl (hb hby d1_22) rfl rfl k)) ?_
  obtain ⟨T7, h7, X7, e7, E7, A7, Q7, st7⟩ := cloneH X6 hx hZ hown (own_w hw 16 rfl) (own_w hw 17 rfl) (own_w hw 21 rfl) (own_w hw 19 rfl) (own_w hw 20 rfl) (own_w hw 22 rfl) e6 V_ab.arh E_ab (g := (mkF m 23 #[.val (.ref ao0), .val (.ref tb), .val (.ref ab), .val (.ref ac), .unset] [(.ref ab), (.ref ao0)])) rfl (by rw [hml]; rfl) rfl (hb hby d1_23) (by decide) (W := 1) (cap := 2) (by show 2 * 0 + _ ≤ _; exact Nat.le_of_eq rfl) (by decide) (by decide) (by decide) (by decide)
  obtain ⟨b7, g7⟩ : ∃ z, z = h6.size := ⟨_, rfl⟩
  rw [← g7] at A7 Q7 st7
  have ne_ao0_b7 : ao0 ≠ b7 := Nat.ne_of_lt (Nat.lt_of_lt_of_le E_ao0.lt (Nat.le_of_eq g7.symm))
  have ne_tb_b7 : tb ≠ b7 := Nat.ne_of_lt (Nat.lt_of_lt_of_le V_tb.lt (Nat.le_of_eq g7.symm))
  have ne_ab_b7 : ab ≠ b7 := Nat.ne_of_lt (Nat.lt_of_lt_of_le V_ab.lt (Nat.le_of_eq g7.symm))
  have ne_ac_b7 : ac ≠ b7 := Nat.ne_of_lt (Nat.lt_of_lt_of_le V_ac.lt (Nat.le_of_eq g7.symm))
  have g_b7 : n0 ≤ b7 := Nat.le_trans Zs (Nat.le_of_eq g7.symm)
  have sz_b7 : h0.size ≤ b7 := Nat.le_trans Kp.1 (Nat.le_of_eq g7.symm)
  replace E_ao0 := Exa.ext E7 E_ao0
  replace F_ao0_rows := Fld.ext E7 F_ao0_rows
  replace F_ao0_columns := Fld.ext E7 F_ao0_columns
  replace F_ao0_tableau := Fld.ext E7 F_ao0_tableau
  replace F_ao0_value := Fld.ext E7 F_ao0_value
  replace F_ao0_cost := Fld.ext E7 F_ao0_cost
  replace F_ao0_basic := Fld.ext E7 F_ao0_basic
  replace F_ao0_nonbasic := Fld.ext E7 F_ao0_nonbasic
  replace V_tb := V_tb.ext E7
  replace V_ab := V_ab.ext E7
  replace E_ab := Exa.ext E7 E_ab
  replace V_ac := V_ac.ext E7
  replace E_ac := Exa.ext E7 E_ac
  replace Zs := Nat.le_trans Zs E7.1
  replace Kp := Kp.ext E7
  have E_b7 := Q7
  have V_b7 : Arv Z h7 b7 kab .double (2 : Int32) [(.double w0), (.double w1)] (.double 0) := A7
  refine own_go (x' := T7.setTop (mkF m 26 #[.val (.ref ao0), .val (.ref tb), .val (.ref ab), .val (.ref ac), .unset] [(.ref b7), (.ref ao0)])) st7 ?_
  obtain ⟨T8, X8, e8, st8⟩ := castY X7 hx hZ hown (own_w hw 23 rfl) e7 (Ins.self E_b7) (g := (mkF m 26 #[.val (.ref ao0), .val (.ref tb), .val (.ref ab), .val (.ref ac), .unset] [(.ref b7), (.ref ao0)])) rfl rfl (hb hby d1_26)
  refine own_go (x' := T8.setTop (mkF m 29 #[.val (.ref ao0), .val (.ref tb), .val (.ref ab), .val (.ref ac), .unset] [(.ref b7), (.ref ao0)])) st8 ?_
  obtain ⟨T9, h9, X9, e9, W9, st9⟩ := putF X8 hx hZ hown (host := "") (Or.inl (own_w hw 25 rfl)) Via.refl e8 F_ao0_value E_ao0 (Or.inr ⟨(own_w hw 26 rfl), rfl, hnm⟩) (own_w hw 2 rfl) (ty := (.array .double)) (by decide) rfl rfl (g := (mkF m 29 #[.val (.ref ao0), .val (.ref tb), .val (.ref ab), .val (.ref ac), .unset] [(.ref b7), (.ref ao0)])) rfl rfl (hb hby d1_29)
  refine own_go (x' := T9.setTop (mkF m 32 #[.val (.ref ao0), .val (.ref tb), .val (.ref ab), .val (.ref ac), .unset] [])) st9 ?_
  replace E_ao0 := Exa.wr W9 E_ao0
  replace F_ao0_rows := Fld.other W9 F_ao0_rows (Or.inr (slot_ne (Or.inr (own_w hw 11 rfl)) (Or.inr (own_w hw 26 rfl)) (by decide) (t := .int) (t' := (.array .double)) (by decide) (by decide)))
  replace F_ao0_columns := Fld.other W9 F_ao0_columns (Or.inr (slot_ne (Or.inr (own_w hw 13 rfl)) (Or.inr (own_w hw 26 rfl)) (by decide) (t := .int) (t' := (.array .double)) (by decide) (by decide)))
  replace F_ao0_tableau := Fld.other W9 F_ao0_tableau (Or.inr (slot_ne (Or.inr (own_w hw 15 rfl)) (Or.inr (own_w hw 26 rfl)) (by decide) (t := (.array .double)) (t' := (.array .double)) (by decide) (by decide)))
  replace F_ao0_value := Fld.same W9 F_ao0_value
  replace F_ao0_cost := Fld.other W9 F_ao0_cost (Or.inr (slot_ne (Or.inr (own_w hw 28 rfl)) (Or.inr (own_w hw 26 rfl)) (by decide) (t := (.array .double)) (t' := (.array .double)) (by decide) (by decide)))
  replace F_ao0_basic := Fld.other W9 F_ao0_basic (Or.inr (slot_ne (Or.inr (own_w hw 31 rfl)) (Or.inr (own_w hw 26 rfl)) (by decide) (t := (.array .int)) (t' := (.array .double)) (by decide) (by decide)))
  replace F_ao0_nonbasic := Fld.other W9 F_ao0_nonbasic (Or.inr (slot_ne (Or.inr (own_w hw 33 rfl)) (Or.inr (own_w hw 26 rfl)) (by decide) (t := (.array .int)) (t' := (.array .double)) (by decide) (by decide)))
  replace V_tb := V_tb.other W9 (Ne.symm ne_ao0_tb)
  replace V_ab := V_ab.other W9 (Ne.symm ne_ao0_ab)
  replace E_ab := Exa.wr W9 E_ab
  replace V_ac := V_ac.other W9 (Ne.symm ne_ao0_ac)
  replace E_ac := Exa.wr W9 E_ac
  replace E_b7 := Exa.wr W9 E_b7
  replace V_b7 := V_b7.other W9 (Ne.symm ne_ao0_b7)
  replace Zs := Nat.le_trans Zs (Keep.of_wr W9).1
  replace Nf := Fr.snoc X9 Nf g_ao0
  replace Kp := Kp.wr W9 (Or.inl (by simp))
  refine own_go (x' := T9.setTop (mkF m 34 #[.val (.ref ao0), .val (.ref tb), .val (.ref ab), .val (.ref ac), .unset] [(.ref ac), (.ref ao0)])) (fun _ k => XS.aloadN X9.here hx rfl (hb hby d1_32) rfl rfl (XS.aloadN X9.here hx rfl (hb hby d1_33) rfl rfl k)) ?_
  obtain ⟨T10, h10, X10, e10, E10, A10, Q10, st10⟩ := cloneH X9 hx hZ hown (own_w hw 16 rfl) (own_w hw 17 rfl) (own_w hw 21 rfl) (own_w hw 19 rfl) (own_w hw 20 rfl) (own_w hw 22 rfl) e9 V_ac.arh E_ac (g := (mkF m 34 #[.val (.ref ao0), .val (.ref tb), .val (.ref ab), .val (.ref ac), .unset] [(.ref ac), (.ref ao0)])) rfl (by rw [hml]; rfl) rfl (hb hby d1_34) (by decide) (W := 1) (cap := 2) (by show 2 * 0 + _ ≤ _; exact Nat.le_of_eq rfl) (by decide) (by decide) (by decide) (by decide)
  obtain ⟨b10, g10⟩ : ∃ z, z = h9.size := ⟨_, rfl⟩
  rw [← g10] at A10 Q10 st10
  have ne_ao0_b10 : ao0 ≠ b10 := Nat.ne_of_lt (Nat.lt_of_lt_of_le E_ao0.lt (Nat.le_of_eq g10.symm))
  have ne_tb_b10 : tb ≠ b10 := Nat.ne_of_lt (Nat.lt_of_lt_of_le V_tb.lt (Nat.le_of_eq g10.symm))
  have ne_ab_b10 : ab ≠ b10 := Nat.ne_of_lt (Nat.lt_of_lt_of_le V_ab.lt (Nat.le_of_eq g10.symm))
  have ne_ac_b10 : ac ≠ b10 := Nat.ne_of_lt (Nat.lt_of_lt_of_le V_ac.lt (Nat.le_of_eq g10.symm))
  have ne_b7_b10 : b7 ≠ b10 := Nat.ne_of_lt (Nat.lt_of_lt_of_le E_b7.lt (Nat.le_of_eq g10.symm))
  have g_b10 : n0 ≤ b10 := Nat.le_trans Zs (Nat.le_of_eq g10.symm)
  have sz_b10 : h0.size ≤ b10 := Nat.le_trans Kp.1 (Nat.le_of_eq g10.symm)
  replace E_ao0 := Exa.ext E10 E_ao0
  replace F_ao0_rows := Fld.ext E10 F_ao0_rows
  replace F_ao0_columns := Fld.ext E10 F_ao0_columns
  replace F_ao0_tableau := Fld.ext E10 F_ao0_tableau
  replace F_ao0_value := Fld.ext E10 F_ao0_value
  replace F_ao0_cost := Fld.ext E10 F_ao0_cost
  replace F_ao0_basic := Fld.ext E10 F_ao0_basic
  replace F_ao0_nonbasic := Fld.ext E10 F_ao0_nonbasic
  replace V_tb := V_tb.ext E10
  replace V_ab := V_ab.ext E10
  replace E_ab := Exa.ext E10 E_ab
  replace V_ac := V_ac.ext E10
  replace E_ac := Exa.ext E10 E_ac
  replace E_b7 := Exa.ext E10 E_b7
  replace V_b7 := V_b7.ext E10
  replace Zs := Nat.le_trans Zs E10.1
  replace Kp := Kp.ext E10
  have E_b10 := Q10
  have V_b10 : Arv Z h10 b10 kac .double (2 : Int32) [(.double c0), (.double c1)] (.double 0) := A10
  refine own_go (x' := T10.setTop (mkF m 37 #[.val (.ref ao0), .val (.ref tb), .val (.ref ab), .val (.ref ac), .unset] [(.ref b10), (.ref ao0)])) st10 ?_
  obtain ⟨T11, X11, e11, st11⟩ := castY X10 hx hZ hown (own_w hw 23 rfl) e10 (Ins.self E_b10) (g := (mkF m 37 #[.val (.ref ao0), .val (.ref tb), .val (.ref ab), .val (.ref ac), .unset] [(.ref b10), (.ref ao0)])) rfl rfl (hb hby d1_37)
  refine own_go (x' := T11.setTop (mkF m 40 #[.val (.ref ao0), .val (.ref tb), .val (.ref ab), .val (.ref ac), .unset] [(.ref b10), (.ref ao0)])) st11 ?_
  obtain ⟨T12, h12, X12, e12, W12, st12⟩ := putF X11 hx hZ hown (host := "") (Or.inl (own_w hw 27 rfl)) Via.refl e11 F_ao0_cost E_ao0 (Or.inr ⟨(own_w hw 28 rfl), rfl, hnm⟩) (own_w hw 2 rfl) (ty := (.array .double)) (by decide) rfl rfl (g := (mkF m 40 #[.val (.ref ao0), .val (.ref tb), .val (.ref ab), .val (.ref ac), .unset] [(.ref b10), (.ref ao0)])) rfl rfl (hb hby d1_40)
  refine own_go (x' := T12.setTop (mkF m 43 #[.val (.ref ao0), .val (.ref tb), .val (.ref ab), .val (.ref ac), .unset] [])) st12 ?_
  replace E_ao0 := Exa.wr W12 E_ao0
  replace F_ao0_rows := Fld.other W12 F_ao0_rows (Or.inr (slot_ne (Or.inr (own_w hw 11 rfl)) (Or.inr (own_w hw 28 rfl)) (by decide) (t := .int) (t' := (.array .double)) (by decide) (by decide)))
  replace F_ao0_columns := Fld.other W12 F_ao0_columns (Or.inr (slot_ne (Or.inr (own_w hw 13 rfl)) (Or.inr (own_w hw 28 rfl)) (by decide) (t := .int) (t' := (.array .double)) (by decide) (by decide)))
  replace F_ao0_tableau := Fld.other W12 F_ao0_tableau (Or.inr (slot_ne (Or.inr (own_w hw 15 rfl)) (Or.inr (own_w hw 28 rfl)) (by decide) (t := (.array .double)) (t' := (.array .double)) (by decide) (by decide)))
  replace F_ao0_value := Fld.other W12 F_ao0_value (Or.inr (slot_ne (Or.inr (own_w hw 26 rfl)) (Or.inr (own_w hw 28 rfl)) (by decide) (t := (.array .double)) (t' := (.array .double)) (by decide) (by decide)))
  replace F_ao0_cost := Fld.same W12 F_ao0_cost
  replace F_ao0_basic := Fld.other W12 F_ao0_basic (Or.inr (slot_ne (Or.inr (own_w hw 31 rfl)) (Or.inr (own_w hw 28 rfl)) (by decide) (t := (.array .int)) (t' := (.array .double)) (by decide) (by decide)))
  replace F_ao0_nonbasic := Fld.other W12 F_ao0_nonbasic (Or.inr (slot_ne (Or.inr (own_w hw 33 rfl)) (Or.inr (own_w hw 28 rfl)) (by decide) (t := (.array .int)) (t' := (.array .double)) (by decide) (by decide)))
  replace V_tb := V_tb.other W12 (Ne.symm ne_ao0_tb)
  replace V_ab := V_ab.other W12 (Ne.symm ne_ao0_ab)
  replace E_ab := Exa.wr W12 E_ab
  replace V_ac := V_ac.other W12 (Ne.symm ne_ao0_ac)
  replace E_ac := Exa.wr W12 E_ac
  replace E_b7 := Exa.wr W12 E_b7
  replace V_b7 := V_b7.other W12 (Ne.symm ne_ao0_b7)
  replace E_b10 := Exa.wr W12 E_b10
  replace V_b10 := V_b10.other W12 (Ne.symm ne_ao0_b10)
  replace Zs := Nat.le_trans Zs (Keep.of_wr W12).1
  replace Nf := Fr.snoc X12 Nf g_ao0
  replace Kp := Kp.wr W12 (Or.inl (by simp))
  refine own_go (x' := T12.setTop (mkF m 45 #[.val (.ref ao0), .val (.ref tb), .val (.ref ab), .val (.ref ac), .unset] [(.ref ao0), (.ref ao0)])) (fun _ k => XS.aloadN X12.here hx rfl (hb hby d1_43) rfl rfl (XS.aloadN X12.here hx rfl (hb hby d1_44) rfl rfl k)) ?_
  obtain ⟨T13, X13, e13, st13⟩ := getF X12 hx hZ hown (host := "") (Or.inl (own_w hw 10 rfl)) Via.refl e12 F_ao0_rows (g := (mkF m 45 #[.val (.ref ao0), .val (.ref tb), .val (.ref ab), .val (.ref ac), .unset] [(.ref ao0), (.ref ao0)])) rfl rfl (hb hby d1_45)
  refine own_go (x' := T13.setTop (mkF m 48 #[.val (.ref ao0), .val (.ref tb), .val (.ref ab), .val (.ref ac), .unset] [(.int 2), (.ref ao0)])) st13 ?_
  obtain ⟨T14, h14, k14, X14, e14, E14, A14, st14⟩ := newP X13 hx hZ (own_w hw 29 rfl) e13 (g := (mkF m 48 #[.val (.ref ao0), .val (.ref tb), .val (.ref ab), .val (.ref ac), .unset] [(.int 2), (.ref ao0)])) rfl (hb hby d1_48) rfl (by decide) (cap := 2) (by decide) (by decide) (by decide) (by decide)
  obtain ⟨b14, g14⟩ : ∃ z, z = h12.size := ⟨_, rfl⟩
  rw [← g14] at A14 st14
  have ne_ao0_b14 : ao0 ≠ b14 := Nat.ne_of_lt (Nat.lt_of_lt_of_le E_ao0.lt (Nat.le_of_eq g14.symm))
  have ne_tb_b14 : tb ≠ b14 := Nat.ne_of_lt (Nat.lt_of_lt_of_le V_tb.lt (Nat.le_of_eq g14.symm))
  have ne_ab_b14 : ab ≠ b14 := Nat.ne_of_lt (Nat.lt_of_lt_of_le V_ab.lt (Nat.le_of_eq g14.symm))
  have ne_ac_b14 : ac ≠ b14 := Nat.ne_of_lt (Nat.lt_of_lt_of_le V_ac.lt (Nat.le_of_eq g14.symm))
  have ne_b7_b14 : b7 ≠ b14 := Nat.ne_of_lt (Nat.lt_of_lt_of_le E_b7.lt (Nat.le_of_eq g14.symm))
  have ne_b10_b14 : b10 ≠ b14 := Nat.ne_of_lt (Nat.lt_of_lt_of_le E_b10.lt (Nat.le_of_eq g14.symm))
  have g_b14 : n0 ≤ b14 := Nat.le_trans Zs (Nat.le_of_eq g14.symm)
  have sz_b14 : h0.size ≤ b14 := Nat.le_trans Kp.1 (Nat.le_of_eq g14.symm)
  replace E_ao0 := Exa.ext E14 E_ao0
  replace F_ao0_rows := Fld.ext E14 F_ao0_rows
  replace F_ao0_columns := Fld.ext E14 F_ao0_columns
  replace F_ao0_tableau := Fld.ext E14 F_ao0_tableau
  replace F_ao0_value := Fld.ext E14 F_ao0_value
  replace F_ao0_cost := Fld.ext E14 F_ao0_cost
  replace F_ao0_basic := Fld.ext E14 F_ao0_basic
  replace F_ao0_nonbasic := Fld.ext E14 F_ao0_nonbasic
  replace V_tb := V_tb.ext E14
  replace V_ab := V_ab.ext E14
  replace E_ab := Exa.ext E14 E_ab
  replace V_ac := V_ac.ext E14
  replace E_ac := Exa.ext E14 E_ac
  replace E_b7 := Exa.ext E14 E_b7
  replace V_b7 := V_b7.ext E14
  replace E_b10 := Exa.ext E14 E_b10
  replace V_b10 := V_b10.ext E14
  replace Zs := Nat.le_trans Zs E14.1
  replace Kp := Kp.ext E14
  have V_b14 : Arv Z h14 b14 k14 .int (2 : Int32) [(.int 0), (.int 0)] (.int 0) := (Arv.new A14 (by decide)).pad (pad_rep [] (.int 0) 2)
  refine own_go (x' := T14.setTop (mkF m 50 #[.val (.ref ao0), .val (.ref tb), .val (.ref ab), .val (.ref ac), .unset] [(.ref b14), (.ref ao0)])) st14 ?_
  obtain ⟨T15, h15, X15, e15, W15, st15⟩ := putF X14 hx hZ hown (host := "") (Or.inl (own_w hw 30 rfl)) Via.refl e14 F_ao0_basic E_ao0 (Or.inr ⟨(own_w hw 31 rfl), rfl, hnm⟩) (own_w hw 2 rfl) (ty := (.array .int)) (by decide) rfl rfl (g := (mkF m 50 #[.val (.ref ao0), .val (.ref tb), .val (.ref ab), .val (.ref ac), .unset] [(.ref b14), (.ref ao0)])) rfl rfl (hb hby d1_50)
  refine own_go (x' := T15.setTop (mkF m 53 #[.val (.ref ao0), .val (.ref tb), .val (.ref ab), .val (.ref ac), .unset] [])) st15 ?_
  replace E_ao0 := Exa.wr W15 E_ao0
  replace F_ao0_rows := Fld.other W15 F_ao0_rows (Or.inr (slot_ne (Or.inr (own_w hw 11 rfl)) (Or.inr (own_w hw 31 rfl)) (by decide) (t := .int) (t' := (.array .int)) (by decide) (by decide)))
  replace F_ao0_columns := Fld.other W15 F_ao0_columns (Or.inr (slot_ne (Or.inr (own_w hw 13 rfl)) (Or.inr (own_w hw 31 rfl)) (by decide) (t := .int) (t' := (.array .int)) (by decide) (by decide)))
  replace F_ao0_tableau := Fld.other W15 F_ao0_tableau (Or.inr (slot_ne (Or.inr (own_w hw 15 rfl)) (Or.inr (own_w hw 31 rfl)) (by decide) (t := (.array .double)) (t' := (.array .int)) (by decide) (by decide)))
  replace F_ao0_value := Fld.other W15 F_ao0_value (Or.inr (slot_ne (Or.inr (own_w hw 26 rfl)) (Or.inr (own_w hw 31 rfl)) (by decide) (t := (.array .double)) (t' := (.array .int)) (by decide) (by decide)))
  replace F_ao0_cost := Fld.other W15 F_ao0_cost (Or.inr (slot_ne (Or.inr (own_w hw 28 rfl)) (Or.inr (own_w hw 31 rfl)) (by decide) (t := (.array .double)) (t' := (.array .int)) (by decide) (by decide)))
  replace F_ao0_basic := Fld.same W15 F_ao0_basic
  replace F_ao0_nonbasic := Fld.other W15 F_ao0_nonbasic (Or.inr (slot_ne (Or.inr (own_w hw 33 rfl)) (Or.inr (own_w hw 31 rfl)) (by decide) (t := (.array .int)) (t' := (.array .int)) (by decide) (by decide)))
  replace V_tb := V_tb.other W15 (Ne.symm ne_ao0_tb)
  replace V_ab := V_ab.other W15 (Ne.symm ne_ao0_ab)
  replace E_ab := Exa.wr W15 E_ab
  replace V_ac := V_ac.other W15 (Ne.symm ne_ao0_ac)
  replace E_ac := Exa.wr W15 E_ac
  replace E_b7 := Exa.wr W15 E_b7
  replace V_b7 := V_b7.other W15 (Ne.symm ne_ao0_b7)
  replace E_b10 := Exa.wr W15 E_b10
  replace V_b10 := V_b10.other W15 (Ne.symm ne_ao0_b10)
  replace V_b14 := V_b14.other W15 (Ne.symm ne_ao0_b14)
  replace Zs := Nat.le_trans Zs (Keep.of_wr W15).1
  replace Nf := Fr.snoc X15 Nf g_ao0
  replace Kp := Kp.wr W15 (Or.inl (by simp))
  refine own_go (x' := T15.setTop (mkF m 55 #[.val (.ref ao0), .val (.ref tb), .val (.ref ab), .val (.ref ac), .unset] [(.ref ao0), (.ref ao0)])) (fun _ k => XS.aloadN X15.here hx rfl (hb hby d1_53) rfl rfl (XS.aloadN X15.here hx rfl (hb hby d1_54) rfl rfl k)) ?_
  obtain ⟨T16, X16, e16, st16⟩ := getF X15 hx hZ hown (host := "") (Or.inl (own_w hw 12 rfl)) Via.refl e15 F_ao0_columns (g := (mkF m 55 #[.val (.ref ao0), .val (.ref tb), .val (.ref ab), .val (.ref ac), .unset] [(.ref ao0), (.ref ao0)])) rfl rfl (hb hby d1_55)
  refine own_go (x' := T16.setTop (mkF m 58 #[.val (.ref ao0), .val (.ref tb), .val (.ref ab), .val (.ref ac), .unset] [(.int 2), (.ref ao0)])) st16 ?_
  obtain ⟨T17, h17, k17, X17, e17, E17, A17, st17⟩ := newP X16 hx hZ (own_w hw 29 rfl) e16 (g := (mkF m 58 #[.val (.ref ao0), .val (.ref tb), .val (.ref ab), .val (.ref ac), .unset] [(.int 2), (.ref ao0)])) rfl (hb hby d1_58) rfl (by decide) (cap := 2) (by decide) (by decide) (by decide) (by decide)
  obtain ⟨b17, g17⟩ : ∃ z, z = h15.size := ⟨_, rfl⟩
  rw [← g17] at A17 st17
  have ne_ao0_b17 : ao0 ≠ b17 := Nat.ne_of_lt (Nat.lt_of_lt_of_le E_ao0.lt (Nat.le_of_eq g17.symm))
  have ne_tb_b17 : tb ≠ b17 := Nat.ne_of_lt (Nat.lt_of_lt_of_le V_tb.lt (Nat.le_of_eq g17.symm))
  have ne_ab_b17 : ab ≠ b17 := Nat.ne_of_lt (Nat.lt_of_lt_of_le V_ab.lt (Nat.le_of_eq g17.symm))
  have ne_ac_b17 : ac ≠ b17 := Nat.ne_of_lt (Nat.lt_of_lt_of_le V_ac.lt (Nat.le_of_eq g17.symm))
  have ne_b7_b17 : b7 ≠ b17 := Nat.ne_of_lt (Nat.lt_of_lt_of_le E_b7.lt (Nat.le_of_eq g17.symm))
  have ne_b10_b17 : b10 ≠ b17 := Nat.ne_of_lt (Nat.lt_of_lt_of_le E_b10.lt (Nat.le_of_eq g17.symm))
  have ne_b14_b17 : b14 ≠ b17 := Nat.ne_of_lt (Nat.lt_of_lt_of_le V_b14.lt (Nat.le_of_eq g17.symm))
  have g_b17 : n0 ≤ b17 := Nat.le_trans Zs (Nat.le_of_eq g17.symm)
  have sz_b17 : h0.size ≤ b17 := Nat.le_trans Kp.1 (Nat.le_of_eq g17.symm)
  replace E_ao0 := Exa.ext E17 E_ao0
  replace F_ao0_rows := Fld.ext E17 F_ao0_rows
  replace F_ao0_columns := Fld.ext E17 F_ao0_columns
  replace F_ao0_tableau := Fld.ext E17 F_ao0_tableau
  replace F_ao0_value := Fld.ext E17 F_ao0_value
  replace F_ao0_cost := Fld.ext E17 F_ao0_cost
  replace F_ao0_basic := Fld.ext E17 F_ao0_basic
  replace F_ao0_nonbasic := Fld.ext E17 F_ao0_nonbasic
  replace V_tb := V_tb.ext E17
  replace V_ab := V_ab.ext E17
  replace E_ab := Exa.ext E17 E_ab
  replace V_ac := V_ac.ext E17
  replace E_ac := Exa.ext E17 E_ac
  replace E_b7 := Exa.ext E17 E_b7
  replace V_b7 := V_b7.ext E17
  replace E_b10 := Exa.ext E17 E_b10
  replace V_b10 := V_b10.ext E17
  replace V_b14 := V_b14.ext E17
  replace Zs := Nat.le_trans Zs E17.1
  replace Kp := Kp.ext E17
  have V_b17 : Arv Z h17 b17 k17 .int (2 : Int32) [(.int 0), (.int 0)] (.int 0) := (Arv.new A17 (by decide)).pad (pad_rep [] (.int 0) 2)
  refine own_go (x' := T17.setTop (mkF m 60 #[.val (.ref ao0), .val (.ref tb), .val (.ref ab), .val (.ref ac), .unset] [(.ref b17), (.ref ao0)])) st17 ?_
  obtain ⟨T18, h18, X18, e18, W18, st18⟩ := putF X17 hx hZ hown (host := "") (Or.inl (own_w hw 32 rfl)) Via.refl e17 F_ao0_nonbasic E_ao0 (Or.inr ⟨(own_w hw 33 rfl), rfl, hnm⟩) (own_w hw 2 rfl) (ty := (.array .int)) (by decide) rfl rfl (g := (mkF m 60 #[.val (.ref ao0), .val (.ref tb), .val (.ref ab), .val (.ref ac), .unset] [(.ref b17), (.ref ao0)])) rfl rfl (hb hby d1_60)
  refine own_go (x' := T18.setTop (mkF m 63 #[.val (.ref ao0), .val (.ref tb), .val (.ref ab), .val (.ref ac), .unset] [])) st18 ?_
  replace E_ao0 := Exa.wr W18 E_ao0
  replace F_ao0_rows := Fld.other W18 F_ao0_rows (Or.inr (slot_ne (Or.inr (own_w hw 11 rfl)) (Or.inr (own_w hw 33 rfl)) (by decide) (t := .int) (t' := (.array .int)) (by decide) (by decide)))
  replace F_ao0_columns := Fld.other W18 F_ao0_columns (Or.inr (slot_ne (Or.inr (own_w hw 13 rfl)) (Or.inr (own_w hw 33 rfl)) (by decide) (t := .int) (t' := (.array .int)) (by decide) (by decide)))
  replace F_ao0_tableau := Fld.other W18 F_ao0_tableau (Or.inr (slot_ne (Or.inr (own_w hw 15 rfl)) (Or.inr (own_w hw 33 rfl)) (by decide) (t := (.array .double)) (t' := (.array .int)) (by decide) (by decide)))
  replace F_ao0_value := Fld.other W18 F_ao0_value (Or.inr (slot_ne (Or.inr (own_w hw 26 rfl)) (Or.inr (own_w hw 33 rfl)) (by decide) (t := (.array .double)) (t' := (.array .int)) (by decide) (by decide)))
  replace F_ao0_cost := Fld.other W18 F_ao0_cost (Or.inr (slot_ne (Or.inr (own_w hw 28 rfl)) (Or.inr (own_w hw 33 rfl)) (by decide) (t := (.array .double)) (t' := (.array .int)) (by decide) (by decide)))
  replace F_ao0_basic := Fld.other W18 F_ao0_basic (Or.inr (slot_ne (Or.inr (own_w hw 31 rfl)) (Or.inr (own_w hw 33 rfl)) (by decide) (t := (.array .int)) (t' := (.array .int)) (by decide) (by decide)))
  replace F_ao0_nonbasic := Fld.same W18 F_ao0_nonbasic
  replace V_tb := V_tb.other W18 (Ne.symm ne_ao0_tb)
  replace V_ab := V_ab.other W18 (Ne.symm ne_ao0_ab)
  replace E_ab := Exa.wr W18 E_ab
  replace V_ac := V_ac.other W18 (Ne.symm ne_ao0_ac)
  replace E_ac := Exa.wr W18 E_ac
  replace E_b7 := Exa.wr W18 E_b7
  replace V_b7 := V_b7.other W18 (Ne.symm ne_ao0_b7)
  replace E_b10 := Exa.wr W18 E_b10
  replace V_b10 := V_b10.other W18 (Ne.symm ne_ao0_b10)
  replace V_b14 := V_b14.other W18 (Ne.symm ne_ao0_b14)
  replace V_b17 := V_b17.other W18 (Ne.symm ne_ao0_b17)
  replace Zs := Nat.le_trans Zs (Keep.of_wr W18).1
  replace Nf := Fr.snoc X18 Nf g_ao0
  replace Kp := Kp.wr W18 (Or.inl (by simp))
  refine own_go (x' := T18.setTop (mkF m 69 #[.val (.ref ao0), .val (.ref tb), .val (.ref ab), .val (.ref ac), .val (.int 0)] [(.ref ao0), (.int 0)])) (fun _ k => XS.iconst X18.here hx rfl (hb hby d1_63) (XS.istore X18.here hx rfl (hb hby d1_64) rfl (l' := #[.val (.ref ao0), .val (.ref tb), .val (.ref ab), .val (.ref ac), .val (.int 0)]) rfl (XS.iload X18.here hx rfl (hb hby d1_66) rfl (XS.aloadN X18.here hx rfl (hb hby d1_68) rfl rfl k)))) ?_
  obtain ⟨T19, X19, e19, st19⟩ := getF X18 hx hZ hown (host := "") (Or.inl (own_w hw 10 rfl)) Via.refl e18 F_ao0_rows (g := (mkF m 69 #[.val (.ref ao0), .val (.ref tb), .val (.ref ab), .val (.ref ac), .val (.int 0)] [(.ref ao0), (.int 0)])) rfl rfl (hb hby d1_69)
  refine own_go (x' := T19.setTop (mkF m 72 #[.val (.ref ao0), .val (.ref tb), .val (.ref ab), .val (.ref ac), .val (.int 0)] [(.int 2), (.int 0)])) st19 ?_
  refine own_go (x' := T19.setTop (mkF m 76 #[.val (.ref ao0), .val (.ref tb), .val (.ref ab), .val (.ref ac), .val (.int 0)] [(.ref ao0)])) (fun _ k => XS.icmpNo X19.here hx rfl (hb hby d1_72) rfl (tlt (by decide +kernel : ((0 : Int32) < (2 : Int32)))).2.1 (XS.aloadN X19.here hx rfl (hb hby d1_75) rfl rfl k)) ?_
  obtain ⟨T20, X20, e20, st20⟩ := getF X19 hx hZ hown (host := "") (Or.inl (own_w hw 30 rfl)) Via.refl e19 F_ao0_basic (g := (mkF m 76 #[.val (.ref ao0), .val (.ref tb), .val (.ref ab), .val (.ref ac), .val (.int 0)] [(.ref ao0)])) rfl rfl (hb hby d1_76)
  refine own_go (x' := T20.setTop (mkF m 79 #[.val (.ref ao0), .val (.ref tb), .val (.ref ab), .val (.ref ac), .val (.int 0)] [(.ref b14)])) st20 ?_
  refine own_go (x' := T20.setTop (mkF m 82 #[.val (.ref ao0), .val (.ref tb), .val (.ref ab), .val (.ref ac), .val (.int 0)] [(.ref ao0), (.int 0), (.ref b14)])) (fun _ k => XS.iload X20.here hx rfl (hb hby d1_79) rfl (XS.aloadN X20.here hx rfl (hb hby d1_81) rfl rfl k)) ?_
  obtain ⟨T21, X21, e21, st21⟩ := getF X20 hx hZ hown (host := "") (Or.inl (own_w hw 12 rfl)) Via.refl e20 F_ao0_columns (g := (mkF m 82 #[.val (.ref ao0), .val (.ref tb), .val (.ref ab), .val (.ref ac), .val (.int 0)] [(.ref ao0), (.int 0), (.ref b14)])) rfl rfl (hb hby d1_82)
  refine own_go (x' := T21.setTop (mkF m 85 #[.val (.ref ao0), .val (.ref tb), .val (.ref ab), .val (.ref ac), .val (.int 0)] [(.int 2), (.int 0), (.ref b14)])) st21 ?_
  refine own_go (x' := T21.setTop (mkF m 88 #[.val (.ref ao0), .val (.ref tb), .val (.ref ab), .val (.ref ac), .val (.int 0)] [(.int ((2 : Int32) + (0 : Int32))), (.int 0), (.ref b14)])) (fun _ k => XS.iload X21.here hx rfl (hb hby d1_85) rfl (XS.iadd X21.here hx rfl (hb hby d1_87) rfl k)) ?_
  rw [show ((2 : Int32) + (0 : Int32)) = (2 : Int32) from by decide +kernel]
  obtain ⟨cl22, Ar22, q22, Sz22, Nn22, Hh22, Gg22⟩ := V_b14
  have hin22 : ¬ ((0 : Int32) < 0 ∨ cl22.slots.size ≤ ((0 : Int32)).toNatClampNeg) := inb_of Sz22 ⟨by decide, by decide⟩
  obtain ⟨T22, h22, X22, e22, W22, st22⟩ := stI X21 hx hZ e21 Ar22 (j := (0 : Int32)) hin22 (g := (mkF m 88 #[.val (.ref ao0), .val (.ref tb), .val (.ref ab), .val (.ref ac), .val (.int 0)] [(.int 2), (.int 0), (.ref b14)])) rfl rfl (hb hby d1_88)
  refine own_go (x' := T22.setTop (mkF m 89 #[.val (.ref ao0), .val (.ref tb), .val (.ref ab), .val (.ref ac), .val (.int 0)] [])) st22 ?_
  replace E_ao0 := Exa.wr W22 E_ao0
  replace F_ao0_rows := Fld.other W22 F_ao0_rows (Or.inl ne_ao0_b14)
  replace F_ao0_columns := Fld.other W22 F_ao0_columns (Or.inl ne_ao0_b14)
  replace F_ao0_tableau := Fld.other W22 F_ao0_tableau (Or.inl ne_ao0_b14)
  replace F_ao0_value := Fld.other W22 F_ao0_value (Or.inl ne_ao0_b14)
  replace F_ao0_cost := Fld.other W22 F_ao0_cost (Or.inl ne_ao0_b14)
  replace F_ao0_basic := Fld.other W22 F_ao0_basic (Or.inl ne_ao0_b14)
  replace F_ao0_nonbasic := Fld.other W22 F_ao0_nonbasic (Or.inl ne_ao0_b14)
  replace V_tb := V_tb.other W22 ne_tb_b14
  replace V_ab := V_ab.other W22 ne_ab_b14
  replace E_ab := Exa.wr W22 E_ab
  replace V_ac := V_ac.other W22 ne_ac_b14
  replace E_ac := Exa.wr W22 E_ac
  replace E_b7 := Exa.wr W22 E_b7
  replace V_b7 := V_b7.other W22 ne_b7_b14
  replace E_b10 := Exa.wr W22 E_b10
  replace V_b10 := V_b10.other W22 ne_b10_b14
  replace V_b17 := V_b17.other W22 (Ne.symm ne_b14_b17)
  replace Zs := Nat.le_trans Zs (Keep.of_wr W22).1
  replace Nf := Fr.snoc X22 Nf g_b14
  replace Kp := Kp.wr W22 (Or.inr sz_b14)
  have V_b14 : Arv Z h22 b14 k14 .int (2 : Int32) [(.int 2), (.int 0)] (.int 0) := Arv.set Ar22 q22 Sz22 Nn22 Hh22 Gg22 rfl W22 0 rfl (Nat.le_of_ble_eq_true rfl)
  refine own_go (x' := T22.setTop (mkF m 66 #[.val (.ref ao0), .val (.ref tb), .val (.ref ab), .val (.ref ac), .val (.int ((0 : Int32) + (1 : Int32)))] [])) (fun _ k => XS.iinc X22.here hx rfl (hb hby d1_89) rfl (l' := #[.val (.ref ao0), .val (.ref tb), .val (.ref ab), .val (.ref ac), .val (.int ((0 : Int32) + (1 : Int32)))]) rfl (XS.goto X22.here hx rfl (pc0 := 92) (pc' := 66) rfl (hb hby d1_92) (by decide) (by decide) k)) ?_
  rw [show ((0 : Int32) + (1 : Int32)) = (1 : Int32) from by decide +kernel]
  refine own_go (x' := T22.setTop (mkF m 69 #[.val (.ref ao0), .val (.ref tb), .val (.ref ab), .val (.ref ac), .val (.int 1)] [(.ref ao0), (.int 1)])) (fun _ k => XS.iload X22.here hx rfl (hb hby d1_66) rfl (XS.aloadN X22.here hx rfl (hb hby d1_68) rfl rfl k)) ?_
  obtain ⟨T23, X23, e23, st23⟩ := getF X22 hx hZ hown (host := "") (Or.inl (own_w hw 10 rfl)) Via.refl e22 F_ao0_rows (g := (mkF m 69 #[.val (.ref ao0), .val (.ref tb), .val (.ref ab), .val (.ref ac), .val (.int 1)] [(.ref ao0), (.int 1)])) rfl rfl (hb hby d1_69)
  refine own_go (x' := T23.setTop (mkF m 72 #[.val (.ref ao0), .val (.ref tb), .val (.ref ab), .val (.ref ac), .val (.int 1)] [(.int 2), (.int 1)])) st23 ?_
  refine own_go (x' := T23.setTop (mkF m 76 #[.val (.ref ao0), .val (.ref tb), .val (.ref ab), .val (.ref ac), .val (.int 1)] [(.ref ao0)])) (fun _ k => XS.icmpNo X23.here hx rfl (hb hby d1_72) rfl (tlt (by decide +kernel : ((1 : Int32) < (2 : Int32)))).2.1 (XS.aloadN X23.here hx rfl (hb hby d1_75) rfl rfl k)) ?_
  obtain ⟨T24, X24, e24, st24⟩ := getF X23 hx hZ hown (host := "") (Or.inl (own_w hw 30 rfl)) Via.refl e23 F_ao0_basic (g := (mkF m 76 #[.val (.ref ao0), .val (.ref tb), .val (.ref ab), .val (.ref ac), .val (.int 1)] [(.ref ao0)])) rfl rfl (hb hby d1_76)
  refine own_go (x' := T24.setTop (mkF m 79 #[.val (.ref ao0), .val (.ref tb), .val (.ref ab), .val (.ref ac), .val (.int 1)] [(.ref b14)])) st24 ?_
  refine own_go (x' := T24.setTop (mkF m 82 #[.val (.ref ao0), .val (.ref tb), .val (.ref ab), .val (.ref ac), .val (.int 1)] [(.ref ao0), (.int 1), (.ref b14)])) (fun _ k => XS.iload X24.here hx rfl (hb hby d1_79) rfl (XS.aloadN X24.here hx rfl (hb hby d1_81) rfl rfl k)) ?_
  obtain ⟨T25, X25, e25, st25⟩ := getF X24 hx hZ hown (host := "") (Or.inl (own_w hw 12 rfl)) Via.refl e24 F_ao0_columns (g := (mkF m 82 #[.val (.ref ao0), .val (.ref tb), .val (.ref ab), .val (.ref ac), .val (.int 1)] [(.ref ao0), (.int 1), (.ref b14)])) rfl rfl (hb hby d1_82)
  refine own_go (x' := T25.setTop (mkF m 85 #[.val (.ref ao0), .val (.ref tb), .val (.ref ab), .val (.ref ac), .val (.int 1)] [(.int 2), (.int 1), (.ref b14)])) st25 ?_
  refine own_go (x' := T25.setTop (mkF m 88 #[.val (.ref ao0), .val (.ref tb), .val (.ref ab), .val (.ref ac), .val (.int 1)] [(.int ((2 : Int32) + (1 : Int32))), (.int 1), (.ref b14)])) (fun _ k => XS.iload X25.here hx rfl (hb hby d1_85) rfl (XS.iadd X25.here hx rfl (hb hby d1_87) rfl k)) ?_
  rw [show ((2 : Int32) + (1 : Int32)) = (3 : Int32) from by decide +kernel]
  obtain ⟨cl26, Ar26, q26, Sz26, Nn26, Hh26, Gg26⟩ := V_b14
  have hin26 : ¬ ((1 : Int32) < 0 ∨ cl26.slots.size ≤ ((1 : Int32)).toNatClampNeg) := inb_of Sz26 ⟨by decide, by decide⟩
  obtain ⟨T26, h26, X26, e26, W26, st26⟩ := stI X25 hx hZ e25 Ar26 (j := (1 : Int32)) hin26 (g := (mkF m 88 #[.val (.ref ao0), .val (.ref tb), .val (.ref ab), .val (.ref ac), .val (.int 1)] [(.int 3), (.int 1), (.ref b14)])) rfl rfl (hb hby d1_88)
  refine own_go (x' := T26.setTop (mkF m 89 #[.val (.ref ao0), .val (.ref tb), .val (.ref ab), .val (.ref ac), .val (.int 1)] [])) st26 ?_
  replace E_ao0 := Exa.wr W26 E_ao0
  replace F_ao0_rows := Fld.other W26 F_ao0_rows (Or.inl ne_ao0_b14)
  replace F_ao0_columns := Fld.other W26 F_ao0_columns (Or.inl ne_ao0_b14)
  replace F_ao0_tableau := Fld.other W26 F_ao0_tableau (Or.inl ne_ao0_b14)
  replace F_ao0_value := Fld.other W26 F_ao0_value (Or.inl ne_ao0_b14)
  replace F_ao0_cost := Fld.other W26 F_ao0_cost (Or.inl ne_ao0_b14)
  replace F_ao0_basic := Fld.other W26 F_ao0_basic (Or.inl ne_ao0_b14)
  replace F_ao0_nonbasic := Fld.other W26 F_ao0_nonbasic (Or.inl ne_ao0_b14)
  replace V_tb := V_tb.other W26 ne_tb_b14
  replace V_ab := V_ab.other W26 ne_ab_b14
  replace E_ab := Exa.wr W26 E_ab
  replace V_ac := V_ac.other W26 ne_ac_b14
  replace E_ac := Exa.wr W26 E_ac
  replace E_b7 := Exa.wr W26 E_b7
  replace V_b7 := V_b7.other W26 ne_b7_b14
  replace E_b10 := Exa.wr W26 E_b10
  replace V_b10 := V_b10.other W26 ne_b10_b14
  replace V_b17 := V_b17.other W26 (Ne.symm ne_b14_b17)
  replace Zs := Nat.le_trans Zs (Keep.of_wr W26).1
  replace Nf := Fr.snoc X26 Nf g_b14
  replace Kp := Kp.wr W26 (Or.inr sz_b14)
  have V_b14 : Arv Z h26 b14 k14 .int (2 : Int32) [(.int 2), (.int 3)] (.int 0) := Arv.set Ar26 q26 Sz26 Nn26 Hh26 Gg26 rfl W26 1 rfl (Nat.le_of_ble_eq_true rfl)
  refine own_go (x' := T26.setTop (mkF m 66 #[.val (.ref ao0), .val (.ref tb), .val (.ref ab), .val (.ref ac), .val (.int ((1 : Int32) + (1 : Int32)))] [])) (fun _ k => XS.iinc X26.here hx rfl (hb hby d1_89) rfl (l' := #[.val (.ref ao0), .val (.ref tb), .val (.ref ab), .val (.ref ac), .val (.int ((1 : Int32) + (1 : Int32)))]) rfl (XS.goto X26.here hx rfl (pc0 := 92) (pc' := 66) rfl (hb hby d1_92) (by decide) (by decide) k)) ?_
  rw [show ((1 : Int32) + (1 : Int32)) = (2 : Int32) from by decide +kernel]
  refine own_go (x' := T26.setTop (mkF m 69 #[.val (.ref ao0), .val (.ref tb), .val (.ref ab), .val (.ref ac), .val (.int 2)] [(.ref ao0), (.int 2)])) (fun _ k => XS.iload X26.here hx rfl (hb hby d1_66) rfl (XS.aloadN X26.here hx rfl (hb hby d1_68) rfl rfl k)) ?_
  obtain ⟨T27, X27, e27, st27⟩ := getF X26 hx hZ hown (host := "") (Or.inl (own_w hw 10 rfl)) Via.refl e26 F_ao0_rows (g := (mkF m 69 #[.val (.ref ao0), .val (.ref tb), .val (.ref ab), .val (.ref ac), .val (.int 2)] [(.ref ao0), (.int 2)])) rfl rfl (hb hby d1_69)
  refine own_go (x' := T27.setTop (mkF m 72 #[.val (.ref ao0), .val (.ref tb), .val (.ref ab), .val (.ref ac), .val (.int 2)] [(.int 2), (.int 2)])) st27 ?_
  refine own_go (x' := T27.setTop (mkF m 101 #[.val (.ref ao0), .val (.ref tb), .val (.ref ab), .val (.ref ac), .val (.int 0)] [(.ref ao0), (.int 0)])) (fun _ k => XS.icmpYes X27.here hx rfl (pc0 := 72) (pc' := 95) rfl (hb hby d1_72) rfl (flt (Int32.lt_irrefl)).2.1 (by decide) (by decide) (XS.iconst X27.here hx rfl (hb hby d1_95) (XS.istore X27.here hx rfl (hb hby d1_96) rfl (l' := #[.val (.ref ao0), .val (.ref tb), .val (.ref ab), .val (.ref ac), .val (.int 0)]) rfl (XS.iload X27.here hx rfl (hb hby d1_98) rfl (XS.aloadN X27.here hx rfl (hb hby d1_100) rfl rfl k))))) ?_
  obtain ⟨T28, X28, e28, st28⟩ := getF X27 hx hZ hown (host := "") (Or.inl (own_w hw 12 rfl)) Via.refl e27 F_ao0_columns (g := (mkF m 101 #[.val (.ref ao0), .val (.ref tb), .val (.ref ab), .val (.ref ac), .val (.int 0)] [(.ref ao0), (.int 0)])) rfl rfl (hb hby d1_101)
  refine own_go (x' := T28.setTop (mkF m 104 #[.val (.ref ao0), .val (.ref tb), .val (.ref ab), .val (.ref ac), .val (.int 0)] [(.int 2), (.int 0)])) st28 ?_
  refine own_go (x' := T28.setTop (mkF m 108 #[.val (.ref ao0), .val (.ref tb), .val (.ref ab), .val (.ref ac), .val (.int 0)] [(.ref ao0)])) (fun _ k => XS.icmpNo X28.here hx rfl (hb hby d1_104) rfl (tlt (by decide +kernel : ((0 : Int32) < (2 : Int32)))).2.1 (XS.aloadN X28.here hx rfl (hb hby d1_107) rfl rfl k)) ?_
  obtain ⟨T29, X29, e29, st29⟩ := getF X28 hx hZ hown (host := "") (Or.inl (own_w hw 32 rfl)) Via.refl e28 F_ao0_nonbasic (g := (mkF m 108 #[.val (.ref ao0), .val (.ref tb), .val (.ref ab), .val (.ref ac), .val (.int 0)] [(.ref ao0)])) rfl rfl (hb hby d1_108)
  refine own_go (x' := T29.setTop (mkF m 111 #[.val (.ref ao0), .val (.ref tb), .val (.ref ab), .val (.ref ac), .val (.int 0)] [(.ref b17)])) st29 ?_
  refine own_go (x' := T29.setTop (mkF m 115 #[.val (.ref ao0), .val (.ref tb), .val (.ref ab), .val (.ref ac), .val (.int 0)] [(.int 0), (.int 0), (.ref b17)])) (fun _ k => XS.iload X29.here hx rfl (hb hby d1_111) rfl (XS.iload X29.here hx rfl (hb hby d1_113) rfl k)) ?_
  obtain ⟨cl30, Ar30, q30, Sz30, Nn30, Hh30, Gg30⟩ := V_b17
  have hin30 : ¬ ((0 : Int32) < 0 ∨ cl30.slots.size ≤ ((0 : Int32)).toNatClampNeg) := inb_of Sz30 ⟨by decide, by decide⟩
  obtain ⟨T30, h30, X30, e30, W30, st30⟩ := stI X29 hx hZ e29 Ar30 (j := (0 : Int32)) hin30 (g := (mkF m 115 #[.val (.ref ao0), .val (.ref tb), .val (.ref ab), .val (.ref ac), .val (.int 0)] [(.int 0), (.int 0), (.ref b17)])) rfl rfl (hb hby d1_115)
  refine own_go (x' := T30.setTop (mkF m 116 #[.val (.ref ao0), .val (.ref tb), .val (.ref ab), .val (.ref ac), .val (.int 0)] [])) st30 ?_
  replace E_ao0 := Exa.wr W30 E_ao0
  replace F_ao0_rows := Fld.other W30 F_ao0_rows (Or.inl ne_ao0_b17)
  replace F_ao0_columns := Fld.other W30 F_ao0_columns (Or.inl ne_ao0_b17)
  replace F_ao0_tableau := Fld.other W30 F_ao0_tableau (Or.inl ne_ao0_b17)
  replace F_ao0_value := Fld.other W30 F_ao0_value (Or.inl ne_ao0_b17)
  replace F_ao0_cost := Fld.other W30 F_ao0_cost (Or.inl ne_ao0_b17)
  replace F_ao0_basic := Fld.other W30 F_ao0_basic (Or.inl ne_ao0_b17)
  replace F_ao0_nonbasic := Fld.other W30 F_ao0_nonbasic (Or.inl ne_ao0_b17)
  replace V_tb := V_tb.other W30 ne_tb_b17
  replace V_ab := V_ab.other W30 ne_ab_b17
  replace E_ab := Exa.wr W30 E_ab
  replace V_ac := V_ac.other W30 ne_ac_b17
  replace E_ac := Exa.wr W30 E_ac
  replace E_b7 := Exa.wr W30 E_b7
  replace V_b7 := V_b7.other W30 ne_b7_b17
  replace E_b10 := Exa.wr W30 E_b10
  replace V_b10 := V_b10.other W30 ne_b10_b17
  replace V_b14 := V_b14.other W30 ne_b14_b17
  replace Zs := Nat.le_trans Zs (Keep.of_wr W30).1
  replace Nf := Fr.snoc X30 Nf g_b17
  replace Kp := Kp.wr W30 (Or.inr sz_b17)
  have V_b17 : Arv Z h30 b17 k17 .int (2 : Int32) [(.int 0), (.int 0)] (.int 0) := Arv.set Ar30 q30 Sz30 Nn30 Hh30 Gg30 rfl W30 0 rfl (Nat.le_of_ble_eq_true rfl)
  refine own_go (x' := T30.setTop (mkF m 98 #[.val (.ref ao0), .val (.ref tb), .val (.ref ab), .val (.ref ac), .val (.int ((0 : Int32) + (1 : Int32)))] [])) (fun _ k => XS.iinc X30.here hx rfl (hb hby d1_116) rfl (l' := #[.val (.ref ao0), .val (.ref tb), .val (.ref ab), .val (.ref ac), .val (.int ((0 : Int32) + (1 : Int32)))]) rfl (XS.goto X30.here hx rfl (pc0 := 119) (pc' := 98) rfl (hb hby d1_119) (by decide) (by decide) k)) ?_
  rw [show ((0 : Int32) + (1 : Int32)) = (1 : Int32) from by decide +kernel]
  refine own_go (x' := T30.setTop (mkF m 101 #[.val (.ref ao0), .val (.ref tb), .val (.ref ab), .val (.ref ac), .val (.int 1)] [(.ref ao0), (.int 1)])) (fun _ k => XS.iload X30.here hx rfl (hb hby d1_98) rfl (XS.aloadN X30.here hx rfl (hb hby d1_100) rfl rfl k)) ?_
  obtain ⟨T31, X31, e31, st31⟩ := getF X30 hx hZ hown (host := "") (Or.inl (own_w hw 12 rfl)) Via.refl e30 F_ao0_columns (g := (mkF m 101 #[.val (.ref ao0), .val (.ref tb), .val (.ref ab), .val (.ref ac), .val (.int 1)] [(.ref ao0), (.int 1)])) rfl rfl (hb hby d1_101)
  refine own_go (x' := T31.setTop (mkF m 104 #[.val (.ref ao0), .val (.ref tb), .val (.ref ab), .val (.ref ac), .val (.int 1)] [(.int 2), (.int 1)])) st31 ?_
  refine own_go (x' := T31.setTop (mkF m 108 #[.val (.ref ao0), .val (.ref tb), .val (.ref ab), .val (.ref ac), .val (.int 1)] [(.ref ao0)])) (fun _ k => XS.icmpNo X31.here hx rfl (hb hby d1_104) rfl (tlt (by decide +kernel : ((1 : Int32) < (2 : Int32)))).2.1 (XS.aloadN X31.here hx rfl (hb hby d1_107) rfl rfl k)) ?_
  obtain ⟨T32, X32, e32, st32⟩ := getF X31 hx hZ hown (host := "") (Or.inl (own_w hw 32 rfl)) Via.refl e31 F_ao0_nonbasic (g := (mkF m 108 #[.val (.ref ao0), .val (.ref tb), .val (.ref ab), .val (.ref ac), .val (.int 1)] [(.ref ao0)])) rfl rfl (hb hby d1_108)
  refine own_go (x' := T32.setTop (mkF m 111 #[.val (.ref ao0), .val (.ref tb), .val (.ref ab), .val (.ref ac), .val (.int 1)] [(.ref b17)])) st32 ?_
  refine own_go (x' := T32.setTop (mkF m 115 #[.val (.ref ao0), .val (.ref tb), .val (.ref ab), .val (.ref ac), .val (.int 1)] [(.int 1), (.int 1), (.ref b17)])) (fun _ k => XS.iload X32.here hx rfl (hb hby d1_111) rfl (XS.iload X32.here hx rfl (hb hby d1_113) rfl k)) ?_
  obtain ⟨cl33, Ar33, q33, Sz33, Nn33, Hh33, Gg33⟩ := V_b17
  have hin33 : ¬ ((1 : Int32) < 0 ∨ cl33.slots.size ≤ ((1 : Int32)).toNatClampNeg) := inb_of Sz33 ⟨by decide, by decide⟩
  obtain ⟨T33, h33, X33, e33, W33, st33⟩ := stI X32 hx hZ e32 Ar33 (j := (1 : Int32)) hin33 (g := (mkF m 115 #[.val (.ref ao0), .val (.ref tb), .val (.ref ab), .val (.ref ac), .val (.int 1)] [(.int 1), (.int 1), (.ref b17)])) rfl rfl (hb hby d1_115)
  refine own_go (x' := T33.setTop (mkF m 116 #[.val (.ref ao0), .val (.ref tb), .val (.ref ab), .val (.ref ac), .val (.int 1)] [])) st33 ?_
  replace E_ao0 := Exa.wr W33 E_ao0
  replace F_ao0_rows := Fld.other W33 F_ao0_rows (Or.inl ne_ao0_b17)
  replace F_ao0_columns := Fld.other W33 F_ao0_columns (Or.inl ne_ao0_b17)
  replace F_ao0_tableau := Fld.other W33 F_ao0_tableau (Or.inl ne_ao0_b17)
  replace F_ao0_value := Fld.other W33 F_ao0_value (Or.inl ne_ao0_b17)
  replace F_ao0_cost := Fld.other W33 F_ao0_cost (Or.inl ne_ao0_b17)
  replace F_ao0_basic := Fld.other W33 F_ao0_basic (Or.inl ne_ao0_b17)
  replace F_ao0_nonbasic := Fld.other W33 F_ao0_nonbasic (Or.inl ne_ao0_b17)
  replace V_tb := V_tb.other W33 ne_tb_b17
  replace V_ab := V_ab.other W33 ne_ab_b17
  replace E_ab := Exa.wr W33 E_ab
  replace V_ac := V_ac.other W33 ne_ac_b17
  replace E_ac := Exa.wr W33 E_ac
  replace E_b7 := Exa.wr W33 E_b7
  replace V_b7 := V_b7.other W33 ne_b7_b17
  replace E_b10 := Exa.wr W33 E_b10
  replace V_b10 := V_b10.other W33 ne_b10_b17
  replace V_b14 := V_b14.other W33 ne_b14_b17
  replace Zs := Nat.le_trans Zs (Keep.of_wr W33).1
  replace Nf := Fr.snoc X33 Nf g_b17
  replace Kp := Kp.wr W33 (Or.inr sz_b17)
  have V_b17 : Arv Z h33 b17 k17 .int (2 : Int32) [(.int 0), (.int 1)] (.int 0) := Arv.set Ar33 q33 Sz33 Nn33 Hh33 Gg33 rfl W33 1 rfl (Nat.le_of_ble_eq_true rfl)
  refine own_go (x' := T33.setTop (mkF m 98 #[.val (.ref ao0), .val (.ref tb), .val (.ref ab), .val (.ref ac), .val (.int ((1 : Int32) + (1 : Int32)))] [])) (fun _ k => XS.iinc X33.here hx rfl (hb hby d1_116) rfl (l' := #[.val (.ref ao0), .val (.ref tb), .val (.ref ab), .val (.ref ac), .val (.int ((1 : Int32) + (1 : Int32)))]) rfl (XS.goto X33.here hx rfl (pc0 := 119) (pc' := 98) rfl (hb hby d1_119) (by decide) (by decide) k)) ?_
  rw [show ((1 : Int32) + (1 : Int32)) = (2 : Int32) from by decide +kernel]
  refine own_go (x' := T33.setTop (mkF m 101 #[.val (.ref ao0), .val (.ref tb), .val (.ref ab), .val (.ref ac), .val (.int 2)] [(.ref ao0), (.int 2)])) (fun _ k => XS.iload X33.here hx rfl (hb hby d1_98) rfl (XS.aloadN X33.here hx rfl (hb hby d1_100) rfl rfl k)) ?_
  obtain ⟨T34, X34, e34, st34⟩ := getF X33 hx hZ hown (host := "") (Or.inl (own_w hw 12 rfl)) Via.refl e33 F_ao0_columns (g := (mkF m 101 #[.val (.ref ao0), .val (.ref tb), .val (.ref ab), .val (.ref ac), .val (.int 2)] [(.ref ao0), (.int 2)])) rfl rfl (hb hby d1_101)
  refine own_go (x' := T34.setTop (mkF m 104 #[.val (.ref ao0), .val (.ref tb), .val (.ref ab), .val (.ref ac), .val (.int 2)] [(.int 2), (.int 2)])) st34 ?_
  refine own_go (x' := T34.setTop (mkF m 122 #[.val (.ref ao0), .val (.ref tb), .val (.ref ab), .val (.ref ac), .val (.int 2)] [])) (fun _ k => XS.icmpYes X34.here hx rfl (pc0 := 104) (pc' := 122) rfl (hb hby d1_104) rfl (flt (Int32.lt_irrefl)).2.1 (by decide) (by decide) k) ?_
  refine own_retV X34 hx hlk hret (hb hby d1_122) ?_ (by decide) (by decide)
  rw [e34]
  exact ⟨b7, b10, b14, b17, kab, kac, k14, k17, rfl, Nf, Kp, sz_b7, sz_b10, sz_b14, sz_b17, ne_b7_b10, ne_b7_b14, ne_b7_b17, ne_b10_b14, ne_b10_b17, ne_b14_b17, g_b7, g_b10, g_b14, g_b17, E_ao0, F_ao0_rows, F_ao0_columns, F_ao0_tableau, F_ao0_value, F_ao0_cost, F_ao0_basic, F_ao0_nonbasic, V_b7, V_b10, V_b14, V_b17⟩
theorem d5_0 : decode prog_14_method_4_code 0 = .ok (.aload_n 0, 1) := by decide +kernel
theorem d5_1 : decode prog_14_method_4_code 1 = .ok (.getfield 7, 3) := by decide +kernel
theorem d5_4 : decode prog_14_method_4_code 4 = .ok (.newarray .boolean, 2) := by decide +kernel
theorem d5_6 : decode prog_14_method_4_code 6 = .ok (.astore_n 1, 1) := by decide +kernel
theorem d5_7 : decode prog_14_method_4_code 7 = .ok (.aload_n 0, 1) := by decide +kernel
theorem d5_8 : decode prog_14_method_4_code 8 = .ok (.getfield 35, 3) := by decide +kernel
theorem d5_11 : decode prog_14_method_4_code 11 = .ok (.astore_n 2, 1) := by decide +kernel
theorem d5_12 : decode prog_14_method_4_code 12 = .ok (.aload_n 2, 1) := by decide +kernel
theorem d5_13 : decode prog_14_method_4_code 13 = .ok (.arraylength, 1) := by decide +kernel
theorem d5_14 : decode prog_14_method_4_code 14 = .ok (.istore_n 3, 1) := by decide +kernel
theorem d5_15 : decode prog_14_method_4_code 15 = .ok (.iconst 0, 1) := by decide +kernel
theorem d5_16 : decode prog_14_method_4_code 16 = .ok (.istore 4, 2) := by decide +kernel
theorem d5_18 : decode prog_14_method_4_code 18 = .ok (.iload 4, 2) := by decide +kernel
theorem d5_20 : decode prog_14_method_4_code 20 = .ok (.iload_n 3, 1) := by decide +kernel
theorem d5_21 : decode prog_14_method_4_code 21 = .ok (.if_icmp .ge 34, 3) := by decide +kernel
theorem d5_24 : decode prog_14_method_4_code 24 = .ok (.aload_n 2, 1) := by decide +kernel
theorem d5_25 : decode prog_14_method_4_code 25 = .ok (.iload 4, 2) := by decide +kernel
theorem d5_27 : decode prog_14_method_4_code 27 = .ok (.iaload, 1) := by decide +kernel
theorem d5_28 : decode prog_14_method_4_code 28 = .ok (.istore 5, 2) := by decide +kernel
theorem d5_30 : decode prog_14_method_4_code 30 = .ok (.iload 5, 2) := by decide +kernel
theorem d5_32 : decode prog_14_method_4_code 32 = .ok (.aload_n 0, 1) := by decide +kernel
theorem d5_33 : decode prog_14_method_4_code 33 = .ok (.getfield 13, 3) := by decide +kernel
theorem d5_36 : decode prog_14_method_4_code 36 = .ok (.if_icmp .lt 13, 3) := by decide +kernel
theorem d5_49 : decode prog_14_method_4_code 49 = .ok (.iinc 4 1, 3) := by decide +kernel
theorem d5_52 : decode prog_14_method_4_code 52 = .ok (.goto (-34), 3) := by decide +kernel
theorem d5_55 : decode prog_14_method_4_code 55 = .ok (.aload_n 1, 1) := by decide +kernel
theorem d5_56 : decode prog_14_method_4_code 56 = .ok (.areturn, 1) := by decide +kernel
def Q_rm5_0 (Z : State) (ao0 nb : Addr) (kn : ClassId) (h0 : Heap) (n0 : Nat) (v : Option Value) (h : Heap) (L : List Loc) : Prop := ∃ (b : Addr) (kq : ClassId), v = some (.ref b) ∧ Fr n0 L ∧ Keep h0 h [] ∧ h0.size ≤ b ∧ n0 ≤ b ∧ Arv Z h b kq .boolean (2 : Int32) [(.int 0), (.int 0)] (.int (0 : Int32))
theorem pn_rm5_0 : plainName "com/example/moving_tokens/movingtokens/DualSimplex" = true := by first | (simp [plainName, overriddenIn]; done) | decide +kernel
theorem ef_rm5_0 (m : MethodId) (x0 : Addr) : entryFrame m #[(.ref x0)] 6 = mkF m 0 #[.val (.ref x0), .unset, .unset, .unset, .unset, .unset] [] := by first | (simp [entryFrame, mkF, argsToLocals, Value.category]; done) | rfl
set_option maxRecDepth 65536 in
set_option maxHeartbeats 40000000 in
theorem rm5_0 (l : Launch) (Z : State) (a0 : Array Value) (hw : ∀ d ∈ tables_1, d.before a0 Z = true) (ws : List Jvm.Cond) (ao0 nb : Addr) (kn : ClassId) (h0 : Heap) (n0 : Nat) (Z0 : n0 ≤ h0.size) (F_ao0_rows : Fld Z h0 ao0 "com/example/moving_tokens/movingtokens/DualSimplex" "rows" "I" (.int 2)) (F_ao0_columns : Fld Z h0 ao0 "com/example/moving_tokens/movingtokens/DualSimplex" "columns" "I" (.int 2)) (F_ao0_nonbasic : Fld Z h0 ao0 "com/example/moving_tokens/movingtokens/DualSimplex" "nonbasic" "[I" (.ref nb)) (V_nb : Arv Z h0 nb kn .int (2 : Int32) [(.int 0), (.int 1)] (.int (0 : Int32))) :
    MetFree l (⟨"com/example/moving_tokens/movingtokens/DualSimplex", "tightRows", "()[Z"⟩ : MethodName) (head1 (Jvm.Cond.code (⟨"com/example/moving_tokens/movingtokens/DualSimplex", "tightRows", "()[Z"⟩ : MethodName) prog_14_method_4_code 6 (some (.array .boolean)) :: ws) ({ frames := 0, cells := 1, slots := 2, locals := 0 } : Room)) (fun a U => a = #[(.ref ao0)] ∧ Z.Warmed39 U.vm ∧ U.heap = h0) (fun _ _ _ _ _ => True) (fun _ U o U' => ∃ v L, o = .returned v ∧ (Q_rm5_0 Z ao0 nb kn h0 n0) v U'.heap L ∧ FrameEnd U o U' L ({ frames := 0, cells := 1, slots := 2, locals := 0 } : Room).cells ({ frames := 0, cells := 1, slots := 2, locals := 0 } : Room).slots) := by
  refine MetFree.of_bodySF (plainFor_of_name pn_rm5_0) hisR ?_
  intro p e s m args below meth c s₁ Bd hml0 hP hK
  obtain ⟨rfl, hZ, hh⟩ := hP
  have hx := Bd.exec
  have hby := Bd.bytes
  have hlk := BodyLoose.notSynchronized Bd
  have hret := Bd.returns
  have hml : c.maxLocals = 6 := hml0
  have hown : s.vm.findClass "com/example/moving_tokens/movingtokens/DualSimplex" = some m.cls := findClass_of_methodNamed Bd.named
  have hnm := (name_of_methodNamed Bd.named Bd.method).1
  have X0 : Stand p l e ({ frames := 0, cells := 1, slots := 2, locals := 0 } : Room) s m #[(.ref ao0)] below meth c s₁ [] 0 0 := Stand.of_body Bd
  have e0 : s₁.heap = h0 := by rw [← hh, Bd.state]; rfl
  have Nf := Fr.nil n0
  have Zs := Z0
  have Kp : Keep h0 h0 [] := Keep.refl _ _
  show own_End p e below s (Q_rm5_0 Z ao0 nb kn h0 n0) ({ frames := 0, cells := 1, slots := 2, locals := 0 } : Room).cells ({ frames := 0, cells := 1, slots := 2, locals := 0 } : Room).slots (s₁.setTop (entryFrame m #[(.ref ao0)] 6))
  refine own_go (x' := s₁.setTop (mkF m 0 #[.val (.ref ao0), .unset, .unset, .unset, .unset, .unset] [])) (fun t k => castTop (ef_rm5_0 m ao0) k) ?_
  refine own_go (x' := s₁.setTop (mkF m 1 #[.val (.ref ao0), .unset, .unset, .unset, .unset, .unset] [(.ref ao0)])) (fun _ k => XS.aloadN X0.here hx rfl (hb hby d5_0) rfl rfl k) ?_
  obtain ⟨T1, X1, e1, st1⟩ := getF X0 hx hZ hown (host := "") (Or.inl (own_w hw 10 rfl)) Via.refl e0 F_ao0_rows (g := (mkF m 1 #[.val (.ref ao0), .unset, .unset, .unset, .unset, .unset] [(.ref ao0)])) rfl rfl (hb hby d5_1)
  refine own_go (x' := T1.setTop (mkF m 4 #[.val (.ref ao0), .unset, .unset, .unset, .unset, .unset] [(.int 2)])) st1 ?_
  obtain ⟨T2, h2, k2, X2, e2, E2, A2, st2⟩ := newP X1 hx hZ (own_w hw 49 rfl) e1 (g := (mkF m 4 #[.val (.ref ao0), .unset, .unset, .unset, .unset, .unset] [(.int 2)])) rfl (hb hby d5_4) rfl (by decide) (cap := 2) (by decide) (by decide) (by decide) (by decide)
  obtain ⟨b2, g2⟩ : ∃ z, z = h0.size := ⟨_, rfl⟩
  rw [← g2] at A2 st2
  have ne_ao0_b2 : ao0 ≠ b2 := Nat.ne_of_lt (Nat.lt_of_lt_of_le F_ao0_rows.lt (Nat.le_of_eq g2.symm))
  have ne_nb_b2 : nb ≠ b2 := Nat.ne_of_lt (Nat.lt_of_lt_of_le V_nb.lt (Nat.le_of_eq g2.symm))
  have g_b2 : n0 ≤ b2 := Nat.le_trans Zs (Nat.le_of_eq g2.symm)
  have sz_b2 : h0.size ≤ b2 := Nat.le_trans Kp.1 (Nat.le_of_eq g2.symm)
  replace F_ao0_rows := Fld.ext E2 F_ao0_rows
  replace F_ao0_columns := Fld.ext E2 F_ao0_columns
  replace F_ao0_nonbasic := Fld.ext E2 F_ao0_nonbasic
  replace V_nb := V_nb.ext E2
  replace Zs := Nat.le_trans Zs E2.1
  replace Kp := Kp.ext E2
  have V_b2 : Arv Z h2 b2 k2 .boolean (2 : Int32) [(.int 0), (.int 0)] (.int 0) := (Arv.new A2 (by decide)).pad (pad_rep [] (.int 0) 2)
  refine own_go (x' := T2.setTop (mkF m 6 #[.val (.ref ao0), .unset, .unset, .unset, .unset, .unset] [(.ref b2)])) st2 ?_
  refine own_go (x' := T2.setTop (mkF m 8 #[.val (.ref ao0), .val (.ref b2), .unset, .unset, .unset, .unset] [(.ref ao0)])) (fun _ k => XS.astoreN X2.here hx rfl (hb hby d5_6) rfl rfl (l' := #[.val (.ref ao0), .val (.ref b2), .unset, .unset, .unset, .unset]) rfl (XS.aloadN X2.here hx rfl (hb hby d5_7) rfl rfl k)) ?_
  obtain ⟨T3, X3, e3, st3⟩ := getF X2 hx hZ hown (host := "") (Or.inl (own_w hw 32 rfl)) Via.refl e2 F_ao0_nonbasic (g := (mkF m 8 #[.val (.ref ao0), .val (.ref b2), .unset, .unset, .unset, .unset] [(.ref ao0)])) rfl rfl (hb hby d5_8)
  refine own_go (x' := T3.setTop (mkF m 11 #[.val (.ref ao0), .val (.ref b2), .unset, .unset, .unset, .unset] [(.ref nb)])) st3 ?_
  refine own_go (x' := T3.setTop (mkF m 13 #[.val (.ref ao0), .val (.ref b2), .val (.ref nb), .unset, .unset, .unset] [(.ref nb)])) (fun _ k => XS.astoreN X3.here hx rfl (hb hby d5_11) rfl rfl (l' := #[.val (.ref ao0), .val (.ref b2), .val (.ref nb), .unset, .unset, .unset]) rfl (XS.aloadN X3.here hx rfl (hb hby d5_12) rfl rfl k)) ?_
  obtain ⟨cl4, Ar4, -, Sz4, Nn4, -, -⟩ := id V_nb
  refine own_go (x' := T3.setTop (mkF m 14 #[.val (.ref ao0), .val (.ref b2), .val (.ref nb), .unset, .unset, .unset] [(.int 2)])) (fun t k => X3.arraylength hx (Eq.trans (congrArg (fun h_ => h_[_]?) e3) Ar4.1) (State.isArrayOf_alike hZ.alike Ar4.2.1) (g := (mkF m 13 #[.val (.ref ao0), .val (.ref b2), .val (.ref nb), .unset, .unset, .unset] [(.ref nb)])) rfl rfl (hb hby d5_13) t (by rw [len_of Sz4 Nn4]; exact k)) ?_
  refine own_go (x' := T3.setTop (mkF m 24 #[.val (.ref ao0), .val (.ref b2), .val (.ref nb), .val (.int 2), .val (.int 0), .unset] [])) (fun _ k => XS.istoreN X3.here hx rfl (hb hby d5_14) rfl (l' := #[.val (.ref ao0), .val (.ref b2), .val (.ref nb), .val (.int 2), .unset, .unset]) rfl (XS.iconst X3.here hx rfl (hb hby d5_15) (XS.istore X3.here hx rfl (hb hby d5_16) rfl (l' := #[.val (.ref ao0), .val (.ref b2), .val (.ref nb), .val (.int 2), .val (.int 0), .unset]) rfl (XS.iload X3.here hx rfl (hb hby d5_18) rfl (XS.iloadN X3.here hx rfl (hb hby d5_20) rfl (XS.icmpNo X3.here hx rfl (hb hby d5_21) rfl (tlt (by decide +kernel : ((0 : Int32) < (2 : Int32)))).2.1 k)))))) ?_
  refine own_go (x' := T3.setTop (mkF m 27 #[.val (.ref ao0), .val (.ref b2), .val (.ref nb), .val (.int 2), .val (.int 0), .unset] [(.int 0), (.ref nb)])) (fun _ k => XS.aloadN X3.here hx rfl (hb hby d5_24) rfl rfl (XS.iload X3.here hx rfl (hb hby d5_25) rfl k)) ?_
  obtain ⟨cl5, Ar5, q5, Sz5, Nn5, Hh5, Gg5⟩ := id V_nb
  have hin5 : ¬ ((0 : Int32) < 0 ∨ cl5.slots.size ≤ ((0 : Int32)).toNatClampNeg) := inb_of Sz5 ⟨by decide, by decide⟩
  refine own_go (x' := T3.setTop (mkF m 28 #[.val (.ref ao0), .val (.ref b2), .val (.ref nb), .val (.int 2), .val (.int 0), .unset] [(.int 0)])) (X3.iaload hx (j := (0 : Int32)) (v := (.int 0)) (Eq.trans (congrArg (fun h_ => h_[_]?) e3) Ar5.1) (State.isArrayOf_alike hZ.alike Ar5.2.1) Ar5.2.2 hin5 (Hh5.at hin5 rfl) (g := (mkF m 27 #[.val (.ref ao0), .val (.ref b2), .val (.ref nb), .val (.int 2), .val (.int 0), .unset] [(.int 0), (.ref nb)])) rfl rfl (hb hby d5_27)) ?_
  refine own_go (x' := T3.setTop (mkF m 33 #[.val (.ref ao0), .val (.ref b2), .val (.ref nb), .val (.int 2), .val (.int 0), .val (.int 0)] [(.ref ao0), (.int 0)])) (fun _ k => XS.istore X3.here hx rfl (hb hby d5_28) rfl (l' := #[.val (.ref ao0), .val (.ref b2), .val (.ref nb), .val (.int 2), .val (.int 0), .val (.int 0)]) rfl (XS.iload X3.here hx rfl (hb hby d5_30) rfl (XS.aloadN X3.here hx rfl (hb hby d5_32) rfl rfl k))) ?_
  obtain ⟨T6, X6, e6, st6⟩ := getF X3 hx hZ hown (host := "") (Or.inl (own_w hw 12 rfl)) Via.refl e3 F_ao0_columns (g := (mkF m 33 #[.val (.ref ao0), .val (.ref b2), .val (.ref nb), .val (.int 2), .val (.int 0), .val (.int 0)] [(.ref ao0), (.int 0)])) rfl rfl (hb hby d5_33)
  refine own_go (x' := T6.setTop (mkF m 36 #[.val (.ref ao0), .val (.ref b2), .val (.ref nb), .val (.int 2), .val (.int 0), .val (.int 0)] [(.int 2), (.int 0)])) st6 ?_
  refine own_go (x' := T6.setTop (mkF m 18 #[.val (.ref ao0), .val (.ref b2), .val (.ref nb), .val (.int 2), .val (.int ((0 : Int32) + (1 : Int32))), .val (.int 0)] [])) (fun _ k => XS.icmpYes X6.here hx rfl (pc0 := 36) (pc' := 49) rfl (hb hby d5_36) rfl (tlt (by decide +kernel : ((0 : Int32) < (2 : Int32)))).1 (by decide) (by decide) (XS.iinc X6.here hx rfl (hb hby d5_49) rfl (l' := #[.val (.ref ao0), .val (.ref b2), .val (.ref nb), .val (.int 2), .val (.int ((0 : Int32) + (1 : Int32))), .val (.int 0)]) rfl (XS.goto X6.here hx rfl (pc0 := 52) (pc' := 18) rfl (hb hby d5_52) (by decide) (by decide) k))) ?_
  rw [show ((0 : Int32) + (1 : Int32)) = (1 : Int32) from by decide +kernel]
  refine own_go (x' := T6.setTop (mkF m 27 #[.val (.ref ao0), .val (.ref b2), .val (.ref nb), .val (.int 2), .val (.int 1), .val (.int 0)] [(.int 1), (.ref nb)])) (fun _ k => XS.iload X6.here hx rfl (hb hby d5_18) rfl (XS.iloadN X6.here hx rfl (hb hby d5_20) rfl (XS.icmpNo X6.here hx rfl (hb hby d5_21) rfl (tlt (by decide +kernel : ((1 : Int32) < (2 : Int32)))).2.1 (XS.aloadN X6.here hx rfl (hb hby d5_24) rfl rfl (XS.iload X6.here hx rfl (hb hby d5_25) rfl k))))) ?_
  obtain ⟨cl7, Ar7, q7, Sz7, Nn7, Hh7, Gg7⟩ := id V_nb
  have hin7 : ¬ ((1 : Int32) < 0 ∨ cl7.slots.size ≤ ((1 : Int32)).toNatClampNeg) := inb_of Sz7 ⟨by decide, by decide⟩
  refine own_go (x' := T6.setTop (mkF m 28 #[.val (.ref ao0), .val (.ref b2), .val (.ref nb), .val (.int 2), .val (.int 1), .val (.int 0)] [(.int 1)])) (X6.iaload hx (j := (1 : Int32)) (v := (.int 1)) (Eq.trans (congrArg (fun h_ => h_[_]?) e6) Ar7.1) (State.isArrayOf_alike hZ.alike Ar7.2.1) Ar7.2.2 hin7 (Hh7.at hin7 rfl) (g := (mkF m 27 #[.val (.ref ao0), .val (.ref b2), .val (.ref nb), .val (.int 2), .val (.int 1), .val (.int 0)] [(.int 1), (.ref nb)])) rfl rfl (hb hby d5_27)) ?_
  refine own_go (x' := T6.setTop (mkF m 33 #[.val (.ref ao0), .val (.ref b2), .val (.ref nb), .val (.int 2), .val (.int 1), .val (.int 1)] [(.ref ao0), (.int 1)])) (fun _ k => XS.istore X6.here hx rfl (hb hby d5_28) rfl (l' := #[.val (.ref ao0), .val (.ref b2), .val (.ref nb), .val (.int 2), .val (.int 1), .val (.int 1)]) rfl (XS.iload X6.here hx rfl (hb hby d5_30) rfl (XS.aloadN X6.here hx rfl (hb hby d5_32) rfl rfl k))) ?_
  obtain ⟨T8, X8, e8, st8⟩ := getF X6 hx hZ hown (host := "") (Or.inl (own_w hw 12 rfl)) Via.refl e6 F_ao0_columns (g := (mkF m 33 #[.val (.ref ao0), .val (.ref b2), .val (.ref nb), .val (.int 2), .val (.int 1), .val (.int 1)] [(.ref ao0), (.int 1)])) rfl rfl (hb hby d5_33)
  refine own_go (x' := T8.setTop (mkF m 36 #[.val (.ref ao0), .val (.ref b2), .val (.ref nb), .val (.int 2), .val (.int 1), .val (.int 1)] [(.int 2), (.int 1)])) st8 ?_
  refine own_go (x' := T8.setTop (mkF m 18 #[.val (.ref ao0), .val (.ref b2), .val (.ref nb), .val (.int 2), .val (.int ((1 : Int32) + (1 : Int32))), .val (.int 1)] [])) (fun _ k => XS.icmpYes X8.here hx rfl (pc0 := 36) (pc' := 49) rfl (hb hby d5_36) rfl (tlt (by decide +kernel : ((1 : Int32) < (2 : Int32)))).1 (by decide) (by decide) (XS.iinc X8.here hx rfl (hb hby d5_49) rfl (l' := #[.val (.ref ao0), .val (.ref b2), .val (.ref nb), .val (.int 2), .val (.int ((1 : Int32) + (1 : Int32))), .val (.int 1)]) rfl (XS.goto X8.here hx rfl (pc0 := 52) (pc' := 18) rfl (hb hby d5_52) (by decide) (by decide) k))) ?_
  rw [show ((1 : Int32) + (1 : Int32)) = (2 : Int32) from by decide +kernel]
  refine own_go (x' := T8.setTop (mkF m 56 #[.val (.ref ao0), .val (.ref b2), .val (.ref nb), .val (.int 2), .val (.int 2), .val (.int 1)] [(.ref b2)])) (fun _ k => XS.iload X8.here hx rfl (hb hby d5_18) rfl (XS.iloadN X8.here hx rfl (hb hby d5_20) rfl (XS.icmpYes X8.here hx rfl (pc0 := 21) (pc' := 55) rfl (hb hby d5_21) rfl (flt (Int32.lt_irrefl)).2.1 (by decide) (by decide) (XS.aloadN X8.here hx rfl (hb hby d5_55) rfl rfl k)))) ?_
  refine own_retR X8 hx hlk hret rfl rfl (hb hby d5_56) ?_ (by decide) (by decide)
  rw [e8]
  exact ⟨b2, k2, rfl, Nf, Kp, sz_b2, g_b2, V_b2⟩
theorem d5_39 : decode prog_14_method_4_code 39 = .ok (.aload_n 1, 1) := by decide +kernel
theorem d5_40 : decode prog_14_method_4_code 40 = .ok (.iload 5, 2) := by decide +kernel
theorem d5_42 : decode prog_14_method_4_code 42 = .ok (.aload_n 0, 1) := by decide +kernel
theorem d5_43 : decode prog_14_method_4_code 43 = .ok (.getfield 13, 3) := by decide +kernel
theorem d5_46 : decode prog_14_method_4_code 46 = .ok (.isub, 1) := by decide +kernel
theorem d5_47 : decode prog_14_method_4_code 47 = .ok (.iconst 1, 1) := by decide +kernel
theorem d5_48 : decode prog_14_method_4_code 48 = .ok (.bastore, 1) := by decide +kernel
def Q_rm5_2 (Z : State) (ao0 nb : Addr) (kn : ClassId) (h0 : Heap) (n0 : Nat) (v : Option Value) (h : Heap) (L : List Loc) : Prop := ∃ (b : Addr) (kq : ClassId), v = some (.ref b) ∧ Fr n0 L ∧ Keep h0 h [] ∧ h0.size ≤ b ∧ n0 ≤ b ∧ Arv Z h b kq .boolean (2 : Int32) [(.int (nar .boolean (1 : Int32))), (.int 0)] (.int (0 : Int32))
theorem pn_rm5_2 : plainName "com/example/moving_tokens/movingtokens/DualSimplex" = true := by first | (simp [plainName, overriddenIn]; done) | decide +kernel
theorem ef_rm5_2 (m : MethodId) (x0 : Addr) : entryFrame m #[(.ref x0)] 6 = mkF m 0 #[.val (.ref x0), .unset, .unset, .unset, .unset, .unset] [] := by first | (simp [entryFrame, mkF, argsToLocals, Value.category]; done) | rfl
set_option maxRecDepth 65536 in
set_option maxHeartbeats 40000000 in
theorem rm5_2 (l : Launch) (Z : State) (a0 : Array Value) (hw : ∀ d ∈ tables_1, d.before a0 Z = true) (ws : List Jvm.Cond) (ao0 nb : Addr) (kn : ClassId) (h0 : Heap) (n0 : Nat) (Z0 : n0 ≤ h0.size) (F_ao0_rows : Fld Z h0 ao0 "com/example/moving_tokens/movingtokens/DualSimplex" "rows" "I" (.int 2)) (F_ao0_columns : Fld Z h0 ao0 "com/example/moving_tokens/movingtokens/DualSimplex" "columns" "I" (.int 2)) (F_ao0_nonbasic : Fld Z h0 ao0 "com/example/moving_tokens/movingtokens/DualSimplex" "nonbasic" "[I" (.ref nb)) (V_nb : Arv Z h0 nb kn .int (2 : Int32) [(.int 2), (.int 1)] (.int (0 : Int32))) :
    MetFree l (⟨"com/example/moving_tokens/movingtokens/DualSimplex", "tightRows", "()[Z"⟩ : MethodName) (head1 (Jvm.Cond.code (⟨"com/example/moving_tokens/movingtokens/DualSimplex", "tightRows", "()[Z"⟩ : MethodName) prog_14_method_4_code 6 (some (.array .boolean)) :: ws) ({ frames := 0, cells := 1, slots := 2, locals := 0 } : Room)) (fun a U => a = #[(.ref ao0)] ∧ Z.Warmed39 U.vm ∧ U.heap = h0) (fun _ _ _ _ _ => True) (fun _ U o U' => ∃ v L, o = .returned v ∧ (Q_rm5_2 Z ao0 nb kn h0 n0) v U'.heap L ∧ FrameEnd U o U' L ({ frames := 0, cells := 1, slots := 2, locals := 0 } : Room).cells ({ frames := 0, cells := 1, slots := 2, locals := 0 } : Room).slots) := by
  refine MetFree.of_bodySF (plainFor_of_name pn_rm5_2) hisR ?_
  intro p e s m args below meth c s₁ Bd hml0 hP hK
  obtain ⟨rfl, hZ, hh⟩ := hP
  have hx := Bd.exec
  have hby := Bd.bytes
  have hlk := BodyLoose.notSynchronized Bd
  have hret := Bd.returns
  have hml : c.maxLocals = 6 := hml0
  have hown : s.vm.findClass "com/example/moving_tokens/movingtokens/DualSimplex" = some m.cls := findClass_of_methodNamed Bd.named
  have hnm := (name_of_methodNamed Bd.named Bd.method).1
  have X0 : Stand p l e ({ frames := 0, cells := 1, slots := 2, locals := 0 } : Room) s m #[(.ref ao0)] below meth c s₁ [] 0 0 := Stand.of_body Bd
  have e0 : s₁.heap = h0 := by rw [← hh, Bd.state]; rfl
  have Nf := Fr.nil n0
  have Zs := Z0
  have Kp : Keep h0 h0 [] := Keep.refl _ _
  show own_End p e below s (Q_rm5_2 Z ao0 nb kn h0 n0) ({ frames := 0, cells := 1, slots := 2, locals := 0 } : Room).cells ({ frames := 0, cells := 1, slots := 2, locals := 0 } : Room).slots (s₁.setTop (entryFrame m #[(.ref ao0)] 6))
  refine own_go (x' := s₁.setTop (mkF m 0 #[.val (.ref ao0), .unset, .unset, .unset, .unset, .unset] [])) (fun t k => castTop (ef_rm5_2 m ao0) k) ?_
  refine own_go (x' := s₁.setTop (mkF m 1 #[.val (.ref ao0), .unset, .unset, .unset, .unset, .unset] [(.ref ao0)])) (fun _ k => XS.aloadN X0.here hx rfl (hb hby d5_0) rfl rfl k) ?_
  obtain ⟨T1, X1, e1, st1⟩ := getF X0 hx hZ hown (host := "") (Or.inl (own_w hw 10 rfl)) Via.refl e0 F_ao0_rows (g := (mkF m 1 #[.val (.ref ao0), .unset, .unset, .unset, .unset, .unset] [(.ref ao0)])) rfl rfl (hb hby d5_1)
  refine own_go (x' := T1.setTop (mkF m 4 #[.val (.ref ao0), .unset, .unset, .unset, .unset, .unset] [(.int 2)])) st1 ?_
  obtain ⟨T2, h2, k2, X2, e2, E2, A2, st2⟩ := newP X1 hx hZ (own_w hw 49 rfl) e1 (g := (mkF m 4 #[.val (.ref ao0), .unset, .unset, .unset, .unset, .unset] [(.int 2)])) rfl (hb hby d5_4) rfl (by decide) (cap := 2) (by decide) (by decide) (by decide) (by decide)
  obtain ⟨b2, g2⟩ : ∃ z, z = h0.size := ⟨_, rfl⟩
  rw [← g2] at A2 st2
  have ne_ao0_b2 : ao0 ≠ b2 := Nat.ne_of_lt (Nat.lt_of_lt_of_le F_ao0_rows.lt (Nat.le_of_eq g2.symm))
  have ne_nb_b2 : nb ≠ b2 := Nat.ne_of_lt (Nat.lt_of_lt_of_le V_nb.lt (Nat.le_of_eq g2.symm))
  have g_b2 : n0 ≤ b2 := Nat.le_trans Zs (Nat.le_of_eq g2.symm)
  have sz_b2 : h0.size ≤ b2 := Nat.le_trans Kp.1 (Nat.le_of_eq g2.symm)
  replace F_ao0_rows := Fld.ext E2 F_ao0_rows
  replace F_ao0_columns := Fld.ext E2 F_ao0_columns
  replace F_ao0_nonbasic := Fld.ext E2 F_ao0_nonbasic
  replace V_nb := V_nb.ext E2
  replace Zs := Nat.le_trans Zs E2.1
  replace Kp := Kp.ext E2
  have V_b2 : Arv Z h2 b2 k2 .boolean (2 : Int32) [(.int 0), (.int 0)] (.int 0) := (Arv.new A2 (by decide)).pad (pad_rep [] (.int 0) 2)
  refine own_go (x' := T2.setTop (mkF m 6 #[.val (.ref ao0), .unset, .unset, .unset, .unset, .unset] [(.ref b2)])) st2 ?_
  refine own_go (x' := T2.setTop (mkF m 8 #[.val (.ref ao0), .val (.ref b2), .unset, .unset, .unset, .unset] [(.ref ao0)])) (fun _ k => XS.astoreN X2.here hx rfl (hb hby d5_6) rfl rfl (l' := #[.val (.ref ao0), .val (.ref b2), .unset, .unset, .unset, .unset]) rfl (XS.aloadN X2.here hx rfl (hb hby d5_7) rfl rfl k)) ?_
  obtain ⟨T3, X3, e3, st3⟩ := getF X2 hx hZ hown (host := "") (Or.inl (own_w hw 32 rfl)) Via.refl e2 F_ao0_nonbasic (g := (mkF m 8 #[.val (.ref ao0), .val (.ref b2), .unset, .unset, .unset, .unset] [(.ref ao0)])) rfl rfl (hb hby d5_8)
  refine own_go (x' := T3.setTop (mkF m 11 #[.val (.ref ao0), .val (.ref b2), .unset, .unset, .unset, .unset] [(.ref nb)])) st3 ?_
  refine own_go (x' := T3.setTop (mkF m 13 #[.val (.ref ao0), .val (.ref b2), .val (.ref nb), .unset, .unset, .unset] [(.ref nb)])) (fun _ k => XS.astoreN X3.here hx rfl (hb hby d5_11) rfl rfl (l' := #[.val (.ref ao0), .val (.ref b2), .val (.ref nb), .unset, .unset, .unset]) rfl (XS.aloadN X3.here hx rfl (hb hby d5_12) rfl rfl k)) ?_
  obtain ⟨cl4, Ar4, -, Sz4, Nn4, -, -⟩ := id V_nb
  refine own_go (x' := T3.setTop (mkF m 14 #[.val (.ref ao0), .val (.ref b2), .val (.ref nb), .unset, .unset, .unset] [(.int 2)])) (fun t k => X3.arraylength hx (Eq.trans (congrArg (fun h_ => h_[_]?) e3) Ar4.1) (State.isArrayOf_alike hZ.alike Ar4.2.1) (g := (mkF m 13 #[.val (.ref ao0), .val (.ref b2), .val (.ref nb), .unset, .unset, .unset] [(.ref nb)])) rfl rfl (hb hby d5_13) t (by rw [len_of Sz4 Nn4]; exact k)) ?_
  refine own_go (x' := T3.setTop (mkF m 24 #[.val (.ref ao0), .val (.ref b2), .val (.ref nb), .val (.int 2), .val (.int 0), .unset] [])) (fun _ k => XS.istoreN X3.here hx rfl (hb hby d5_14) rfl (l' := #[.val (.ref ao0), .val (.ref b2), .val (.ref nb), .val (.int 2), .unset, .unset]) rfl (XS.iconst X3.here hx rfl (hb hby d5_15) (XS.istore X3.here hx rfl (hb hby d5_16) rfl (l' := #[.val (.ref ao0), .val (.ref b2), .val (.ref nb), .val (.int 2), .val (.int 0), .unset]) rfl (XS.iload X3.here hx rfl (hb hby d5_18) rfl (XS.iloadN X3.here hx rfl (hb hby d5_20) rfl (XS.icmpNo X3.here hx rfl (hb hby d5_21) rfl (tlt (by decide +kernel : ((0 : Int32) < (2 : Int32)))).2.1 k)))))) ?_
  refine own_go (x' := T3.setTop (mkF m 27 #[.val (.ref ao0), .val (.ref b2), .val (.ref nb), .val (.int 2), .val (.int 0), .unset] [(.int 0), (.ref nb)])) (fun _ k => XS.aloadN X3.here hx rfl (hb hby d5_24) rfl rfl (XS.iload X3.here hx rfl (hb hby d5_25) rfl k)) ?_
  obtain ⟨cl5, Ar5, q5, Sz5, Nn5, Hh5, Gg5⟩ := id V_nb
  have hin5 : ¬ ((0 : Int32) < 0 ∨ cl5.slots.size ≤ ((0 : Int32)).toNatClampNeg) := inb_of Sz5 ⟨by decide, by decide⟩
  refine own_go (x' := T3.setTop (mkF m 28 #[.val (.ref ao0), .val (.ref b2), .val (.ref nb), .val (.int 2), .val (.int 0), .unset] [(.int 2)])) (X3.iaload hx (j := (0 : Int32)) (v := (.int 2)) (Eq.trans (congrArg (fun h_ => h_[_]?) e3) Ar5.1) (State.isArrayOf_alike hZ.alike Ar5.2.1) Ar5.2.2 hin5 (Hh5.at hin5 rfl) (g := (mkF m 27 #[.val (.ref ao0), .val (.ref b2), .val (.ref nb), .val (.int 2), .val (.int 0), .unset] [(.int 0), (.ref nb)])) rfl rfl (hb hby d5_27)) ?_
  refine own_go (x' := T3.setTop (mkF m 33 #[.val (.ref ao0), .val (.ref b2), .val (.ref nb), .val (.int 2), .val (.int 0), .val (.int 2)] [(.ref ao0), (.int 2)])) (fun _ k => XS.istore X3.here hx rfl (hb hby d5_28) rfl (l' := #[.val (.ref ao0), .val (.ref b2), .val (.ref nb), .val (.int 2), .val (.int 0), .val (.int 2)]) rfl (XS.iload X3.here hx rfl (hb hby d5_30) rfl (XS.aloadN X3.here hx rfl (hb hby d5_32) rfl rfl k))) ?_
  obtain ⟨T6, X6, e6, st6⟩ := getF X3 hx hZ hown (host := "") (Or.inl (own_w hw 12 rfl)) Via.refl e3 F_ao0_columns (g := (mkF m 33 #[.val (.ref ao0), .val (.ref b2), .val (.ref nb), .val (.int 2), .val (.int 0), .val (.int 2)] [(.ref ao0), (.int 2)])) rfl rfl (hb hby d5_33)
  refine own_go (x' := T6.setTop (mkF m 36 #[.val (.ref ao0), .val (.ref b2), .val (.ref nb), .val (.int 2), .val (.int 0), .val (.int 2)] [(.int 2), (.int 2)])) st6 ?_
  refine own_go (x' := T6.setTop (mkF m 43 #[.val (.ref ao0), .val (.ref b2), .val (.ref nb), .val (.int 2), .val (.int 0), .val (.int 2)] [(.ref ao0), (.int 2), (.ref b2)])) (fun _ k => XS.icmpNo X6.here hx rfl (hb hby d5_36) rfl (flt (Int32.lt_irrefl)).1 (XS.aloadN X6.here hx rfl (hb hby d5_39) rfl rfl (XS.iload X6.here hx rfl (hb hby d5_40) rfl (XS.aloadN X6.here hx rfl (hb hby d5_42) rfl rfl k)))) ?_
  obtain ⟨T7, X7, e7, st7⟩ := getF X6 hx hZ hown (host := "") (Or.inl (own_w hw 12 rfl)) Via.refl e6 F_ao0_columns (g := (mkF m 43 #[.val (.ref ao0), .val (.ref b2), .val (.ref nb), .val (.int 2), .val (.int 0), .val (.int 2)] [(.ref ao0), (.int 2), (.ref b2)])) rfl rfl (hb hby d5_43)
  refine own_go (x' := T7.setTop (mkF m 46 #[.val (.ref ao0), .val (.ref b2), .val (.ref nb), .val (.int 2), .val (.int 0), .val (.int 2)] [(.int 2), (.int 2), (.ref b2)])) st7 ?_
  refine own_go (x' := T7.setTop (mkF m 47 #[.val (.ref ao0), .val (.ref b2), .val (.ref nb), .val (.int 2), .val (.int 0), .val (.int 2)] [(.int ((2 : Int32) - (2 : Int32))), (.ref b2)])) (fun _ k => XS.isub X7.here hx rfl (hb hby d5_46) rfl k) ?_
  rw [show ((2 : Int32) - (2 : Int32)) = (0 : Int32) from by decide +kernel]
  refine own_go (x' := T7.setTop (mkF m 48 #[.val (.ref ao0), .val (.ref b2), .val (.ref nb), .val (.int 2), .val (.int 0), .val (.int 2)] [(.int 1), (.int 0), (.ref b2)])) (fun _ k => XS.iconst X7.here hx rfl (hb hby d5_47) k) ?_
  obtain ⟨cl8, Ar8, q8, Sz8, Nn8, Hh8, Gg8⟩ := V_b2
  have hin8 : ¬ ((0 : Int32) < 0 ∨ cl8.slots.size ≤ ((0 : Int32)).toNatClampNeg) := inb_of Sz8 ⟨by decide, by decide⟩
  obtain ⟨T8, h8, X8, e8, W8, st8⟩ := stZ X7 hx hZ e7 Ar8 (j := (0 : Int32)) hin8 (g := (mkF m 48 #[.val (.ref ao0), .val (.ref b2), .val (.ref nb), .val (.int 2), .val (.int 0), .val (.int 2)] [(.int 1), (.int 0), (.ref b2)])) rfl rfl (hb hby d5_48)
  refine own_go (x' := T8.setTop (mkF m 49 #[.val (.ref ao0), .val (.ref b2), .val (.ref nb), .val (.int 2), .val (.int 0), .val (.int 2)] [])) st8 ?_
  replace F_ao0_rows := Fld.other W8 F_ao0_rows (Or.inl ne_ao0_b2)
  replace F_ao0_columns := Fld.other W8 F_ao0_columns (Or.inl ne_ao0_b2)
  replace F_ao0_nonbasic := Fld.other W8 F_ao0_nonbasic (Or.inl ne_ao0_b2)
  replace V_nb := V_nb.other W8 ne_nb_b2
  replace Zs := Nat.le_trans Zs (Keep.of_wr W8).1
  replace Nf := Fr.snoc X8 Nf g_b2
  replace Kp := Kp.wr W8 (Or.inr sz_b2)
  have V_b2 : Arv Z h8 b2 k2 .boolean (2 : Int32) [(.int (nar .boolean (1 : Int32))), (.int 0)] (.int 0) := Arv.set Ar8 q8 Sz8 Nn8 Hh8 Gg8 (fits_nar_bool _) W8 0 rfl (Nat.le_of_ble_eq_true rfl)
  refine own_go (x' := T8.setTop (mkF m 18 #[.val (.ref ao0), .val (.ref b2), .val (.ref nb), .val (.int 2), .val (.int ((0 : Int32) + (1 : Int32))), .val (.int 2)] [])) (fun _ k => XS.iinc X8.here hx rfl (hb hby d5_49) rfl (l' := #[.val (.ref ao0), .val (.ref b2), .val (.ref nb), .val (.int 2), .val (.int ((0 : Int32) + (1 : Int32))), .val (.int 2)]) rfl (XS.goto X8.here hx rfl (pc0 := 52) (pc' := 18) rfl (hb hby d5_52) (by decide) (by decide) k)) ?_
  rw [show ((0 : Int32) + (1 : Int32)) = (1 : Int32) from by decide +kernel]
  refine own_go (x' := T8.setTop (mkF m 27 #[.val (.ref ao0), .val (.ref b2), .val (.ref nb), .val (.int 2), .val (.int 1), .val (.int 2)] [(.int 1), (.ref nb)])) (fun _ k => XS.iload X8.here hx rfl (hb hby d5_18) rfl (XS.iloadN X8.here hx rfl (hb hby d5_20) rfl (XS.icmpNo X8.here hx rfl (hb hby d5_21) rfl (tlt (by decide +kernel : ((1 : Int32) < (2 : Int32)))).2.1 (XS.aloadN X8.here hx rfl (hb hby d5_24) rfl rfl (XS.iload X8.here hx rfl (hb hby d5_25) rfl k))))) ?_
  obtain ⟨cl9, Ar9, q9, Sz9, Nn9, Hh9, Gg9⟩ := id V_nb
  have hin9 : ¬ ((1 : Int32) < 0 ∨ cl9.slots.size ≤ ((1 : Int32)).toNatClampNeg) := inb_of Sz9 ⟨by decide, by decide⟩
  refine own_go (x' := T8.setTop (mkF m 28 #[.val (.ref ao0), .val (.ref b2), .val (.ref nb), .val (.int 2), .val (.int 1), .val (.int 2)] [(.int 1)])) (X8.iaload hx (j := (1 : Int32)) (v := (.int 1)) (Eq.trans (congrArg (fun h_ => h_[_]?) e8) Ar9.1) (State.isArrayOf_alike hZ.alike Ar9.2.1) Ar9.2.2 hin9 (Hh9.at hin9 rfl) (g := (mkF m 27 #[.val (.ref ao0), .val (.ref b2), .val (.ref nb), .val (.int 2), .val (.int 1), .val (.int 2)] [(.int 1), (.ref nb)])) rfl rfl (hb hby d5_27)) ?_
  refine own_go (x' := T8.setTop (mkF m 33 #[.val (.ref ao0), .val (.ref b2), .val (.ref nb), .val (.int 2), .val (.int 1), .val (.int 1)] [(.ref ao0), (.int 1)])) (fun _ k => XS.istore X8.here hx rfl (hb hby d5_28) rfl (l' := #[.val (.ref ao0), .val (.ref b2), .val (.ref nb), .val (.int 2), .val (.int 1), .val (.int 1)]) rfl (XS.iload X8.here hx rfl (hb hby d5_30) rfl (XS.aloadN X8.here hx rfl (hb hby d5_32) rfl rfl k))) ?_
  obtain ⟨T10, X10, e10, st10⟩ := getF X8 hx hZ hown (host := "") (Or.inl (own_w hw 12 rfl)) Via.refl e8 F_ao0_columns (g := (mkF m 33 #[.val (.ref ao0), .val (.ref b2), .val (.ref nb), .val (.int 2), .val (.int 1), .val (.int 1)] [(.ref ao0), (.int 1)])) rfl rfl (hb hby d5_33)
  refine own_go (x' := T10.setTop (mkF m 36 #[.val (.ref ao0), .val (.ref b2), .val (.ref nb), .val (.int 2), .val (.int 1), .val (.int 1)] [(.int 2), (.int 1)])) st10 ?_
  refine own_go (x' := T10.setTop (mkF m 18 #[.val (.ref ao0), .val (.ref b2), .val (.ref nb), .val (.int 2), .val (.int ((1 : Int32) + (1 : Int32))), .val (.int 1)] [])) (fun _ k => XS.icmpYes X10.here hx rfl (pc0 := 36) (pc' := 49) rfl (hb hby d5_36) rfl (tlt (by decide +kernel : ((1 : Int32) < (2 : Int32)))).1 (by decide) (by decide) (XS.iinc X10.here hx rfl (hb hby d5_49) rfl (l' := #[.val (.ref ao0), .val (.ref b2), .val (.ref nb), .val (.int 2), .val (.int ((1 : Int32) + (1 : Int32))), .val (.int 1)]) rfl (XS.goto X10.here hx rfl (pc0 := 52) (pc' := 18) rfl (hb hby d5_52) (by decide) (by decide) k))) ?_
  rw [show ((1 : Int32) + (1 : Int32)) = (2 : Int32) from by decide +kernel]
  refine own_go (x' := T10.setTop (mkF m 56 #[.val (.ref ao0), .val (.ref b2), .val (.ref nb), .val (.int 2), .val (.int 2), .val (.int 1)] [(.ref b2)])) (fun _ k => XS.iload X10.here hx rfl (hb hby d5_18) rfl (XS.iloadN X10.here hx rfl (hb hby d5_20) rfl (XS.icmpYes X10.here hx rfl (pc0 := 21) (pc' := 55) rfl (hb hby d5_21) rfl (flt (Int32.lt_irrefl)).2.1 (by decide) (by decide) (XS.aloadN X10.here hx rfl (hb hby d5_55) rfl rfl k)))) ?_
  refine own_retR X10 hx hlk hret rfl rfl (hb hby d5_56) ?_ (by decide) (by decide)
  rw [e10]
  exact ⟨b2, k2, rfl, Nf, Kp, sz_b2, g_b2, V_b2⟩
def Q_rm5_3 (Z : State) (ao0 nb : Addr) (kn : ClassId) (h0 : Heap) (n0 : Nat) (v : Option Value) (h : Heap) (L : List Loc) : Prop := ∃ (b : Addr) (kq : ClassId), v = some (.ref b) ∧ Fr n0 L ∧ Keep h0 h [] ∧ h0.size ≤ b ∧ n0 ≤ b ∧ Arv Z h b kq .boolean (2 : Int32) [(.int 0), (.int (nar .boolean (1 : Int32)))] (.int (0 : Int32))
theorem pn_rm5_3 : plainName "com/example/moving_tokens/movingtokens/DualSimplex" = true := by first | (simp [plainName, overriddenIn]; done) | decide +kernel
theorem ef_rm5_3 (m : MethodId) (x0 : Addr) : entryFrame m #[(.ref x0)] 6 = mkF m 0 #[.val (.ref x0), .unset, .unset, .unset, .unset, .unset] [] := by first | (simp [entryFrame, mkF, argsToLocals, Value.category]; done) | rfl
set_option maxRecDepth 65536 in
set_option maxHeartbeats 40000000 in
theorem rm5_3 (l : Launch) (Z : State) (a0 : Array Value) (hw : ∀ d ∈ tables_1, d.before a0 Z = true) (ws : List Jvm.Cond) (ao0 nb : Addr) (kn : ClassId) (h0 : Heap) (n0 : Nat) (Z0 : n0 ≤ h0.size) (F_ao0_rows : Fld Z h0 ao0 "com/example/moving_tokens/movingtokens/DualSimplex" "rows" "I" (.int 2)) (F_ao0_columns : Fld Z h0 ao0 "com/example/moving_tokens/movingtokens/DualSimplex" "columns" "I" (.int 2)) (F_ao0_nonbasic : Fld Z h0 ao0 "com/example/moving_tokens/movingtokens/DualSimplex" "nonbasic" "[I" (.ref nb)) (V_nb : Arv Z h0 nb kn .int (2 : Int32) [(.int 3), (.int 1)] (.int (0 : Int32))) :
    MetFree l (⟨"com/example/moving_tokens/movingtokens/DualSimplex", "tightRows", "()[Z"⟩ : MethodName) (head1 (Jvm.Cond.code (⟨"com/example/moving_tokens/movingtokens/DualSimplex", "tightRows", "()[Z"⟩ : MethodName) prog_14_method_4_code 6 (some (.array .boolean)) :: ws) ({ frames := 0, cells := 1, slots := 2, locals := 0 } : Room)) (fun a U => a = #[(.ref ao0)] ∧ Z.Warmed39 U.vm ∧ U.heap = h0) (fun _ _ _ _ _ => True) (fun _ U o U' => ∃ v L, o = .returned v ∧ (Q_rm5_3 Z ao0 nb kn h0 n0) v U'.heap L ∧ FrameEnd U o U' L ({ frames := 0, cells := 1, slots := 2, locals := 0 } : Room).cells ({ frames := 0, cells := 1, slots := 2, locals := 0 } : Room).slots) := by
  refine MetFree.of_bodySF (plainFor_of_name pn_rm5_3) hisR ?_
  intro p e s m args below meth c s₁ Bd hml0 hP hK
  obtain ⟨rfl, hZ, hh⟩ := hP
  have hx := Bd.exec
  have hby := Bd.bytes
  have hlk := BodyLoose.notSynchronized Bd
  have hret := Bd.returns
  have hml : c.maxLocals = 6 := hml0
  have hown : s.vm.findClass "com/example/moving_tokens/movingtokens/DualSimplex" = some m.cls := findClass_of_methodNamed Bd.named
  have hnm := (name_of_methodNamed Bd.named Bd.method).1
  have X0 : Stand p l e ({ frames := 0, cells := 1, slots := 2, locals := 0 } : Room) s m #[(.ref ao0)] below meth c s₁ [] 0 0 := Stand.of_body Bd
  have e0 : s₁.heap = h0 := by rw [← hh, Bd.state]; rfl
  have Nf := Fr.nil n0
  have Zs := Z0
  have Kp : Keep h0 h0 [] := Keep.refl _ _
  show own_End p e below s (Q_rm5_3 Z ao0 nb kn h0 n0) ({ frames := 0, cells := 1, slots := 2, locals := 0 } : Room).cells ({ frames := 0, cells := 1, slots := 2, locals := 0 } : Room).slots (s₁.setTop (entryFrame m #[(.ref ao0)] 6))
  refine own_go (x' := s₁.setTop (mkF m 0 #[.val (.ref ao0), .unset, .unset, .unset, .unset, .unset] [])) (fun t k => castTop (ef_rm5_3 m ao0) k) ?_
  refine own_go (x' := s₁.setTop (mkF m 1 #[.val (.ref ao0), .unset, .unset, .unset, .unset, .unset] [(.ref ao0)])) (fun _ k => XS.aloadN X0.here hx rfl (hb hby d5_0) rfl rfl k) ?_
  obtain ⟨T1, X1, e1, st1⟩ := getF X0 hx hZ hown (host := "") (Or.inl (own_w hw 10 rfl)) Via.refl e0 F_ao0_rows (g := (mkF m 1 #[.val (.ref ao0), .unset, .unset, .unset, .unset, .unset] [(.ref ao0)])) rfl rfl (hb hby d5_1)
  refine own_go (x' := T1.setTop (mkF m 4 #[.val (.ref ao0), .unset, .unset, .unset, .unset, .unset] [(.int 2)])) st1 ?_
  obtain ⟨T2, h2, k2, X2, e2, E2, A2, st2⟩ := newP X1 hx hZ (own_w hw 49 rfl) e1 (g := (mkF m 4 #[.val (.ref ao0), .unset, .unset, .unset, .unset, .unset] [(.int 2)])) rfl (hb hby d5_4) rfl (by decide) (cap := 2) (by decide) (by decide) (by decide) (by decide)
  obtain ⟨b2, g2⟩ : ∃ z, z = h0.size := ⟨_, rfl⟩
  rw [← g2] at A2 st2
  have ne_ao0_b2 : ao0 ≠ b2 := Nat.ne_of_lt (Nat.lt_of_lt_of_le F_ao0_rows.lt (Nat.le_of_eq g2.symm))
  have ne_nb_b2 : nb ≠ b2 := Nat.ne_of_lt (Nat.lt_of_lt_of_le V_nb.lt (Nat.le_of_eq g2.symm))
  have g_b2 : n0 ≤ b2 := Nat.le_trans Zs (Nat.le_of_eq g2.symm)
  have sz_b2 : h0.size ≤ b2 := Nat.le_trans Kp.1 (Nat.le_of_eq g2.symm)
  replace F_ao0_rows := Fld.ext E2 F_ao0_rows
  replace F_ao0_columns := Fld.ext E2 F_ao0_columns
  replace F_ao0_nonbasic := Fld.ext E2 F_ao0_nonbasic
  replace V_nb := V_nb.ext E2
  replace Zs := Nat.le_trans Zs E2.1
  replace Kp := Kp.ext E2
  have V_b2 : Arv Z h2 b2 k2 .boolean (2 : Int32) [(.int 0), (.int 0)] (.int 0) := (Arv.new A2 (by decide)).pad (pad_rep [] (.int 0) 2)
  refine own_go (x' := T2.setTop (mkF m 6 #[.val (.ref ao0), .unset, .unset, .unset, .unset, .unset] [(.ref b2)])) st2 ?_
  refine own_go (x' := T2.setTop (mkF m 8 #[.val (.ref ao0), .val (.ref b2), .unset, .unset, .unset, .unset] [(.ref ao0)])) (fun _ k => XS.astoreN X2.here hx rfl (hb hby d5_6) rfl rfl (l' := #[.val (.ref ao0), .val (.ref b2), .unset, .unset, .unset, .unset]) rfl (XS.aloadN X2.here hx rfl (hb hby d5_7) rfl rfl k)) ?_
  obtain ⟨T3, X3, e3, st3⟩ := getF X2 hx hZ hown (host := "") (Or.inl (own_w hw 32 rfl)) Via.refl e2 F_ao0_nonbasic (g := (mkF m 8 #[.val (.ref ao0), .val (.ref b2), .unset, .unset, .unset, .unset] [(.ref ao0)])) rfl rfl (hb hby d5_8)
  refine own_go (x' := T3.setTop (mkF m 11 #[.val (.ref ao0), .val (.ref b2), .unset, .unset, .unset, .unset] [(.ref nb)])) st3 ?_
  refine own_go (x' := T3.setTop (mkF m 13 #[.val (.ref ao0), .val (.ref b2), .val (.ref nb), .unset, .unset, .unset] [(.ref nb)])) (fun _ k => XS.astoreN X3.here hx rfl (hb hby d5_11) rfl rfl (l' := #[.val (.ref ao0), .val (.ref b2), .val (.ref nb), .unset, .unset, .unset]) rfl (XS.aloadN X3.here hx rfl (hb hby d5_12) rfl rfl k)) ?_
  obtain ⟨cl4, Ar4, -, Sz4, Nn4, -, -⟩ := id V_nb
  refine own_go (x' := T3.setTop (mkF m 14 #[.val (.ref ao0), .val (.ref b2), .val (.ref nb), .unset, .unset, .unset] [(.int 2)])) (fun t k => X3.arraylength hx (Eq.trans (congrArg (fun h_ => h_[_]?) e3) Ar4.1) (State.isArrayOf_alike hZ.alike Ar4.2.1) (g := (mkF m 13 #[.val (.ref ao0), .val (.ref b2), .val (.ref nb), .unset, .unset, .unset] [(.ref nb)])) rfl rfl (hb hby d5_13) t (by rw [len_of Sz4 Nn4]; exact k)) ?_
  refine own_go (x' := T3.setTop (mkF m 24 #[.val (.ref ao0), .val (.ref b2), .val (.ref nb), .val (.int 2), .val (.int 0), .unset] [])) (fun _ k => XS.istoreN X3.here hx rfl (hb hby d5_14) rfl (l' := #[.val (.ref ao0), .val (.ref b2), .val (.ref nb), .val (.int 2), .unset, .unset]) rfl (XS.iconst X3.here hx rfl (hb hby d5_15) (XS.istore X3.here hx rfl (hb hby d5_16) rfl (l' := #[.val (.ref ao0), .val (.ref b2), .val (.ref nb), .val (.int 2), .val (.int 0), .unset]) rfl (XS.iload X3.here hx rfl (hb hby d5_18) rfl (XS.iloadN X3.here hx rfl (hb hby d5_20) rfl (XS.icmpNo X3.here hx rfl (hb hby d5_21) rfl (tlt (by decide +kernel : ((0 : Int32) < (2 : Int32)))).2.1 k)))))) ?_
  refine own_go (x' := T3.setTop (mkF m 27 #[.val (.ref ao0), .val (.ref b2), .val (.ref nb), .val (.int 2), .val (.int 0), .unset] [(.int 0), (.ref nb)])) (fun _ k => XS.aloadN X3.here hx rfl (hb hby d5_24) rfl rfl (XS.iload X3.here hx rfl (hb hby d5_25) rfl k)) ?_
  obtain ⟨cl5, Ar5, q5, Sz5, Nn5, Hh5, Gg5⟩ := id V_nb
  have hin5 : ¬ ((0 : Int32) < 0 ∨ cl5.slots.size ≤ ((0 : Int32)).toNatClampNeg) := inb_of Sz5 ⟨by decide, by decide⟩
  refine own_go (x' := T3.setTop (mkF m 28 #[.val (.ref ao0), .val (.ref b2), .val (.ref nb), .val (.int 2), .val (.int 0), .unset] [(.int 3)])) (X3.iaload hx (j := (0 : Int32)) (v := (.int 3)) (Eq.trans (congrArg (fun h_ => h_[_]?) e3) Ar5.1) (State.isArrayOf_alike hZ.alike Ar5.2.1) Ar5.2.2 hin5 (Hh5.at hin5 rfl) (g := (mkF m 27 #[.val (.ref ao0), .val (.ref b2), .val (.ref nb), .val (.int 2), .val (.int 0), .unset] [(.int 0), (.ref nb)])) rfl rfl (hb hby d5_27)) ?_
  refine own_go (x' := T3.setTop (mkF m 33 #[.val (.ref ao0), .val (.ref b2), .val (.ref nb), .val (.int 2), .val (.int 0), .val (.int 3)] [(.ref ao0), (.int 3)])) (fun _ k => XS.istore X3.here hx rfl (hb hby d5_28) rfl (l' := #[.val (.ref ao0), .val (.ref b2), .val (.ref nb), .val (.int 2), .val (.int 0), .val (.int 3)]) rfl (XS.iload X3.here hx rfl (hb hby d5_30) rfl (XS.aloadN X3.here hx rfl (hb hby d5_32) rfl rfl k))) ?_
  obtain ⟨T6, X6, e6, st6⟩ := getF X3 hx hZ hown (host := "") (Or.inl (own_w hw 12 rfl)) Via.refl e3 F_ao0_columns (g := (mkF m 33 #[.val (.ref ao0), .val (.ref b2), .val (.ref nb), .val (.int 2), .val (.int 0), .val (.int 3)] [(.ref ao0), (.int 3)])) rfl rfl (hb hby d5_33)
  refine own_go (x' := T6.setTop (mkF m 36 #[.val (.ref ao0), .val (.ref b2), .val (.ref nb), .val (.int 2), .val (.int 0), .val (.int 3)] [(.int 2), (.int 3)])) st6 ?_
  refine own_go (x' := T6.setTop (mkF m 43 #[.val (.ref ao0), .val (.ref b2), .val (.ref nb), .val (.int 2), .val (.int 0), .val (.int 3)] [(.ref ao0), (.int 3), (.ref b2)])) (fun _ k => XS.icmpNo X6.here hx rfl (hb hby d5_36) rfl (flt (by decide +kernel : ¬ ((3 : Int32) < (2 : Int32)))).1 (XS.aloadN X6.here hx rfl (hb hby d5_39) rfl rfl (XS.iload X6.here hx rfl (hb hby d5_40) rfl (XS.aloadN X6.here hx rfl (hb hby d5_42) rfl rfl k)))) ?_
  obtain ⟨T7, X7, e7, st7⟩ := getF X6 hx hZ hown (host := "") (Or.inl (own_w hw 12 rfl)) Via.refl e6 F_ao0_columns (g := (mkF m 43 #[.val (.ref ao0), .val (.ref b2), .val (.ref nb), .val (.int 2), .val (.int 0), .val (.int 3)] [(.ref ao0), (.int 3), (.ref b2)])) rfl rfl (hb hby d5_43)
  refine own_go (x' := T7.setTop (mkF m 46 #[.val (.ref ao0), .val (.ref b2), .val (.ref nb), .val (.int 2), .val (.int 0), .val (.int 3)] [(.int 2), (.int 3), (.ref b2)])) st7 ?_
  refine own_go (x' := T7.setTop (mkF m 47 #[.val (.ref ao0), .val (.ref b2), .val (.ref nb), .val (.int 2), .val (.int 0), .val (.int 3)] [(.int ((3 : Int32) - (2 : Int32))), (.ref b2)])) (fun _ k => XS.isub X7.here hx rfl (hb hby d5_46) rfl k) ?_
  rw [show ((3 : Int32) - (2 : Int32)) = (1 : Int32) from by decide +kernel]
  refine own_go (x' := T7.setTop (mkF m 48 #[.val (.ref ao0), .val (.ref b2), .val (.ref nb), .val (.int 2), .val (.int 0), .val (.int 3)] [(.int 1), (.int 1), (.ref b2)])) (fun _ k => XS.iconst X7.here hx rfl (hb hby d5_47) k) ?_
  obtain ⟨cl8, Ar8, q8, Sz8, Nn8, Hh8, Gg8⟩ := V_b2
  have hin8 : ¬ ((1 : Int32) < 0 ∨ cl8.slots.size ≤ ((1 : Int32)).toNatClampNeg) := inb_of Sz8 ⟨by decide, by decide⟩
  obtain ⟨T8, h8, X8, e8, W8, st8⟩ := stZ X7 hx hZ e7 Ar8 (j := (1 : Int32)) hin8 (g := (mkF m 48 #[.val (.ref ao0), .val (.ref b2), .val (.ref nb), .val (.int 2), .val (.int 0), .val (.int 3)] [(.int 1), (.int 1), (.ref b2)])) rfl rfl (hb hby d5_48)
  refine own_go (x' := T8.setTop (mkF m 49 #[.val (.ref ao0), .val (.ref b2), .val (.ref nb), .val (.int 2), .val (.int 0), .val (.int 3)] [])) st8 ?_
  replace F_ao0_rows := Fld.other W8 F_ao0_rows (Or.inl ne_ao0_b2)
  replace F_ao0_columns := Fld.other W8 F_ao0_columns (Or.inl ne_ao0_b2)
  replace F_ao0_nonbasic := Fld.other W8 F_ao0_nonbasic (Or.inl ne_ao0_b2)
  replace V_nb := V_nb.other W8 ne_nb_b2
  replace Zs := Nat.le_trans Zs (Keep.of_wr W8).1
  replace Nf := Fr.snoc X8 Nf g_b2
  replace Kp := Kp.wr W8 (Or.inr sz_b2)
  have V_b2 : Arv Z h8 b2 k2 .boolean (2 : Int32) [(.int 0), (.int (nar .boolean (1 : Int32)))] (.int 0) := Arv.set Ar8 q8 Sz8 Nn8 Hh8 Gg8 (fits_nar_bool _) W8 1 rfl (Nat.le_of_ble_eq_true rfl)
  refine own_go (x' := T8.setTop (mkF m 18 #[.val (.ref ao0), .val (.ref b2), .val (.ref nb), .val (.int 2), .val (.int ((0 : Int32) + (1 : Int32))), .val (.int 3)] [])) (fun _ k => XS.iinc X8.here hx rfl (hb hby d5_49) rfl (l' := #[.val (.ref ao0), .val (.ref b2), .val (.ref nb), .val (.int 2), .val (.int ((0 : Int32) + (1 : Int32))), .val (.int 3)]) rfl (XS.goto X8.here hx rfl (pc0 := 52) (pc' := 18) rfl (hb hby d5_52) (by decide) (by decide) k)) ?_
  rw [show ((0 : Int32) + (1 : Int32)) = (1 : Int32) from by decide +kernel]
  refine own_go (x' := T8.setTop (mkF m 27 #[.val (.ref ao0), .val (.ref b2), .val (.ref nb), .val (.int 2), .val (.int 1), .val (.int 3)] [(.int 1), (.ref nb)])) (fun _ k => XS.iload X8.here hx rfl (hb hby d5_18) rfl (XS.iloadN X8.here hx rfl (hb hby d5_20) rfl (XS.icmpNo X8.here hx rfl (hb hby d5_21) rfl (tlt (by decide +kernel : ((1 : Int32) < (2 : Int32)))).2.1 (XS.aloadN X8.here hx rfl (hb hby d5_24) rfl rfl (XS.iload X8.here hx rfl (hb hby d5_25) rfl k))))) ?_
  obtain ⟨cl9, Ar9, q9, Sz9, Nn9, Hh9, Gg9⟩ := id V_nb
  have hin9 : ¬ ((1 : Int32) < 0 ∨ cl9.slots.size ≤ ((1 : Int32)).toNatClampNeg) := inb_of Sz9 ⟨by decide, by decide⟩
  refine own_go (x' := T8.setTop (mkF m 28 #[.val (.ref ao0), .val (.ref b2), .val (.ref nb), .val (.int 2), .val (.int 1), .val (.int 3)] [(.int 1)])) (X8.iaload hx (j := (1 : Int32)) (v := (.int 1)) (Eq.trans (congrArg (fun h_ => h_[_]?) e8) Ar9.1) (State.isArrayOf_alike hZ.alike Ar9.2.1) Ar9.2.2 hin9 (Hh9.at hin9 rfl) (g := (mkF m 27 #[.val (.ref ao0), .val (.ref b2), .val (.ref nb), .val (.int 2), .val (.int 1), .val (.int 3)] [(.int 1), (.ref nb)])) rfl rfl (hb hby d5_27)) ?_
  refine own_go (x' := T8.setTop (mkF m 33 #[.val (.ref ao0), .val (.ref b2), .val (.ref nb), .val (.int 2), .val (.int 1), .val (.int 1)] [(.ref ao0), (.int 1)])) (fun _ k => XS.istore X8.here hx rfl (hb hby d5_28) rfl (l' := #[.val (.ref ao0), .val (.ref b2), .val (.ref nb), .val (.int 2), .val (.int 1), .val (.int 1)]) rfl (XS.iload X8.here hx rfl (hb hby d5_30) rfl (XS.aloadN X8.here hx rfl (hb hby d5_32) rfl rfl k))) ?_
  obtain ⟨T10, X10, e10, st10⟩ := getF X8 hx hZ hown (host := "") (Or.inl (own_w hw 12 rfl)) Via.refl e8 F_ao0_columns (g := (mkF m 33 #[.val (.ref ao0), .val (.ref b2), .val (.ref nb), .val (.int 2), .val (.int 1), .val (.int 1)] [(.ref ao0), (.int 1)])) rfl rfl (hb hby d5_33)
  refine own_go (x' := T10.setTop (mkF m 36 #[.val (.ref ao0), .val (.ref b2), .val (.ref nb), .val (.int 2), .val (.int 1), .val (.int 1)] [(.int 2), (.int 1)])) st10 ?_
  refine own_go (x' := T10.setTop (mkF m 18 #[.val (.ref ao0), .val (.ref b2), .val (.ref nb), .val (.int 2), .val (.int ((1 : Int32) + (1 : Int32))), .val (.int 1)] [])) (fun _ k => XS.icmpYes X10.here hx rfl (pc0 := 36) (pc' := 49) rfl (hb hby d5_36) rfl (tlt (by decide +kernel : ((1 : Int32) < (2 : Int32)))).1 (by decide) (by decide) (XS.iinc X10.here hx rfl (hb hby d5_49) rfl (l' := #[.val (.ref ao0), .val (.ref b2), .val (.ref nb), .val (.int 2), .val (.int ((1 : Int32) + (1 : Int32))), .val (.int 1)]) rfl (XS.goto X10.here hx rfl (pc0 := 52) (pc' := 18) rfl (hb hby d5_52) (by decide) (by decide) k))) ?_
  rw [show ((1 : Int32) + (1 : Int32)) = (2 : Int32) from by decide +kernel]
  refine own_go (x' := T10.setTop (mkF m 56 #[.val (.ref ao0), .val (.ref b2), .val (.ref nb), .val (.int 2), .val (.int 2), .val (.int 1)] [(.ref b2)])) (fun _ k => XS.iload X10.here hx rfl (hb hby d5_18) rfl (XS.iloadN X10.here hx rfl (hb hby d5_20) rfl (XS.icmpYes X10.here hx rfl (pc0 := 21) (pc' := 55) rfl (hb hby d5_21) rfl (flt (Int32.lt_irrefl)).2.1 (by decide) (by decide) (XS.aloadN X10.here hx rfl (hb hby d5_55) rfl rfl k)))) ?_
  refine own_retR X10 hx hlk hret rfl rfl (hb hby d5_56) ?_ (by decide) (by decide)
  rw [e10]
  exact ⟨b2, k2, rfl, Nf, Kp, sz_b2, g_b2, V_b2⟩
theorem own_k7 (z : Int32) : own_rg (z &&& (7 : Int32)) ∧ ¬ (z &&& (7 : Int32)) < 0 := by
  have h := c_mask z 7 3 (by decide) (by decide)
  refine ⟨⟨mt own_lt.mp ?_, mt own_lt.mp ?_⟩, mt own_lt.mp ?_⟩
  · rw [show (-8 : Int32).toInt = -8 from by decide]; omega
  · rw [show (7 : Int32).toInt = 7 from by decide]; omega
  · rw [show (0 : Int32).toInt = 0 from by decide]; omega
theorem own_kn (z : Int32) : own_rg (-((1 : Int32) + (z &&& (7 : Int32)))) ∧ (-((1 : Int32) + (z &&& (7 : Int32)))) < 0 := by
  have h := c_mask z 7 3 (by decide) (by decide)
  have a := c_iadd 1 (z &&& 7)
  have r := rng32 (1 + (z &&& 7))
  have n := c_ineg (1 + (z &&& 7))
  have r2 := rng32 (-(1 + (z &&& 7)))
  rw [show (1 : Int32).toInt = 1 from by decide] at a
  refine ⟨⟨mt own_lt.mp ?_, mt own_lt.mp ?_⟩, own_lt.mpr ?_⟩
  · rw [show (-8 : Int32).toInt = -8 from by decide]; omega
  · rw [show (7 : Int32).toInt = 7 from by decide]; omega
  · rw [show (0 : Int32).toInt = 0 from by decide]; omega
theorem own_k15 (z : Int32) : own_rg ((z &&& (15 : Int32)) - (8 : Int32)) := by
  have h := c_mask z 15 4 (by decide) (by decide)
  have a := c_isub (z &&& 15) 8
  have r := rng32 ((z &&& 15) - 8)
  rw [show (8 : Int32).toInt = 8 from by decide] at a
  refine ⟨mt own_lt.mp ?_, mt own_lt.mp ?_⟩
  · rw [show (-8 : Int32).toInt = -8 from by decide]; omega
  · rw [show (7 : Int32).toInt = 7 from by decide]; omega
theorem own_k1 (z : Int32) : (z &&& (1 : Int32)) = 0 ∨ (z &&& (1 : Int32)) = 1 := and_one z
theorem pd_3 : parseMethodDescriptor "([D[D[D)V" = some ⟨[(.array .double), (.array .double), (.array .double)], none⟩ := by decide +kernel
theorem pd_4 : parseMethodDescriptor "(J)Z" = some ⟨[.long], some .boolean⟩ := by decide +kernel
theorem pd_5 : parseMethodDescriptor "()[Z" = some ⟨[], some (.array .boolean)⟩ := by decide +kernel
set_option maxRecDepth 65536 in
set_option maxHeartbeats 40000000 in
theorem segA {p : Program} {l : Launch} {e : Env} {s : State} {m : MethodId} {args : Array Value} {below : List Frame} {meth : Method} {c : Code} {Z : State} {a0 : Array Value} (hx : p.tables.exec = Jvm.exec) (hlk : meth.locks = false) (hret : meth.sig.returnType = some .boolean) (hZ : Z.Warmed39 s.vm) (hw : ∀ d ∈ tables_1, d.before a0 Z = true) (hby : c.code = code) (hml : c.maxLocals = 21) (hown : s.vm.findClass "com/example/moving_tokens/movingtokens/DualSimplexTightRowsPinLaw" = some m.cls) (hnm : meth.name = "law") (p0 p1 p2 p3 p4 p5 ng kk kj bk : Int32) (n0 : Nat) (h0 : Heap) (s₁ : State) (LL : List Loc) (X0 : Stand p l e room_1 s m args below meth c s₁ LL 0 0) (e0 : s₁.heap = h0) (Nf : Fr n0 LL) (Zs : n0 ≤ h0.size) (h_bk : own_rg bk) (hsg : (ng = 1 ∧ bk < 0) ∨ (ng = 0 ∧ ¬ bk < 0)) (hkk : (kk = 0 ∧ kj = 1) ∨ (kk = 1 ∧ kj = 0)) :
    own_End p e below s (fun v h L => v = some (.int 1) ∧ Fr n0 L) room_1.cells room_1.slots (s₁.setTop (mkF m 47 #[.val (.int p0), .val (.int p1), .val (.int p2), .val (.int p3), .val (.int p4), .val (.int p5), .val (.int ng), .val (.int kk), .val (.int kj), .val (.int bk), .unset, .unset, .unset, .unset, .unset, .unset, .unset, .unset, .unset, .unset, .unset] [])) := by
  refine own_go (x' := s₁.setTop (mkF m 53 #[.val (.int p0), .val (.int p1), .val (.int p2), .val (.int p3), .val (.int p4), .val (.int p5), .val (.int ng), .val (.int kk), .val (.int kj), .val (.int bk), .unset, .unset, .unset, .unset, .unset, .unset, .unset, .unset, .unset, .unset, .unset] [(.int (((p1.toUInt32 >>> ((3 : Int32) &&& 31).toUInt32).toInt32) &&& (7 : Int32)))])) (fun _ k => XS.iloadN X0.here hx rfl (hb hby at_47) rfl (XS.iconst X0.here hx rfl (hb hby at_48) (XS.iushr X0.here hx rfl (hb hby at_49) rfl (XS.bipush X0.here hx rfl (hb hby at_50) (XS.iand X0.here hx rfl (hb hby at_52) rfl k))))) ?_
  have q_bo := own_k7 ((p1.toUInt32 >>> ((3 : Int32) &&& 31).toUInt32).toInt32)
  generalize (((p1.toUInt32 >>> ((3 : Int32) &&& 31).toUInt32).toInt32) &&& (7 : Int32)) = bo at q_bo ⊢
  refine own_go (x' := s₁.setTop (mkF m 62 #[.val (.int p0), .val (.int p1), .val (.int p2), .val (.int p3), .val (.int p4), .val (.int p5), .val (.int ng), .val (.int kk), .val (.int kj), .val (.int bk), .val (.int bo), .unset, .unset, .unset, .unset, .unset, .unset, .unset, .unset, .unset, .unset] [(.int ((p2 &&& (15 : Int32)) - (8 : Int32)))])) (fun _ k => XS.istore X0.here hx rfl (hb hby at_53) rfl (l' := #[.val (.int p0), .val (.int p1), .val (.int p2), .val (.int p3), .val (.int p4), .val (.int p5), .val (.int ng), .val (.int kk), .val (.int kj), .val (.int bk), .val (.int bo), .unset, .unset, .unset, .unset, .unset, .unset, .unset, .unset, .unset, .unset]) rfl (XS.iloadN X0.here hx rfl (hb hby at_55) rfl (XS.bipush X0.here hx rfl (hb hby at_56) (XS.iand X0.here hx rfl (hb hby at_58) rfl (XS.bipush X0.here hx rfl (hb hby at_59) (XS.isub X0.here hx rfl (hb hby at_61) rfl k)))))) ?_
  have q_ak := own_k15 p2
  generalize ((p2 &&& (15 : Int32)) - (8 : Int32)) = ak at q_ak ⊢
  refine own_go (x' := s₁.setTop (mkF m 70 #[.val (.int p0), .val (.int p1), .val (.int p2), .val (.int p3), .val (.int p4), .val (.int p5), .val (.int ng), .val (.int kk), .val (.int kj), .val (.int bk), .val (.int bo), .val (.int ak), .unset, .unset, .unset, .unset, .unset, .unset, .unset, .unset, .unset] [(.int (((p2.toUInt32 >>> ((4 : Int32) &&& 31).toUInt32).toInt32) &&& (15 : Int32)))])) (fun _ k => XS.istore X0.here hx rfl (hb hby at_62) rfl (l' := #[.val (.int p0), .val (.int p1), .val (.int p2), .val (.int p3), .val (.int p4), .val (.int p5), .val (.int ng), .val (.int kk), .val (.int kj), .val (.int bk), .val (.int bo), .val (.int ak), .unset, .unset, .unset, .unset, .unset, .unset, .unset, .unset, .unset]) rfl (XS.iloadN X0.here hx rfl (hb hby at_64) rfl (XS.iconst X0.here hx rfl (hb hby at_65) (XS.iushr X0.here hx rfl (hb hby at_66) rfl (XS.bipush X0.here hx rfl (hb hby at_67) (XS.iand X0.here hx rfl (hb hby at_69) rfl k)))))) ?_
  refine own_go (x' := s₁.setTop (mkF m 73 #[.val (.int p0), .val (.int p1), .val (.int p2), .val (.int p3), .val (.int p4), .val (.int p5), .val (.int ng), .val (.int kk), .val (.int kj), .val (.int bk), .val (.int bo), .val (.int ak), .unset, .unset, .unset, .unset, .unset, .unset, .unset, .unset, .unset] [(.int ((((p2.toUInt32 >>> ((4 : Int32) &&& 31).toUInt32).toInt32) &&& (15 : Int32)) - (8 : Int32)))])) (fun _ k => XS.bipush X0.here hx rfl (hb hby at_70) (XS.isub X0.here hx rfl (hb hby at_72) rfl k)) ?_
  have q_aoo := own_k15 ((p2.toUInt32 >>> ((4 : Int32) &&& 31).toUInt32).toInt32)
  generalize ((((p2.toUInt32 >>> ((4 : Int32) &&& 31).toUInt32).toInt32) &&& (15 : Int32)) - (8 : Int32)) = aoo at q_aoo ⊢
  refine own_go (x' := s₁.setTop (mkF m 79 #[.val (.int p0), .val (.int p1), .val (.int p2), .val (.int p3), .val (.int p4), .val (.int p5), .val (.int ng), .val (.int kk), .val (.int kj), .val (.int bk), .val (.int bo), .val (.int ak), .val (.int aoo), .unset, .unset, .unset, .unset, .unset, .unset, .unset, .unset] [(.int (p3 &&& (7 : Int32)))])) (fun _ k => XS.istore X0.here hx rfl (hb hby at_73) rfl (l' := #[.val (.int p0), .val (.int p1), .val (.int p2), .val (.int p3), .val (.int p4), .val (.int p5), .val (.int ng), .val (.int kk), .val (.int kj), .val (.int bk), .val (.int bo), .val (.int ak), .val (.int aoo), .unset, .unset, .unset, .unset, .unset, .unset, .unset, .unset]) rfl (XS.iloadN X0.here hx rfl (hb hby at_75) rfl (XS.bipush X0.here hx rfl (hb hby at_76) (XS.iand X0.here hx rfl (hb hby at_78) rfl k)))) ?_
  have q_mkk := own_k7 p3
  generalize (p3 &&& (7 : Int32)) = mkk at q_mkk ⊢
  refine own_go (x' := s₁.setTop (mkF m 87 #[.val (.int p0), .val (.int p1), .val (.int p2), .val (.int p3), .val (.int p4), .val (.int p5), .val (.int ng), .val (.int kk), .val (.int kj), .val (.int bk), .val (.int bo), .val (.int ak), .val (.int aoo), .val (.int mkk), .unset, .unset, .unset, .unset, .unset, .unset, .unset] [(.int (((p3.toUInt32 >>> ((3 : Int32) &&& 31).toUInt32).toInt32) &&& (7 : Int32)))])) (fun _ k => XS.istore X0.here hx rfl (hb hby at_79) rfl (l' := #[.val (.int p0), .val (.int p1), .val (.int p2), .val (.int p3), .val (.int p4), .val (.int p5), .val (.int ng), .val (.int kk), .val (.int kj), .val (.int bk), .val (.int bo), .val (.int ak), .val (.int aoo), .val (.int mkk), .unset, .unset, .unset, .unset, .unset, .unset, .unset]) rfl (XS.iloadN X0.here hx rfl (hb hby at_81) rfl (XS.iconst X0.here hx rfl (hb hby at_82) (XS.iushr X0.here hx rfl (hb hby at_83) rfl (XS.bipush X0.here hx rfl (hb hby at_84) (XS.iand X0.here hx rfl (hb hby at_86) rfl k)))))) ?_
  have q_moo := own_k7 ((p3.toUInt32 >>> ((3 : Int32) &&& 31).toUInt32).toInt32)
  generalize (((p3.toUInt32 >>> ((3 : Int32) &&& 31).toUInt32).toInt32) &&& (7 : Int32)) = moo at q_moo ⊢
  refine own_go (x' := s₁.setTop (mkF m 89 #[.val (.int p0), .val (.int p1), .val (.int p2), .val (.int p3), .val (.int p4), .val (.int p5), .val (.int ng), .val (.int kk), .val (.int kj), .val (.int bk), .val (.int bo), .val (.int ak), .val (.int aoo), .val (.int mkk), .val (.int moo), .unset, .unset, .unset, .unset, .unset, .unset] [])) (fun _ k => XS.istore X0.here hx rfl (hb hby at_87) rfl (l' := #[.val (.int p0), .val (.int p1), .val (.int p2), .val (.int p3), .val (.int p4), .val (.int p5), .val (.int ng), .val (.int kk), .val (.int kj), .val (.int bk), .val (.int bo), .val (.int ak), .val (.int aoo), .val (.int mkk), .val (.int moo), .unset, .unset, .unset, .unset, .unset, .unset]) rfl k) ?_
  rcases hkk with ⟨rfl, rfl⟩ | ⟨rfl, rfl⟩
  · refine own_go (x' := s₁.setTop (mkF m 90 #[.val (.int p0), .val (.int p1), .val (.int p2), .val (.int p3), .val (.int p4), .val (.int p5), .val (.int ng), .val (.int 0), .val (.int 1), .val (.int bk), .val (.int bo), .val (.int ak), .val (.int aoo), .val (.int mkk), .val (.int moo), .unset, .unset, .unset, .unset, .unset, .unset] [(.int 4)])) (fun _ k => XS.iconst X0.here hx rfl (hb hby at_89) k) ?_
    obtain ⟨T1, h1, k1, X1, e1, E1, A1, Q1, st1⟩ := newPE X0 hx hZ (own_w hw 0 rfl) e0 (g := (mkF m 90 #[.val (.int p0), .val (.int p1), .val (.int p2), .val (.int p3), .val (.int p4), .val (.int p5), .val (.int ng), .val (.int 0), .val (.int 1), .val (.int bk), .val (.int bo), .val (.int ak), .val (.int aoo), .val (.int mkk), .val (.int moo), .unset, .unset, .unset, .unset, .unset, .unset] [(.int 4)])) rfl (hb hby at_90) rfl (by decide) (cap := 4) (by decide) (by decide) (by decide) (by decide) (ad := "[D") (by decide)
    obtain ⟨b1, g1⟩ : ∃ z, z = h0.size := ⟨_, rfl⟩
    rw [← g1] at A1 st1
    rw [← g1] at Q1
    have g_b1 : n0 ≤ b1 := Nat.le_trans Zs (Nat.le_of_eq g1.symm)
    replace Zs := Nat.le_trans Zs E1.1
    have E_b1 := Q1
    have V_b1 : Arv Z h1 b1 k1 .double (4 : Int32) [(.double 0), (.double 0), (.double 0), (.double 0)] (.double 0) := (Arv.new A1 (by decide)).pad (pad_rep [] (.double 0) 4)
    refine own_go (x' := T1.setTop (mkF m 92 #[.val (.int p0), .val (.int p1), .val (.int p2), .val (.int p3), .val (.int p4), .val (.int p5), .val (.int ng), .val (.int 0), .val (.int 1), .val (.int bk), .val (.int bo), .val (.int ak), .val (.int aoo), .val (.int mkk), .val (.int moo), .unset, .unset, .unset, .unset, .unset, .unset] [(.ref b1)])) st1 ?_
    refine own_go (x' := T1.setTop (mkF m 100 #[.val (.int p0), .val (.int p1), .val (.int p2), .val (.int p3), .val (.int p4), .val (.int p5), .val (.int ng), .val (.int 0), .val (.int 1), .val (.int bk), .val (.int bo), .val (.int ak), .val (.int aoo), .val (.int mkk), .val (.int moo), .val (.ref b1), .unset, .unset, .unset, .unset, .unset] [(.int ((2 : Int32) * (0 : Int32))), (.ref b1)])) (fun _ k => XS.astore X1.here hx rfl (hb hby at_92) rfl rfl (l' := #[.val (.int p0), .val (.int p1), .val (.int p2), .val (.int p3), .val (.int p4), .val (.int p5), .val (.int ng), .val (.int 0), .val (.int 1), .val (.int bk), .val (.int bo), .val (.int ak), .val (.int aoo), .val (.int mkk), .val (.int moo), .val (.ref b1), .unset, .unset, .unset, .unset, .unset]) rfl (XS.aload X1.here hx rfl (hb hby at_94) rfl rfl (XS.iconst X1.here hx rfl (hb hby at_96) (XS.iload X1.here hx rfl (hb hby at_97) rfl (XS.imul X1.here hx rfl (hb hby at_99) rfl k))))) ?_
    rw [show ((2 : Int32) * (0 : Int32)) = (0 : Int32) from by decide +kernel]
    refine own_go (x' := T1.setTop (mkF m 103 #[.val (.int p0), .val (.int p1), .val (.int p2), .val (.int p3), .val (.int p4), .val (.int p5), .val (.int ng), .val (.int 0), .val (.int 1), .val (.int bk), .val (.int bo), .val (.int ak), .val (.int aoo), .val (.int mkk), .val (.int moo), .val (.ref b1), .unset, .unset, .unset, .unset, .unset] [(.double (FP.i2d ak)), (.int 0), (.ref b1)])) (fun _ k => XS.iload X1.here hx rfl (hb hby at_100) rfl (XS.i2dS X1.here hx rfl (hb hby at_102) rfl rfl k)) ?_
    obtain ⟨cl2, Ar2, q2, Sz2, Nn2, Hh2, Gg2⟩ := V_b1
    have hin2 : ¬ ((0 : Int32) < 0 ∨ cl2.slots.size ≤ ((0 : Int32)).toNatClampNeg) := inb_of Sz2 ⟨by decide, by decide⟩
    obtain ⟨T2, h2, X2, e2, W2, st2⟩ := stD X1 hx hZ e1 Ar2 (j := (0 : Int32)) hin2 (g := (mkF m 103 #[.val (.int p0), .val (.int p1), .val (.int p2), .val (.int p3), .val (.int p4), .val (.int p5), .val (.int ng), .val (.int 0), .val (.int 1), .val (.int bk), .val (.int bo), .val (.int ak), .val (.int aoo), .val (.int mkk), .val (.int moo), .val (.ref b1), .unset, .unset, .unset, .unset, .unset] [(.double (FP.i2d ak)), (.int 0), (.ref b1)])) rfl rfl (hb hby at_103)
    refine own_go (x' := T2.setTop (mkF m 104 #[.val (.int p0), .val (.int p1), .val (.int p2), .val (.int p3), .val (.int p4), .val (.int p5), .val (.int ng), .val (.int 0), .val (.int 1), .val (.int bk), .val (.int bo), .val (.int ak), .val (.int aoo), .val (.int mkk), .val (.int moo), .val (.ref b1), .unset, .unset, .unset, .unset, .unset] [])) st2 ?_
    replace E_b1 := Exa.wr W2 E_b1
    replace Zs := Nat.le_trans Zs (Keep.of_wr W2).1
    replace Nf := Fr.snoc X2 Nf g_b1
    have V_b1 : Arv Z h2 b1 k1 .double (4 : Int32) [(.double (FP.i2d ak)), (.double 0), (.double 0), (.double 0)] (.double 0) := Arv.set Ar2 q2 Sz2 Nn2 Hh2 Gg2 rfl W2 0 rfl (Nat.le_of_ble_eq_true rfl)
    refine own_go (x' := T2.setTop (mkF m 112 #[.val (.int p0), .val (.int p1), .val (.int p2), .val (.int p3), .val (.int p4), .val (.int p5), .val (.int ng), .val (.int 0), .val (.int 1), .val (.int bk), .val (.int bo), .val (.int ak), .val (.int aoo), .val (.int mkk), .val (.int moo), .val (.ref b1), .unset, .unset, .unset, .unset, .unset] [(.int (((2 : Int32) * (0 : Int32)) + (1 : Int32))), (.ref b1)])) (fun _ k => XS.aload X2.here hx rfl (hb hby at_104) rfl rfl (XS.iconst X2.here hx rfl (hb hby at_106) (XS.iload X2.here hx rfl (hb hby at_107) rfl (XS.imul X2.here hx rfl (hb hby at_109) rfl (XS.iconst X2.here hx rfl (hb hby at_110) (XS.iadd X2.here hx rfl (hb hby at_111) rfl k)))))) ?_
    rw [show (((2 : Int32) * (0 : Int32)) + (1 : Int32)) = (1 : Int32) from by decide +kernel]
    refine own_go (x' := T2.setTop (mkF m 115 #[.val (.int p0), .val (.int p1), .val (.int p2), .val (.int p3), .val (.int p4), .val (.int p5), .val (.int ng), .val (.int 0), .val (.int 1), .val (.int bk), .val (.int bo), .val (.int ak), .val (.int aoo), .val (.int mkk), .val (.int moo), .val (.ref b1), .unset, .unset, .unset, .unset, .unset] [(.double (FP.i2d mkk)), (.int 1), (.ref b1)])) (fun _ k => XS.iload X2.here hx rfl (hb hby at_112) rfl (XS.i2dS X2.here hx rfl (hb hby at_114) rfl rfl k)) ?_
    obtain ⟨cl3, Ar3, q3, Sz3, Nn3, Hh3, Gg3⟩ := V_b1
    have hin3 : ¬ ((1 : Int32) < 0 ∨ cl3.slots.size ≤ ((1 : Int32)).toNatClampNeg) := inb_of Sz3 ⟨by decide, by decide⟩
    obtain ⟨T3, h3, X3, e3, W3, st3⟩ := stD X2 hx hZ e2 Ar3 (j := (1 : Int32)) hin3 (g := (mkF m 115 #[.val (.int p0), .val (.int p1), .val (.int p2), .val (.int p3), .val (.int p4), .val (.int p5), .val (.int ng), .val (.int 0), .val (.int 1), .val (.int bk), .val (.int bo), .val (.int ak), .val (.int aoo), .val (.int mkk), .val (.int moo), .val (.ref b1), .unset, .unset, .unset, .unset, .unset] [(.double (FP.i2d mkk)), (.int 1), (.ref b1)])) rfl rfl (hb hby at_115)
    refine own_go (x' := T3.setTop (mkF m 116 #[.val (.int p0), .val (.int p1), .val (.int p2), .val (.int p3), .val (.int p4), .val (.int p5), .val (.int ng), .val (.int 0), .val (.int 1), .val (.int bk), .val (.int bo), .val (.int ak), .val (.int aoo), .val (.int mkk), .val (.int moo), .val (.ref b1), .unset, .unset, .unset, .unset, .unset] [])) st3 ?_
    replace E_b1 := Exa.wr W3 E_b1
    replace Zs := Nat.le_trans Zs (Keep.of_wr W3).1
    replace Nf := Fr.snoc X3 Nf g_b1
    have V_b1 : Arv Z h3 b1 k1 .double (4 : Int32) [(.double (FP.i2d ak)), (.double (FP.i2d mkk)), (.double 0), (.double 0)] (.double 0) := Arv.set Ar3 q3 Sz3 Nn3 Hh3 Gg3 rfl W3 1 rfl (Nat.le_of_ble_eq_true rfl)
    refine own_go (x' := T3.setTop (mkF m 122 #[.val (.int p0), .val (.int p1), .val (.int p2), .val (.int p3), .val (.int p4), .val (.int p5), .val (.int ng), .val (.int 0), .val (.int 1), .val (.int bk), .val (.int bo), .val (.int ak), .val (.int aoo), .val (.int mkk), .val (.int moo), .val (.ref b1), .unset, .unset, .unset, .unset, .unset] [(.int ((2 : Int32) * (1 : Int32))), (.ref b1)])) (fun _ k => XS.aload X3.here hx rfl (hb hby at_116) rfl rfl (XS.iconst X3.here hx rfl (hb hby at_118) (XS.iload X3.here hx rfl (hb hby at_119) rfl (XS.imul X3.here hx rfl (hb hby at_121) rfl k)))) ?_
    rw [show ((2 : Int32) * (1 : Int32)) = (2 : Int32) from by decide +kernel]
    refine own_go (x' := T3.setTop (mkF m 125 #[.val (.int p0), .val (.int p1), .val (.int p2), .val (.int p3), .val (.int p4), .val (.int p5), .val (.int ng), .val (.int 0), .val (.int 1), .val (.int bk), .val (.int bo), .val (.int ak), .val (.int aoo), .val (.int mkk), .val (.int moo), .val (.ref b1), .unset, .unset, .unset, .unset, .unset] [(.double (FP.i2d aoo)), (.int 2), (.ref b1)])) (fun _ k => XS.iload X3.here hx rfl (hb hby at_122) rfl (XS.i2dS X3.here hx rfl (hb hby at_124) rfl rfl k)) ?_
    obtain ⟨cl4, Ar4, q4, Sz4, Nn4, Hh4, Gg4⟩ := V_b1
    have hin4 : ¬ ((2 : Int32) < 0 ∨ cl4.slots.size ≤ ((2 : Int32)).toNatClampNeg) := inb_of Sz4 ⟨by decide, by decide⟩
    obtain ⟨T4, h4, X4, e4, W4, st4⟩ := stD X3 hx hZ e3 Ar4 (j := (2 : Int32)) hin4 (g := (mkF m 125 #[.val (.int p0), .val (.int p1), .val (.int p2), .val (.int p3), .val (.int p4), .val (.int p5), .val (.int ng), .val (.int 0), .val (.int 1), .val (.int bk), .val (.int bo), .val (.int ak), .val (.int aoo), .val (.int mkk), .val (.int moo), .val (.ref b1), .unset, .unset, .unset, .unset, .unset] [(.double (FP.i2d aoo)), (.int 2), (.ref b1)])) rfl rfl (hb hby at_125)
    refine own_go (x' := T4.setTop (mkF m 126 #[.val (.int p0), .val (.int p1), .val (.int p2), .val (.int p3), .val (.int p4), .val (.int p5), .val (.int ng), .val (.int 0), .val (.int 1), .val (.int bk), .val (.int bo), .val (.int ak), .val (.int aoo), .val (.int mkk), .val (.int moo), .val (.ref b1), .unset, .unset, .unset, .unset, .unset] [])) st4 ?_
    replace E_b1 := Exa.wr W4 E_b1
    replace Zs := Nat.le_trans Zs (Keep.of_wr W4).1
    replace Nf := Fr.snoc X4 Nf g_b1
    have V_b1 : Arv Z h4 b1 k1 .double (4 : Int32) [(.double (FP.i2d ak)), (.double (FP.i2d mkk)), (.double (FP.i2d aoo)), (.double 0)] (.double 0) := Arv.set Ar4 q4 Sz4 Nn4 Hh4 Gg4 rfl W4 2 rfl (Nat.le_of_ble_eq_true rfl)
    refine own_go (x' := T4.setTop (mkF m 134 #[.val (.int p0), .val (.int p1), .val (.int p2), .val (.int p3), .val (.int p4), .val (.int p5), .val (.int ng), .val (.int 0), .val (.int 1), .val (.int bk), .val (.int bo), .val (.int ak), .val (.int aoo), .val (.int mkk), .val (.int moo), .val (.ref b1), .unset, .unset, .unset, .unset, .unset] [(.int (((2 : Int32) * (1 : Int32)) + (1 : Int32))), (.ref b1)])) (fun _ k => XS.aload X4.here hx rfl (hb hby at_126) rfl rfl (XS.iconst X4.here hx rfl (hb hby at_128) (XS.iload X4.here hx rfl (hb hby at_129) rfl (XS.imul X4.here hx rfl (hb hby at_131) rfl (XS.iconst X4.here hx rfl (hb hby at_132) (XS.iadd X4.here hx rfl (hb hby at_133) rfl k)))))) ?_
    rw [show (((2 : Int32) * (1 : Int32)) + (1 : Int32)) = (3 : Int32) from by decide +kernel]
    refine own_go (x' := T4.setTop (mkF m 137 #[.val (.int p0), .val (.int p1), .val (.int p2), .val (.int p3), .val (.int p4), .val (.int p5), .val (.int ng), .val (.int 0), .val (.int 1), .val (.int bk), .val (.int bo), .val (.int ak), .val (.int aoo), .val (.int mkk), .val (.int moo), .val (.ref b1), .unset, .unset, .unset, .unset, .unset] [(.double (FP.i2d moo)), (.int 3), (.ref b1)])) (fun _ k => XS.iload X4.here hx rfl (hb hby at_134) rfl (XS.i2dS X4.here hx rfl (hb hby at_136) rfl rfl k)) ?_
    obtain ⟨cl5, Ar5, q5, Sz5, Nn5, Hh5, Gg5⟩ := V_b1
    have hin5 : ¬ ((3 : Int32) < 0 ∨ cl5.slots.size ≤ ((3 : Int32)).toNatClampNeg) := inb_of Sz5 ⟨by decide, by decide⟩
    obtain ⟨T5, h5, X5, e5, W5, st5⟩ := stD X4 hx hZ e4 Ar5 (j := (3 : Int32)) hin5 (g := (mkF m 137 #[.val (.int p0), .val (.int p1), .val (.int p2), .val (.int p3), .val (.int p4), .val (.int p5), .val (.int ng), .val (.int 0), .val (.int 1), .val (.int bk), .val (.int bo), .val (.int ak), .val (.int aoo), .val (.int mkk), .val (.int moo), .val (.ref b1), .unset, .unset, .unset, .unset, .unset] [(.double (FP.i2d moo)), (.int 3), (.ref b1)])) rfl rfl (hb hby at_137)
    refine own_go (x' := T5.setTop (mkF m 138 #[.val (.int p0), .val (.int p1), .val (.int p2), .val (.int p3), .val (.int p4), .val (.int p5), .val (.int ng), .val (.int 0), .val (.int 1), .val (.int bk), .val (.int bo), .val (.int ak), .val (.int aoo), .val (.int mkk), .val (.int moo), .val (.ref b1), .unset, .unset, .unset, .unset, .unset] [])) st5 ?_
    replace E_b1 := Exa.wr W5 E_b1
    replace Zs := Nat.le_trans Zs (Keep.of_wr W5).1
    replace Nf := Fr.snoc X5 Nf g_b1
    have V_b1 : Arv Z h5 b1 k1 .double (4 : Int32) [(.double (FP.i2d ak)), (.double (FP.i2d mkk)), (.double (FP.i2d aoo)), (.double (FP.i2d moo))] (.double 0) := Arv.set Ar5 q5 Sz5 Nn5 Hh5 Gg5 rfl W5 3 rfl (Nat.le_of_ble_eq_true rfl)
    refine own_go (x' := T5.setTop (mkF m 139 #[.val (.int p0), .val (.int p1), .val (.int p2), .val (.int p3), .val (.int p4), .val (.int p5), .val (.int ng), .val (.int 0), .val (.int 1), .val (.int bk), .val (.int bo), .val (.int ak), .val (.int aoo), .val (.int mkk), .val (.int moo), .val (.ref b1), .unset, .unset, .unset, .unset, .unset] [(.int 2)])) (fun _ k => XS.iconst X5.here hx rfl (hb hby at_138) k) ?_
    obtain ⟨T6, h6, k6, X6, e6, E6, A6, Q6, st6⟩ := newPE X5 hx hZ (own_w hw 0 rfl) e5 (g := (mkF m 139 #[.val (.int p0), .val (.int p1), .val (.int p2), .val (.int p3), .val (.int p4), .val (.int p5), .val (.int ng), .val (.int 0), .val (.int 1), .val (.int bk), .val (.int bo), .val (.int ak), .val (.int aoo), .val (.int mkk), .val (.int moo), .val (.ref b1), .unset, .unset, .unset, .unset, .unset] [(.int 2)])) rfl (hb hby at_139) rfl (by decide) (cap := 2) (by decide) (by decide) (by decide) (by decide) (ad := "[D") (by decide)
    obtain ⟨b6, g6⟩ : ∃ z, z = h5.size := ⟨_, rfl⟩
    rw [← g6] at A6 st6
    rw [← g6] at Q6
    have ne_b1_b6 : b1 ≠ b6 := Nat.ne_of_lt (Nat.lt_of_lt_of_le E_b1.lt (Nat.le_of_eq g6.symm))
    have g_b6 : n0 ≤ b6 := Nat.le_trans Zs (Nat.le_of_eq g6.symm)
    replace E_b1 := Exa.ext E6 E_b1
    replace V_b1 := V_b1.ext E6
    replace Zs := Nat.le_trans Zs E6.1
    have E_b6 := Q6
    have V_b6 : Arv Z h6 b6 k6 .double (2 : Int32) [(.double 0), (.double 0)] (.double 0) := (Arv.new A6 (by decide)).pad (pad_rep [] (.double 0) 2)
    refine own_go (x' := T6.setTop (mkF m 141 #[.val (.int p0), .val (.int p1), .val (.int p2), .val (.int p3), .val (.int p4), .val (.int p5), .val (.int ng), .val (.int 0), .val (.int 1), .val (.int bk), .val (.int bo), .val (.int ak), .val (.int aoo), .val (.int mkk), .val (.int moo), .val (.ref b1), .unset, .unset, .unset, .unset, .unset] [(.ref b6)])) st6 ?_
    refine own_go (x' := T6.setTop (mkF m 150 #[.val (.int p0), .val (.int p1), .val (.int p2), .val (.int p3), .val (.int p4), .val (.int p5), .val (.int ng), .val (.int 0), .val (.int 1), .val (.int bk), .val (.int bo), .val (.int ak), .val (.int aoo), .val (.int mkk), .val (.int moo), .val (.ref b1), .val (.ref b6), .unset, .unset, .unset, .unset] [(.double (FP.i2d bk)), (.int 0), (.ref b6)])) (fun _ k => XS.astore X6.here hx rfl (hb hby at_141) rfl rfl (l' := #[.val (.int p0), .val (.int p1), .val (.int p2), .val (.int p3), .val (.int p4), .val (.int p5), .val (.int ng), .val (.int 0), .val (.int 1), .val (.int bk), .val (.int bo), .val (.int ak), .val (.int aoo), .val (.int mkk), .val (.int moo), .val (.ref b1), .val (.ref b6), .unset, .unset, .unset, .unset]) rfl (XS.aload X6.here hx rfl (hb hby at_143) rfl rfl (XS.iload X6.here hx rfl (hb hby at_145) rfl (XS.iload X6.here hx rfl (hb hby at_147) rfl (XS.i2dS X6.here hx rfl (hb hby at_149) rfl rfl k))))) ?_
    obtain ⟨cl7, Ar7, q7, Sz7, Nn7, Hh7, Gg7⟩ := V_b6
    have hin7 : ¬ ((0 : Int32) < 0 ∨ cl7.slots.size ≤ ((0 : Int32)).toNatClampNeg) := inb_of Sz7 ⟨by decide, by decide⟩
    obtain ⟨T7, h7, X7, e7, W7, st7⟩ := stD X6 hx hZ e6 Ar7 (j := (0 : Int32)) hin7 (g := (mkF m 150 #[.val (.int p0), .val (.int p1), .val (.int p2), .val (.int p3), .val (.int p4), .val (.int p5), .val (.int ng), .val (.int 0), .val (.int 1), .val (.int bk), .val (.int bo), .val (.int ak), .val (.int aoo), .val (.int mkk), .val (.int moo), .val (.ref b1), .val (.ref b6), .unset, .unset, .unset, .unset] [(.double (FP.i2d bk)), (.int 0), (.ref b6)])) rfl rfl (hb hby at_150)
    refine own_go (x' := T7.setTop (mkF m 151 #[.val (.int p0), .val (.int p1), .val (.int p2), .val (.int p3), .val (.int p4), .val (.int p5), .val (.int ng), .val (.int 0), .val (.int 1), .val (.int bk), .val (.int bo), .val (.int ak), .val (.int aoo), .val (.int mkk), .val (.int moo), .val (.ref b1), .val (.ref b6), .unset, .unset, .unset, .unset] [])) st7 ?_
    replace E_b1 := Exa.wr W7 E_b1
    replace V_b1 := V_b1.other W7 ne_b1_b6
    replace E_b6 := Exa.wr W7 E_b6
    replace Zs := Nat.le_trans Zs (Keep.of_wr W7).1
    replace Nf := Fr.snoc X7 Nf g_b6
    have V_b6 : Arv Z h7 b6 k6 .double (2 : Int32) [(.double (FP.i2d bk)), (.double 0)] (.double 0) := Arv.set Ar7 q7 Sz7 Nn7 Hh7 Gg7 rfl W7 0 rfl (Nat.le_of_ble_eq_true rfl)
    refine own_go (x' := T7.setTop (mkF m 158 #[.val (.int p0), .val (.int p1), .val (.int p2), .val (.int p3), .val (.int p4), .val (.int p5), .val (.int ng), .val (.int 0), .val (.int 1), .val (.int bk), .val (.int bo), .val (.int ak), .val (.int aoo), .val (.int mkk), .val (.int moo), .val (.ref b1), .val (.ref b6), .unset, .unset, .unset, .unset] [(.double (FP.i2d bo)), (.int 1), (.ref b6)])) (fun _ k => XS.aload X7.here hx rfl (hb hby at_151) rfl rfl (XS.iload X7.here hx rfl (hb hby at_153) rfl (XS.iload X7.here hx rfl (hb hby at_155) rfl (XS.i2dS X7.here hx rfl (hb hby at_157) rfl rfl k)))) ?_
    obtain ⟨cl8, Ar8, q8, Sz8, Nn8, Hh8, Gg8⟩ := V_b6
    have hin8 : ¬ ((1 : Int32) < 0 ∨ cl8.slots.size ≤ ((1 : Int32)).toNatClampNeg) := inb_of Sz8 ⟨by decide, by decide⟩
    obtain ⟨T8, h8, X8, e8, W8, st8⟩ := stD X7 hx hZ e7 Ar8 (j := (1 : Int32)) hin8 (g := (mkF m 158 #[.val (.int p0), .val (.int p1), .val (.int p2), .val (.int p3), .val (.int p4), .val (.int p5), .val (.int ng), .val (.int 0), .val (.int 1), .val (.int bk), .val (.int bo), .val (.int ak), .val (.int aoo), .val (.int mkk), .val (.int moo), .val (.ref b1), .val (.ref b6), .unset, .unset, .unset, .unset] [(.double (FP.i2d bo)), (.int 1), (.ref b6)])) rfl rfl (hb hby at_158)
    refine own_go (x' := T8.setTop (mkF m 159 #[.val (.int p0), .val (.int p1), .val (.int p2), .val (.int p3), .val (.int p4), .val (.int p5), .val (.int ng), .val (.int 0), .val (.int 1), .val (.int bk), .val (.int bo), .val (.int ak), .val (.int aoo), .val (.int mkk), .val (.int moo), .val (.ref b1), .val (.ref b6), .unset, .unset, .unset, .unset] [])) st8 ?_
    replace E_b1 := Exa.wr W8 E_b1
    replace V_b1 := V_b1.other W8 ne_b1_b6
    replace E_b6 := Exa.wr W8 E_b6
    replace Zs := Nat.le_trans Zs (Keep.of_wr W8).1
    replace Nf := Fr.snoc X8 Nf g_b6
    have V_b6 : Arv Z h8 b6 k6 .double (2 : Int32) [(.double (FP.i2d bk)), (.double (FP.i2d bo))] (.double 0) := Arv.set Ar8 q8 Sz8 Nn8 Hh8 Gg8 rfl W8 1 rfl (Nat.le_of_ble_eq_true rfl)
    refine own_go (x' := T8.setTop (mkF m 160 #[.val (.int p0), .val (.int p1), .val (.int p2), .val (.int p3), .val (.int p4), .val (.int p5), .val (.int ng), .val (.int 0), .val (.int 1), .val (.int bk), .val (.int bo), .val (.int ak), .val (.int aoo), .val (.int mkk), .val (.int moo), .val (.ref b1), .val (.ref b6), .unset, .unset, .unset, .unset] [(.int 2)])) (fun _ k => XS.iconst X8.here hx rfl (hb hby at_159) k) ?_
    obtain ⟨T9, h9, k9, X9, e9, E9, A9, Q9, st9⟩ := newPE X8 hx hZ (own_w hw 0 rfl) e8 (g := (mkF m 160 #[.val (.int p0), .val (.int p1), .val (.int p2), .val (.int p3), .val (.int p4), .val (.int p5), .val (.int ng), .val (.int 0), .val (.int 1), .val (.int bk), .val (.int bo), .val (.int ak), .val (.int aoo), .val (.int mkk), .val (.int moo), .val (.ref b1), .val (.ref b6), .unset, .unset, .unset, .unset] [(.int 2)])) rfl (hb hby at_160) rfl (by decide) (cap := 2) (by decide) (by decide) (by decide) (by decide) (ad := "[D") (by decide)
    obtain ⟨b9, g9⟩ : ∃ z, z = h8.size := ⟨_, rfl⟩
    rw [← g9] at A9 st9
    rw [← g9] at Q9
    have ne_b1_b9 : b1 ≠ b9 := Nat.ne_of_lt (Nat.lt_of_lt_of_le E_b1.lt (Nat.le_of_eq g9.symm))
    have ne_b6_b9 : b6 ≠ b9 := Nat.ne_of_lt (Nat.lt_of_lt_of_le E_b6.lt (Nat.le_of_eq g9.symm))
    have g_b9 : n0 ≤ b9 := Nat.le_trans Zs (Nat.le_of_eq g9.symm)
    replace E_b1 := Exa.ext E9 E_b1
    replace V_b1 := V_b1.ext E9
    replace E_b6 := Exa.ext E9 E_b6
    replace V_b6 := V_b6.ext E9
    replace Zs := Nat.le_trans Zs E9.1
    have E_b9 := Q9
    have V_b9 : Arv Z h9 b9 k9 .double (2 : Int32) [(.double 0), (.double 0)] (.double 0) := (Arv.new A9 (by decide)).pad (pad_rep [] (.double 0) 2)
    refine own_go (x' := T9.setTop (mkF m 162 #[.val (.int p0), .val (.int p1), .val (.int p2), .val (.int p3), .val (.int p4), .val (.int p5), .val (.int ng), .val (.int 0), .val (.int 1), .val (.int bk), .val (.int bo), .val (.int ak), .val (.int aoo), .val (.int mkk), .val (.int moo), .val (.ref b1), .val (.ref b6), .unset, .unset, .unset, .unset] [(.ref b9)])) st9 ?_
    refine own_go (x' := T9.setTop (mkF m 172 #[.val (.int p0), .val (.int p1), .val (.int p2), .val (.int p3), .val (.int p4), .val (.int p5), .val (.int ng), .val (.int 0), .val (.int 1), .val (.int bk), .val (.int bo), .val (.int ak), .val (.int aoo), .val (.int mkk), .val (.int moo), .val (.ref b1), .val (.ref b6), .val (.ref b9), .unset, .unset, .unset] [(.int (p4 &&& (7 : Int32))), (.int 0), (.ref b9)])) (fun _ k => XS.astore X9.here hx rfl (hb hby at_162) rfl rfl (l' := #[.val (.int p0), .val (.int p1), .val (.int p2), .val (.int p3), .val (.int p4), .val (.int p5), .val (.int ng), .val (.int 0), .val (.int 1), .val (.int bk), .val (.int bo), .val (.int ak), .val (.int aoo), .val (.int mkk), .val (.int moo), .val (.ref b1), .val (.ref b6), .val (.ref b9), .unset, .unset, .unset]) rfl (XS.aload X9.here hx rfl (hb hby at_164) rfl rfl (XS.iconst X9.here hx rfl (hb hby at_166) (XS.iload X9.here hx rfl (hb hby at_167) rfl (XS.bipush X9.here hx rfl (hb hby at_169) (XS.iand X9.here hx rfl (hb hby at_171) rfl k)))))) ?_
    refine own_go (x' := T9.setTop (mkF m 173 #[.val (.int p0), .val (.int p1), .val (.int p2), .val (.int p3), .val (.int p4), .val (.int p5), .val (.int ng), .val (.int 0), .val (.int 1), .val (.int bk), .val (.int bo), .val (.int ak), .val (.int aoo), .val (.int mkk), .val (.int moo), .val (.ref b1), .val (.ref b6), .val (.ref b9), .unset, .unset, .unset] [(.double (FP.i2d (p4 &&& (7 : Int32)))), (.int 0), (.ref b9)])) (fun _ k => XS.i2dS X9.here hx rfl (hb hby at_172) rfl rfl k) ?_
    obtain ⟨cl10, Ar10, q10, Sz10, Nn10, Hh10, Gg10⟩ := V_b9
    have hin10 : ¬ ((0 : Int32) < 0 ∨ cl10.slots.size ≤ ((0 : Int32)).toNatClampNeg) := inb_of Sz10 ⟨by decide, by decide⟩
    obtain ⟨T10, h10, X10, e10, W10, st10⟩ := stD X9 hx hZ e9 Ar10 (j := (0 : Int32)) hin10 (g := (mkF m 173 #[.val (.int p0), .val (.int p1), .val (.int p2), .val (.int p3), .val (.int p4), .val (.int p5), .val (.int ng), .val (.int 0), .val (.int 1), .val (.int bk), .val (.int bo), .val (.int ak), .val (.int aoo), .val (.int mkk), .val (.int moo), .val (.ref b1), .val (.ref b6), .val (.ref b9), .unset, .unset, .unset] [(.double (FP.i2d (p4 &&& (7 : Int32)))), (.int 0), (.ref b9)])) rfl rfl (hb hby at_173)
    refine own_go (x' := T10.setTop (mkF m 174 #[.val (.int p0), .val (.int p1), .val (.int p2), .val (.int p3), .val (.int p4), .val (.int p5), .val (.int ng), .val (.int 0), .val (.int 1), .val (.int bk), .val (.int bo), .val (.int ak), .val (.int aoo), .val (.int mkk), .val (.int moo), .val (.ref b1), .val (.ref b6), .val (.ref b9), .unset, .unset, .unset] [])) st10 ?_
    replace E_b1 := Exa.wr W10 E_b1
    replace V_b1 := V_b1.other W10 ne_b1_b9
    replace E_b6 := Exa.wr W10 E_b6
    replace V_b6 := V_b6.other W10 ne_b6_b9
    replace E_b9 := Exa.wr W10 E_b9
    replace Zs := Nat.le_trans Zs (Keep.of_wr W10).1
    replace Nf := Fr.snoc X10 Nf g_b9
    have V_b9 : Arv Z h10 b9 k9 .double (2 : Int32) [(.double (FP.i2d (p4 &&& (7 : Int32)))), (.double 0)] (.double 0) := Arv.set Ar10 q10 Sz10 Nn10 Hh10 Gg10 rfl W10 0 rfl (Nat.le_of_ble_eq_true rfl)
    refine own_go (x' := T10.setTop (mkF m 183 #[.val (.int p0), .val (.int p1), .val (.int p2), .val (.int p3), .val (.int p4), .val (.int p5), .val (.int ng), .val (.int 0), .val (.int 1), .val (.int bk), .val (.int bo), .val (.int ak), .val (.int aoo), .val (.int mkk), .val (.int moo), .val (.ref b1), .val (.ref b6), .val (.ref b9), .unset, .unset, .unset] [(.int 7), (.int ((p4.toUInt32 >>> ((3 : Int32) &&& 31).toUInt32).toInt32)), (.int 1), (.ref b9)])) (fun _ k => XS.aload X10.here hx rfl (hb hby at_174) rfl rfl (XS.iconst X10.here hx rfl (hb hby at_176) (XS.iload X10.here hx rfl (hb hby at_177) rfl (XS.iconst X10.here hx rfl (hb hby at_179) (XS.iushr X10.here hx rfl (hb hby at_180) rfl (XS.bipush X10.here hx rfl (hb hby at_181) k)))))) ?_
    refine own_go (x' := T10.setTop (mkF m 185 #[.val (.int p0), .val (.int p1), .val (.int p2), .val (.int p3), .val (.int p4), .val (.int p5), .val (.int ng), .val (.int 0), .val (.int 1), .val (.int bk), .val (.int bo), .val (.int ak), .val (.int aoo), .val (.int mkk), .val (.int moo), .val (.ref b1), .val (.ref b6), .val (.ref b9), .unset, .unset, .unset] [(.double (FP.i2d (((p4.toUInt32 >>> ((3 : Int32) &&& 31).toUInt32).toInt32) &&& (7 : Int32)))), (.int 1), (.ref b9)])) (fun _ k => XS.iand X10.here hx rfl (hb hby at_183) rfl (XS.i2dS X10.here hx rfl (hb hby at_184) rfl rfl k)) ?_
    obtain ⟨cl11, Ar11, q11, Sz11, Nn11, Hh11, Gg11⟩ := V_b9
    have hin11 : ¬ ((1 : Int32) < 0 ∨ cl11.slots.size ≤ ((1 : Int32)).toNatClampNeg) := inb_of Sz11 ⟨by decide, by decide⟩
    obtain ⟨T11, h11, X11, e11, W11, st11⟩ := stD X10 hx hZ e10 Ar11 (j := (1 : Int32)) hin11 (g := (mkF m 185 #[.val (.int p0), .val (.int p1), .val (.int p2), .val (.int p3), .val (.int p4), .val (.int p5), .val (.int ng), .val (.int 0), .val (.int 1), .val (.int bk), .val (.int bo), .val (.int ak), .val (.int aoo), .val (.int mkk), .val (.int moo), .val (.ref b1), .val (.ref b6), .val (.ref b9), .unset, .unset, .unset] [(.double (FP.i2d (((p4.toUInt32 >>> ((3 : Int32) &&& 31).toUInt32).toInt32) &&& (7 : Int32)))), (.int 1), (.ref b9)])) rfl rfl (hb hby at_185)
    refine own_go (x' := T11.setTop (mkF m 186 #[.val (.int p0), .val (.int p1), .val (.int p2), .val (.int p3), .val (.int p4), .val (.int p5), .val (.int ng), .val (.int 0), .val (.int 1), .val (.int bk), .val (.int bo), .val (.int ak), .val (.int aoo), .val (.int mkk), .val (.int moo), .val (.ref b1), .val (.ref b6), .val (.ref b9), .unset, .unset, .unset] [])) st11 ?_
    replace E_b1 := Exa.wr W11 E_b1
    replace V_b1 := V_b1.other W11 ne_b1_b9
    replace E_b6 := Exa.wr W11 E_b6
    replace V_b6 := V_b6.other W11 ne_b6_b9
    replace E_b9 := Exa.wr W11 E_b9
    replace Zs := Nat.le_trans Zs (Keep.of_wr W11).1
    replace Nf := Fr.snoc X11 Nf g_b9
    have V_b9 : Arv Z h11 b9 k9 .double (2 : Int32) [(.double (FP.i2d (p4 &&& (7 : Int32)))), (.double (FP.i2d (((p4.toUInt32 >>> ((3 : Int32) &&& 31).toUInt32).toInt32) &&& (7 : Int32))))] (.double 0) := Arv.set Ar11 q11 Sz11 Nn11 Hh11 Gg11 rfl W11 1 rfl (Nat.le_of_ble_eq_true rfl)
    obtain ⟨T12, h12, X12, e12, E12, A12, D12, -, st12⟩ := newO X11 hx hZ hown (own_w hw 1 rfl) (own_w hw 2 rfl) (own_w hw 3 rfl) e11 (g := (mkF m 186 #[.val (.int p0), .val (.int p1), .val (.int p2), .val (.int p3), .val (.int p4), .val (.int p5), .val (.int ng), .val (.int 0), .val (.int 1), .val (.int bk), .val (.int bo), .val (.int ak), .val (.int aoo), .val (.int mkk), .val (.int moo), .val (.ref b1), .val (.ref b6), .val (.ref b9), .unset, .unset, .unset] [])) rfl (hb hby at_186) (by decide) (by decide)
    obtain ⟨b12, g12⟩ : ∃ z, z = h11.size := ⟨_, rfl⟩
    rw [← g12] at A12 D12 st12
    have ne_b1_b12 : b1 ≠ b12 := Nat.ne_of_lt (Nat.lt_of_lt_of_le E_b1.lt (Nat.le_of_eq g12.symm))
    have ne_b6_b12 : b6 ≠ b12 := Nat.ne_of_lt (Nat.lt_of_lt_of_le E_b6.lt (Nat.le_of_eq g12.symm))
    have ne_b9_b12 : b9 ≠ b12 := Nat.ne_of_lt (Nat.lt_of_lt_of_le E_b9.lt (Nat.le_of_eq g12.symm))
    have g_b12 : n0 ≤ b12 := Nat.le_trans Zs (Nat.le_of_eq g12.symm)
    replace E_b1 := Exa.ext E12 E_b1
    replace V_b1 := V_b1.ext E12
    replace E_b6 := Exa.ext E12 E_b6
    replace V_b6 := V_b6.ext E12
    replace E_b9 := Exa.ext E12 E_b9
    replace V_b9 := V_b9.ext E12
    replace Zs := Nat.le_trans Zs E12.1
    have E_b12 := A12
    have F_b12_rows : Fld Z h12 b12 "com/example/moving_tokens/movingtokens/DualSimplex" "rows" "I" (.int 0) := D12 (Or.inr (own_w hw 11 rfl)) (ty := .int) (by decide)
    have F_b12_columns : Fld Z h12 b12 "com/example/moving_tokens/movingtokens/DualSimplex" "columns" "I" (.int 0) := D12 (Or.inr (own_w hw 13 rfl)) (ty := .int) (by decide)
    have F_b12_tableau : Fld Z h12 b12 "com/example/moving_tokens/movingtokens/DualSimplex" "tableau" "[D" .null := D12 (Or.inr (own_w hw 15 rfl)) (ty := (.array .double)) (by decide)
    have F_b12_value : Fld Z h12 b12 "com/example/moving_tokens/movingtokens/DualSimplex" "value" "[D" .null := D12 (Or.inr (own_w hw 26 rfl)) (ty := (.array .double)) (by decide)
    have F_b12_cost : Fld Z h12 b12 "com/example/moving_tokens/movingtokens/DualSimplex" "cost" "[D" .null := D12 (Or.inr (own_w hw 28 rfl)) (ty := (.array .double)) (by decide)
    have F_b12_basic : Fld Z h12 b12 "com/example/moving_tokens/movingtokens/DualSimplex" "basic" "[I" .null := D12 (Or.inr (own_w hw 31 rfl)) (ty := (.array .int)) (by decide)
    have F_b12_nonbasic : Fld Z h12 b12 "com/example/moving_tokens/movingtokens/DualSimplex" "nonbasic" "[I" .null := D12 (Or.inr (own_w hw 33 rfl)) (ty := (.array .int)) (by decide)
    refine own_go (x' := T12.setTop (mkF m 189 #[.val (.int p0), .val (.int p1), .val (.int p2), .val (.int p3), .val (.int p4), .val (.int p5), .val (.int ng), .val (.int 0), .val (.int 1), .val (.int bk), .val (.int bo), .val (.int ak), .val (.int aoo), .val (.int mkk), .val (.int moo), .val (.ref b1), .val (.ref b6), .val (.ref b9), .unset, .unset, .unset] [(.ref b12)])) st12 ?_
    refine own_go (x' := T12.setTop (mkF m 196 #[.val (.int p0), .val (.int p1), .val (.int p2), .val (.int p3), .val (.int p4), .val (.int p5), .val (.int ng), .val (.int 0), .val (.int 1), .val (.int bk), .val (.int bo), .val (.int ak), .val (.int aoo), .val (.int mkk), .val (.int moo), .val (.ref b1), .val (.ref b6), .val (.ref b9), .unset, .unset, .unset] [(.ref b9), (.ref b6), (.ref b1), (.ref b12), (.ref b12)])) (fun _ k => XS.dup X12.here hx rfl (hb hby at_189) rfl rfl (XS.aload X12.here hx rfl (hb hby at_190) rfl rfl (XS.aload X12.here hx rfl (hb hby at_192) rfl rfl (XS.aload X12.here hx rfl (hb hby at_194) rfl rfl k)))) ?_
    obtain ⟨LL13, X13, Nf⟩ : ∃ LL : List Loc, Stand p l e room_1 s m _ below meth c T12 LL 4 15 ∧ Fr n0 LL := ⟨_, X12, Nf⟩
    obtain ⟨_, _, ⟨T14, L14, k14, n14⟩, -, X14, ⟨Lc14, hQ14, l14, y14, z14⟩, st14⟩ := X13.specialBack hx (y := (⟨"com/example/moving_tokens/movingtokens/DualSimplex", "<init>", "([D[D[D)V"⟩ : MethodName)) rfl hown (mvT hZ (own_w hw 4 rfl)) (mvT hZ (own_w hw 5 rfl)) (mvT hZ (own_w hw 6 rfl)) (by decide) (backOf (W := 1) (rm1 l Z a0 hw [] b12 b1 b6 b9 k1 k6 k9 (FP.i2d ak) (FP.i2d mkk) (FP.i2d aoo) (FP.i2d moo) (FP.i2d bk) (FP.i2d bo) (FP.i2d (p4 &&& (7 : Int32))) (FP.i2d (((p4.toUInt32 >>> ((3 : Int32) &&& 31).toUInt32).toInt32) &&& (7 : Int32))) h12 n0 Zs E_b12 F_b12_rows F_b12_columns F_b12_tableau F_b12_value F_b12_cost F_b12_basic F_b12_nonbasic V_b1 V_b6 V_b9 E_b6 E_b9 (Ne.symm ne_b1_b12) (Ne.symm ne_b6_b12) (Ne.symm ne_b9_b12) ne_b1_b6 ne_b1_b9 ne_b6_b9 g_b12) hZ (own_w hw 6 rfl) (own_w hw 3 rfl) (by decide) (by decide)) (g := (mkF m 196 #[.val (.int p0), .val (.int p1), .val (.int p2), .val (.int p3), .val (.int p4), .val (.int p5), .val (.int ng), .val (.int 0), .val (.int 1), .val (.int bk), .val (.int bo), .val (.int ak), .val (.int aoo), .val (.int mkk), .val (.int moo), .val (.ref b1), .val (.ref b6), .val (.ref b9), .unset, .unset, .unset] [(.ref b9), (.ref b6), (.ref b1), (.ref b12), (.ref b12)])) rfl (by rw [hml]; rfl) (Steps.refl _) (a := b12) (argsL := [(.ref b1), (.ref b6), (.ref b9)]) (rest := [(.ref b12)]) (lenOf pd_3 rfl) rfl (by show 2 * 0 + _ ≤ _; exact Nat.le_of_eq rfl) (hb hby at_196) (fun _ _ => ⟨rfl, e12, (by decide : 4 + 4 ≤ _), (by decide : 15 + 8 ≤ _)⟩)
    dsimp only [Pt.U, Pt.locs, Pt.cells, Pt.slots] at X14 l14 y14 z14 st14 hQ14
    subst l14 y14 z14
    obtain ⟨va, co, bs, nb, kv, kc, kb, kn, hv14, Nq14, K14, fs_va, fs_co, fs_bs, fs_nb, ne_va_co, ne_va_bs, ne_va_nb, ne_co_bs, ne_co_nb, ne_bs_nb, g_va, g_co, g_bs, g_nb, Eo14, Fo14_rows, Fo14_columns, Fo14_tableau, Fo14_value, Fo14_cost, Fo14_basic, Fo14_nonbasic, V_va, V_co, V_bs, V_nb⟩ := hQ14
    subst hv14
    replace Nf := Fr.app Nf Nq14
    have ne_b1_va : b1 ≠ va := Nat.ne_of_lt (Nat.lt_of_lt_of_le E_b1.lt fs_va)
    have ne_b1_co : b1 ≠ co := Nat.ne_of_lt (Nat.lt_of_lt_of_le E_b1.lt fs_co)
    have ne_b1_bs : b1 ≠ bs := Nat.ne_of_lt (Nat.lt_of_lt_of_le E_b1.lt fs_bs)
    have ne_b1_nb : b1 ≠ nb := Nat.ne_of_lt (Nat.lt_of_lt_of_le E_b1.lt fs_nb)
    have ne_b6_va : b6 ≠ va := Nat.ne_of_lt (Nat.lt_of_lt_of_le E_b6.lt fs_va)
    have ne_b6_co : b6 ≠ co := Nat.ne_of_lt (Nat.lt_of_lt_of_le E_b6.lt fs_co)
    have ne_b6_bs : b6 ≠ bs := Nat.ne_of_lt (Nat.lt_of_lt_of_le E_b6.lt fs_bs)
    have ne_b6_nb : b6 ≠ nb := Nat.ne_of_lt (Nat.lt_of_lt_of_le E_b6.lt fs_nb)
    have ne_b9_va : b9 ≠ va := Nat.ne_of_lt (Nat.lt_of_lt_of_le E_b9.lt fs_va)
    have ne_b9_co : b9 ≠ co := Nat.ne_of_lt (Nat.lt_of_lt_of_le E_b9.lt fs_co)
    have ne_b9_bs : b9 ≠ bs := Nat.ne_of_lt (Nat.lt_of_lt_of_le E_b9.lt fs_bs)
    have ne_b9_nb : b9 ≠ nb := Nat.ne_of_lt (Nat.lt_of_lt_of_le E_b9.lt fs_nb)
    have ne_b12_va : b12 ≠ va := Nat.ne_of_lt (Nat.lt_of_lt_of_le E_b12.lt fs_va)
    have ne_b12_co : b12 ≠ co := Nat.ne_of_lt (Nat.lt_of_lt_of_le E_b12.lt fs_co)
    have ne_b12_bs : b12 ≠ bs := Nat.ne_of_lt (Nat.lt_of_lt_of_le E_b12.lt fs_bs)
    have ne_b12_nb : b12 ≠ nb := Nat.ne_of_lt (Nat.lt_of_lt_of_le E_b12.lt fs_nb)
    replace E_b1 := E_b1.keep K14
    replace V_b1 := V_b1.keep K14 (ninS ne_b1_b12 nin0)
    replace E_b6 := E_b6.keep K14
    replace V_b6 := V_b6.keep K14 (ninS ne_b6_b12 nin0)
    replace E_b9 := E_b9.keep K14
    replace V_b9 := V_b9.keep K14 (ninS ne_b9_b12 nin0)
    replace Zs := Nat.le_trans Zs K14.1
    replace E_b12 := Eo14
    replace F_b12_rows := Fo14_rows
    replace F_b12_columns := Fo14_columns
    replace F_b12_tableau := Fo14_tableau
    replace F_b12_value := Fo14_value
    replace F_b12_cost := Fo14_cost
    replace F_b12_basic := Fo14_basic
    replace F_b12_nonbasic := Fo14_nonbasic
    refine own_go (x' := T14.setTop (mkF m 199 #[.val (.int p0), .val (.int p1), .val (.int p2), .val (.int p3), .val (.int p4), .val (.int p5), .val (.int ng), .val (.int 0), .val (.int 1), .val (.int bk), .val (.int bo), .val (.int ak), .val (.int aoo), .val (.int mkk), .val (.int moo), .val (.ref b1), .val (.ref b6), .val (.ref b9), .unset, .unset, .unset] [(.ref b12)])) (fun _ k => st14.trans k) ?_
    refine own_go (x' := T14.setTop (mkF m 209 #[.val (.int p0), .val (.int p1), .val (.int p2), .val (.int p3), .val (.int p4), .val (.int p5), .val (.int ng), .val (.int 0), .val (.int 1), .val (.int bk), .val (.int bo), .val (.int ak), .val (.int aoo), .val (.int mkk), .val (.int moo), .val (.ref b1), .val (.ref b6), .val (.ref b9), .val (.ref b12), .unset, .unset] [(.long ((p5 &&& (7 : Int32)).toInt64)), (.ref b12)])) (fun _ k => XS.astore X14.here hx rfl (hb hby at_199) rfl rfl (l' := #[.val (.int p0), .val (.int p1), .val (.int p2), .val (.int p3), .val (.int p4), .val (.int p5), .val (.int ng), .val (.int 0), .val (.int 1), .val (.int bk), .val (.int bo), .val (.int ak), .val (.int aoo), .val (.int mkk), .val (.int moo), .val (.ref b1), .val (.ref b6), .val (.ref b9), .val (.ref b12), .unset, .unset]) rfl (XS.aload X14.here hx rfl (hb hby at_201) rfl rfl (XS.iload X14.here hx rfl (hb hby at_203) rfl (XS.bipush X14.here hx rfl (hb hby at_205) (XS.iand X14.here hx rfl (hb hby at_207) rfl (XS.i2l X14.here hx rfl (hb hby at_208) rfl k)))))) ?_
    obtain ⟨cq15, kq15, q15a, q15b, q15c⟩ := isOf hZ rfl E_b12
    obtain ⟨_, _, ⟨T15, L15, k15, n15⟩, -, X15, ⟨Lc15, hQ15, l15, y15, z15⟩, st15⟩ := X14.virtualBack hx (y := (⟨"com/example/moving_tokens/movingtokens/DualSimplex", "solve", "(J)Z"⟩ : MethodName)) (z := (⟨"com/example/moving_tokens/movingtokens/DualSimplex", "solve", "(J)Z"⟩ : MethodName)) hown (mvT hZ (own_w hw 34 rfl)) (mvT hZ (own_w hw 35 rfl)) (notFace_of_selects (args := #[]) (mvT hZ (own_w hw 37 rfl))) (mvT hZ (own_w hw 37 rfl)) (mvT hZ (own_w hw 36 rfl)) (by decide) (backOf (W := 0) (rm3_0 l Z a0 hw [] b12 b1 va co bs nb k1 kv kc kb kn bk bo ak aoo mkk moo (p4 &&& (7 : Int32)) (((p4.toUInt32 >>> ((3 : Int32) &&& 31).toUInt32).toInt32) &&& (7 : Int32)) ((p5 &&& (7 : Int32)).toInt64) T14.heap n0 Zs E_b12 F_b12_rows F_b12_columns F_b12_tableau F_b12_value F_b12_cost F_b12_basic F_b12_nonbasic V_b1 V_va V_co V_bs V_nb h_bk q_bo.1 q_ak q_aoo q_mkk.1 q_moo.1 q_bo.2 q_mkk.2 q_moo.2 (Ne.symm ne_b1_b12) ne_b12_va ne_b12_co ne_b12_bs ne_b12_nb ne_b1_va ne_b1_co ne_b1_bs ne_b1_nb ne_va_co ne_va_bs ne_va_nb ne_co_bs ne_co_nb ne_bs_nb g_b1 g_va g_co g_bs g_nb) hZ (own_w hw 38 rfl) (own_w hw 3 rfl) (by decide) (by decide)) q15a q15c (g := (mkF m 209 #[.val (.int p0), .val (.int p1), .val (.int p2), .val (.int p3), .val (.int p4), .val (.int p5), .val (.int ng), .val (.int 0), .val (.int 1), .val (.int bk), .val (.int bo), .val (.int ak), .val (.int aoo), .val (.int mkk), .val (.int moo), .val (.ref b1), .val (.ref b6), .val (.ref b9), .val (.ref b12), .unset, .unset] [(.long ((p5 &&& (7 : Int32)).toInt64)), (.ref b12)])) rfl (by rw [hml]; rfl) (Steps.refl _) (argsL := [(.long ((p5 &&& (7 : Int32)).toInt64))]) (rest := []) (lenOf pd_4 rfl) rfl (by show 2 * 0 + _ ≤ _; exact Nat.le_of_eq rfl) (hb hby at_209) (fun _ _ => ⟨rfl, rfl, (by decide : 8 + 0 ≤ _), (by decide : 23 + 0 ≤ _)⟩)
    dsimp only [Pt.U, Pt.locs, Pt.cells, Pt.slots] at X15 l15 y15 z15 st15 hQ15
    subst l15 y15 z15
    obtain ⟨rr15, hv15, Nq15, K15, Vn15⟩ := hQ15
    subst hv15
    replace Nf := Fr.app Nf Nq15
    replace E_b1 := E_b1.keep K15
    replace E_b6 := E_b6.keep K15
    replace V_b6 := V_b6.keep K15 (ninS (Ne.symm ne_b1_b6) (ninS ne_b6_va (ninS ne_b6_co (ninS ne_b6_bs (ninS ne_b6_nb nin0)))))
    replace E_b9 := E_b9.keep K15
    replace V_b9 := V_b9.keep K15 (ninS (Ne.symm ne_b1_b9) (ninS ne_b9_va (ninS ne_b9_co (ninS ne_b9_bs (ninS ne_b9_nb nin0)))))
    replace E_b12 := E_b12.keep K15
    replace F_b12_rows := F_b12_rows.keep K15 (ninS (Ne.symm ne_b1_b12) (ninS ne_b12_va (ninS ne_b12_co (ninS ne_b12_bs (ninS ne_b12_nb nin0)))))
    replace F_b12_columns := F_b12_columns.keep K15 (ninS (Ne.symm ne_b1_b12) (ninS ne_b12_va (ninS ne_b12_co (ninS ne_b12_bs (ninS ne_b12_nb nin0)))))
    replace F_b12_tableau := F_b12_tableau.keep K15 (ninS (Ne.symm ne_b1_b12) (ninS ne_b12_va (ninS ne_b12_co (ninS ne_b12_bs (ninS ne_b12_nb nin0)))))
    replace F_b12_value := F_b12_value.keep K15 (ninS (Ne.symm ne_b1_b12) (ninS ne_b12_va (ninS ne_b12_co (ninS ne_b12_bs (ninS ne_b12_nb nin0)))))
    replace F_b12_cost := F_b12_cost.keep K15 (ninS (Ne.symm ne_b1_b12) (ninS ne_b12_va (ninS ne_b12_co (ninS ne_b12_bs (ninS ne_b12_nb nin0)))))
    replace F_b12_basic := F_b12_basic.keep K15 (ninS (Ne.symm ne_b1_b12) (ninS ne_b12_va (ninS ne_b12_co (ninS ne_b12_bs (ninS ne_b12_nb nin0)))))
    replace F_b12_nonbasic := F_b12_nonbasic.keep K15 (ninS (Ne.symm ne_b1_b12) (ninS ne_b12_va (ninS ne_b12_co (ninS ne_b12_bs (ninS ne_b12_nb nin0)))))
    replace Zs := Nat.le_trans Zs K15.1
    replace V_nb := Vn15
    refine own_go (x' := T15.setTop (mkF m 212 #[.val (.int p0), .val (.int p1), .val (.int p2), .val (.int p3), .val (.int p4), .val (.int p5), .val (.int ng), .val (.int 0), .val (.int 1), .val (.int bk), .val (.int bo), .val (.int ak), .val (.int aoo), .val (.int mkk), .val (.int moo), .val (.ref b1), .val (.ref b6), .val (.ref b9), .val (.ref b12), .unset, .unset] [(.int rr15)])) (fun _ k => st15.trans k) ?_
    refine own_go (x' := T15.setTop (mkF m 213 #[.val (.int p0), .val (.int p1), .val (.int p2), .val (.int p3), .val (.int p4), .val (.int p5), .val (.int ng), .val (.int 0), .val (.int 1), .val (.int bk), .val (.int bo), .val (.int ak), .val (.int aoo), .val (.int mkk), .val (.int moo), .val (.ref b1), .val (.ref b6), .val (.ref b9), .val (.ref b12), .unset, .unset] [])) (fun _ k => XS.pop X15.here hx rfl (hb hby at_212) rfl rfl k) ?_
    by_cases hpv : bk < 0 ∧ ak < 0
    · rw [if_pos hpv] at V_nb
      refine own_go (x' := T15.setTop (mkF m 215 #[.val (.int p0), .val (.int p1), .val (.int p2), .val (.int p3), .val (.int p4), .val (.int p5), .val (.int ng), .val (.int 0), .val (.int 1), .val (.int bk), .val (.int bo), .val (.int ak), .val (.int aoo), .val (.int mkk), .val (.int moo), .val (.ref b1), .val (.ref b6), .val (.ref b9), .val (.ref b12), .unset, .unset] [(.ref b12)])) (fun _ k => XS.aload X15.here hx rfl (hb hby at_213) rfl rfl k) ?_
      obtain ⟨cq16, kq16, q16a, q16b, q16c⟩ := isOf hZ rfl E_b12
      obtain ⟨_, _, ⟨T16, L16, k16, n16⟩, -, X16, ⟨Lc16, hQ16, l16, y16, z16⟩, st16⟩ := X15.virtualBack hx (y := (⟨"com/example/moving_tokens/movingtokens/DualSimplex", "tightRows", "()[Z"⟩ : MethodName)) (z := (⟨"com/example/moving_tokens/movingtokens/DualSimplex", "tightRows", "()[Z"⟩ : MethodName)) hown (mvT hZ (own_w hw 44 rfl)) (mvT hZ (own_w hw 45 rfl)) (notFace_of_selects (args := #[]) (mvT hZ (own_w hw 47 rfl))) (mvT hZ (own_w hw 47 rfl)) (mvT hZ (own_w hw 46 rfl)) (by decide) (backOf (W := 0) (rm5_2 l Z a0 hw [] b12 nb kn T15.heap n0 Zs F_b12_rows F_b12_columns F_b12_nonbasic V_nb) hZ (own_w hw 48 rfl) (own_w hw 3 rfl) (by decide) (by decide)) q16a q16c (g := (mkF m 215 #[.val (.int p0), .val (.int p1), .val (.int p2), .val (.int p3), .val (.int p4), .val (.int p5), .val (.int ng), .val (.int 0), .val (.int 1), .val (.int bk), .val (.int bo), .val (.int ak), .val (.int aoo), .val (.int mkk), .val (.int moo), .val (.ref b1), .val (.ref b6), .val (.ref b9), .val (.ref b12), .unset, .unset] [(.ref b12)])) rfl (by rw [hml]; rfl) (Steps.refl _) (argsL := []) (rest := []) (lenOf pd_5 rfl) rfl (by show 2 * 0 + _ ≤ _; exact Nat.le_of_eq rfl) (hb hby at_215) (fun _ _ => ⟨rfl, rfl, (by decide : 8 + 1 ≤ _), (by decide : 23 + 2 ≤ _)⟩)
      dsimp only [Pt.U, Pt.locs, Pt.cells, Pt.slots] at X16 l16 y16 z16 st16 hQ16
      subst l16 y16 z16
      obtain ⟨b16, kq16, hv16, Nq16, K16, sq16, g_b16, V_b16⟩ := hQ16
      subst hv16
      replace Nf := Fr.app Nf Nq16
      replace E_b1 := E_b1.keep K16
      replace E_b6 := E_b6.keep K16
      replace V_b6 := V_b6.keep K16 nin0
      replace E_b9 := E_b9.keep K16
      replace V_b9 := V_b9.keep K16 nin0
      replace E_b12 := E_b12.keep K16
      replace F_b12_rows := F_b12_rows.keep K16 nin0
      replace F_b12_columns := F_b12_columns.keep K16 nin0
      replace F_b12_tableau := F_b12_tableau.keep K16 nin0
      replace F_b12_value := F_b12_value.keep K16 nin0
      replace F_b12_cost := F_b12_cost.keep K16 nin0
      replace F_b12_basic := F_b12_basic.keep K16 nin0
      replace F_b12_nonbasic := F_b12_nonbasic.keep K16 nin0
      replace V_nb := V_nb.keep K16 nin0
      replace Zs := Nat.le_trans Zs K16.1
      refine own_go (x' := T16.setTop (mkF m 218 #[.val (.int p0), .val (.int p1), .val (.int p2), .val (.int p3), .val (.int p4), .val (.int p5), .val (.int ng), .val (.int 0), .val (.int 1), .val (.int bk), .val (.int bo), .val (.int ak), .val (.int aoo), .val (.int mkk), .val (.int moo), .val (.ref b1), .val (.ref b6), .val (.ref b9), .val (.ref b12), .unset, .unset] [(.ref b16)])) (fun _ k => st16.trans k) ?_
      refine own_go (x' := T16.setTop (mkF m 231 #[.val (.int p0), .val (.int p1), .val (.int p2), .val (.int p3), .val (.int p4), .val (.int p5), .val (.int ng), .val (.int 0), .val (.int 1), .val (.int bk), .val (.int bo), .val (.int ak), .val (.int aoo), .val (.int mkk), .val (.int moo), .val (.ref b1), .val (.ref b6), .val (.ref b9), .val (.ref b12), .val (.ref b16), .unset] [(.int 1)])) (fun _ k => XS.astore X16.here hx rfl (hb hby at_218) rfl rfl (l' := #[.val (.int p0), .val (.int p1), .val (.int p2), .val (.int p3), .val (.int p4), .val (.int p5), .val (.int ng), .val (.int 0), .val (.int 1), .val (.int bk), .val (.int bo), .val (.int ak), .val (.int aoo), .val (.int mkk), .val (.int moo), .val (.ref b1), .val (.ref b6), .val (.ref b9), .val (.ref b12), .val (.ref b16), .unset]) rfl (XS.iload X16.here hx rfl (hb hby at_220) rfl (XS.ifNo X16.here hx rfl (hb hby at_222) rfl ((if0 _ _).trans (feq (hsg.elim (fun z => by rw [z.1]; decide) (fun z => absurd hpv.1 z.2))).1) (XS.iload X16.here hx rfl (hb hby at_225) rfl (XS.ifNo X16.here hx rfl (hb hby at_227) rfl ((if0 _ _).trans (tlt hpv.2).2.1) (XS.iconst X16.here hx rfl (hb hby at_230) k)))))) ?_
      refine own_go (x' := T16.setTop (mkF m 239 #[.val (.int p0), .val (.int p1), .val (.int p2), .val (.int p3), .val (.int p4), .val (.int p5), .val (.int ng), .val (.int 0), .val (.int 1), .val (.int bk), .val (.int bo), .val (.int ak), .val (.int aoo), .val (.int mkk), .val (.int moo), .val (.ref b1), .val (.ref b6), .val (.ref b9), .val (.ref b12), .val (.ref b16), .val (.int 1)] [(.ref b16)])) (fun _ k => XS.goto X16.here hx rfl (pc0 := 231) (pc' := 235) rfl (hb hby at_231) (by decide) (by decide) (XS.istore X16.here hx rfl (hb hby at_235) rfl (l' := #[.val (.int p0), .val (.int p1), .val (.int p2), .val (.int p3), .val (.int p4), .val (.int p5), .val (.int ng), .val (.int 0), .val (.int 1), .val (.int bk), .val (.int bo), .val (.int ak), .val (.int aoo), .val (.int mkk), .val (.int moo), .val (.ref b1), .val (.ref b6), .val (.ref b9), .val (.ref b12), .val (.ref b16), .val (.int 1)]) rfl (XS.aload X16.here hx rfl (hb hby at_237) rfl rfl k))) ?_
      obtain ⟨cl17, Ar17, -, Sz17, Nn17, -, -⟩ := id V_b16
      refine own_go (x' := T16.setTop (mkF m 240 #[.val (.int p0), .val (.int p1), .val (.int p2), .val (.int p3), .val (.int p4), .val (.int p5), .val (.int ng), .val (.int 0), .val (.int 1), .val (.int bk), .val (.int bo), .val (.int ak), .val (.int aoo), .val (.int mkk), .val (.int moo), .val (.ref b1), .val (.ref b6), .val (.ref b9), .val (.ref b12), .val (.ref b16), .val (.int 1)] [(.int 2)])) (fun t k => X16.arraylength hx (Eq.trans (congrArg (fun h_ => h_[_]?) rfl) Ar17.1) (State.isArrayOf_alike hZ.alike Ar17.2.1) (g := (mkF m 239 #[.val (.int p0), .val (.int p1), .val (.int p2), .val (.int p3), .val (.int p4), .val (.int p5), .val (.int ng), .val (.int 0), .val (.int 1), .val (.int bk), .val (.int bo), .val (.int ak), .val (.int aoo), .val (.int mkk), .val (.int moo), .val (.ref b1), .val (.ref b6), .val (.ref b9), .val (.ref b12), .val (.ref b16), .val (.int 1)] [(.ref b16)])) rfl rfl (hb hby at_239) t (by rw [len_of Sz17 Nn17]; exact k)) ?_
      refine own_go (x' := T16.setTop (mkF m 248 #[.val (.int p0), .val (.int p1), .val (.int p2), .val (.int p3), .val (.int p4), .val (.int p5), .val (.int ng), .val (.int 0), .val (.int 1), .val (.int bk), .val (.int bo), .val (.int ak), .val (.int aoo), .val (.int mkk), .val (.int moo), .val (.ref b1), .val (.ref b6), .val (.ref b9), .val (.ref b12), .val (.ref b16), .val (.int 1)] [(.int 0), (.ref b16)])) (fun _ k => XS.iconst X16.here hx rfl (hb hby at_240) (XS.icmpNo X16.here hx rfl (hb hby at_241) rfl (teq rfl).2 (XS.aload X16.here hx rfl (hb hby at_244) rfl rfl (XS.iload X16.here hx rfl (hb hby at_246) rfl k)))) ?_
      obtain ⟨cl18, Ar18, q18, Sz18, Nn18, Hh18, Gg18⟩ := id V_b16
      have hin18 : ¬ ((0 : Int32) < 0 ∨ cl18.slots.size ≤ ((0 : Int32)).toNatClampNeg) := inb_of Sz18 ⟨by decide, by decide⟩
      refine own_go (x' := T16.setTop (mkF m 249 #[.val (.int p0), .val (.int p1), .val (.int p2), .val (.int p3), .val (.int p4), .val (.int p5), .val (.int ng), .val (.int 0), .val (.int 1), .val (.int bk), .val (.int bo), .val (.int ak), .val (.int aoo), .val (.int mkk), .val (.int moo), .val (.ref b1), .val (.ref b6), .val (.ref b9), .val (.ref b12), .val (.ref b16), .val (.int 1)] [(.int (nar .boolean (1 : Int32)))])) (X16.baloadBooleans hx (j := (0 : Int32)) (v := (.int (nar .boolean (1 : Int32)))) (Eq.trans (congrArg (fun h_ => h_[_]?) rfl) Ar18.1) (State.isArrayOf_alike hZ.alike Ar18.2.1) Ar18.2.2 hin18 (Hh18.at hin18 rfl) (g := (mkF m 248 #[.val (.int p0), .val (.int p1), .val (.int p2), .val (.int p3), .val (.int p4), .val (.int p5), .val (.int ng), .val (.int 0), .val (.int 1), .val (.int bk), .val (.int bo), .val (.int ak), .val (.int aoo), .val (.int mkk), .val (.int moo), .val (.ref b1), .val (.ref b6), .val (.ref b9), .val (.ref b12), .val (.ref b16), .val (.int 1)] [(.int 0), (.ref b16)])) rfl rfl (hb hby at_248)) ?_
      refine own_go (x' := T16.setTop (mkF m 258 #[.val (.int p0), .val (.int p1), .val (.int p2), .val (.int p3), .val (.int p4), .val (.int p5), .val (.int ng), .val (.int 0), .val (.int 1), .val (.int bk), .val (.int bo), .val (.int ak), .val (.int aoo), .val (.int mkk), .val (.int moo), .val (.ref b1), .val (.ref b6), .val (.ref b9), .val (.ref b12), .val (.ref b16), .val (.int 1)] [(.int 1), (.ref b16)])) (fun _ k => XS.iload X16.here hx rfl (hb hby at_249) rfl (XS.icmpNo X16.here hx rfl (hb hby at_251) rfl (teq (by decide)).2 (XS.aload X16.here hx rfl (hb hby at_254) rfl rfl (XS.iload X16.here hx rfl (hb hby at_256) rfl k)))) ?_
      obtain ⟨cl19, Ar19, q19, Sz19, Nn19, Hh19, Gg19⟩ := id V_b16
      have hin19 : ¬ ((1 : Int32) < 0 ∨ cl19.slots.size ≤ ((1 : Int32)).toNatClampNeg) := inb_of Sz19 ⟨by decide, by decide⟩
      refine own_go (x' := T16.setTop (mkF m 259 #[.val (.int p0), .val (.int p1), .val (.int p2), .val (.int p3), .val (.int p4), .val (.int p5), .val (.int ng), .val (.int 0), .val (.int 1), .val (.int bk), .val (.int bo), .val (.int ak), .val (.int aoo), .val (.int mkk), .val (.int moo), .val (.ref b1), .val (.ref b6), .val (.ref b9), .val (.ref b12), .val (.ref b16), .val (.int 1)] [(.int 0)])) (X16.baloadBooleans hx (j := (1 : Int32)) (v := (.int 0)) (Eq.trans (congrArg (fun h_ => h_[_]?) rfl) Ar19.1) (State.isArrayOf_alike hZ.alike Ar19.2.1) Ar19.2.2 hin19 (Hh19.at hin19 rfl) (g := (mkF m 258 #[.val (.int p0), .val (.int p1), .val (.int p2), .val (.int p3), .val (.int p4), .val (.int p5), .val (.int ng), .val (.int 0), .val (.int 1), .val (.int bk), .val (.int bo), .val (.int ak), .val (.int aoo), .val (.int mkk), .val (.int moo), .val (.ref b1), .val (.ref b6), .val (.ref b9), .val (.ref b12), .val (.ref b16), .val (.int 1)] [(.int 1), (.ref b16)])) rfl rfl (hb hby at_258)) ?_
      refine own_go (x' := T16.setTop (mkF m 267 #[.val (.int p0), .val (.int p1), .val (.int p2), .val (.int p3), .val (.int p4), .val (.int p5), .val (.int ng), .val (.int 0), .val (.int 1), .val (.int bk), .val (.int bo), .val (.int ak), .val (.int aoo), .val (.int mkk), .val (.int moo), .val (.ref b1), .val (.ref b6), .val (.ref b9), .val (.ref b12), .val (.ref b16), .val (.int 1)] [(.int 1)])) (fun _ k => XS.ifNo X16.here hx rfl (hb hby at_259) rfl ((if0 _ _).trans (teq rfl).2) (XS.iconst X16.here hx rfl (hb hby at_262) (XS.goto X16.here hx rfl (pc0 := 263) (pc' := 267) rfl (hb hby at_263) (by decide) (by decide) k))) ?_
      refine own_retN X16 hx hlk (t := .boolean) hret (by simp) (hb hby at_267) (w := (1 : Int32)) rfl ?_ (by decide) (by decide)
      exact ⟨rfl, Nf⟩
    · rw [if_neg hpv] at V_nb
      refine own_go (x' := T15.setTop (mkF m 215 #[.val (.int p0), .val (.int p1), .val (.int p2), .val (.int p3), .val (.int p4), .val (.int p5), .val (.int ng), .val (.int 0), .val (.int 1), .val (.int bk), .val (.int bo), .val (.int ak), .val (.int aoo), .val (.int mkk), .val (.int moo), .val (.ref b1), .val (.ref b6), .val (.ref b9), .val (.ref b12), .unset, .unset] [(.ref b12)])) (fun _ k => XS.aload X15.here hx rfl (hb hby at_213) rfl rfl k) ?_
      obtain ⟨cq20, kq20, q20a, q20b, q20c⟩ := isOf hZ rfl E_b12
      obtain ⟨_, _, ⟨T20, L20, k20, n20⟩, -, X20, ⟨Lc20, hQ20, l20, y20, z20⟩, st20⟩ := X15.virtualBack hx (y := (⟨"com/example/moving_tokens/movingtokens/DualSimplex", "tightRows", "()[Z"⟩ : MethodName)) (z := (⟨"com/example/moving_tokens/movingtokens/DualSimplex", "tightRows", "()[Z"⟩ : MethodName)) hown (mvT hZ (own_w hw 44 rfl)) (mvT hZ (own_w hw 45 rfl)) (notFace_of_selects (args := #[]) (mvT hZ (own_w hw 47 rfl))) (mvT hZ (own_w hw 47 rfl)) (mvT hZ (own_w hw 46 rfl)) (by decide) (backOf (W := 0) (rm5_0 l Z a0 hw [] b12 nb kn T15.heap n0 Zs F_b12_rows F_b12_columns F_b12_nonbasic V_nb) hZ (own_w hw 48 rfl) (own_w hw 3 rfl) (by decide) (by decide)) q20a q20c (g := (mkF m 215 #[.val (.int p0), .val (.int p1), .val (.int p2), .val (.int p3), .val (.int p4), .val (.int p5), .val (.int ng), .val (.int 0), .val (.int 1), .val (.int bk), .val (.int bo), .val (.int ak), .val (.int aoo), .val (.int mkk), .val (.int moo), .val (.ref b1), .val (.ref b6), .val (.ref b9), .val (.ref b12), .unset, .unset] [(.ref b12)])) rfl (by rw [hml]; rfl) (Steps.refl _) (argsL := []) (rest := []) (lenOf pd_5 rfl) rfl (by show 2 * 0 + _ ≤ _; exact Nat.le_of_eq rfl) (hb hby at_215) (fun _ _ => ⟨rfl, rfl, (by decide : 8 + 1 ≤ _), (by decide : 23 + 2 ≤ _)⟩)
      dsimp only [Pt.U, Pt.locs, Pt.cells, Pt.slots] at X20 l20 y20 z20 st20 hQ20
      subst l20 y20 z20
      obtain ⟨b20, kq20, hv20, Nq20, K20, sq20, g_b20, V_b20⟩ := hQ20
      subst hv20
      replace Nf := Fr.app Nf Nq20
      replace E_b1 := E_b1.keep K20
      replace E_b6 := E_b6.keep K20
      replace V_b6 := V_b6.keep K20 nin0
      replace E_b9 := E_b9.keep K20
      replace V_b9 := V_b9.keep K20 nin0
      replace E_b12 := E_b12.keep K20
      replace F_b12_rows := F_b12_rows.keep K20 nin0
      replace F_b12_columns := F_b12_columns.keep K20 nin0
      replace F_b12_tableau := F_b12_tableau.keep K20 nin0
      replace F_b12_value := F_b12_value.keep K20 nin0
      replace F_b12_cost := F_b12_cost.keep K20 nin0
      replace F_b12_basic := F_b12_basic.keep K20 nin0
      replace F_b12_nonbasic := F_b12_nonbasic.keep K20 nin0
      replace V_nb := V_nb.keep K20 nin0
      replace Zs := Nat.le_trans Zs K20.1
      refine own_go (x' := T20.setTop (mkF m 218 #[.val (.int p0), .val (.int p1), .val (.int p2), .val (.int p3), .val (.int p4), .val (.int p5), .val (.int ng), .val (.int 0), .val (.int 1), .val (.int bk), .val (.int bo), .val (.int ak), .val (.int aoo), .val (.int mkk), .val (.int moo), .val (.ref b1), .val (.ref b6), .val (.ref b9), .val (.ref b12), .unset, .unset] [(.ref b20)])) (fun _ k => st20.trans k) ?_
      refine own_go (x' := T20.setTop (mkF m 222 #[.val (.int p0), .val (.int p1), .val (.int p2), .val (.int p3), .val (.int p4), .val (.int p5), .val (.int ng), .val (.int 0), .val (.int 1), .val (.int bk), .val (.int bo), .val (.int ak), .val (.int aoo), .val (.int mkk), .val (.int moo), .val (.ref b1), .val (.ref b6), .val (.ref b9), .val (.ref b12), .val (.ref b20), .unset] [(.int ng)])) (fun _ k => XS.astore X20.here hx rfl (hb hby at_218) rfl rfl (l' := #[.val (.int p0), .val (.int p1), .val (.int p2), .val (.int p3), .val (.int p4), .val (.int p5), .val (.int ng), .val (.int 0), .val (.int 1), .val (.int bk), .val (.int bo), .val (.int ak), .val (.int aoo), .val (.int mkk), .val (.int moo), .val (.ref b1), .val (.ref b6), .val (.ref b9), .val (.ref b12), .val (.ref b20), .unset]) rfl (XS.iload X20.here hx rfl (hb hby at_220) rfl k)) ?_
      by_cases hc222 : ng = (0 : Int32)
      · refine own_go (x' := T20.setTop (mkF m 239 #[.val (.int p0), .val (.int p1), .val (.int p2), .val (.int p3), .val (.int p4), .val (.int p5), .val (.int ng), .val (.int 0), .val (.int 1), .val (.int bk), .val (.int bo), .val (.int ak), .val (.int aoo), .val (.int mkk), .val (.int moo), .val (.ref b1), .val (.ref b6), .val (.ref b9), .val (.ref b12), .val (.ref b20), .val (.int 0)] [(.ref b20)])) (fun _ k => XS.ifYes X20.here hx rfl (pc0 := 222) (pc' := 234) rfl (hb hby at_222) rfl ((if0 _ _).trans (teq hc222).1) (by decide) (by decide) (XS.iconst X20.here hx rfl (hb hby at_234) (XS.istore X20.here hx rfl (hb hby at_235) rfl (l' := #[.val (.int p0), .val (.int p1), .val (.int p2), .val (.int p3), .val (.int p4), .val (.int p5), .val (.int ng), .val (.int 0), .val (.int 1), .val (.int bk), .val (.int bo), .val (.int ak), .val (.int aoo), .val (.int mkk), .val (.int moo), .val (.ref b1), .val (.ref b6), .val (.ref b9), .val (.ref b12), .val (.ref b20), .val (.int 0)]) rfl (XS.aload X20.here hx rfl (hb hby at_237) rfl rfl k)))) ?_
        obtain ⟨cl21, Ar21, -, Sz21, Nn21, -, -⟩ := id V_b20
        refine own_go (x' := T20.setTop (mkF m 240 #[.val (.int p0), .val (.int p1), .val (.int p2), .val (.int p3), .val (.int p4), .val (.int p5), .val (.int ng), .val (.int 0), .val (.int 1), .val (.int bk), .val (.int bo), .val (.int ak), .val (.int aoo), .val (.int mkk), .val (.int moo), .val (.ref b1), .val (.ref b6), .val (.ref b9), .val (.ref b12), .val (.ref b20), .val (.int 0)] [(.int 2)])) (fun t k => X20.arraylength hx (Eq.trans (congrArg (fun h_ => h_[_]?) rfl) Ar21.1) (State.isArrayOf_alike hZ.alike Ar21.2.1) (g := (mkF m 239 #[.val (.int p0), .val (.int p1), .val (.int p2), .val (.int p3), .val (.int p4), .val (.int p5), .val (.int ng), .val (.int 0), .val (.int 1), .val (.int bk), .val (.int bo), .val (.int ak), .val (.int aoo), .val (.int mkk), .val (.int moo), .val (.ref b1), .val (.ref b6), .val (.ref b9), .val (.ref b12), .val (.ref b20), .val (.int 0)] [(.ref b20)])) rfl rfl (hb hby at_239) t (by rw [len_of Sz21 Nn21]; exact k)) ?_
        refine own_go (x' := T20.setTop (mkF m 248 #[.val (.int p0), .val (.int p1), .val (.int p2), .val (.int p3), .val (.int p4), .val (.int p5), .val (.int ng), .val (.int 0), .val (.int 1), .val (.int bk), .val (.int bo), .val (.int ak), .val (.int aoo), .val (.int mkk), .val (.int moo), .val (.ref b1), .val (.ref b6), .val (.ref b9), .val (.ref b12), .val (.ref b20), .val (.int 0)] [(.int 0), (.ref b20)])) (fun _ k => XS.iconst X20.here hx rfl (hb hby at_240) (XS.icmpNo X20.here hx rfl (hb hby at_241) rfl (teq rfl).2 (XS.aload X20.here hx rfl (hb hby at_244) rfl rfl (XS.iload X20.here hx rfl (hb hby at_246) rfl k)))) ?_
        obtain ⟨cl22, Ar22, q22, Sz22, Nn22, Hh22, Gg22⟩ := id V_b20
        have hin22 : ¬ ((0 : Int32) < 0 ∨ cl22.slots.size ≤ ((0 : Int32)).toNatClampNeg) := inb_of Sz22 ⟨by decide, by decide⟩
        refine own_go (x' := T20.setTop (mkF m 249 #[.val (.int p0), .val (.int p1), .val (.int p2), .val (.int p3), .val (.int p4), .val (.int p5), .val (.int ng), .val (.int 0), .val (.int 1), .val (.int bk), .val (.int bo), .val (.int ak), .val (.int aoo), .val (.int mkk), .val (.int moo), .val (.ref b1), .val (.ref b6), .val (.ref b9), .val (.ref b12), .val (.ref b20), .val (.int 0)] [(.int 0)])) (X20.baloadBooleans hx (j := (0 : Int32)) (v := (.int 0)) (Eq.trans (congrArg (fun h_ => h_[_]?) rfl) Ar22.1) (State.isArrayOf_alike hZ.alike Ar22.2.1) Ar22.2.2 hin22 (Hh22.at hin22 rfl) (g := (mkF m 248 #[.val (.int p0), .val (.int p1), .val (.int p2), .val (.int p3), .val (.int p4), .val (.int p5), .val (.int ng), .val (.int 0), .val (.int 1), .val (.int bk), .val (.int bo), .val (.int ak), .val (.int aoo), .val (.int mkk), .val (.int moo), .val (.ref b1), .val (.ref b6), .val (.ref b9), .val (.ref b12), .val (.ref b20), .val (.int 0)] [(.int 0), (.ref b20)])) rfl rfl (hb hby at_248)) ?_
        refine own_go (x' := T20.setTop (mkF m 258 #[.val (.int p0), .val (.int p1), .val (.int p2), .val (.int p3), .val (.int p4), .val (.int p5), .val (.int ng), .val (.int 0), .val (.int 1), .val (.int bk), .val (.int bo), .val (.int ak), .val (.int aoo), .val (.int mkk), .val (.int moo), .val (.ref b1), .val (.ref b6), .val (.ref b9), .val (.ref b12), .val (.ref b20), .val (.int 0)] [(.int 1), (.ref b20)])) (fun _ k => XS.iload X20.here hx rfl (hb hby at_249) rfl (XS.icmpNo X20.here hx rfl (hb hby at_251) rfl (teq rfl).2 (XS.aload X20.here hx rfl (hb hby at_254) rfl rfl (XS.iload X20.here hx rfl (hb hby at_256) rfl k)))) ?_
        obtain ⟨cl23, Ar23, q23, Sz23, Nn23, Hh23, Gg23⟩ := id V_b20
        have hin23 : ¬ ((1 : Int32) < 0 ∨ cl23.slots.size ≤ ((1 : Int32)).toNatClampNeg) := inb_of Sz23 ⟨by decide, by decide⟩
        refine own_go (x' := T20.setTop (mkF m 259 #[.val (.int p0), .val (.int p1), .val (.int p2), .val (.int p3), .val (.int p4), .val (.int p5), .val (.int ng), .val (.int 0), .val (.int 1), .val (.int bk), .val (.int bo), .val (.int ak), .val (.int aoo), .val (.int mkk), .val (.int moo), .val (.ref b1), .val (.ref b6), .val (.ref b9), .val (.ref b12), .val (.ref b20), .val (.int 0)] [(.int 0)])) (X20.baloadBooleans hx (j := (1 : Int32)) (v := (.int 0)) (Eq.trans (congrArg (fun h_ => h_[_]?) rfl) Ar23.1) (State.isArrayOf_alike hZ.alike Ar23.2.1) Ar23.2.2 hin23 (Hh23.at hin23 rfl) (g := (mkF m 258 #[.val (.int p0), .val (.int p1), .val (.int p2), .val (.int p3), .val (.int p4), .val (.int p5), .val (.int ng), .val (.int 0), .val (.int 1), .val (.int bk), .val (.int bo), .val (.int ak), .val (.int aoo), .val (.int mkk), .val (.int moo), .val (.ref b1), .val (.ref b6), .val (.ref b9), .val (.ref b12), .val (.ref b20), .val (.int 0)] [(.int 1), (.ref b20)])) rfl rfl (hb hby at_258)) ?_
        refine own_go (x' := T20.setTop (mkF m 267 #[.val (.int p0), .val (.int p1), .val (.int p2), .val (.int p3), .val (.int p4), .val (.int p5), .val (.int ng), .val (.int 0), .val (.int 1), .val (.int bk), .val (.int bo), .val (.int ak), .val (.int aoo), .val (.int mkk), .val (.int moo), .val (.ref b1), .val (.ref b6), .val (.ref b9), .val (.ref b12), .val (.ref b20), .val (.int 0)] [(.int 1)])) (fun _ k => XS.ifNo X20.here hx rfl (hb hby at_259) rfl ((if0 _ _).trans (teq rfl).2) (XS.iconst X20.here hx rfl (hb hby at_262) (XS.goto X20.here hx rfl (pc0 := 263) (pc' := 267) rfl (hb hby at_263) (by decide) (by decide) k))) ?_
        refine own_retN X20 hx hlk (t := .boolean) hret (by simp) (hb hby at_267) (w := (1 : Int32)) rfl ?_ (by decide) (by decide)
        exact ⟨rfl, Nf⟩
      · refine own_go (x' := T20.setTop (mkF m 239 #[.val (.int p0), .val (.int p1), .val (.int p2), .val (.int p3), .val (.int p4), .val (.int p5), .val (.int ng), .val (.int 0), .val (.int 1), .val (.int bk), .val (.int bo), .val (.int ak), .val (.int aoo), .val (.int mkk), .val (.int moo), .val (.ref b1), .val (.ref b6), .val (.ref b9), .val (.ref b12), .val (.ref b20), .val (.int 0)] [(.ref b20)])) (fun _ k => XS.ifNo X20.here hx rfl (hb hby at_222) rfl ((if0 _ _).trans (feq hc222).1) (XS.iload X20.here hx rfl (hb hby at_225) rfl (XS.ifYes X20.here hx rfl (pc0 := 227) (pc' := 234) rfl (hb hby at_227) rfl ((if0 _ _).trans (flt (fun z => hpv ⟨hsg.elim (fun u => u.2) (fun u => absurd u.1 hc222), z⟩)).2.1) (by decide) (by decide) (XS.iconst X20.here hx rfl (hb hby at_234) (XS.istore X20.here hx rfl (hb hby at_235) rfl (l' := #[.val (.int p0), .val (.int p1), .val (.int p2), .val (.int p3), .val (.int p4), .val (.int p5), .val (.int ng), .val (.int 0), .val (.int 1), .val (.int bk), .val (.int bo), .val (.int ak), .val (.int aoo), .val (.int mkk), .val (.int moo), .val (.ref b1), .val (.ref b6), .val (.ref b9), .val (.ref b12), .val (.ref b20), .val (.int 0)]) rfl (XS.aload X20.here hx rfl (hb hby at_237) rfl rfl k)))))) ?_
        obtain ⟨cl24, Ar24, -, Sz24, Nn24, -, -⟩ := id V_b20
        refine own_go (x' := T20.setTop (mkF m 240 #[.val (.int p0), .val (.int p1), .val (.int p2), .val (.int p3), .val (.int p4), .val (.int p5), .val (.int ng), .val (.int 0), .val (.int 1), .val (.int bk), .val (.int bo), .val (.int ak), .val (.int aoo), .val (.int mkk), .val (.int moo), .val (.ref b1), .val (.ref b6), .val (.ref b9), .val (.ref b12), .val (.ref b20), .val (.int 0)] [(.int 2)])) (fun t k => X20.arraylength hx (Eq.trans (congrArg (fun h_ => h_[_]?) rfl) Ar24.1) (State.isArrayOf_alike hZ.alike Ar24.2.1) (g := (mkF m 239 #[.val (.int p0), .val (.int p1), .val (.int p2), .val (.int p3), .val (.int p4), .val (.int p5), .val (.int ng), .val (.int 0), .val (.int 1), .val (.int bk), .val (.int bo), .val (.int ak), .val (.int aoo), .val (.int mkk), .val (.int moo), .val (.ref b1), .val (.ref b6), .val (.ref b9), .val (.ref b12), .val (.ref b20), .val (.int 0)] [(.ref b20)])) rfl rfl (hb hby at_239) t (by rw [len_of Sz24 Nn24]; exact k)) ?_
        refine own_go (x' := T20.setTop (mkF m 248 #[.val (.int p0), .val (.int p1), .val (.int p2), .val (.int p3), .val (.int p4), .val (.int p5), .val (.int ng), .val (.int 0), .val (.int 1), .val (.int bk), .val (.int bo), .val (.int ak), .val (.int aoo), .val (.int mkk), .val (.int moo), .val (.ref b1), .val (.ref b6), .val (.ref b9), .val (.ref b12), .val (.ref b20), .val (.int 0)] [(.int 0), (.ref b20)])) (fun _ k => XS.iconst X20.here hx rfl (hb hby at_240) (XS.icmpNo X20.here hx rfl (hb hby at_241) rfl (teq rfl).2 (XS.aload X20.here hx rfl (hb hby at_244) rfl rfl (XS.iload X20.here hx rfl (hb hby at_246) rfl k)))) ?_
        obtain ⟨cl25, Ar25, q25, Sz25, Nn25, Hh25, Gg25⟩ := id V_b20
        have hin25 : ¬ ((0 : Int32) < 0 ∨ cl25.slots.size ≤ ((0 : Int32)).toNatClampNeg) := inb_of Sz25 ⟨by decide, by decide⟩
        refine own_go (x' := T20.setTop (mkF m 249 #[.val (.int p0), .val (.int p1), .val (.int p2), .val (.int p3), .val (.int p4), .val (.int p5), .val (.int ng), .val (.int 0), .val (.int 1), .val (.int bk), .val (.int bo), .val (.int ak), .val (.int aoo), .val (.int mkk), .val (.int moo), .val (.ref b1), .val (.ref b6), .val (.ref b9), .val (.ref b12), .val (.ref b20), .val (.int 0)] [(.int 0)])) (X20.baloadBooleans hx (j := (0 : Int32)) (v := (.int 0)) (Eq.trans (congrArg (fun h_ => h_[_]?) rfl) Ar25.1) (State.isArrayOf_alike hZ.alike Ar25.2.1) Ar25.2.2 hin25 (Hh25.at hin25 rfl) (g := (mkF m 248 #[.val (.int p0), .val (.int p1), .val (.int p2), .val (.int p3), .val (.int p4), .val (.int p5), .val (.int ng), .val (.int 0), .val (.int 1), .val (.int bk), .val (.int bo), .val (.int ak), .val (.int aoo), .val (.int mkk), .val (.int moo), .val (.ref b1), .val (.ref b6), .val (.ref b9), .val (.ref b12), .val (.ref b20), .val (.int 0)] [(.int 0), (.ref b20)])) rfl rfl (hb hby at_248)) ?_
        refine own_go (x' := T20.setTop (mkF m 258 #[.val (.int p0), .val (.int p1), .val (.int p2), .val (.int p3), .val (.int p4), .val (.int p5), .val (.int ng), .val (.int 0), .val (.int 1), .val (.int bk), .val (.int bo), .val (.int ak), .val (.int aoo), .val (.int mkk), .val (.int moo), .val (.ref b1), .val (.ref b6), .val (.ref b9), .val (.ref b12), .val (.ref b20), .val (.int 0)] [(.int 1), (.ref b20)])) (fun _ k => XS.iload X20.here hx rfl (hb hby at_249) rfl (XS.icmpNo X20.here hx rfl (hb hby at_251) rfl (teq rfl).2 (XS.aload X20.here hx rfl (hb hby at_254) rfl rfl (XS.iload X20.here hx rfl (hb hby at_256) rfl k)))) ?_
        obtain ⟨cl26, Ar26, q26, Sz26, Nn26, Hh26, Gg26⟩ := id V_b20
        have hin26 : ¬ ((1 : Int32) < 0 ∨ cl26.slots.size ≤ ((1 : Int32)).toNatClampNeg) := inb_of Sz26 ⟨by decide, by decide⟩
        refine own_go (x' := T20.setTop (mkF m 259 #[.val (.int p0), .val (.int p1), .val (.int p2), .val (.int p3), .val (.int p4), .val (.int p5), .val (.int ng), .val (.int 0), .val (.int 1), .val (.int bk), .val (.int bo), .val (.int ak), .val (.int aoo), .val (.int mkk), .val (.int moo), .val (.ref b1), .val (.ref b6), .val (.ref b9), .val (.ref b12), .val (.ref b20), .val (.int 0)] [(.int 0)])) (X20.baloadBooleans hx (j := (1 : Int32)) (v := (.int 0)) (Eq.trans (congrArg (fun h_ => h_[_]?) rfl) Ar26.1) (State.isArrayOf_alike hZ.alike Ar26.2.1) Ar26.2.2 hin26 (Hh26.at hin26 rfl) (g := (mkF m 258 #[.val (.int p0), .val (.int p1), .val (.int p2), .val (.int p3), .val (.int p4), .val (.int p5), .val (.int ng), .val (.int 0), .val (.int 1), .val (.int bk), .val (.int bo), .val (.int ak), .val (.int aoo), .val (.int mkk), .val (.int moo), .val (.ref b1), .val (.ref b6), .val (.ref b9), .val (.ref b12), .val (.ref b20), .val (.int 0)] [(.int 1), (.ref b20)])) rfl rfl (hb hby at_258)) ?_
        refine own_go (x' := T20.setTop (mkF m 267 #[.val (.int p0), .val (.int p1), .val (.int p2), .val (.int p3), .val (.int p4), .val (.int p5), .val (.int ng), .val (.int 0), .val (.int 1), .val (.int bk), .val (.int bo), .val (.int ak), .val (.int aoo), .val (.int mkk), .val (.int moo), .val (.ref b1), .val (.ref b6), .val (.ref b9), .val (.ref b12), .val (.ref b20), .val (.int 0)] [(.int 1)])) (fun _ k => XS.ifNo X20.here hx rfl (hb hby at_259) rfl ((if0 _ _).trans (teq rfl).2) (XS.iconst X20.here hx rfl (hb hby at_262) (XS.goto X20.here hx rfl (pc0 := 263) (pc' := 267) rfl (hb hby at_263) (by decide) (by decide) k))) ?_
        refine own_retN X20 hx hlk (t := .boolean) hret (by simp) (hb hby at_267) (w := (1 : Int32)) rfl ?_ (by decide) (by decide)
        exact ⟨rfl, Nf⟩
  · refine own_go (x' := s₁.setTop (mkF m 90 #[.val (.int p0), .val (.int p1), .val (.int p2), .val (.int p3), .val (.int p4), .val (.int p5), .val (.int ng), .val (.int 1), .val (.int 0), .val (.int bk), .val (.int bo), .val (.int ak), .val (.int aoo), .val (.int mkk), .val (.int moo), .unset, .unset, .unset, .unset, .unset, .unset] [(.int 4)])) (fun _ k => XS.iconst X0.here hx rfl (hb hby at_89) k) ?_
    obtain ⟨T27, h27, k27, X27, e27, E27, A27, Q27, st27⟩ := newPE X0 hx hZ (own_w hw 0 rfl) e0 (g := (mkF m 90 #[.val (.int p0), .val (.int p1), .val (.int p2), .val (.int p3), .val (.int p4), .val (.int p5), .val (.int ng), .val (.int 1), .val (.int 0), .val (.int bk), .val (.int bo), .val (.int ak), .val (.int aoo), .val (.int mkk), .val (.int moo), .unset, .unset, .unset, .unset, .unset, .unset] [(.int 4)])) rfl (hb hby at_90) rfl (by decide) (cap := 4) (by decide) (by decide) (by decide) (by decide) (ad := "[D") (by decide)
    obtain ⟨b27, g27⟩ : ∃ z, z = h0.size := ⟨_, rfl⟩
    rw [← g27] at A27 st27
    rw [← g27] at Q27
    have g_b27 : n0 ≤ b27 := Nat.le_trans Zs (Nat.le_of_eq g27.symm)
    replace Zs := Nat.le_trans Zs E27.1
    have E_b27 := Q27
    have V_b27 : Arv Z h27 b27 k27 .double (4 : Int32) [(.double 0), (.double 0), (.double 0), (.double 0)] (.double 0) := (Arv.new A27 (by decide)).pad (pad_rep [] (.double 0) 4)
    refine own_go (x' := T27.setTop (mkF m 92 #[.val (.int p0), .val (.int p1), .val (.int p2), .val (.int p3), .val (.int p4), .val (.int p5), .val (.int ng), .val (.int 1), .val (.int 0), .val (.int bk), .val (.int bo), .val (.int ak), .val (.int aoo), .val (.int mkk), .val (.int moo), .unset, .unset, .unset, .unset, .unset, .unset] [(.ref b27)])) st27 ?_
    refine own_go (x' := T27.setTop (mkF m 100 #[.val (.int p0), .val (.int p1), .val (.int p2), .val (.int p3), .val (.int p4), .val (.int p5), .val (.int ng), .val (.int 1), .val (.int 0), .val (.int bk), .val (.int bo), .val (.int ak), .val (.int aoo), .val (.int mkk), .val (.int moo), .val (.ref b27), .unset, .unset, .unset, .unset, .unset] [(.int ((2 : Int32) * (1 : Int32))), (.ref b27)])) (fun _ k => XS.astore X27.here hx rfl (hb hby at_92) rfl rfl (l' := #[.val (.int p0), .val (.int p1), .val (.int p2), .val (.int p3), .val (.int p4), .val (.int p5), .val (.int ng), .val (.int 1), .val (.int 0), .val (.int bk), .val (.int bo), .val (.int ak), .val (.int aoo), .val (.int mkk), .val (.int moo), .val (.ref b27), .unset, .unset, .unset, .unset, .unset]) rfl (XS.aload X27.here hx rfl (hb hby at_94) rfl rfl (XS.iconst X27.here hx rfl (hb hby at_96) (XS.iload X27.here hx rfl (hb hby at_97) rfl (XS.imul X27.here hx rfl (hb hby at_99) rfl k))))) ?_
    rw [show ((2 : Int32) * (1 : Int32)) = (2 : Int32) from by decide +kernel]
    refine own_go (x' := T27.setTop (mkF m 103 #[.val (.int p0), .val (.int p1), .val (.int p2), .val (.int p3), .val (.int p4), .val (.int p5), .val (.int ng), .val (.int 1), .val (.int 0), .val (.int bk), .val (.int bo), .val (.int ak), .val (.int aoo), .val (.int mkk), .val (.int moo), .val (.ref b27), .unset, .unset, .unset, .unset, .unset] [(.double (FP.i2d ak)), (.int 2), (.ref b27)])) (fun _ k => XS.iload X27.here hx rfl (hb hby at_100) rfl (XS.i2dS X27.here hx rfl (hb hby at_102) rfl rfl k)) ?_
    obtain ⟨cl28, Ar28, q28, Sz28, Nn28, Hh28, Gg28⟩ := V_b27
    have hin28 : ¬ ((2 : Int32) < 0 ∨ cl28.slots.size ≤ ((2 : Int32)).toNatClampNeg) := inb_of Sz28 ⟨by decide, by decide⟩
    obtain ⟨T28, h28, X28, e28, W28, st28⟩ := stD X27 hx hZ e27 Ar28 (j := (2 : Int32)) hin28 (g := (mkF m 103 #[.val (.int p0), .val (.int p1), .val (.int p2), .val (.int p3), .val (.int p4), .val (.int p5), .val (.int ng), .val (.int 1), .val (.int 0), .val (.int bk), .val (.int bo), .val (.int ak), .val (.int aoo), .val (.int mkk), .val (.int moo), .val (.ref b27), .unset, .unset, .unset, .unset, .unset] [(.double (FP.i2d ak)), (.int 2), (.ref b27)])) rfl rfl (hb hby at_103)
    refine own_go (x' := T28.setTop (mkF m 104 #[.val (.int p0), .val (.int p1), .val (.int p2), .val (.int p3), .val (.int p4), .val (.int p5), .val (.int ng), .val (.int 1), .val (.int 0), .val (.int bk), .val (.int bo), .val (.int ak), .val (.int aoo), .val (.int mkk), .val (.int moo), .val (.ref b27), .unset, .unset, .unset, .unset, .unset] [])) st28 ?_
    replace E_b27 := Exa.wr W28 E_b27
    replace Zs := Nat.le_trans Zs (Keep.of_wr W28).1
    replace Nf := Fr.snoc X28 Nf g_b27
    have V_b27 : Arv Z h28 b27 k27 .double (4 : Int32) [(.double 0), (.double 0), (.double (FP.i2d ak)), (.double 0)] (.double 0) := Arv.set Ar28 q28 Sz28 Nn28 Hh28 Gg28 rfl W28 2 rfl (Nat.le_of_ble_eq_true rfl)
    refine own_go (x' := T28.setTop (mkF m 112 #[.val (.int p0), .val (.int p1), .val (.int p2), .val (.int p3), .val (.int p4), .val (.int p5), .val (.int ng), .val (.int 1), .val (.int 0), .val (.int bk), .val (.int bo), .val (.int ak), .val (.int aoo), .val (.int mkk), .val (.int moo), .val (.ref b27), .unset, .unset, .unset, .unset, .unset] [(.int (((2 : Int32) * (1 : Int32)) + (1 : Int32))), (.ref b27)])) (fun _ k => XS.aload X28.here hx rfl (hb hby at_104) rfl rfl (XS.iconst X28.here hx rfl (hb hby at_106) (XS.iload X28.here hx rfl (hb hby at_107) rfl (XS.imul X28.here hx rfl (hb hby at_109) rfl (XS.iconst X28.here hx rfl (hb hby at_110) (XS.iadd X28.here hx rfl (hb hby at_111) rfl k)))))) ?_
    rw [show (((2 : Int32) * (1 : Int32)) + (1 : Int32)) = (3 : Int32) from by decide +kernel]
    refine own_go (x' := T28.setTop (mkF m 115 #[.val (.int p0), .val (.int p1), .val (.int p2), .val (.int p3), .val (.int p4), .val (.int p5), .val (.int ng), .val (.int 1), .val (.int 0), .val (.int bk), .val (.int bo), .val (.int ak), .val (.int aoo), .val (.int mkk), .val (.int moo), .val (.ref b27), .unset, .unset, .unset, .unset, .unset] [(.double (FP.i2d mkk)), (.int 3), (.ref b27)])) (fun _ k => XS.iload X28.here hx rfl (hb hby at_112) rfl (XS.i2dS X28.here hx rfl (hb hby at_114) rfl rfl k)) ?_
    obtain ⟨cl29, Ar29, q29, Sz29, Nn29, Hh29, Gg29⟩ := V_b27
    have hin29 : ¬ ((3 : Int32) < 0 ∨ cl29.slots.size ≤ ((3 : Int32)).toNatClampNeg) := inb_of Sz29 ⟨by decide, by decide⟩
    obtain ⟨T29, h29, X29, e29, W29, st29⟩ := stD X28 hx hZ e28 Ar29 (j := (3 : Int32)) hin29 (g := (mkF m 115 #[.val (.int p0), .val (.int p1), .val (.int p2), .val (.int p3), .val (.int p4), .val (.int p5), .val (.int ng), .val (.int 1), .val (.int 0), .val (.int bk), .val (.int bo), .val (.int ak), .val (.int aoo), .val (.int mkk), .val (.int moo), .val (.ref b27), .unset, .unset, .unset, .unset, .unset] [(.double (FP.i2d mkk)), (.int 3), (.ref b27)])) rfl rfl (hb hby at_115)
    refine own_go (x' := T29.setTop (mkF m 116 #[.val (.int p0), .val (.int p1), .val (.int p2), .val (.int p3), .val (.int p4), .val (.int p5), .val (.int ng), .val (.int 1), .val (.int 0), .val (.int bk), .val (.int bo), .val (.int ak), .val (.int aoo), .val (.int mkk), .val (.int moo), .val (.ref b27), .unset, .unset, .unset, .unset, .unset] [])) st29 ?_
    replace E_b27 := Exa.wr W29 E_b27
    replace Zs := Nat.le_trans Zs (Keep.of_wr W29).1
    replace Nf := Fr.snoc X29 Nf g_b27
    have V_b27 : Arv Z h29 b27 k27 .double (4 : Int32) [(.double 0), (.double 0), (.double (FP.i2d ak)), (.double (FP.i2d mkk))] (.double 0) := Arv.set Ar29 q29 Sz29 Nn29 Hh29 Gg29 rfl W29 3 rfl (Nat.le_of_ble_eq_true rfl)
    refine own_go (x' := T29.setTop (mkF m 122 #[.val (.int p0), .val (.int p1), .val (.int p2), .val (.int p3), .val (.int p4), .val (.int p5), .val (.int ng), .val (.int 1), .val (.int 0), .val (.int bk), .val (.int bo), .val (.int ak), .val (.int aoo), .val (.int mkk), .val (.int moo), .val (.ref b27), .unset, .unset, .unset, .unset, .unset] [(.int ((2 : Int32) * (0 : Int32))), (.ref b27)])) (fun _ k => XS.aload X29.here hx rfl (hb hby at_116) rfl rfl (XS.iconst X29.here hx rfl (hb hby at_118) (XS.iload X29.here hx rfl (hb hby at_119) rfl (XS.imul X29.here hx rfl (hb hby at_121) rfl k)))) ?_
    rw [show ((2 : Int32) * (0 : Int32)) = (0 : Int32) from by decide +kernel]
    refine own_go (x' := T29.setTop (mkF m 125 #[.val (.int p0), .val (.int p1), .val (.int p2), .val (.int p3), .val (.int p4), .val (.int p5), .val (.int ng), .val (.int 1), .val (.int 0), .val (.int bk), .val (.int bo), .val (.int ak), .val (.int aoo), .val (.int mkk), .val (.int moo), .val (.ref b27), .unset, .unset, .unset, .unset, .unset] [(.double (FP.i2d aoo)), (.int 0), (.ref b27)])) (fun _ k => XS.iload X29.here hx rfl (hb hby at_122) rfl (XS.i2dS X29.here hx rfl (hb hby at_124) rfl rfl k)) ?_
    obtain ⟨cl30, Ar30, q30, Sz30, Nn30, Hh30, Gg30⟩ := V_b27
    have hin30 : ¬ ((0 : Int32) < 0 ∨ cl30.slots.size ≤ ((0 : Int32)).toNatClampNeg) := inb_of Sz30 ⟨by decide, by decide⟩
    obtain ⟨T30, h30, X30, e30, W30, st30⟩ := stD X29 hx hZ e29 Ar30 (j := (0 : Int32)) hin30 (g := (mkF m 125 #[.val (.int p0), .val (.int p1), .val (.int p2), .val (.int p3), .val (.int p4), .val (.int p5), .val (.int ng), .val (.int 1), .val (.int 0), .val (.int bk), .val (.int bo), .val (.int ak), .val (.int aoo), .val (.int mkk), .val (.int moo), .val (.ref b27), .unset, .unset, .unset, .unset, .unset] [(.double (FP.i2d aoo)), (.int 0), (.ref b27)])) rfl rfl (hb hby at_125)
    refine own_go (x' := T30.setTop (mkF m 126 #[.val (.int p0), .val (.int p1), .val (.int p2), .val (.int p3), .val (.int p4), .val (.int p5), .val (.int ng), .val (.int 1), .val (.int 0), .val (.int bk), .val (.int bo), .val (.int ak), .val (.int aoo), .val (.int mkk), .val (.int moo), .val (.ref b27), .unset, .unset, .unset, .unset, .unset] [])) st30 ?_
    replace E_b27 := Exa.wr W30 E_b27
    replace Zs := Nat.le_trans Zs (Keep.of_wr W30).1
    replace Nf := Fr.snoc X30 Nf g_b27
    have V_b27 : Arv Z h30 b27 k27 .double (4 : Int32) [(.double (FP.i2d aoo)), (.double 0), (.double (FP.i2d ak)), (.double (FP.i2d mkk))] (.double 0) := Arv.set Ar30 q30 Sz30 Nn30 Hh30 Gg30 rfl W30 0 rfl (Nat.le_of_ble_eq_true rfl)
    refine own_go (x' := T30.setTop (mkF m 134 #[.val (.int p0), .val (.int p1), .val (.int p2), .val (.int p3), .val (.int p4), .val (.int p5), .val (.int ng), .val (.int 1), .val (.int 0), .val (.int bk), .val (.int bo), .val (.int ak), .val (.int aoo), .val (.int mkk), .val (.int moo), .val (.ref b27), .unset, .unset, .unset, .unset, .unset] [(.int (((2 : Int32) * (0 : Int32)) + (1 : Int32))), (.ref b27)])) (fun _ k => XS.aload X30.here hx rfl (hb hby at_126) rfl rfl (XS.iconst X30.here hx rfl (hb hby at_128) (XS.iload X30.here hx rfl (hb hby at_129) rfl (XS.imul X30.here hx rfl (hb hby at_131) rfl (XS.iconst X30.here hx rfl (hb hby at_132) (XS.iadd X30.here hx rfl (hb hby at_133) rfl k)))))) ?_
    rw [show (((2 : Int32) * (0 : Int32)) + (1 : Int32)) = (1 : Int32) from by decide +kernel]
    refine own_go (x' := T30.setTop (mkF m 137 #[.val (.int p0), .val (.int p1), .val (.int p2), .val (.int p3), .val (.int p4), .val (.int p5), .val (.int ng), .val (.int 1), .val (.int 0), .val (.int bk), .val (.int bo), .val (.int ak), .val (.int aoo), .val (.int mkk), .val (.int moo), .val (.ref b27), .unset, .unset, .unset, .unset, .unset] [(.double (FP.i2d moo)), (.int 1), (.ref b27)])) (fun _ k => XS.iload X30.here hx rfl (hb hby at_134) rfl (XS.i2dS X30.here hx rfl (hb hby at_136) rfl rfl k)) ?_
    obtain ⟨cl31, Ar31, q31, Sz31, Nn31, Hh31, Gg31⟩ := V_b27
    have hin31 : ¬ ((1 : Int32) < 0 ∨ cl31.slots.size ≤ ((1 : Int32)).toNatClampNeg) := inb_of Sz31 ⟨by decide, by decide⟩
    obtain ⟨T31, h31, X31, e31, W31, st31⟩ := stD X30 hx hZ e30 Ar31 (j := (1 : Int32)) hin31 (g := (mkF m 137 #[.val (.int p0), .val (.int p1), .val (.int p2), .val (.int p3), .val (.int p4), .val (.int p5), .val (.int ng), .val (.int 1), .val (.int 0), .val (.int bk), .val (.int bo), .val (.int ak), .val (.int aoo), .val (.int mkk), .val (.int moo), .val (.ref b27), .unset, .unset, .unset, .unset, .unset] [(.double (FP.i2d moo)), (.int 1), (.ref b27)])) rfl rfl (hb hby at_137)
    refine own_go (x' := T31.setTop (mkF m 138 #[.val (.int p0), .val (.int p1), .val (.int p2), .val (.int p3), .val (.int p4), .val (.int p5), .val (.int ng), .val (.int 1), .val (.int 0), .val (.int bk), .val (.int bo), .val (.int ak), .val (.int aoo), .val (.int mkk), .val (.int moo), .val (.ref b27), .unset, .unset, .unset, .unset, .unset] [])) st31 ?_
    replace E_b27 := Exa.wr W31 E_b27
    replace Zs := Nat.le_trans Zs (Keep.of_wr W31).1
    replace Nf := Fr.snoc X31 Nf g_b27
    have V_b27 : Arv Z h31 b27 k27 .double (4 : Int32) [(.double (FP.i2d aoo)), (.double (FP.i2d moo)), (.double (FP.i2d ak)), (.double (FP.i2d mkk))] (.double 0) := Arv.set Ar31 q31 Sz31 Nn31 Hh31 Gg31 rfl W31 1 rfl (Nat.le_of_ble_eq_true rfl)
    refine own_go (x' := T31.setTop (mkF m 139 #[.val (.int p0), .val (.int p1), .val (.int p2), .val (.int p3), .val (.int p4), .val (.int p5), .val (.int ng), .val (.int 1), .val (.int 0), .val (.int bk), .val (.int bo), .val (.int ak), .val (.int aoo), .val (.int mkk), .val (.int moo), .val (.ref b27), .unset, .unset, .unset, .unset, .unset] [(.int 2)])) (fun _ k => XS.iconst X31.here hx rfl (hb hby at_138) k) ?_
    obtain ⟨T32, h32, k32, X32, e32, E32, A32, Q32, st32⟩ := newPE X31 hx hZ (own_w hw 0 rfl) e31 (g := (mkF m 139 #[.val (.int p0), .val (.int p1), .val (.int p2), .val (.int p3), .val (.int p4), .val (.int p5), .val (.int ng), .val (.int 1), .val (.int 0), .val (.int bk), .val (.int bo), .val (.int ak), .val (.int aoo), .val (.int mkk), .val (.int moo), .val (.ref b27), .unset, .unset, .unset, .unset, .unset] [(.int 2)])) rfl (hb hby at_139) rfl (by decide) (cap := 2) (by decide) (by decide) (by decide) (by decide) (ad := "[D") (by decide)
    obtain ⟨b32, g32⟩ : ∃ z, z = h31.size := ⟨_, rfl⟩
    rw [← g32] at A32 st32
    rw [← g32] at Q32
    have ne_b27_b32 : b27 ≠ b32 := Nat.ne_of_lt (Nat.lt_of_lt_of_le E_b27.lt (Nat.le_of_eq g32.symm))
    have g_b32 : n0 ≤ b32 := Nat.le_trans Zs (Nat.le_of_eq g32.symm)
    replace E_b27 := Exa.ext E32 E_b27
    replace V_b27 := V_b27.ext E32
    replace Zs := Nat.le_trans Zs E32.1
    have E_b32 := Q32
    have V_b32 : Arv Z h32 b32 k32 .double (2 : Int32) [(.double 0), (.double 0)] (.double 0) := (Arv.new A32 (by decide)).pad (pad_rep [] (.double 0) 2)
    refine own_go (x' := T32.setTop (mkF m 141 #[.val (.int p0), .val (.int p1), .val (.int p2), .val (.int p3), .val (.int p4), .val (.int p5), .val (.int ng), .val (.int 1), .val (.int 0), .val (.int bk), .val (.int bo), .val (.int ak), .val (.int aoo), .val (.int mkk), .val (.int moo), .val (.ref b27), .unset, .unset, .unset, .unset, .unset] [(.ref b32)])) st32 ?_
    refine own_go (x' := T32.setTop (mkF m 150 #[.val (.int p0), .val (.int p1), .val (.int p2), .val (.int p3), .val (.int p4), .val (.int p5), .val (.int ng), .val (.int 1), .val (.int 0), .val (.int bk), .val (.int bo), .val (.int ak), .val (.int aoo), .val (.int mkk), .val (.int moo), .val (.ref b27), .val (.ref b32), .unset, .unset, .unset, .unset] [(.double (FP.i2d bk)), (.int 1), (.ref b32)])) (fun _ k => XS.astore X32.here hx rfl (hb hby at_141) rfl rfl (l' := #[.val (.int p0), .val (.int p1), .val (.int p2), .val (.int p3), .val (.int p4), .val (.int p5), .val (.int ng), .val (.int 1), .val (.int 0), .val (.int bk), .val (.int bo), .val (.int ak), .val (.int aoo), .val (.int mkk), .val (.int moo), .val (.ref b27), .val (.ref b32), .unset, .unset, .unset, .unset]) rfl (XS.aload X32.here hx rfl (hb hby at_143) rfl rfl (XS.iload X32.here hx rfl (hb hby at_145) rfl (XS.iload X32.here hx rfl (hb hby at_147) rfl (XS.i2dS X32.here hx rfl (hb hby at_149) rfl rfl k))))) ?_
    obtain ⟨cl33, Ar33, q33, Sz33, Nn33, Hh33, Gg33⟩ := V_b32
    have hin33 : ¬ ((1 : Int32) < 0 ∨ cl33.slots.size ≤ ((1 : Int32)).toNatClampNeg) := inb_of Sz33 ⟨by decide, by decide⟩
    obtain ⟨T33, h33, X33, e33, W33, st33⟩ := stD X32 hx hZ e32 Ar33 (j := (1 : Int32)) hin33 (g := (mkF m 150 #[.val (.int p0), .val (.int p1), .val (.int p2), .val (.int p3), .val (.int p4), .val (.int p5), .val (.int ng), .val (.int 1), .val (.int 0), .val (.int bk), .val (.int bo), .val (.int ak), .val (.int aoo), .val (.int mkk), .val (.int moo), .val (.ref b27), .val (.ref b32), .unset, .unset, .unset, .unset] [(.double (FP.i2d bk)), (.int 1), (.ref b32)])) rfl rfl (hb hby at_150)
    refine own_go (x' := T33.setTop (mkF m 151 #[.val (.int p0), .val (.int p1), .val (.int p2), .val (.int p3), .val (.int p4), .val (.int p5), .val (.int ng), .val (.int 1), .val (.int 0), .val (.int bk), .val (.int bo), .val (.int ak), .val (.int aoo), .val (.int mkk), .val (.int moo), .val (.ref b27), .val (.ref b32), .unset, .unset, .unset, .unset] [])) st33 ?_
    replace E_b27 := Exa.wr W33 E_b27
    replace V_b27 := V_b27.other W33 ne_b27_b32
    replace E_b32 := Exa.wr W33 E_b32
    replace Zs := Nat.le_trans Zs (Keep.of_wr W33).1
    replace Nf := Fr.snoc X33 Nf g_b32
    have V_b32 : Arv Z h33 b32 k32 .double (2 : Int32) [(.double 0), (.double (FP.i2d bk))] (.double 0) := Arv.set Ar33 q33 Sz33 Nn33 Hh33 Gg33 rfl W33 1 rfl (Nat.le_of_ble_eq_true rfl)
    refine own_go (x' := T33.setTop (mkF m 158 #[.val (.int p0), .val (.int p1), .val (.int p2), .val (.int p3), .val (.int p4), .val (.int p5), .val (.int ng), .val (.int 1), .val (.int 0), .val (.int bk), .val (.int bo), .val (.int ak), .val (.int aoo), .val (.int mkk), .val (.int moo), .val (.ref b27), .val (.ref b32), .unset, .unset, .unset, .unset] [(.double (FP.i2d bo)), (.int 0), (.ref b32)])) (fun _ k => XS.aload X33.here hx rfl (hb hby at_151) rfl rfl (XS.iload X33.here hx rfl (hb hby at_153) rfl (XS.iload X33.here hx rfl (hb hby at_155) rfl (XS.i2dS X33.here hx rfl (hb hby at_157) rfl rfl k)))) ?_
    obtain ⟨cl34, Ar34, q34, Sz34, Nn34, Hh34, Gg34⟩ := V_b32
    have hin34 : ¬ ((0 : Int32) < 0 ∨ cl34.slots.size ≤ ((0 : Int32)).toNatClampNeg) := inb_of Sz34 ⟨by decide, by decide⟩
    obtain ⟨T34, h34, X34, e34, W34, st34⟩ := stD X33 hx hZ e33 Ar34 (j := (0 : Int32)) hin34 (g := (mkF m 158 #[.val (.int p0), .val (.int p1), .val (.int p2), .val (.int p3), .val (.int p4), .val (.int p5), .val (.int ng), .val (.int 1), .val (.int 0), .val (.int bk), .val (.int bo), .val (.int ak), .val (.int aoo), .val (.int mkk), .val (.int moo), .val (.ref b27), .val (.ref b32), .unset, .unset, .unset, .unset] [(.double (FP.i2d bo)), (.int 0), (.ref b32)])) rfl rfl (hb hby at_158)
    refine own_go (x' := T34.setTop (mkF m 159 #[.val (.int p0), .val (.int p1), .val (.int p2), .val (.int p3), .val (.int p4), .val (.int p5), .val (.int ng), .val (.int 1), .val (.int 0), .val (.int bk), .val (.int bo), .val (.int ak), .val (.int aoo), .val (.int mkk), .val (.int moo), .val (.ref b27), .val (.ref b32), .unset, .unset, .unset, .unset] [])) st34 ?_
    replace E_b27 := Exa.wr W34 E_b27
    replace V_b27 := V_b27.other W34 ne_b27_b32
    replace E_b32 := Exa.wr W34 E_b32
    replace Zs := Nat.le_trans Zs (Keep.of_wr W34).1
    replace Nf := Fr.snoc X34 Nf g_b32
    have V_b32 : Arv Z h34 b32 k32 .double (2 : Int32) [(.double (FP.i2d bo)), (.double (FP.i2d bk))] (.double 0) := Arv.set Ar34 q34 Sz34 Nn34 Hh34 Gg34 rfl W34 0 rfl (Nat.le_of_ble_eq_true rfl)
    refine own_go (x' := T34.setTop (mkF m 160 #[.val (.int p0), .val (.int p1), .val (.int p2), .val (.int p3), .val (.int p4), .val (.int p5), .val (.int ng), .val (.int 1), .val (.int 0), .val (.int bk), .val (.int bo), .val (.int ak), .val (.int aoo), .val (.int mkk), .val (.int moo), .val (.ref b27), .val (.ref b32), .unset, .unset, .unset, .unset] [(.int 2)])) (fun _ k => XS.iconst X34.here hx rfl (hb hby at_159) k) ?_
    obtain ⟨T35, h35, k35, X35, e35, E35, A35, Q35, st35⟩ := newPE X34 hx hZ (own_w hw 0 rfl) e34 (g := (mkF m 160 #[.val (.int p0), .val (.int p1), .val (.int p2), .val (.int p3), .val (.int p4), .val (.int p5), .val (.int ng), .val (.int 1), .val (.int 0), .val (.int bk), .val (.int bo), .val (.int ak), .val (.int aoo), .val (.int mkk), .val (.int moo), .val (.ref b27), .val (.ref b32), .unset, .unset, .unset, .unset] [(.int 2)])) rfl (hb hby at_160) rfl (by decide) (cap := 2) (by decide) (by decide) (by decide) (by decide) (ad := "[D") (by decide)
    obtain ⟨b35, g35⟩ : ∃ z, z = h34.size := ⟨_, rfl⟩
    rw [← g35] at A35 st35
    rw [← g35] at Q35
    have ne_b27_b35 : b27 ≠ b35 := Nat.ne_of_lt (Nat.lt_of_lt_of_le E_b27.lt (Nat.le_of_eq g35.symm))
    have ne_b32_b35 : b32 ≠ b35 := Nat.ne_of_lt (Nat.lt_of_lt_of_le E_b32.lt (Nat.le_of_eq g35.symm))
    have g_b35 : n0 ≤ b35 := Nat.le_trans Zs (Nat.le_of_eq g35.symm)
    replace E_b27 := Exa.ext E35 E_b27
    replace V_b27 := V_b27.ext E35
    replace E_b32 := Exa.ext E35 E_b32
    replace V_b32 := V_b32.ext E35
    replace Zs := Nat.le_trans Zs E35.1
    have E_b35 := Q35
    have V_b35 : Arv Z h35 b35 k35 .double (2 : Int32) [(.double 0), (.double 0)] (.double 0) := (Arv.new A35 (by decide)).pad (pad_rep [] (.double 0) 2)
    refine own_go (x' := T35.setTop (mkF m 162 #[.val (.int p0), .val (.int p1), .val (.int p2), .val (.int p3), .val (.int p4), .val (.int p5), .val (.int ng), .val (.int 1), .val (.int 0), .val (.int bk), .val (.int bo), .val (.int ak), .val (.int aoo), .val (.int mkk), .val (.int moo), .val (.ref b27), .val (.ref b32), .unset, .unset, .unset, .unset] [(.ref b35)])) st35 ?_
    refine own_go (x' := T35.setTop (mkF m 172 #[.val (.int p0), .val (.int p1), .val (.int p2), .val (.int p3), .val (.int p4), .val (.int p5), .val (.int ng), .val (.int 1), .val (.int 0), .val (.int bk), .val (.int bo), .val (.int ak), .val (.int aoo), .val (.int mkk), .val (.int moo), .val (.ref b27), .val (.ref b32), .val (.ref b35), .unset, .unset, .unset] [(.int (p4 &&& (7 : Int32))), (.int 0), (.ref b35)])) (fun _ k => XS.astore X35.here hx rfl (hb hby at_162) rfl rfl (l' := #[.val (.int p0), .val (.int p1), .val (.int p2), .val (.int p3), .val (.int p4), .val (.int p5), .val (.int ng), .val (.int 1), .val (.int 0), .val (.int bk), .val (.int bo), .val (.int ak), .val (.int aoo), .val (.int mkk), .val (.int moo), .val (.ref b27), .val (.ref b32), .val (.ref b35), .unset, .unset, .unset]) rfl (XS.aload X35.here hx rfl (hb hby at_164) rfl rfl (XS.iconst X35.here hx rfl (hb hby at_166) (XS.iload X35.here hx rfl (hb hby at_167) rfl (XS.bipush X35.here hx rfl (hb hby at_169) (XS.iand X35.here hx rfl (hb hby at_171) rfl k)))))) ?_
    refine own_go (x' := T35.setTop (mkF m 173 #[.val (.int p0), .val (.int p1), .val (.int p2), .val (.int p3), .val (.int p4), .val (.int p5), .val (.int ng), .val (.int 1), .val (.int 0), .val (.int bk), .val (.int bo), .val (.int ak), .val (.int aoo), .val (.int mkk), .val (.int moo), .val (.ref b27), .val (.ref b32), .val (.ref b35), .unset, .unset, .unset] [(.double (FP.i2d (p4 &&& (7 : Int32)))), (.int 0), (.ref b35)])) (fun _ k => XS.i2dS X35.here hx rfl (hb hby at_172) rfl rfl k) ?_
    obtain ⟨cl36, Ar36, q36, Sz36, Nn36, Hh36, Gg36⟩ := V_b35
    have hin36 : ¬ ((0 : Int32) < 0 ∨ cl36.slots.size ≤ ((0 : Int32)).toNatClampNeg) := inb_of Sz36 ⟨by decide, by decide⟩
    obtain ⟨T36, h36, X36, e36, W36, st36⟩ := stD X35 hx hZ e35 Ar36 (j := (0 : Int32)) hin36 (g := (mkF m 173 #[.val (.int p0), .val (.int p1), .val (.int p2), .val (.int p3), .val (.int p4), .val (.int p5), .val (.int ng), .val (.int 1), .val (.int 0), .val (.int bk), .val (.int bo), .val (.int ak), .val (.int aoo), .val (.int mkk), .val (.int moo), .val (.ref b27), .val (.ref b32), .val (.ref b35), .unset, .unset, .unset] [(.double (FP.i2d (p4 &&& (7 : Int32)))), (.int 0), (.ref b35)])) rfl rfl (hb hby at_173)
    refine own_go (x' := T36.setTop (mkF m 174 #[.val (.int p0), .val (.int p1), .val (.int p2), .val (.int p3), .val (.int p4), .val (.int p5), .val (.int ng), .val (.int 1), .val (.int 0), .val (.int bk), .val (.int bo), .val (.int ak), .val (.int aoo), .val (.int mkk), .val (.int moo), .val (.ref b27), .val (.ref b32), .val (.ref b35), .unset, .unset, .unset] [])) st36 ?_
    replace E_b27 := Exa.wr W36 E_b27
    replace V_b27 := V_b27.other W36 ne_b27_b35
    replace E_b32 := Exa.wr W36 E_b32
    replace V_b32 := V_b32.other W36 ne_b32_b35
    replace E_b35 := Exa.wr W36 E_b35
    replace Zs := Nat.le_trans Zs (Keep.of_wr W36).1
    replace Nf := Fr.snoc X36 Nf g_b35
    have V_b35 : Arv Z h36 b35 k35 .double (2 : Int32) [(.double (FP.i2d (p4 &&& (7 : Int32)))), (.double 0)] (.double 0) := Arv.set Ar36 q36 Sz36 Nn36 Hh36 Gg36 rfl W36 0 rfl (Nat.le_of_ble_eq_true rfl)
    refine own_go (x' := T36.setTop (mkF m 183 #[.val (.int p0), .val (.int p1), .val (.int p2), .val (.int p3), .val (.int p4), .val (.int p5), .val (.int ng), .val (.int 1), .val (.int 0), .val (.int bk), .val (.int bo), .val (.int ak), .val (.int aoo), .val (.int mkk), .val (.int moo), .val (.ref b27), .val (.ref b32), .val (.ref b35), .unset, .unset, .unset] [(.int 7), (.int ((p4.toUInt32 >>> ((3 : Int32) &&& 31).toUInt32).toInt32)), (.int 1), (.ref b35)])) (fun _ k => XS.aload X36.here hx rfl (hb hby at_174) rfl rfl (XS.iconst X36.here hx rfl (hb hby at_176) (XS.iload X36.here hx rfl (hb hby at_177) rfl (XS.iconst X36.here hx rfl (hb hby at_179) (XS.iushr X36.here hx rfl (hb hby at_180) rfl (XS.bipush X36.here hx rfl (hb hby at_181) k)))))) ?_
    refine own_go (x' := T36.setTop (mkF m 185 #[.val (.int p0), .val (.int p1), .val (.int p2), .val (.int p3), .val (.int p4), .val (.int p5), .val (.int ng), .val (.int 1), .val (.int 0), .val (.int bk), .val (.int bo), .val (.int ak), .val (.int aoo), .val (.int mkk), .val (.int moo), .val (.ref b27), .val (.ref b32), .val (.ref b35), .unset, .unset, .unset] [(.double (FP.i2d (((p4.toUInt32 >>> ((3 : Int32) &&& 31).toUInt32).toInt32) &&& (7 : Int32)))), (.int 1), (.ref b35)])) (fun _ k => XS.iand X36.here hx rfl (hb hby at_183) rfl (XS.i2dS X36.here hx rfl (hb hby at_184) rfl rfl k)) ?_
    obtain ⟨cl37, Ar37, q37, Sz37, Nn37, Hh37, Gg37⟩ := V_b35
    have hin37 : ¬ ((1 : Int32) < 0 ∨ cl37.slots.size ≤ ((1 : Int32)).toNatClampNeg) := inb_of Sz37 ⟨by decide, by decide⟩
    obtain ⟨T37, h37, X37, e37, W37, st37⟩ := stD X36 hx hZ e36 Ar37 (j := (1 : Int32)) hin37 (g := (mkF m 185 #[.val (.int p0), .val (.int p1), .val (.int p2), .val (.int p3), .val (.int p4), .val (.int p5), .val (.int ng), .val (.int 1), .val (.int 0), .val (.int bk), .val (.int bo), .val (.int ak), .val (.int aoo), .val (.int mkk), .val (.int moo), .val (.ref b27), .val (.ref b32), .val (.ref b35), .unset, .unset, .unset] [(.double (FP.i2d (((p4.toUInt32 >>> ((3 : Int32) &&& 31).toUInt32).toInt32) &&& (7 : Int32)))), (.int 1), (.ref b35)])) rfl rfl (hb hby at_185)
    refine own_go (x' := T37.setTop (mkF m 186 #[.val (.int p0), .val (.int p1), .val (.int p2), .val (.int p3), .val (.int p4), .val (.int p5), .val (.int ng), .val (.int 1), .val (.int 0), .val (.int bk), .val (.int bo), .val (.int ak), .val (.int aoo), .val (.int mkk), .val (.int moo), .val (.ref b27), .val (.ref b32), .val (.ref b35), .unset, .unset, .unset] [])) st37 ?_
    replace E_b27 := Exa.wr W37 E_b27
    replace V_b27 := V_b27.other W37 ne_b27_b35
    replace E_b32 := Exa.wr W37 E_b32
    replace V_b32 := V_b32.other W37 ne_b32_b35
    replace E_b35 := Exa.wr W37 E_b35
    replace Zs := Nat.le_trans Zs (Keep.of_wr W37).1
    replace Nf := Fr.snoc X37 Nf g_b35
    have V_b35 : Arv Z h37 b35 k35 .double (2 : Int32) [(.double (FP.i2d (p4 &&& (7 : Int32)))), (.double (FP.i2d (((p4.toUInt32 >>> ((3 : Int32) &&& 31).toUInt32).toInt32) &&& (7 : Int32))))] (.double 0) := Arv.set Ar37 q37 Sz37 Nn37 Hh37 Gg37 rfl W37 1 rfl (Nat.le_of_ble_eq_true rfl)
    obtain ⟨T38, h38, X38, e38, E38, A38, D38, -, st38⟩ := newO X37 hx hZ hown (own_w hw 1 rfl) (own_w hw 2 rfl) (own_w hw 3 rfl) e37 (g := (mkF m 186 #[.val (.int p0), .val (.int p1), .val (.int p2), .val (.int p3), .val (.int p4), .val (.int p5), .val (.int ng), .val (.int 1), .val (.int 0), .val (.int bk), .val (.int bo), .val (.int ak), .val (.int aoo), .val (.int mkk), .val (.int moo), .val (.ref b27), .val (.ref b32), .val (.ref b35), .unset, .unset, .unset] [])) rfl (hb hby at_186) (by decide) (by decide)
    obtain ⟨b38, g38⟩ : ∃ z, z = h37.size := ⟨_, rfl⟩
    rw [← g38] at A38 D38 st38
    have ne_b27_b38 : b27 ≠ b38 := Nat.ne_of_lt (Nat.lt_of_lt_of_le E_b27.lt (Nat.le_of_eq g38.symm))
    have ne_b32_b38 : b32 ≠ b38 := Nat.ne_of_lt (Nat.lt_of_lt_of_le E_b32.lt (Nat.le_of_eq g38.symm))
    have ne_b35_b38 : b35 ≠ b38 := Nat.ne_of_lt (Nat.lt_of_lt_of_le E_b35.lt (Nat.le_of_eq g38.symm))
    have g_b38 : n0 ≤ b38 := Nat.le_trans Zs (Nat.le_of_eq g38.symm)
    replace E_b27 := Exa.ext E38 E_b27
    replace V_b27 := V_b27.ext E38
    replace E_b32 := Exa.ext E38 E_b32
    replace V_b32 := V_b32.ext E38
    replace E_b35 := Exa.ext E38 E_b35
    replace V_b35 := V_b35.ext E38
    replace Zs := Nat.le_trans Zs E38.1
    have E_b38 := A38
    have F_b38_rows : Fld Z h38 b38 "com/example/moving_tokens/movingtokens/DualSimplex" "rows" "I" (.int 0) := D38 (Or.inr (own_w hw 11 rfl)) (ty := .int) (by decide)
    have F_b38_columns : Fld Z h38 b38 "com/example/moving_tokens/movingtokens/DualSimplex" "columns" "I" (.int 0) := D38 (Or.inr (own_w hw 13 rfl)) (ty := .int) (by decide)
    have F_b38_tableau : Fld Z h38 b38 "com/example/moving_tokens/movingtokens/DualSimplex" "tableau" "[D" .null := D38 (Or.inr (own_w hw 15 rfl)) (ty := (.array .double)) (by decide)
    have F_b38_value : Fld Z h38 b38 "com/example/moving_tokens/movingtokens/DualSimplex" "value" "[D" .null := D38 (Or.inr (own_w hw 26 rfl)) (ty := (.array .double)) (by decide)
    have F_b38_cost : Fld Z h38 b38 "com/example/moving_tokens/movingtokens/DualSimplex" "cost" "[D" .null := D38 (Or.inr (own_w hw 28 rfl)) (ty := (.array .double)) (by decide)
    have F_b38_basic : Fld Z h38 b38 "com/example/moving_tokens/movingtokens/DualSimplex" "basic" "[I" .null := D38 (Or.inr (own_w hw 31 rfl)) (ty := (.array .int)) (by decide)
    have F_b38_nonbasic : Fld Z h38 b38 "com/example/moving_tokens/movingtokens/DualSimplex" "nonbasic" "[I" .null := D38 (Or.inr (own_w hw 33 rfl)) (ty := (.array .int)) (by decide)
    refine own_go (x' := T38.setTop (mkF m 189 #[.val (.int p0), .val (.int p1), .val (.int p2), .val (.int p3), .val (.int p4), .val (.int p5), .val (.int ng), .val (.int 1), .val (.int 0), .val (.int bk), .val (.int bo), .val (.int ak), .val (.int aoo), .val (.int mkk), .val (.int moo), .val (.ref b27), .val (.ref b32), .val (.ref b35), .unset, .unset, .unset] [(.ref b38)])) st38 ?_
    refine own_go (x' := T38.setTop (mkF m 196 #[.val (.int p0), .val (.int p1), .val (.int p2), .val (.int p3), .val (.int p4), .val (.int p5), .val (.int ng), .val (.int 1), .val (.int 0), .val (.int bk), .val (.int bo), .val (.int ak), .val (.int aoo), .val (.int mkk), .val (.int moo), .val (.ref b27), .val (.ref b32), .val (.ref b35), .unset, .unset, .unset] [(.ref b35), (.ref b32), (.ref b27), (.ref b38), (.ref b38)])) (fun _ k => XS.dup X38.here hx rfl (hb hby at_189) rfl rfl (XS.aload X38.here hx rfl (hb hby at_190) rfl rfl (XS.aload X38.here hx rfl (hb hby at_192) rfl rfl (XS.aload X38.here hx rfl (hb hby at_194) rfl rfl k)))) ?_
    obtain ⟨LL39, X39, Nf⟩ : ∃ LL : List Loc, Stand p l e room_1 s m _ below meth c T38 LL 4 15 ∧ Fr n0 LL := ⟨_, X38, Nf⟩
    obtain ⟨_, _, ⟨T40, L40, k40, n40⟩, -, X40, ⟨Lc40, hQ40, l40, y40, z40⟩, st40⟩ := X39.specialBack hx (y := (⟨"com/example/moving_tokens/movingtokens/DualSimplex", "<init>", "([D[D[D)V"⟩ : MethodName)) rfl hown (mvT hZ (own_w hw 4 rfl)) (mvT hZ (own_w hw 5 rfl)) (mvT hZ (own_w hw 6 rfl)) (by decide) (backOf (W := 1) (rm1 l Z a0 hw [] b38 b27 b32 b35 k27 k32 k35 (FP.i2d aoo) (FP.i2d moo) (FP.i2d ak) (FP.i2d mkk) (FP.i2d bo) (FP.i2d bk) (FP.i2d (p4 &&& (7 : Int32))) (FP.i2d (((p4.toUInt32 >>> ((3 : Int32) &&& 31).toUInt32).toInt32) &&& (7 : Int32))) h38 n0 Zs E_b38 F_b38_rows F_b38_columns F_b38_tableau F_b38_value F_b38_cost F_b38_basic F_b38_nonbasic V_b27 V_b32 V_b35 E_b32 E_b35 (Ne.symm ne_b27_b38) (Ne.symm ne_b32_b38) (Ne.symm ne_b35_b38) ne_b27_b32 ne_b27_b35 ne_b32_b35 g_b38) hZ (own_w hw 6 rfl) (own_w hw 3 rfl) (by decide) (by decide)) (g := (mkF m 196 #[.val (.int p0), .val (.int p1), .val (.int p2), .val (.int p3), .val (.int p4), .val (.int p5), .val (.int ng), .val (.int 1), .val (.int 0), .val (.int bk), .val (.int bo), .val (.int ak), .val (.int aoo), .val (.int mkk), .val (.int moo), .val (.ref b27), .val (.ref b32), .val (.ref b35), .unset, .unset, .unset] [(.ref b35), (.ref b32), (.ref b27), (.ref b38), (.ref b38)])) rfl (by rw [hml]; rfl) (Steps.refl _) (a := b38) (argsL := [(.ref b27), (.ref b32), (.ref b35)]) (rest := [(.ref b38)]) (lenOf pd_3 rfl) rfl (by show 2 * 0 + _ ≤ _; exact Nat.le_of_eq rfl) (hb hby at_196) (fun _ _ => ⟨rfl, e38, (by decide : 4 + 4 ≤ _), (by decide : 15 + 8 ≤ _)⟩)
    dsimp only [Pt.U, Pt.locs, Pt.cells, Pt.slots] at X40 l40 y40 z40 st40 hQ40
    subst l40 y40 z40
    obtain ⟨va, co, bs, nb, kv, kc, kb, kn, hv40, Nq40, K40, fs_va, fs_co, fs_bs, fs_nb, ne_va_co, ne_va_bs, ne_va_nb, ne_co_bs, ne_co_nb, ne_bs_nb, g_va, g_co, g_bs, g_nb, Eo40, Fo40_rows, Fo40_columns, Fo40_tableau, Fo40_value, Fo40_cost, Fo40_basic, Fo40_nonbasic, V_va, V_co, V_bs, V_nb⟩ := hQ40
    subst hv40
    replace Nf := Fr.app Nf Nq40
    have ne_b27_va : b27 ≠ va := Nat.ne_of_lt (Nat.lt_of_lt_of_le E_b27.lt fs_va)
    have ne_b27_co : b27 ≠ co := Nat.ne_of_lt (Nat.lt_of_lt_of_le E_b27.lt fs_co)
    have ne_b27_bs : b27 ≠ bs := Nat.ne_of_lt (Nat.lt_of_lt_of_le E_b27.lt fs_bs)
    have ne_b27_nb : b27 ≠ nb := Nat.ne_of_lt (Nat.lt_of_lt_of_le E_b27.lt fs_nb)
    have ne_b32_va : b32 ≠ va := Nat.ne_of_lt (Nat.lt_of_lt_of_le E_b32.lt fs_va)
    have ne_b32_co : b32 ≠ co := Nat.ne_of_lt (Nat.lt_of_lt_of_le E_b32.lt fs_co)
    have ne_b32_bs : b32 ≠ bs := Nat.ne_of_lt (Nat.lt_of_lt_of_le E_b32.lt fs_bs)
    have ne_b32_nb : b32 ≠ nb := Nat.ne_of_lt (Nat.lt_of_lt_of_le E_b32.lt fs_nb)
    have ne_b35_va : b35 ≠ va := Nat.ne_of_lt (Nat.lt_of_lt_of_le E_b35.lt fs_va)
    have ne_b35_co : b35 ≠ co := Nat.ne_of_lt (Nat.lt_of_lt_of_le E_b35.lt fs_co)
    have ne_b35_bs : b35 ≠ bs := Nat.ne_of_lt (Nat.lt_of_lt_of_le E_b35.lt fs_bs)
    have ne_b35_nb : b35 ≠ nb := Nat.ne_of_lt (Nat.lt_of_lt_of_le E_b35.lt fs_nb)
    have ne_b38_va : b38 ≠ va := Nat.ne_of_lt (Nat.lt_of_lt_of_le E_b38.lt fs_va)
    have ne_b38_co : b38 ≠ co := Nat.ne_of_lt (Nat.lt_of_lt_of_le E_b38.lt fs_co)
    have ne_b38_bs : b38 ≠ bs := Nat.ne_of_lt (Nat.lt_of_lt_of_le E_b38.lt fs_bs)
    have ne_b38_nb : b38 ≠ nb := Nat.ne_of_lt (Nat.lt_of_lt_of_le E_b38.lt fs_nb)
    replace E_b27 := E_b27.keep K40
    replace V_b27 := V_b27.keep K40 (ninS ne_b27_b38 nin0)
    replace E_b32 := E_b32.keep K40
    replace V_b32 := V_b32.keep K40 (ninS ne_b32_b38 nin0)
    replace E_b35 := E_b35.keep K40
    replace V_b35 := V_b35.keep K40 (ninS ne_b35_b38 nin0)
    replace Zs := Nat.le_trans Zs K40.1
    replace E_b38 := Eo40
    replace F_b38_rows := Fo40_rows
    replace F_b38_columns := Fo40_columns
    replace F_b38_tableau := Fo40_tableau
    replace F_b38_value := Fo40_value
    replace F_b38_cost := Fo40_cost
    replace F_b38_basic := Fo40_basic
    replace F_b38_nonbasic := Fo40_nonbasic
    refine own_go (x' := T40.setTop (mkF m 199 #[.val (.int p0), .val (.int p1), .val (.int p2), .val (.int p3), .val (.int p4), .val (.int p5), .val (.int ng), .val (.int 1), .val (.int 0), .val (.int bk), .val (.int bo), .val (.int ak), .val (.int aoo), .val (.int mkk), .val (.int moo), .val (.ref b27), .val (.ref b32), .val (.ref b35), .unset, .unset, .unset] [(.ref b38)])) (fun _ k => st40.trans k) ?_
    refine own_go (x' := T40.setTop (mkF m 209 #[.val (.int p0), .val (.int p1), .val (.int p2), .val (.int p3), .val (.int p4), .val (.int p5), .val (.int ng), .val (.int 1), .val (.int 0), .val (.int bk), .val (.int bo), .val (.int ak), .val (.int aoo), .val (.int mkk), .val (.int moo), .val (.ref b27), .val (.ref b32), .val (.ref b35), .val (.ref b38), .unset, .unset] [(.long ((p5 &&& (7 : Int32)).toInt64)), (.ref b38)])) (fun _ k => XS.astore X40.here hx rfl (hb hby at_199) rfl rfl (l' := #[.val (.int p0), .val (.int p1), .val (.int p2), .val (.int p3), .val (.int p4), .val (.int p5), .val (.int ng), .val (.int 1), .val (.int 0), .val (.int bk), .val (.int bo), .val (.int ak), .val (.int aoo), .val (.int mkk), .val (.int moo), .val (.ref b27), .val (.ref b32), .val (.ref b35), .val (.ref b38), .unset, .unset]) rfl (XS.aload X40.here hx rfl (hb hby at_201) rfl rfl (XS.iload X40.here hx rfl (hb hby at_203) rfl (XS.bipush X40.here hx rfl (hb hby at_205) (XS.iand X40.here hx rfl (hb hby at_207) rfl (XS.i2l X40.here hx rfl (hb hby at_208) rfl k)))))) ?_
    obtain ⟨cq41, kq41, q41a, q41b, q41c⟩ := isOf hZ rfl E_b38
    obtain ⟨_, _, ⟨T41, L41, k41, n41⟩, -, X41, ⟨Lc41, hQ41, l41, y41, z41⟩, st41⟩ := X40.virtualBack hx (y := (⟨"com/example/moving_tokens/movingtokens/DualSimplex", "solve", "(J)Z"⟩ : MethodName)) (z := (⟨"com/example/moving_tokens/movingtokens/DualSimplex", "solve", "(J)Z"⟩ : MethodName)) hown (mvT hZ (own_w hw 34 rfl)) (mvT hZ (own_w hw 35 rfl)) (notFace_of_selects (args := #[]) (mvT hZ (own_w hw 37 rfl))) (mvT hZ (own_w hw 37 rfl)) (mvT hZ (own_w hw 36 rfl)) (by decide) (backOf (W := 0) (rm3_1 l Z a0 hw [] b38 b27 va co bs nb k27 kv kc kb kn bk bo ak aoo mkk moo (p4 &&& (7 : Int32)) (((p4.toUInt32 >>> ((3 : Int32) &&& 31).toUInt32).toInt32) &&& (7 : Int32)) ((p5 &&& (7 : Int32)).toInt64) T40.heap n0 Zs E_b38 F_b38_rows F_b38_columns F_b38_tableau F_b38_value F_b38_cost F_b38_basic F_b38_nonbasic V_b27 V_va V_co V_bs V_nb h_bk q_bo.1 q_ak q_aoo q_mkk.1 q_moo.1 q_bo.2 q_mkk.2 q_moo.2 (Ne.symm ne_b27_b38) ne_b38_va ne_b38_co ne_b38_bs ne_b38_nb ne_b27_va ne_b27_co ne_b27_bs ne_b27_nb ne_va_co ne_va_bs ne_va_nb ne_co_bs ne_co_nb ne_bs_nb g_b27 g_va g_co g_bs g_nb) hZ (own_w hw 38 rfl) (own_w hw 3 rfl) (by decide) (by decide)) q41a q41c (g := (mkF m 209 #[.val (.int p0), .val (.int p1), .val (.int p2), .val (.int p3), .val (.int p4), .val (.int p5), .val (.int ng), .val (.int 1), .val (.int 0), .val (.int bk), .val (.int bo), .val (.int ak), .val (.int aoo), .val (.int mkk), .val (.int moo), .val (.ref b27), .val (.ref b32), .val (.ref b35), .val (.ref b38), .unset, .unset] [(.long ((p5 &&& (7 : Int32)).toInt64)), (.ref b38)])) rfl (by rw [hml]; rfl) (Steps.refl _) (argsL := [(.long ((p5 &&& (7 : Int32)).toInt64))]) (rest := []) (lenOf pd_4 rfl) rfl (by show 2 * 0 + _ ≤ _; exact Nat.le_of_eq rfl) (hb hby at_209) (fun _ _ => ⟨rfl, rfl, (by decide : 8 + 0 ≤ _), (by decide : 23 + 0 ≤ _)⟩)
    dsimp only [Pt.U, Pt.locs, Pt.cells, Pt.slots] at X41 l41 y41 z41 st41 hQ41
    subst l41 y41 z41
    obtain ⟨rr41, hv41, Nq41, K41, Vn41⟩ := hQ41
    subst hv41
    replace Nf := Fr.app Nf Nq41
    replace E_b27 := E_b27.keep K41
    replace E_b32 := E_b32.keep K41
    replace V_b32 := V_b32.keep K41 (ninS (Ne.symm ne_b27_b32) (ninS ne_b32_va (ninS ne_b32_co (ninS ne_b32_bs (ninS ne_b32_nb nin0)))))
    replace E_b35 := E_b35.keep K41
    replace V_b35 := V_b35.keep K41 (ninS (Ne.symm ne_b27_b35) (ninS ne_b35_va (ninS ne_b35_co (ninS ne_b35_bs (ninS ne_b35_nb nin0)))))
    replace E_b38 := E_b38.keep K41
    replace F_b38_rows := F_b38_rows.keep K41 (ninS (Ne.symm ne_b27_b38) (ninS ne_b38_va (ninS ne_b38_co (ninS ne_b38_bs (ninS ne_b38_nb nin0)))))
    replace F_b38_columns := F_b38_columns.keep K41 (ninS (Ne.symm ne_b27_b38) (ninS ne_b38_va (ninS ne_b38_co (ninS ne_b38_bs (ninS ne_b38_nb nin0)))))
    replace F_b38_tableau := F_b38_tableau.keep K41 (ninS (Ne.symm ne_b27_b38) (ninS ne_b38_va (ninS ne_b38_co (ninS ne_b38_bs (ninS ne_b38_nb nin0)))))
    replace F_b38_value := F_b38_value.keep K41 (ninS (Ne.symm ne_b27_b38) (ninS ne_b38_va (ninS ne_b38_co (ninS ne_b38_bs (ninS ne_b38_nb nin0)))))
    replace F_b38_cost := F_b38_cost.keep K41 (ninS (Ne.symm ne_b27_b38) (ninS ne_b38_va (ninS ne_b38_co (ninS ne_b38_bs (ninS ne_b38_nb nin0)))))
    replace F_b38_basic := F_b38_basic.keep K41 (ninS (Ne.symm ne_b27_b38) (ninS ne_b38_va (ninS ne_b38_co (ninS ne_b38_bs (ninS ne_b38_nb nin0)))))
    replace F_b38_nonbasic := F_b38_nonbasic.keep K41 (ninS (Ne.symm ne_b27_b38) (ninS ne_b38_va (ninS ne_b38_co (ninS ne_b38_bs (ninS ne_b38_nb nin0)))))
    replace Zs := Nat.le_trans Zs K41.1
    replace V_nb := Vn41
    refine own_go (x' := T41.setTop (mkF m 212 #[.val (.int p0), .val (.int p1), .val (.int p2), .val (.int p3), .val (.int p4), .val (.int p5), .val (.int ng), .val (.int 1), .val (.int 0), .val (.int bk), .val (.int bo), .val (.int ak), .val (.int aoo), .val (.int mkk), .val (.int moo), .val (.ref b27), .val (.ref b32), .val (.ref b35), .val (.ref b38), .unset, .unset] [(.int rr41)])) (fun _ k => st41.trans k) ?_
    refine own_go (x' := T41.setTop (mkF m 213 #[.val (.int p0), .val (.int p1), .val (.int p2), .val (.int p3), .val (.int p4), .val (.int p5), .val (.int ng), .val (.int 1), .val (.int 0), .val (.int bk), .val (.int bo), .val (.int ak), .val (.int aoo), .val (.int mkk), .val (.int moo), .val (.ref b27), .val (.ref b32), .val (.ref b35), .val (.ref b38), .unset, .unset] [])) (fun _ k => XS.pop X41.here hx rfl (hb hby at_212) rfl rfl k) ?_
    by_cases hpv : bk < 0 ∧ ak < 0
    · rw [if_pos hpv] at V_nb
      refine own_go (x' := T41.setTop (mkF m 215 #[.val (.int p0), .val (.int p1), .val (.int p2), .val (.int p3), .val (.int p4), .val (.int p5), .val (.int ng), .val (.int 1), .val (.int 0), .val (.int bk), .val (.int bo), .val (.int ak), .val (.int aoo), .val (.int mkk), .val (.int moo), .val (.ref b27), .val (.ref b32), .val (.ref b35), .val (.ref b38), .unset, .unset] [(.ref b38)])) (fun _ k => XS.aload X41.here hx rfl (hb hby at_213) rfl rfl k) ?_
      obtain ⟨cq42, kq42, q42a, q42b, q42c⟩ := isOf hZ rfl E_b38
      obtain ⟨_, _, ⟨T42, L42, k42, n42⟩, -, X42, ⟨Lc42, hQ42, l42, y42, z42⟩, st42⟩ := X41.virtualBack hx (y := (⟨"com/example/moving_tokens/movingtokens/DualSimplex", "tightRows", "()[Z"⟩ : MethodName)) (z := (⟨"com/example/moving_tokens/movingtokens/DualSimplex", "tightRows", "()[Z"⟩ : MethodName)) hown (mvT hZ (own_w hw 44 rfl)) (mvT hZ (own_w hw 45 rfl)) (notFace_of_selects (args := #[]) (mvT hZ (own_w hw 47 rfl))) (mvT hZ (own_w hw 47 rfl)) (mvT hZ (own_w hw 46 rfl)) (by decide) (backOf (W := 0) (rm5_3 l Z a0 hw [] b38 nb kn T41.heap n0 Zs F_b38_rows F_b38_columns F_b38_nonbasic V_nb) hZ (own_w hw 48 rfl) (own_w hw 3 rfl) (by decide) (by decide)) q42a q42c (g := (mkF m 215 #[.val (.int p0), .val (.int p1), .val (.int p2), .val (.int p3), .val (.int p4), .val (.int p5), .val (.int ng), .val (.int 1), .val (.int 0), .val (.int bk), .val (.int bo), .val (.int ak), .val (.int aoo), .val (.int mkk), .val (.int moo), .val (.ref b27), .val (.ref b32), .val (.ref b35), .val (.ref b38), .unset, .unset] [(.ref b38)])) rfl (by rw [hml]; rfl) (Steps.refl _) (argsL := []) (rest := []) (lenOf pd_5 rfl) rfl (by show 2 * 0 + _ ≤ _; exact Nat.le_of_eq rfl) (hb hby at_215) (fun _ _ => ⟨rfl, rfl, (by decide : 8 + 1 ≤ _), (by decide : 23 + 2 ≤ _)⟩)
      dsimp only [Pt.U, Pt.locs, Pt.cells, Pt.slots] at X42 l42 y42 z42 st42 hQ42
      subst l42 y42 z42
      obtain ⟨b42, kq42, hv42, Nq42, K42, sq42, g_b42, V_b42⟩ := hQ42
      subst hv42
      replace Nf := Fr.app Nf Nq42
      replace E_b27 := E_b27.keep K42
      replace E_b32 := E_b32.keep K42
      replace V_b32 := V_b32.keep K42 nin0
      replace E_b35 := E_b35.keep K42
      replace V_b35 := V_b35.keep K42 nin0
      replace E_b38 := E_b38.keep K42
      replace F_b38_rows := F_b38_rows.keep K42 nin0
      replace F_b38_columns := F_b38_columns.keep K42 nin0
      replace F_b38_tableau := F_b38_tableau.keep K42 nin0
      replace F_b38_value := F_b38_value.keep K42 nin0
      replace F_b38_cost := F_b38_cost.keep K42 nin0
      replace F_b38_basic := F_b38_basic.keep K42 nin0
      replace F_b38_nonbasic := F_b38_nonbasic.keep K42 nin0
      replace V_nb := V_nb.keep K42 nin0
      replace Zs := Nat.le_trans Zs K42.1
      refine own_go (x' := T42.setTop (mkF m 218 #[.val (.int p0), .val (.int p1), .val (.int p2), .val (.int p3), .val (.int p4), .val (.int p5), .val (.int ng), .val (.int 1), .val (.int 0), .val (.int bk), .val (.int bo), .val (.int ak), .val (.int aoo), .val (.int mkk), .val (.int moo), .val (.ref b27), .val (.ref b32), .val (.ref b35), .val (.ref b38), .unset, .unset] [(.ref b42)])) (fun _ k => st42.trans k) ?_
      refine own_go (x' := T42.setTop (mkF m 231 #[.val (.int p0), .val (.int p1), .val (.int p2), .val (.int p3), .val (.int p4), .val (.int p5), .val (.int ng), .val (.int 1), .val (.int 0), .val (.int bk), .val (.int bo), .val (.int ak), .val (.int aoo), .val (.int mkk), .val (.int moo), .val (.ref b27), .val (.ref b32), .val (.ref b35), .val (.ref b38), .val (.ref b42), .unset] [(.int 1)])) (fun _ k => XS.astore X42.here hx rfl (hb hby at_218) rfl rfl (l' := #[.val (.int p0), .val (.int p1), .val (.int p2), .val (.int p3), .val (.int p4), .val (.int p5), .val (.int ng), .val (.int 1), .val (.int 0), .val (.int bk), .val (.int bo), .val (.int ak), .val (.int aoo), .val (.int mkk), .val (.int moo), .val (.ref b27), .val (.ref b32), .val (.ref b35), .val (.ref b38), .val (.ref b42), .unset]) rfl (XS.iload X42.here hx rfl (hb hby at_220) rfl (XS.ifNo X42.here hx rfl (hb hby at_222) rfl ((if0 _ _).trans (feq (hsg.elim (fun z => by rw [z.1]; decide) (fun z => absurd hpv.1 z.2))).1) (XS.iload X42.here hx rfl (hb hby at_225) rfl (XS.ifNo X42.here hx rfl (hb hby at_227) rfl ((if0 _ _).trans (tlt hpv.2).2.1) (XS.iconst X42.here hx rfl (hb hby at_230) k)))))) ?_
      refine own_go (x' := T42.setTop (mkF m 239 #[.val (.int p0), .val (.int p1), .val (.int p2), .val (.int p3), .val (.int p4), .val (.int p5), .val (.int ng), .val (.int 1), .val (.int 0), .val (.int bk), .val (.int bo), .val (.int ak), .val (.int aoo), .val (.int mkk), .val (.int moo), .val (.ref b27), .val (.ref b32), .val (.ref b35), .val (.ref b38), .val (.ref b42), .val (.int 1)] [(.ref b42)])) (fun _ k => XS.goto X42.here hx rfl (pc0 := 231) (pc' := 235) rfl (hb hby at_231) (by decide) (by decide) (XS.istore X42.here hx rfl (hb hby at_235) rfl (l' := #[.val (.int p0), .val (.int p1), .val (.int p2), .val (.int p3), .val (.int p4), .val (.int p5), .val (.int ng), .val (.int 1), .val (.int 0), .val (.int bk), .val (.int bo), .val (.int ak), .val (.int aoo), .val (.int mkk), .val (.int moo), .val (.ref b27), .val (.ref b32), .val (.ref b35), .val (.ref b38), .val (.ref b42), .val (.int 1)]) rfl (XS.aload X42.here hx rfl (hb hby at_237) rfl rfl k))) ?_
      obtain ⟨cl43, Ar43, -, Sz43, Nn43, -, -⟩ := id V_b42
      refine own_go (x' := T42.setTop (mkF m 240 #[.val (.int p0), .val (.int p1), .val (.int p2), .val (.int p3), .val (.int p4), .val (.int p5), .val (.int ng), .val (.int 1), .val (.int 0), .val (.int bk), .val (.int bo), .val (.int ak), .val (.int aoo), .val (.int mkk), .val (.int moo), .val (.ref b27), .val (.ref b32), .val (.ref b35), .val (.ref b38), .val (.ref b42), .val (.int 1)] [(.int 2)])) (fun t k => X42.arraylength hx (Eq.trans (congrArg (fun h_ => h_[_]?) rfl) Ar43.1) (State.isArrayOf_alike hZ.alike Ar43.2.1) (g := (mkF m 239 #[.val (.int p0), .val (.int p1), .val (.int p2), .val (.int p3), .val (.int p4), .val (.int p5), .val (.int ng), .val (.int 1), .val (.int 0), .val (.int bk), .val (.int bo), .val (.int ak), .val (.int aoo), .val (.int mkk), .val (.int moo), .val (.ref b27), .val (.ref b32), .val (.ref b35), .val (.ref b38), .val (.ref b42), .val (.int 1)] [(.ref b42)])) rfl rfl (hb hby at_239) t (by rw [len_of Sz43 Nn43]; exact k)) ?_
      refine own_go (x' := T42.setTop (mkF m 248 #[.val (.int p0), .val (.int p1), .val (.int p2), .val (.int p3), .val (.int p4), .val (.int p5), .val (.int ng), .val (.int 1), .val (.int 0), .val (.int bk), .val (.int bo), .val (.int ak), .val (.int aoo), .val (.int mkk), .val (.int moo), .val (.ref b27), .val (.ref b32), .val (.ref b35), .val (.ref b38), .val (.ref b42), .val (.int 1)] [(.int 1), (.ref b42)])) (fun _ k => XS.iconst X42.here hx rfl (hb hby at_240) (XS.icmpNo X42.here hx rfl (hb hby at_241) rfl (teq rfl).2 (XS.aload X42.here hx rfl (hb hby at_244) rfl rfl (XS.iload X42.here hx rfl (hb hby at_246) rfl k)))) ?_
      obtain ⟨cl44, Ar44, q44, Sz44, Nn44, Hh44, Gg44⟩ := id V_b42
      have hin44 : ¬ ((1 : Int32) < 0 ∨ cl44.slots.size ≤ ((1 : Int32)).toNatClampNeg) := inb_of Sz44 ⟨by decide, by decide⟩
      refine own_go (x' := T42.setTop (mkF m 249 #[.val (.int p0), .val (.int p1), .val (.int p2), .val (.int p3), .val (.int p4), .val (.int p5), .val (.int ng), .val (.int 1), .val (.int 0), .val (.int bk), .val (.int bo), .val (.int ak), .val (.int aoo), .val (.int mkk), .val (.int moo), .val (.ref b27), .val (.ref b32), .val (.ref b35), .val (.ref b38), .val (.ref b42), .val (.int 1)] [(.int (nar .boolean (1 : Int32)))])) (X42.baloadBooleans hx (j := (1 : Int32)) (v := (.int (nar .boolean (1 : Int32)))) (Eq.trans (congrArg (fun h_ => h_[_]?) rfl) Ar44.1) (State.isArrayOf_alike hZ.alike Ar44.2.1) Ar44.2.2 hin44 (Hh44.at hin44 rfl) (g := (mkF m 248 #[.val (.int p0), .val (.int p1), .val (.int p2), .val (.int p3), .val (.int p4), .val (.int p5), .val (.int ng), .val (.int 1), .val (.int 0), .val (.int bk), .val (.int bo), .val (.int ak), .val (.int aoo), .val (.int mkk), .val (.int moo), .val (.ref b27), .val (.ref b32), .val (.ref b35), .val (.ref b38), .val (.ref b42), .val (.int 1)] [(.int 1), (.ref b42)])) rfl rfl (hb hby at_248)) ?_
      refine own_go (x' := T42.setTop (mkF m 258 #[.val (.int p0), .val (.int p1), .val (.int p2), .val (.int p3), .val (.int p4), .val (.int p5), .val (.int ng), .val (.int 1), .val (.int 0), .val (.int bk), .val (.int bo), .val (.int ak), .val (.int aoo), .val (.int mkk), .val (.int moo), .val (.ref b27), .val (.ref b32), .val (.ref b35), .val (.ref b38), .val (.ref b42), .val (.int 1)] [(.int 0), (.ref b42)])) (fun _ k => XS.iload X42.here hx rfl (hb hby at_249) rfl (XS.icmpNo X42.here hx rfl (hb hby at_251) rfl (teq (by decide)).2 (XS.aload X42.here hx rfl (hb hby at_254) rfl rfl (XS.iload X42.here hx rfl (hb hby at_256) rfl k)))) ?_
      obtain ⟨cl45, Ar45, q45, Sz45, Nn45, Hh45, Gg45⟩ := id V_b42
      have hin45 : ¬ ((0 : Int32) < 0 ∨ cl45.slots.size ≤ ((0 : Int32)).toNatClampNeg) := inb_of Sz45 ⟨by decide, by decide⟩
      refine own_go (x' := T42.setTop (mkF m 259 #[.val (.int p0), .val (.int p1), .val (.int p2), .val (.int p3), .val (.int p4), .val (.int p5), .val (.int ng), .val (.int 1), .val (.int 0), .val (.int bk), .val (.int bo), .val (.int ak), .val (.int aoo), .val (.int mkk), .val (.int moo), .val (.ref b27), .val (.ref b32), .val (.ref b35), .val (.ref b38), .val (.ref b42), .val (.int 1)] [(.int 0)])) (X42.baloadBooleans hx (j := (0 : Int32)) (v := (.int 0)) (Eq.trans (congrArg (fun h_ => h_[_]?) rfl) Ar45.1) (State.isArrayOf_alike hZ.alike Ar45.2.1) Ar45.2.2 hin45 (Hh45.at hin45 rfl) (g := (mkF m 258 #[.val (.int p0), .val (.int p1), .val (.int p2), .val (.int p3), .val (.int p4), .val (.int p5), .val (.int ng), .val (.int 1), .val (.int 0), .val (.int bk), .val (.int bo), .val (.int ak), .val (.int aoo), .val (.int mkk), .val (.int moo), .val (.ref b27), .val (.ref b32), .val (.ref b35), .val (.ref b38), .val (.ref b42), .val (.int 1)] [(.int 0), (.ref b42)])) rfl rfl (hb hby at_258)) ?_
      refine own_go (x' := T42.setTop (mkF m 267 #[.val (.int p0), .val (.int p1), .val (.int p2), .val (.int p3), .val (.int p4), .val (.int p5), .val (.int ng), .val (.int 1), .val (.int 0), .val (.int bk), .val (.int bo), .val (.int ak), .val (.int aoo), .val (.int mkk), .val (.int moo), .val (.ref b27), .val (.ref b32), .val (.ref b35), .val (.ref b38), .val (.ref b42), .val (.int 1)] [(.int 1)])) (fun _ k => XS.ifNo X42.here hx rfl (hb hby at_259) rfl ((if0 _ _).trans (teq rfl).2) (XS.iconst X42.here hx rfl (hb hby at_262) (XS.goto X42.here hx rfl (pc0 := 263) (pc' := 267) rfl (hb hby at_263) (by decide) (by decide) k))) ?_
      refine own_retN X42 hx hlk (t := .boolean) hret (by simp) (hb hby at_267) (w := (1 : Int32)) rfl ?_ (by decide) (by decide)
      exact ⟨rfl, Nf⟩
    · rw [if_neg hpv] at V_nb
      refine own_go (x' := T41.setTop (mkF m 215 #[.val (.int p0), .val (.int p1), .val (.int p2), .val (.int p3), .val (.int p4), .val (.int p5), .val (.int ng), .val (.int 1), .val (.int 0), .val (.int bk), .val (.int bo), .val (.int ak), .val (.int aoo), .val (.int mkk), .val (.int moo), .val (.ref b27), .val (.ref b32), .val (.ref b35), .val (.ref b38), .unset, .unset] [(.ref b38)])) (fun _ k => XS.aload X41.here hx rfl (hb hby at_213) rfl rfl k) ?_
      obtain ⟨cq46, kq46, q46a, q46b, q46c⟩ := isOf hZ rfl E_b38
      obtain ⟨_, _, ⟨T46, L46, k46, n46⟩, -, X46, ⟨Lc46, hQ46, l46, y46, z46⟩, st46⟩ := X41.virtualBack hx (y := (⟨"com/example/moving_tokens/movingtokens/DualSimplex", "tightRows", "()[Z"⟩ : MethodName)) (z := (⟨"com/example/moving_tokens/movingtokens/DualSimplex", "tightRows", "()[Z"⟩ : MethodName)) hown (mvT hZ (own_w hw 44 rfl)) (mvT hZ (own_w hw 45 rfl)) (notFace_of_selects (args := #[]) (mvT hZ (own_w hw 47 rfl))) (mvT hZ (own_w hw 47 rfl)) (mvT hZ (own_w hw 46 rfl)) (by decide) (backOf (W := 0) (rm5_0 l Z a0 hw [] b38 nb kn T41.heap n0 Zs F_b38_rows F_b38_columns F_b38_nonbasic V_nb) hZ (own_w hw 48 rfl) (own_w hw 3 rfl) (by decide) (by decide)) q46a q46c (g := (mkF m 215 #[.val (.int p0), .val (.int p1), .val (.int p2), .val (.int p3), .val (.int p4), .val (.int p5), .val (.int ng), .val (.int 1), .val (.int 0), .val (.int bk), .val (.int bo), .val (.int ak), .val (.int aoo), .val (.int mkk), .val (.int moo), .val (.ref b27), .val (.ref b32), .val (.ref b35), .val (.ref b38), .unset, .unset] [(.ref b38)])) rfl (by rw [hml]; rfl) (Steps.refl _) (argsL := []) (rest := []) (lenOf pd_5 rfl) rfl (by show 2 * 0 + _ ≤ _; exact Nat.le_of_eq rfl) (hb hby at_215) (fun _ _ => ⟨rfl, rfl, (by decide : 8 + 1 ≤ _), (by decide : 23 + 2 ≤ _)⟩)
      dsimp only [Pt.U, Pt.locs, Pt.cells, Pt.slots] at X46 l46 y46 z46 st46 hQ46
      subst l46 y46 z46
      obtain ⟨b46, kq46, hv46, Nq46, K46, sq46, g_b46, V_b46⟩ := hQ46
      subst hv46
      replace Nf := Fr.app Nf Nq46
      replace E_b27 := E_b27.keep K46
      replace E_b32 := E_b32.keep K46
      replace V_b32 := V_b32.keep K46 nin0
      replace E_b35 := E_b35.keep K46
      replace V_b35 := V_b35.keep K46 nin0
      replace E_b38 := E_b38.keep K46
      replace F_b38_rows := F_b38_rows.keep K46 nin0
      replace F_b38_columns := F_b38_columns.keep K46 nin0
      replace F_b38_tableau := F_b38_tableau.keep K46 nin0
      replace F_b38_value := F_b38_value.keep K46 nin0
      replace F_b38_cost := F_b38_cost.keep K46 nin0
      replace F_b38_basic := F_b38_basic.keep K46 nin0
      replace F_b38_nonbasic := F_b38_nonbasic.keep K46 nin0
      replace V_nb := V_nb.keep K46 nin0
      replace Zs := Nat.le_trans Zs K46.1
      refine own_go (x' := T46.setTop (mkF m 218 #[.val (.int p0), .val (.int p1), .val (.int p2), .val (.int p3), .val (.int p4), .val (.int p5), .val (.int ng), .val (.int 1), .val (.int 0), .val (.int bk), .val (.int bo), .val (.int ak), .val (.int aoo), .val (.int mkk), .val (.int moo), .val (.ref b27), .val (.ref b32), .val (.ref b35), .val (.ref b38), .unset, .unset] [(.ref b46)])) (fun _ k => st46.trans k) ?_
      refine own_go (x' := T46.setTop (mkF m 222 #[.val (.int p0), .val (.int p1), .val (.int p2), .val (.int p3), .val (.int p4), .val (.int p5), .val (.int ng), .val (.int 1), .val (.int 0), .val (.int bk), .val (.int bo), .val (.int ak), .val (.int aoo), .val (.int mkk), .val (.int moo), .val (.ref b27), .val (.ref b32), .val (.ref b35), .val (.ref b38), .val (.ref b46), .unset] [(.int ng)])) (fun _ k => XS.astore X46.here hx rfl (hb hby at_218) rfl rfl (l' := #[.val (.int p0), .val (.int p1), .val (.int p2), .val (.int p3), .val (.int p4), .val (.int p5), .val (.int ng), .val (.int 1), .val (.int 0), .val (.int bk), .val (.int bo), .val (.int ak), .val (.int aoo), .val (.int mkk), .val (.int moo), .val (.ref b27), .val (.ref b32), .val (.ref b35), .val (.ref b38), .val (.ref b46), .unset]) rfl (XS.iload X46.here hx rfl (hb hby at_220) rfl k)) ?_
      by_cases hc222 : ng = (0 : Int32)
      · refine own_go (x' := T46.setTop (mkF m 239 #[.val (.int p0), .val (.int p1), .val (.int p2), .val (.int p3), .val (.int p4), .val (.int p5), .val (.int ng), .val (.int 1), .val (.int 0), .val (.int bk), .val (.int bo), .val (.int ak), .val (.int aoo), .val (.int mkk), .val (.int moo), .val (.ref b27), .val (.ref b32), .val (.ref b35), .val (.ref b38), .val (.ref b46), .val (.int 0)] [(.ref b46)])) (fun _ k => XS.ifYes X46.here hx rfl (pc0 := 222) (pc' := 234) rfl (hb hby at_222) rfl ((if0 _ _).trans (teq hc222).1) (by decide) (by decide) (XS.iconst X46.here hx rfl (hb hby at_234) (XS.istore X46.here hx rfl (hb hby at_235) rfl (l' := #[.val (.int p0), .val (.int p1), .val (.int p2), .val (.int p3), .val (.int p4), .val (.int p5), .val (.int ng), .val (.int 1), .val (.int 0), .val (.int bk), .val (.int bo), .val (.int ak), .val (.int aoo), .val (.int mkk), .val (.int moo), .val (.ref b27), .val (.ref b32), .val (.ref b35), .val (.ref b38), .val (.ref b46), .val (.int 0)]) rfl (XS.aload X46.here hx rfl (hb hby at_237) rfl rfl k)))) ?_
        obtain ⟨cl47, Ar47, -, Sz47, Nn47, -, -⟩ := id V_b46
        refine own_go (x' := T46.setTop (mkF m 240 #[.val (.int p0), .val (.int p1), .val (.int p2), .val (.int p3), .val (.int p4), .val (.int p5), .val (.int ng), .val (.int 1), .val (.int 0), .val (.int bk), .val (.int bo), .val (.int ak), .val (.int aoo), .val (.int mkk), .val (.int moo), .val (.ref b27), .val (.ref b32), .val (.ref b35), .val (.ref b38), .val (.ref b46), .val (.int 0)] [(.int 2)])) (fun t k => X46.arraylength hx (Eq.trans (congrArg (fun h_ => h_[_]?) rfl) Ar47.1) (State.isArrayOf_alike hZ.alike Ar47.2.1) (g := (mkF m 239 #[.val (.int p0), .val (.int p1), .val (.int p2), .val (.int p3), .val (.int p4), .val (.int p5), .val (.int ng), .val (.int 1), .val (.int 0), .val (.int bk), .val (.int bo), .val (.int ak), .val (.int aoo), .val (.int mkk), .val (.int moo), .val (.ref b27), .val (.ref b32), .val (.ref b35), .val (.ref b38), .val (.ref b46), .val (.int 0)] [(.ref b46)])) rfl rfl (hb hby at_239) t (by rw [len_of Sz47 Nn47]; exact k)) ?_
        refine own_go (x' := T46.setTop (mkF m 248 #[.val (.int p0), .val (.int p1), .val (.int p2), .val (.int p3), .val (.int p4), .val (.int p5), .val (.int ng), .val (.int 1), .val (.int 0), .val (.int bk), .val (.int bo), .val (.int ak), .val (.int aoo), .val (.int mkk), .val (.int moo), .val (.ref b27), .val (.ref b32), .val (.ref b35), .val (.ref b38), .val (.ref b46), .val (.int 0)] [(.int 1), (.ref b46)])) (fun _ k => XS.iconst X46.here hx rfl (hb hby at_240) (XS.icmpNo X46.here hx rfl (hb hby at_241) rfl (teq rfl).2 (XS.aload X46.here hx rfl (hb hby at_244) rfl rfl (XS.iload X46.here hx rfl (hb hby at_246) rfl k)))) ?_
        obtain ⟨cl48, Ar48, q48, Sz48, Nn48, Hh48, Gg48⟩ := id V_b46
        have hin48 : ¬ ((1 : Int32) < 0 ∨ cl48.slots.size ≤ ((1 : Int32)).toNatClampNeg) := inb_of Sz48 ⟨by decide, by decide⟩
        refine own_go (x' := T46.setTop (mkF m 249 #[.val (.int p0), .val (.int p1), .val (.int p2), .val (.int p3), .val (.int p4), .val (.int p5), .val (.int ng), .val (.int 1), .val (.int 0), .val (.int bk), .val (.int bo), .val (.int ak), .val (.int aoo), .val (.int mkk), .val (.int moo), .val (.ref b27), .val (.ref b32), .val (.ref b35), .val (.ref b38), .val (.ref b46), .val (.int 0)] [(.int 0)])) (X46.baloadBooleans hx (j := (1 : Int32)) (v := (.int 0)) (Eq.trans (congrArg (fun h_ => h_[_]?) rfl) Ar48.1) (State.isArrayOf_alike hZ.alike Ar48.2.1) Ar48.2.2 hin48 (Hh48.at hin48 rfl) (g := (mkF m 248 #[.val (.int p0), .val (.int p1), .val (.int p2), .val (.int p3), .val (.int p4), .val (.int p5), .val (.int ng), .val (.int 1), .val (.int 0), .val (.int bk), .val (.int bo), .val (.int ak), .val (.int aoo), .val (.int mkk), .val (.int moo), .val (.ref b27), .val (.ref b32), .val (.ref b35), .val (.ref b38), .val (.ref b46), .val (.int 0)] [(.int 1), (.ref b46)])) rfl rfl (hb hby at_248)) ?_
        refine own_go (x' := T46.setTop (mkF m 258 #[.val (.int p0), .val (.int p1), .val (.int p2), .val (.int p3), .val (.int p4), .val (.int p5), .val (.int ng), .val (.int 1), .val (.int 0), .val (.int bk), .val (.int bo), .val (.int ak), .val (.int aoo), .val (.int mkk), .val (.int moo), .val (.ref b27), .val (.ref b32), .val (.ref b35), .val (.ref b38), .val (.ref b46), .val (.int 0)] [(.int 0), (.ref b46)])) (fun _ k => XS.iload X46.here hx rfl (hb hby at_249) rfl (XS.icmpNo X46.here hx rfl (hb hby at_251) rfl (teq rfl).2 (XS.aload X46.here hx rfl (hb hby at_254) rfl rfl (XS.iload X46.here hx rfl (hb hby at_256) rfl k)))) ?_
        obtain ⟨cl49, Ar49, q49, Sz49, Nn49, Hh49, Gg49⟩ := id V_b46
        have hin49 : ¬ ((0 : Int32) < 0 ∨ cl49.slots.size ≤ ((0 : Int32)).toNatClampNeg) := inb_of Sz49 ⟨by decide, by decide⟩
        refine own_go (x' := T46.setTop (mkF m 259 #[.val (.int p0), .val (.int p1), .val (.int p2), .val (.int p3), .val (.int p4), .val (.int p5), .val (.int ng), .val (.int 1), .val (.int 0), .val (.int bk), .val (.int bo), .val (.int ak), .val (.int aoo), .val (.int mkk), .val (.int moo), .val (.ref b27), .val (.ref b32), .val (.ref b35), .val (.ref b38), .val (.ref b46), .val (.int 0)] [(.int 0)])) (X46.baloadBooleans hx (j := (0 : Int32)) (v := (.int 0)) (Eq.trans (congrArg (fun h_ => h_[_]?) rfl) Ar49.1) (State.isArrayOf_alike hZ.alike Ar49.2.1) Ar49.2.2 hin49 (Hh49.at hin49 rfl) (g := (mkF m 258 #[.val (.int p0), .val (.int p1), .val (.int p2), .val (.int p3), .val (.int p4), .val (.int p5), .val (.int ng), .val (.int 1), .val (.int 0), .val (.int bk), .val (.int bo), .val (.int ak), .val (.int aoo), .val (.int mkk), .val (.int moo), .val (.ref b27), .val (.ref b32), .val (.ref b35), .val (.ref b38), .val (.ref b46), .val (.int 0)] [(.int 0), (.ref b46)])) rfl rfl (hb hby at_258)) ?_
        refine own_go (x' := T46.setTop (mkF m 267 #[.val (.int p0), .val (.int p1), .val (.int p2), .val (.int p3), .val (.int p4), .val (.int p5), .val (.int ng), .val (.int 1), .val (.int 0), .val (.int bk), .val (.int bo), .val (.int ak), .val (.int aoo), .val (.int mkk), .val (.int moo), .val (.ref b27), .val (.ref b32), .val (.ref b35), .val (.ref b38), .val (.ref b46), .val (.int 0)] [(.int 1)])) (fun _ k => XS.ifNo X46.here hx rfl (hb hby at_259) rfl ((if0 _ _).trans (teq rfl).2) (XS.iconst X46.here hx rfl (hb hby at_262) (XS.goto X46.here hx rfl (pc0 := 263) (pc' := 267) rfl (hb hby at_263) (by decide) (by decide) k))) ?_
        refine own_retN X46 hx hlk (t := .boolean) hret (by simp) (hb hby at_267) (w := (1 : Int32)) rfl ?_ (by decide) (by decide)
        exact ⟨rfl, Nf⟩
      · refine own_go (x' := T46.setTop (mkF m 239 #[.val (.int p0), .val (.int p1), .val (.int p2), .val (.int p3), .val (.int p4), .val (.int p5), .val (.int ng), .val (.int 1), .val (.int 0), .val (.int bk), .val (.int bo), .val (.int ak), .val (.int aoo), .val (.int mkk), .val (.int moo), .val (.ref b27), .val (.ref b32), .val (.ref b35), .val (.ref b38), .val (.ref b46), .val (.int 0)] [(.ref b46)])) (fun _ k => XS.ifNo X46.here hx rfl (hb hby at_222) rfl ((if0 _ _).trans (feq hc222).1) (XS.iload X46.here hx rfl (hb hby at_225) rfl (XS.ifYes X46.here hx rfl (pc0 := 227) (pc' := 234) rfl (hb hby at_227) rfl ((if0 _ _).trans (flt (fun z => hpv ⟨hsg.elim (fun u => u.2) (fun u => absurd u.1 hc222), z⟩)).2.1) (by decide) (by decide) (XS.iconst X46.here hx rfl (hb hby at_234) (XS.istore X46.here hx rfl (hb hby at_235) rfl (l' := #[.val (.int p0), .val (.int p1), .val (.int p2), .val (.int p3), .val (.int p4), .val (.int p5), .val (.int ng), .val (.int 1), .val (.int 0), .val (.int bk), .val (.int bo), .val (.int ak), .val (.int aoo), .val (.int mkk), .val (.int moo), .val (.ref b27), .val (.ref b32), .val (.ref b35), .val (.ref b38), .val (.ref b46), .val (.int 0)]) rfl (XS.aload X46.here hx rfl (hb hby at_237) rfl rfl k)))))) ?_
        obtain ⟨cl50, Ar50, -, Sz50, Nn50, -, -⟩ := id V_b46
        refine own_go (x' := T46.setTop (mkF m 240 #[.val (.int p0), .val (.int p1), .val (.int p2), .val (.int p3), .val (.int p4), .val (.int p5), .val (.int ng), .val (.int 1), .val (.int 0), .val (.int bk), .val (.int bo), .val (.int ak), .val (.int aoo), .val (.int mkk), .val (.int moo), .val (.ref b27), .val (.ref b32), .val (.ref b35), .val (.ref b38), .val (.ref b46), .val (.int 0)] [(.int 2)])) (fun t k => X46.arraylength hx (Eq.trans (congrArg (fun h_ => h_[_]?) rfl) Ar50.1) (State.isArrayOf_alike hZ.alike Ar50.2.1) (g := (mkF m 239 #[.val (.int p0), .val (.int p1), .val (.int p2), .val (.int p3), .val (.int p4), .val (.int p5), .val (.int ng), .val (.int 1), .val (.int 0), .val (.int bk), .val (.int bo), .val (.int ak), .val (.int aoo), .val (.int mkk), .val (.int moo), .val (.ref b27), .val (.ref b32), .val (.ref b35), .val (.ref b38), .val (.ref b46), .val (.int 0)] [(.ref b46)])) rfl rfl (hb hby at_239) t (by rw [len_of Sz50 Nn50]; exact k)) ?_
        refine own_go (x' := T46.setTop (mkF m 248 #[.val (.int p0), .val (.int p1), .val (.int p2), .val (.int p3), .val (.int p4), .val (.int p5), .val (.int ng), .val (.int 1), .val (.int 0), .val (.int bk), .val (.int bo), .val (.int ak), .val (.int aoo), .val (.int mkk), .val (.int moo), .val (.ref b27), .val (.ref b32), .val (.ref b35), .val (.ref b38), .val (.ref b46), .val (.int 0)] [(.int 1), (.ref b46)])) (fun _ k => XS.iconst X46.here hx rfl (hb hby at_240) (XS.icmpNo X46.here hx rfl (hb hby at_241) rfl (teq rfl).2 (XS.aload X46.here hx rfl (hb hby at_244) rfl rfl (XS.iload X46.here hx rfl (hb hby at_246) rfl k)))) ?_
        obtain ⟨cl51, Ar51, q51, Sz51, Nn51, Hh51, Gg51⟩ := id V_b46
        have hin51 : ¬ ((1 : Int32) < 0 ∨ cl51.slots.size ≤ ((1 : Int32)).toNatClampNeg) := inb_of Sz51 ⟨by decide, by decide⟩
        refine own_go (x' := T46.setTop (mkF m 249 #[.val (.int p0), .val (.int p1), .val (.int p2), .val (.int p3), .val (.int p4), .val (.int p5), .val (.int ng), .val (.int 1), .val (.int 0), .val (.int bk), .val (.int bo), .val (.int ak), .val (.int aoo), .val (.int mkk), .val (.int moo), .val (.ref b27), .val (.ref b32), .val (.ref b35), .val (.ref b38), .val (.ref b46), .val (.int 0)] [(.int 0)])) (X46.baloadBooleans hx (j := (1 : Int32)) (v := (.int 0)) (Eq.trans (congrArg (fun h_ => h_[_]?) rfl) Ar51.1) (State.isArrayOf_alike hZ.alike Ar51.2.1) Ar51.2.2 hin51 (Hh51.at hin51 rfl) (g := (mkF m 248 #[.val (.int p0), .val (.int p1), .val (.int p2), .val (.int p3), .val (.int p4), .val (.int p5), .val (.int ng), .val (.int 1), .val (.int 0), .val (.int bk), .val (.int bo), .val (.int ak), .val (.int aoo), .val (.int mkk), .val (.int moo), .val (.ref b27), .val (.ref b32), .val (.ref b35), .val (.ref b38), .val (.ref b46), .val (.int 0)] [(.int 1), (.ref b46)])) rfl rfl (hb hby at_248)) ?_
        refine own_go (x' := T46.setTop (mkF m 258 #[.val (.int p0), .val (.int p1), .val (.int p2), .val (.int p3), .val (.int p4), .val (.int p5), .val (.int ng), .val (.int 1), .val (.int 0), .val (.int bk), .val (.int bo), .val (.int ak), .val (.int aoo), .val (.int mkk), .val (.int moo), .val (.ref b27), .val (.ref b32), .val (.ref b35), .val (.ref b38), .val (.ref b46), .val (.int 0)] [(.int 0), (.ref b46)])) (fun _ k => XS.iload X46.here hx rfl (hb hby at_249) rfl (XS.icmpNo X46.here hx rfl (hb hby at_251) rfl (teq rfl).2 (XS.aload X46.here hx rfl (hb hby at_254) rfl rfl (XS.iload X46.here hx rfl (hb hby at_256) rfl k)))) ?_
        obtain ⟨cl52, Ar52, q52, Sz52, Nn52, Hh52, Gg52⟩ := id V_b46
        have hin52 : ¬ ((0 : Int32) < 0 ∨ cl52.slots.size ≤ ((0 : Int32)).toNatClampNeg) := inb_of Sz52 ⟨by decide, by decide⟩
        refine own_go (x' := T46.setTop (mkF m 259 #[.val (.int p0), .val (.int p1), .val (.int p2), .val (.int p3), .val (.int p4), .val (.int p5), .val (.int ng), .val (.int 1), .val (.int 0), .val (.int bk), .val (.int bo), .val (.int ak), .val (.int aoo), .val (.int mkk), .val (.int moo), .val (.ref b27), .val (.ref b32), .val (.ref b35), .val (.ref b38), .val (.ref b46), .val (.int 0)] [(.int 0)])) (X46.baloadBooleans hx (j := (0 : Int32)) (v := (.int 0)) (Eq.trans (congrArg (fun h_ => h_[_]?) rfl) Ar52.1) (State.isArrayOf_alike hZ.alike Ar52.2.1) Ar52.2.2 hin52 (Hh52.at hin52 rfl) (g := (mkF m 258 #[.val (.int p0), .val (.int p1), .val (.int p2), .val (.int p3), .val (.int p4), .val (.int p5), .val (.int ng), .val (.int 1), .val (.int 0), .val (.int bk), .val (.int bo), .val (.int ak), .val (.int aoo), .val (.int mkk), .val (.int moo), .val (.ref b27), .val (.ref b32), .val (.ref b35), .val (.ref b38), .val (.ref b46), .val (.int 0)] [(.int 0), (.ref b46)])) rfl rfl (hb hby at_258)) ?_
        refine own_go (x' := T46.setTop (mkF m 267 #[.val (.int p0), .val (.int p1), .val (.int p2), .val (.int p3), .val (.int p4), .val (.int p5), .val (.int ng), .val (.int 1), .val (.int 0), .val (.int bk), .val (.int bo), .val (.int ak), .val (.int aoo), .val (.int mkk), .val (.int moo), .val (.ref b27), .val (.ref b32), .val (.ref b35), .val (.ref b38), .val (.ref b46), .val (.int 0)] [(.int 1)])) (fun _ k => XS.ifNo X46.here hx rfl (hb hby at_259) rfl ((if0 _ _).trans (teq rfl).2) (XS.iconst X46.here hx rfl (hb hby at_262) (XS.goto X46.here hx rfl (pc0 := 263) (pc' := 267) rfl (hb hby at_263) (by decide) (by decide) k))) ?_
        refine own_retN X46 hx hlk (t := .boolean) hret (by simp) (hb hby at_267) (w := (1 : Int32)) rfl ?_ (by decide) (by decide)
        exact ⟨rfl, Nf⟩
def Q_rm0 (Z : State) (p0 : Int32) (p1 : Int32) (p2 : Int32) (p3 : Int32) (p4 : Int32) (p5 : Int32) (h0 : Heap) (n0 : Nat) (v : Option Value) (h : Heap) (L : List Loc) : Prop := v = some (.int 1) ∧ Fr n0 L
theorem pn_rm0 : plainName "com/example/moving_tokens/movingtokens/DualSimplexTightRowsPinLaw" = true := by first | (simp [plainName, overriddenIn]; done) | decide +kernel
theorem ef_rm0 (m : MethodId) (x0 : Int32) (x1 : Int32) (x2 : Int32) (x3 : Int32) (x4 : Int32) (x5 : Int32) : entryFrame m #[(.int x0), (.int x1), (.int x2), (.int x3), (.int x4), (.int x5)] maxLocals = mkF m 0 #[.val (.int x0), .val (.int x1), .val (.int x2), .val (.int x3), .val (.int x4), .val (.int x5), .unset, .unset, .unset, .unset, .unset, .unset, .unset, .unset, .unset, .unset, .unset, .unset, .unset, .unset, .unset] [] := by first | (simp [entryFrame, mkF, argsToLocals, Value.category, maxLocals]; done) | rfl
set_option maxRecDepth 65536 in
set_option maxHeartbeats 40000000 in
theorem rm0 (l : Launch) (Z : State) (a0 : Array Value) (hw : ∀ d ∈ tables_1, d.before a0 Z = true) (ws : List Jvm.Cond) (p0 : Int32) (p1 : Int32) (p2 : Int32) (p3 : Int32) (p4 : Int32) (p5 : Int32) (h0 : Heap) (n0 : Nat) (Z0 : n0 ≤ h0.size) :
    MetFree l x (head1 (Jvm.Cond.code x code maxLocals ret :: ws) room_1) (fun a U => a = #[(.int p0), (.int p1), (.int p2), (.int p3), (.int p4), (.int p5)] ∧ Z.Warmed39 U.vm ∧ U.heap = h0) (fun _ _ _ _ _ => True) (fun _ U o U' => ∃ v L, o = .returned v ∧ (Q_rm0 Z p0 p1 p2 p3 p4 p5 h0 n0) v U'.heap L ∧ FrameEnd U o U' L room_1.cells room_1.slots) := by
  refine MetFree.of_bodySF (plainFor_of_name pn_rm0) hisR ?_
  intro p e s m args below meth c s₁ Bd hml0 hP hK
  obtain ⟨rfl, hZ, hh⟩ := hP
  have hx := Bd.exec
  have hby := Bd.bytes
  have hlk := BodyLoose.notSynchronized Bd
  have hret := Bd.returns
  have hml : c.maxLocals = 21 := hml0
  have hown : s.vm.findClass "com/example/moving_tokens/movingtokens/DualSimplexTightRowsPinLaw" = some m.cls := findClass_of_methodNamed Bd.named
  have hnm := (name_of_methodNamed Bd.named Bd.method).1
  have X0 : Stand p l e room_1 s m #[(.int p0), (.int p1), (.int p2), (.int p3), (.int p4), (.int p5)] below meth c s₁ [] 0 0 := Stand.of_body Bd
  have e0 : s₁.heap = h0 := by rw [← hh, Bd.state]; rfl
  have Nf := Fr.nil n0
  have Zs := Z0
  have Kp : Keep h0 h0 [] := Keep.refl _ _
  show own_End p e below s (Q_rm0 Z p0 p1 p2 p3 p4 p5 h0 n0) room_1.cells room_1.slots (s₁.setTop (entryFrame m #[(.int p0), (.int p1), (.int p2), (.int p3), (.int p4), (.int p5)] maxLocals))
  refine own_go (x' := s₁.setTop (mkF m 0 #[.val (.int p0), .val (.int p1), .val (.int p2), .val (.int p3), .val (.int p4), .val (.int p5), .unset, .unset, .unset, .unset, .unset, .unset, .unset, .unset, .unset, .unset, .unset, .unset, .unset, .unset, .unset] [])) (fun t k => castTop (ef_rm0 m p0 p1 p2 p3 p4 p5) k) ?_
  refine own_go (x' := s₁.setTop (mkF m 3 #[.val (.int p0), .val (.int p1), .val (.int p2), .val (.int p3), .val (.int p4), .val (.int p5), .unset, .unset, .unset, .unset, .unset, .unset, .unset, .unset, .unset, .unset, .unset, .unset, .unset, .unset, .unset] [(.int (p0 &&& (1 : Int32)))])) (fun _ k => XS.iloadN X0.here hx rfl (hb hby at_0) rfl (XS.iconst X0.here hx rfl (hb hby at_1) (XS.iand X0.here hx rfl (hb hby at_2) rfl k))) ?_
  by_cases hc3 : (p0 &&& (1 : Int32)) = (0 : Int32)
  · refine own_go (x' := s₁.setTop (mkF m 16 #[.val (.int p0), .val (.int p1), .val (.int p2), .val (.int p3), .val (.int p4), .val (.int p5), .val (.int 0), .unset, .unset, .unset, .unset, .unset, .unset, .unset, .unset, .unset, .unset, .unset, .unset, .unset, .unset] [(.int ((p0.toUInt32 >>> ((1 : Int32) &&& 31).toUInt32).toInt32))])) (fun _ k => XS.ifYes X0.here hx rfl (pc0 := 3) (pc' := 10) rfl (hb hby at_3) rfl ((if0 _ _).trans (teq hc3).1) (by decide) (by decide) (XS.iconst X0.here hx rfl (hb hby at_10) (XS.istore X0.here hx rfl (hb hby at_11) rfl (l' := #[.val (.int p0), .val (.int p1), .val (.int p2), .val (.int p3), .val (.int p4), .val (.int p5), .val (.int 0), .unset, .unset, .unset, .unset, .unset, .unset, .unset, .unset, .unset, .unset, .unset, .unset, .unset, .unset]) rfl (XS.iloadN X0.here hx rfl (hb hby at_13) rfl (XS.iconst X0.here hx rfl (hb hby at_14) (XS.iushr X0.here hx rfl (hb hby at_15) rfl k)))))) ?_
    refine own_go (x' := s₁.setTop (mkF m 18 #[.val (.int p0), .val (.int p1), .val (.int p2), .val (.int p3), .val (.int p4), .val (.int p5), .val (.int 0), .unset, .unset, .unset, .unset, .unset, .unset, .unset, .unset, .unset, .unset, .unset, .unset, .unset, .unset] [(.int (((p0.toUInt32 >>> ((1 : Int32) &&& 31).toUInt32).toInt32) &&& (1 : Int32)))])) (fun _ k => XS.iconst X0.here hx rfl (hb hby at_16) (XS.iand X0.here hx rfl (hb hby at_17) rfl k)) ?_
    have hk1 := own_k1 ((p0.toUInt32 >>> ((1 : Int32) &&& 31).toUInt32).toInt32)
    generalize (((p0.toUInt32 >>> ((1 : Int32) &&& 31).toUInt32).toInt32) &&& (1 : Int32)) = kk at hk1 ⊢
    refine own_go (x' := s₁.setTop (mkF m 24 #[.val (.int p0), .val (.int p1), .val (.int p2), .val (.int p3), .val (.int p4), .val (.int p5), .val (.int 0), .val (.int kk), .unset, .unset, .unset, .unset, .unset, .unset, .unset, .unset, .unset, .unset, .unset, .unset, .unset] [(.int ((1 : Int32) - kk))])) (fun _ k => XS.istore X0.here hx rfl (hb hby at_18) rfl (l' := #[.val (.int p0), .val (.int p1), .val (.int p2), .val (.int p3), .val (.int p4), .val (.int p5), .val (.int 0), .val (.int kk), .unset, .unset, .unset, .unset, .unset, .unset, .unset, .unset, .unset, .unset, .unset, .unset, .unset]) rfl (XS.iconst X0.here hx rfl (hb hby at_20) (XS.iload X0.here hx rfl (hb hby at_21) rfl (XS.isub X0.here hx rfl (hb hby at_23) rfl k)))) ?_
    have hkk : (kk = 0 ∧ (1 : Int32) - kk = 1) ∨ (kk = 1 ∧ (1 : Int32) - kk = 0) := hk1.imp (fun z => ⟨z, by rw [z]; decide⟩) (fun z => ⟨z, by rw [z]; decide⟩)
    generalize ((1 : Int32) - kk) = kj at hkk ⊢
    refine own_go (x' := s₁.setTop (mkF m 45 #[.val (.int p0), .val (.int p1), .val (.int p2), .val (.int p3), .val (.int p4), .val (.int p5), .val (.int 0), .val (.int kk), .val (.int kj), .unset, .unset, .unset, .unset, .unset, .unset, .unset, .unset, .unset, .unset, .unset, .unset] [(.int (p1 &&& (7 : Int32)))])) (fun _ k => XS.istore X0.here hx rfl (hb hby at_24) rfl (l' := #[.val (.int p0), .val (.int p1), .val (.int p2), .val (.int p3), .val (.int p4), .val (.int p5), .val (.int 0), .val (.int kk), .val (.int kj), .unset, .unset, .unset, .unset, .unset, .unset, .unset, .unset, .unset, .unset, .unset, .unset]) rfl (XS.iload X0.here hx rfl (hb hby at_26) rfl (XS.ifYes X0.here hx rfl (pc0 := 28) (pc' := 41) rfl (hb hby at_28) rfl ((if0 _ _).trans (teq rfl).1) (by decide) (by decide) (XS.iloadN X0.here hx rfl (hb hby at_41) rfl (XS.bipush X0.here hx rfl (hb hby at_42) (XS.iand X0.here hx rfl (hb hby at_44) rfl k)))))) ?_
    refine own_go (x' := s₁.setTop (mkF m 47 #[.val (.int p0), .val (.int p1), .val (.int p2), .val (.int p3), .val (.int p4), .val (.int p5), .val (.int 0), .val (.int kk), .val (.int kj), .val (.int (p1 &&& (7 : Int32))), .unset, .unset, .unset, .unset, .unset, .unset, .unset, .unset, .unset, .unset, .unset] [])) (fun _ k => XS.istore X0.here hx rfl (hb hby at_45) rfl (l' := #[.val (.int p0), .val (.int p1), .val (.int p2), .val (.int p3), .val (.int p4), .val (.int p5), .val (.int 0), .val (.int kk), .val (.int kj), .val (.int (p1 &&& (7 : Int32))), .unset, .unset, .unset, .unset, .unset, .unset, .unset, .unset, .unset, .unset, .unset]) rfl k) ?_
    exact segA hx hlk hret hZ hw hby hml hown hnm p0 p1 p2 p3 p4 p5 (0 : Int32) kk kj (p1 &&& (7 : Int32)) n0 h0 _ _ X0 e0 Nf Zs (own_k7 p1).1 (Or.inr ⟨rfl, (own_k7 p1).2⟩) hkk
  · refine own_go (x' := s₁.setTop (mkF m 15 #[.val (.int p0), .val (.int p1), .val (.int p2), .val (.int p3), .val (.int p4), .val (.int p5), .val (.int 1), .unset, .unset, .unset, .unset, .unset, .unset, .unset, .unset, .unset, .unset, .unset, .unset, .unset, .unset] [(.int 1), (.int p0)])) (fun _ k => XS.ifNo X0.here hx rfl (hb hby at_3) rfl ((if0 _ _).trans (feq hc3).1) (XS.iconst X0.here hx rfl (hb hby at_6) (XS.goto X0.here hx rfl (pc0 := 7) (pc' := 11) rfl (hb hby at_7) (by decide) (by decide) (XS.istore X0.here hx rfl (hb hby at_11) rfl (l' := #[.val (.int p0), .val (.int p1), .val (.int p2), .val (.int p3), .val (.int p4), .val (.int p5), .val (.int 1), .unset, .unset, .unset, .unset, .unset, .unset, .unset, .unset, .unset, .unset, .unset, .unset, .unset, .unset]) rfl (XS.iloadN X0.here hx rfl (hb hby at_13) rfl (XS.iconst X0.here hx rfl (hb hby at_14) k)))))) ?_
    refine own_go (x' := s₁.setTop (mkF m 18 #[.val (.int p0), .val (.int p1), .val (.int p2), .val (.int p3), .val (.int p4), .val (.int p5), .val (.int 1), .unset, .unset, .unset, .unset, .unset, .unset, .unset, .unset, .unset, .unset, .unset, .unset, .unset, .unset] [(.int (((p0.toUInt32 >>> ((1 : Int32) &&& 31).toUInt32).toInt32) &&& (1 : Int32)))])) (fun _ k => XS.iushr X0.here hx rfl (hb hby at_15) rfl (XS.iconst X0.here hx rfl (hb hby at_16) (XS.iand X0.here hx rfl (hb hby at_17) rfl k))) ?_
    have hk1 := own_k1 ((p0.toUInt32 >>> ((1 : Int32) &&& 31).toUInt32).toInt32)
    generalize (((p0.toUInt32 >>> ((1 : Int32) &&& 31).toUInt32).toInt32) &&& (1 : Int32)) = kk at hk1 ⊢
    refine own_go (x' := s₁.setTop (mkF m 24 #[.val (.int p0), .val (.int p1), .val (.int p2), .val (.int p3), .val (.int p4), .val (.int p5), .val (.int 1), .val (.int kk), .unset, .unset, .unset, .unset, .unset, .unset, .unset, .unset, .unset, .unset, .unset, .unset, .unset] [(.int ((1 : Int32) - kk))])) (fun _ k => XS.istore X0.here hx rfl (hb hby at_18) rfl (l' := #[.val (.int p0), .val (.int p1), .val (.int p2), .val (.int p3), .val (.int p4), .val (.int p5), .val (.int 1), .val (.int kk), .unset, .unset, .unset, .unset, .unset, .unset, .unset, .unset, .unset, .unset, .unset, .unset, .unset]) rfl (XS.iconst X0.here hx rfl (hb hby at_20) (XS.iload X0.here hx rfl (hb hby at_21) rfl (XS.isub X0.here hx rfl (hb hby at_23) rfl k)))) ?_
    have hkk : (kk = 0 ∧ (1 : Int32) - kk = 1) ∨ (kk = 1 ∧ (1 : Int32) - kk = 0) := hk1.imp (fun z => ⟨z, by rw [z]; decide⟩) (fun z => ⟨z, by rw [z]; decide⟩)
    generalize ((1 : Int32) - kk) = kj at hkk ⊢
    refine own_go (x' := s₁.setTop (mkF m 35 #[.val (.int p0), .val (.int p1), .val (.int p2), .val (.int p3), .val (.int p4), .val (.int p5), .val (.int 1), .val (.int kk), .val (.int kj), .unset, .unset, .unset, .unset, .unset, .unset, .unset, .unset, .unset, .unset, .unset, .unset] [(.int 7), (.int p1), (.int 1)])) (fun _ k => XS.istore X0.here hx rfl (hb hby at_24) rfl (l' := #[.val (.int p0), .val (.int p1), .val (.int p2), .val (.int p3), .val (.int p4), .val (.int p5), .val (.int 1), .val (.int kk), .val (.int kj), .unset, .unset, .unset, .unset, .unset, .unset, .unset, .unset, .unset, .unset, .unset, .unset]) rfl (XS.iload X0.here hx rfl (hb hby at_26) rfl (XS.ifNo X0.here hx rfl (hb hby at_28) rfl ((if0 _ _).trans (feq (by decide +kernel : ¬ ((1 : Int32) = (0 : Int32)))).1) (XS.iconst X0.here hx rfl (hb hby at_31) (XS.iloadN X0.here hx rfl (hb hby at_32) rfl (XS.bipush X0.here hx rfl (hb hby at_33) k)))))) ?_
    refine own_go (x' := s₁.setTop (mkF m 47 #[.val (.int p0), .val (.int p1), .val (.int p2), .val (.int p3), .val (.int p4), .val (.int p5), .val (.int 1), .val (.int kk), .val (.int kj), .val (.int (-((1 : Int32) + (p1 &&& (7 : Int32))))), .unset, .unset, .unset, .unset, .unset, .unset, .unset, .unset, .unset, .unset, .unset] [])) (fun _ k => XS.iand X0.here hx rfl (hb hby at_35) rfl (XS.iadd X0.here hx rfl (hb hby at_36) rfl (XS.ineg X0.here hx rfl (hb hby at_37) rfl (XS.goto X0.here hx rfl (pc0 := 38) (pc' := 45) rfl (hb hby at_38) (by decide) (by decide) (XS.istore X0.here hx rfl (hb hby at_45) rfl (l' := #[.val (.int p0), .val (.int p1), .val (.int p2), .val (.int p3), .val (.int p4), .val (.int p5), .val (.int 1), .val (.int kk), .val (.int kj), .val (.int (-((1 : Int32) + (p1 &&& (7 : Int32))))), .unset, .unset, .unset, .unset, .unset, .unset, .unset, .unset, .unset, .unset, .unset]) rfl k))))) ?_
    exact segA hx hlk hret hZ hw hby hml hown hnm p0 p1 p2 p3 p4 p5 (1 : Int32) kk kj (-((1 : Int32) + (p1 &&& (7 : Int32)))) n0 h0 _ _ X0 e0 Nf Zs (own_kn p1).1 (Or.inl ⟨rfl, (own_kn p1).2⟩) hkk
set_option maxRecDepth 65536 in
set_option maxHeartbeats 40000000 in
theorem comes_1 {Post : Tables → Env → Array Value → State → Outcome → State → Prop} (hpost : ∀ tb e args s v u, (limb_1_1.after args s (.returned v) u = true ∧ limb_1_2.after args s (.returned v) u = true ∧ True) → FrameEnd s (.returned v) u (Jvm.fieldLocs frame_1_writes args s ++ Jvm.arrayLocs frame_1_arrays args s ++ Jvm.staticLocs frame_1_statics s) 32 128 → Post tb e args s (.returned v) u) :
    ArmFor flags0 classFile x code maxLocals ret World_1 tables_1 room_1 Calls_1 rest_1 Pre_1 Post := by
  intro l hfl _ _ p e ha hc hk s m args below hf hA hF happ hP
  obtain ⟨hcalls, hrest, hpre⟩ := hP
  obtain ⟨-, -, -, hnamed, -, -, -, hat⟩ := (Spec.applies_iff hf).mp happ
  obtain ⟨hg, hn⟩ := and_e (Cond.before_iff.mp (show (Jvm.Cond.and given_1 narrow_1).before args s = true from hpre))
  obtain ⟨gg1, gg2⟩ := and_e hg
  obtain ⟨gg3, gg4⟩ := and_e gg2
  obtain ⟨gg5, gg6⟩ := and_e gg4
  obtain ⟨gg7, gg8⟩ := and_e gg6
  obtain ⟨gg9, gg10⟩ := and_e gg8
  obtain ⟨gg11, gg12⟩ := and_e gg10
  obtain ⟨w0, w1, w2, w3, w4, w5, rfl⟩ : ∃ w0 w1 w2 w3 w4 w5 : Value, args = #[w0, w1, w2, w3, w4, w5] := by
    have hs : args.size = 6 := by simpa [Cond.value, given_1] using gg1
    obtain ⟨L⟩ := args
    match L, hs with
    | [w0, w1, w2, w3, w4, w5], _ => exact ⟨w0, w1, w2, w3, w4, w5, rfl⟩
  have hw := fun d (hd : d ∈ tables_1) => atoms_spec (ws := Jvm.Cond.code x code maxLocals ret :: tables_1) hat d (List.mem_cons_of_mem _ hd)
  have hfit : Fit s := fun {y c} hc i hi => by
    obtain ⟨ha, rfl⟩ := Array.getElem?_eq_some_iff.mp hc
    have q := List.all_eq_true.mp ((Array.all_eq_true_iff_forall_mem.mp hF) _ (Array.getElem_mem ha)) i (List.mem_range.mpr hi)
    simpa [Array.getElem?_eq_getElem hi] using q
  obtain ⟨i0, ei0⟩ := is_v gg3
  obtain rfl : w0 = (.int i0) := Option.some.inj ei0
  obtain ⟨i1, ei1⟩ := is_v gg5
  obtain rfl : w1 = (.int i1) := Option.some.inj ei1
  obtain ⟨i2, ei2⟩ := is_v gg7
  obtain rfl : w2 = (.int i2) := Option.some.inj ei2
  obtain ⟨i3, ei3⟩ := is_v gg9
  obtain rfl : w3 = (.int i3) := Option.some.inj ei3
  obtain ⟨i4, ei4⟩ := is_v gg11
  obtain rfl : w4 = (.int i4) := Option.some.inj ei4
  obtain ⟨i5, ei5⟩ := is_v gg12
  obtain rfl : w5 = (.int i5) := Option.some.inj ei5
  obtain ⟨n, o, h1, h2, h3, _, L, rfl, ⟨rfl, N⟩, hq⟩ := rm0 l s _ hw tables_1 i0 i1 i2 i3 i4 i5  s.heap s.heap.size (Nat.le_refl _)  p e ha hc hk s m _ below hf ((Spec.applies_iff_loose hf).mp happ).1 ⟨rfl, State.Warmed39.refl s, rfl⟩ trivial
  refine ⟨n, _, h1, h2, h3, hpost _ _ _ _ _ _ ⟨Cond.after_iff.mpr rfl, Cond.after_iff.mpr (eq_i res_at (Term.int_eval (1)) rfl), trivial⟩ ⟨hq.1, hq.2.1, (hq.2.2.sift fun y hy => Or.inr (N y hy)).mono (by decide) (by decide)⟩⟩
theorem main_1_1 : Claimed_1_1 := comes_1 fun _ _ _ _ _ _ h hF => ⟨h.1, hF⟩
theorem main_1_2 : Claimed_1_2 := comes_1 fun _ _ _ _ _ _ h hF => ⟨h.2.1, hF⟩
end Jvm.Pilot.@@N@@
namespace Jvm.Pilot.@@N@@
open Jvm Jvm.ClassFile Sem Op Lib Jvm.Free Jvm.Stand Jvm.Pilot.@@N@@.Jvm.D
/-! MADE BY PROGRAM (witnessworld.py) out of the Statement's table words and the real class files: 13 classes; the members and pool entries that the words name. The judged class is class 1, her method 1. -/
namespace start1
open Jvm.ClassFile
def u (s : String) : CpInfo := .utf8 (stringToUtf16 s)
/-- a pool by its gaps: so many unusable entries, then the entry; so many at the end -/
def gap : Nat → List CpInfo → List CpInfo
  | 0, r => r
  | n + 1, r => .unusable :: gap n r
def poolList (es : List (Nat × CpInfo)) (last : Nat) : List CpInfo := es.foldr (fun e r => gap e.1 (e.2 :: r)) (gap last [])
def pool (es : List (Nat × CpInfo)) (last : Nat) : Array CpInfo := ⟨poolList es last⟩
def fileOf (pool : Array CpInfo) (this : Nat) (attrs : Array Attribute := #[]) (ms : Array MethodInfo := #[]) (fl : Nat := 33) (sup : Nat := 0) (ifs : Array Nat := #[]) (fds : Array FieldInfo := #[]) : ClassFile where
  minorVersion := 0
  majorVersion := 65
  constantPool := pool
  accessFlags := fl
  thisClass := this
  superClass := sup
  interfaces := ifs
  fields := fds
  methods := ms
  attributes := attrs
def plain (name : String) (sup : Option ClassId) : Class where
  name := name
  kind := .ordinary
  loader := none
  accessFlags := 33
  super := sup
  interfaces := #[]
  cf := none
  fields := #[]
  methods := #[]
  instanceTypes := #[]
  staticTypes := #[]
  resolved := #[]
  callSites := []
  init := .initialized
  statics := none
  mirror := none

def pool0 : Array CpInfo := pool [(5, u "<init>"), (0, u "()V"), (1, .class_ 10), (1, u "java/lang/Object"), (85, u "clone"), (0, u "()Ljava/lang/Object;")] 26

def k0c0 : Code := { maxStack := 0, maxLocals := 1, code := object_method_1_code, exceptionTable := #[], attributes := #[] }
def k0m0 : Method := { name := "<init>", desc := "()V", sig := { parameters := [], returnType := none }, accessFlags := 1, code := some k0c0 }
def k0m1 : Method := { name := "clone", desc := "()Ljava/lang/Object;", sig := { parameters := [], returnType := some (.object "java/lang/Object") }, accessFlags := 260, code := none }
/-- java/lang/Object -/
def k0 : Class := { plain "java/lang/Object" none with
  accessFlags := 33
  interfaces := #[]
  cf := some (fileOf pool0 8 #[] #[{ accessFlags := 1, nameIndex := 5, descriptorIndex := 6, attributes := #[] }, { accessFlags := 260, nameIndex := 96, descriptorIndex := 97, attributes := #[] }] 33 0 #[] #[])
  fields := #[]
  methods := #[k0m0, k0m1]
  instanceTypes := #[]
  staticTypes := #[]
  resolved := Array.replicate 124 none
  statics := none }

def pool1 : Array CpInfo := pool [(2, .class_ 4), (1, u "java/lang/Object"), (0, u "<init>"), (0, u "()V"), (0, .class_ 8), (0, u "com/example/moving_tokens/movingtokens/DualSimplex"), (0, .methodref 7 10), (0, .nameAndType 5 11), (0, u "([D[D[D)V"), (0, .methodref 7 13), (0, .nameAndType 14 15), (0, u "solve"), (0, u "(J)Z"), (0, .methodref 7 17), (0, .nameAndType 18 19), (0, u "tightRows"), (0, u "()[Z"), (0, .class_ 21), (0, u "com/example/moving_tokens/movingtokens/DualSimplexTightRowsPinLaw"), (2, u "law"), (0, u "(IIIIII)Z")] 7

def k1m0 : Method := { name := "<init>", desc := "()V", sig := { parameters := [], returnType := none }, accessFlags := 1, code := none }
def k1c1 : Code := { maxStack := 5, maxLocals := 21, code := code, exceptionTable := #[], attributes := #[] }
def k1m1 : Method := { name := "law", desc := "(IIIIII)Z", sig := { parameters := [.int, .int, .int, .int, .int, .int], returnType := some .boolean }, accessFlags := 9, code := some k1c1 }
/-- com/example/moving_tokens/movingtokens/DualSimplexTightRowsPinLaw -/
def k1 : Class := { plain "com/example/moving_tokens/movingtokens/DualSimplexTightRowsPinLaw" (some 0) with
  accessFlags := 49
  interfaces := #[]
  cf := some (fileOf pool1 20 #[] #[{ accessFlags := 1, nameIndex := 5, descriptorIndex := 6, attributes := #[] }, { accessFlags := 9, nameIndex := 24, descriptorIndex := 25, attributes := #[] }] 49 2 #[] #[])
  fields := #[]
  methods := #[k1m0, k1m1]
  instanceTypes := #[]
  staticTypes := #[]
  resolved := Array.replicate 33 none
  statics := none }

def pool2 : Array CpInfo := pool [(1, .methodref 2 3), (0, .class_ 4), (0, .nameAndType 5 6), (0, u "java/lang/Object"), (0, u "<init>"), (0, u "()V"), (0, .fieldref 8 9), (0, .class_ 10), (0, .nameAndType 11 12), (0, u "com/example/moving_tokens/movingtokens/DualSimplex"), (0, u "rows"), (0, u "I"), (0, .fieldref 8 14), (0, .nameAndType 15 12), (0, u "columns"), (0, .fieldref 8 17), (0, .nameAndType 18 19), (0, u "tableau"), (0, u "[D"), (0, .methodref 21 22), (0, .class_ 19), (0, .nameAndType 23 24), (0, u "clone"), (0, u "()Ljava/lang/Object;"), (0, .fieldref 8 26), (0, .nameAndType 27 19), (0, u "value"), (0, .fieldref 8 29), (0, .nameAndType 30 19), (0, u "cost"), (0, .fieldref 8 32), (0, .nameAndType 33 34), (0, u "basic"), (0, u "[I"), (0, .fieldref 8 36), (0, .nameAndType 37 34), (0, u "nonbasic"), (0, .methodref 8 39), (0, .nameAndType 40 41), (0, u "leavingRow"), (0, u "(Z)I"), (0, .methodref 8 43), (0, .nameAndType 44 45), (0, u "enteringColumn"), (0, u "(IZ)I"), (0, .double 4442235333156365461), (1, .methodref 8 49), (0, .nameAndType 50 51), (0, u "pivot"), (0, u "(II)J"), (0, .double 13665607370011141269), (1, .long 2), (1, u "TOLERANCE"), (0, u "D"), (1, u "STALLS_BEFORE_BLAND"), (1, u "([D[D[D)V"), (3, u "solve"), (0, u "(J)Z"), (1, u "()[Z"), (3, u "tightRows")] 2

def k2c0 : Code := { maxStack := 4, maxLocals := 5, code := prog_14_method_1_code, exceptionTable := #[], attributes := #[] }
def k2m0 : Method := { name := "<init>", desc := "([D[D[D)V", sig := { parameters := [(.array .double), (.array .double), (.array .double)], returnType := none }, accessFlags := 0, code := some k2c0 }
def k2c1 : Code := { maxStack := 5, maxLocals := 8, code := prog_14_method_2_code, exceptionTable := #[], attributes := #[] }
def k2m1 : Method := { name := "solve", desc := "(J)Z", sig := { parameters := [.long], returnType := some .boolean }, accessFlags := 0, code := some k2c1 }
def k2c2 : Code := { maxStack := 3, maxLocals := 6, code := prog_14_method_4_code, exceptionTable := #[], attributes := #[] }
def k2m2 : Method := { name := "tightRows", desc := "()[Z", sig := { parameters := [], returnType := some (.array .boolean) }, accessFlags := 0, code := some k2c2 }
def k2c3 : Code := { maxStack := 4, maxLocals := 5, code := prog_14_method_5_code, exceptionTable := #[], attributes := #[] }
def k2m3 : Method := { name := "leavingRow", desc := "(Z)I", sig := { parameters := [.boolean], returnType := some .int }, accessFlags := 2, code := some k2c3 }
def k2c4 : Code := { maxStack := 6, maxLocals := 12, code := prog_14_method_6_code, exceptionTable := #[], attributes := #[] }
def k2m4 : Method := { name := "enteringColumn", desc := "(IZ)I", sig := { parameters := [.int, .boolean], returnType := some .int }, accessFlags := 2, code := some k2c4 }
def k2c5 : Code := { maxStack := 9, maxLocals := 13, code := prog_14_method_7_code, exceptionTable := #[], attributes := #[] }
def k2m5 : Method := { name := "pivot", desc := "(II)J", sig := { parameters := [.int, .int], returnType := some .long }, accessFlags := 2, code := some k2c5 }
/-- com/example/moving_tokens/movingtokens/DualSimplex -/
def k2 : Class := { plain "com/example/moving_tokens/movingtokens/DualSimplex" (some 0) with
  accessFlags := 48
  interfaces := #[]
  cf := some (fileOf pool2 8 #[] #[{ accessFlags := 0, nameIndex := 5, descriptorIndex := 61, attributes := #[] }, { accessFlags := 0, nameIndex := 65, descriptorIndex := 66, attributes := #[] }, { accessFlags := 0, nameIndex := 72, descriptorIndex := 68, attributes := #[] }, { accessFlags := 2, nameIndex := 40, descriptorIndex := 41, attributes := #[] }, { accessFlags := 2, nameIndex := 44, descriptorIndex := 45, attributes := #[] }, { accessFlags := 2, nameIndex := 50, descriptorIndex := 51, attributes := #[] }] 48 2 #[] #[{ accessFlags := 26, nameIndex := 56, descriptorIndex := 57, attributes := #[] }, { accessFlags := 26, nameIndex := 59, descriptorIndex := 12, attributes := #[] }, { accessFlags := 18, nameIndex := 11, descriptorIndex := 12, attributes := #[] }, { accessFlags := 18, nameIndex := 15, descriptorIndex := 12, attributes := #[] }, { accessFlags := 18, nameIndex := 18, descriptorIndex := 19, attributes := #[] }, { accessFlags := 18, nameIndex := 27, descriptorIndex := 19, attributes := #[] }, { accessFlags := 18, nameIndex := 30, descriptorIndex := 19, attributes := #[] }, { accessFlags := 18, nameIndex := 33, descriptorIndex := 34, attributes := #[] }, { accessFlags := 18, nameIndex := 37, descriptorIndex := 34, attributes := #[] }])
  fields := #[{ name := "TOLERANCE", type := .double, accessFlags := 26, slot := 0, constantValue := 0 }, { name := "STALLS_BEFORE_BLAND", type := .int, accessFlags := 26, slot := 1, constantValue := 0 }, { name := "rows", type := .int, accessFlags := 18, slot := 0, constantValue := 0 }, { name := "columns", type := .int, accessFlags := 18, slot := 1, constantValue := 0 }, { name := "tableau", type := (.array .double), accessFlags := 18, slot := 2, constantValue := 0 }, { name := "value", type := (.array .double), accessFlags := 18, slot := 3, constantValue := 0 }, { name := "cost", type := (.array .double), accessFlags := 18, slot := 4, constantValue := 0 }, { name := "basic", type := (.array .int), accessFlags := 18, slot := 5, constantValue := 0 }, { name := "nonbasic", type := (.array .int), accessFlags := 18, slot := 6, constantValue := 0 }]
  methods := #[k2m0, k2m1, k2m2, k2m3, k2m4, k2m5]
  instanceTypes := #[.int, .int, (.array .double), (.array .double), (.array .double), (.array .int), (.array .int)]
  staticTypes := #[.double, .int]
  resolved := Array.replicate 75 none
  statics := none }

def pool3 : Array CpInfo := pool [(1, .class_ 2), (0, u "java/lang/Cloneable"), (0, .class_ 4), (0, u "java/lang/Object")] 2

/-- java/lang/Cloneable -/
def k3 : Class := { plain "java/lang/Cloneable" (some 0) with
  accessFlags := 1537
  interfaces := #[]
  cf := some (fileOf pool3 1 #[] #[] 1537 3 #[] #[])
  fields := #[]
  methods := #[]
  instanceTypes := #[]
  staticTypes := #[]
  resolved := Array.replicate 7 none
  statics := none }

def pool4 : Array CpInfo := pool [(1, u "java/io/Serializable"), (0, .class_ 1), (0, u "java/lang/Object"), (0, .class_ 3)] 3

/-- java/io/Serializable -/
def k4 : Class := { plain "java/io/Serializable" (some 0) with
  accessFlags := 1537
  interfaces := #[]
  cf := some (fileOf pool4 2 #[] #[] 1537 4 #[] #[])
  fields := #[]
  methods := #[]
  instanceTypes := #[]
  staticTypes := #[]
  resolved := Array.replicate 8 none
  statics := none }

/-- the primitive boolean -/
def k5 : Class := { plain "boolean" none with kind := .primitive 'Z', accessFlags := 0x411 }
/-- [Z -/
def k6 : Class := { plain "[Z" (some 0) with kind := .array 5 .boolean, interfaces := #[3, 4], accessFlags := 1041 }

/-- the primitive byte -/
def k7 : Class := { plain "byte" none with kind := .primitive 'B', accessFlags := 0x411 }
/-- [B -/
def k8 : Class := { plain "[B" (some 0) with kind := .array 7 .byte, interfaces := #[3, 4], accessFlags := 1041 }

/-- the primitive double -/
def k9 : Class := { plain "double" none with kind := .primitive 'D', accessFlags := 0x411 }
/-- [D -/
def k10 : Class := { plain "[D" (some 0) with kind := .array 9 .double, interfaces := #[3, 4], accessFlags := 1041 }

/-- the primitive int -/
def k11 : Class := { plain "int" none with kind := .primitive 'I', accessFlags := 0x411 }
/-- [I -/
def k12 : Class := { plain "[I" (some 0) with kind := .array 11 .int, interfaces := #[3, 4], accessFlags := 1041 }

def heap : Heap := #[]
def classes : Array Class := #[k0, k1, k2, k3, k4, k5, k6, k7, k8, k9, k10, k11, k12]
def interned : List (Array UInt16 × Addr) := []
def slotsUsed : Nat := 0
def theMethod : MethodId := ⟨1, 1⟩
def args0 : Array Value := #[.int 3, .int 4, .int 5, .int 6, .int 7, .int 8]
def aboutOver (below : List Frame) : State where
  vm := { classes := classes, interned := interned.toArray }
  heap := heap
  slotsUsed := slotsUsed
  threads := #[{ frames := .invoking theMethod args0 :: below }]
def below0 : List Frame := [.native { method := ⟨0, 0⟩, args := #[] }]
def about1 : State := aboutOver below0
def p0 : Program := .bare "" "" ""
def e0 : Env := launch0.env 0 0 0
theorem w_frames : about1.frames = Frame.invoking theMethod args0 :: below0 := rfl
set_option maxRecDepth 65536 in
theorem w_args : argsFit about1.vm theMethod args0 = true := by decide +kernel
set_option maxRecDepth 65536 in
theorem w_heap : heapFits about1 = true := by decide +kernel
set_option maxRecDepth 65536 in
theorem w_runnable : about1.curStatus? = some .runnable := by decide +kernel
set_option maxRecDepth 65536 in
theorem w_alone : about1.alone = true := by decide +kernel
set_option maxRecDepth 65536 in
theorem w_named : about1.methodNamed? x = some theMethod := by decide +kernel
set_option maxRecDepth 65536 in
theorem w_hears : about1.hears theMethod below0 = true := by decide +kernel
set_option maxRecDepth 65536 in
theorem w_ripe : about1.ripe theMethod args0 below0 = true := by decide +kernel
theorem w_running : about1.status = .running := rfl
set_option maxRecDepth 65536 in
theorem w_room : about1.hasRoom e0.platform room_1 = true :=
  launch0.hasRoom_least _ room_1 (by decide +kernel) (by decide +kernel) (by decide +kernel) (by decide +kernel) (by decide +kernel) (by decide +kernel)
theorem allAtoms_all (ts : List Jvm.Cond) (a : Array Jvm.Value) (st : Jvm.State) : (allAtoms ts).before a st = ts.all (fun c => c.before a st) := by
  induction ts with
  | nil => rfl
  | cons c t ih =>
    show (Jvm.Cond.and c (allAtoms t)).before a st = _
    rw [Jvm.Cond.before_and, ih, List.all_cons]
def words1 : List Jvm.Cond := Jvm.Cond.code x code maxLocals ret :: tables_1
/-- a 'code' word, met by the world's own term for the bytes: nothing is compared byte by byte -/
theorem code_word {y : MethodName} {bytes : ByteArray} {mx : Nat} {rt : Option FieldType} {a : Array Value} {s : State} {m : MethodId} {meth : Method} {c : Code} (h1 : s.methodNamed? y = some m) (h2 : s.vm.method? m = some meth) (h3 : meth.code = some c) (h4 : c.code = bytes)
    (h5 : (c.maxLocals == mx && c.exceptionTable.isEmpty && decide (c.maxStack ≤ mostOperands) && decide (meth.sig.returnType = rt) && !meth.locks && decide (parseMethodDescriptor y.desc = some meth.sig)) = true) : (Jvm.Cond.code y bytes mx rt).before a s = true := by
  simp only [Bool.and_eq_true, beq_iff_eq, Bool.not_eq_true', decide_eq_true_eq] at h5
  obtain ⟨⟨⟨⟨⟨g1, g2⟩, g3⟩, g4⟩, g5⟩, g6⟩ := h5
  simp [Cond.before, Cond.holds, Cond.value, h1, h2, h3, h4, g1, g2, g3, g4, g5, g6]
def isCode : Jvm.Cond → Bool
  | .code _ _ _ _ => true
  | _ => false
theorem all_split {L : List Jvm.Cond} {P : Jvm.Cond → Bool} (h1 : L.all (fun c => isCode c || P c) = true) (h2 : ∀ c ∈ L.filter isCode, P c = true) : L.all P = true := by
  refine List.all_eq_true.mpr fun c hc => ?_
  have h := List.all_eq_true.mp h1 c hc
  rcases Bool.eq_false_or_eq_true (isCode c) with hi | hi
  · exact h2 c (List.mem_filter.mpr ⟨hc, hi⟩)
  · simpa [hi] using h
set_option maxRecDepth 65536 in
theorem w_c0 : (Jvm.Cond.code x code maxLocals ret).before args0 about1 = true := code_word (m := ⟨1, 1⟩) (meth := k1m1) (c := k1c1) (by decide +kernel) rfl rfl rfl (by decide +kernel)
set_option maxRecDepth 65536 in
theorem w_c1 : (Jvm.Cond.code ({ cls := "com/example/moving_tokens/movingtokens/DualSimplex", name := "<init>", desc := "([D[D[D)V" } : Jvm.MethodName) prog_14_method_1_code (5 : Nat) (Option.none : Option Jvm.ClassFile.FieldType)).before args0 about1 = true := code_word (m := ⟨2, 0⟩) (meth := k2m0) (c := k2c0) (by decide +kernel) rfl rfl rfl (by decide +kernel)
set_option maxRecDepth 65536 in
theorem w_c2 : (Jvm.Cond.code ({ cls := "java/lang/Object", name := "<init>", desc := "()V" } : Jvm.MethodName) object_method_1_code (1 : Nat) (Option.none : Option Jvm.ClassFile.FieldType)).before args0 about1 = true := code_word (m := ⟨0, 0⟩) (meth := k0m0) (c := k0c0) (by decide +kernel) rfl rfl rfl (by decide +kernel)
set_option maxRecDepth 65536 in
theorem w_c3 : (Jvm.Cond.code ({ cls := "com/example/moving_tokens/movingtokens/DualSimplex", name := "solve", desc := "(J)Z" } : Jvm.MethodName) prog_14_method_2_code (8 : Nat) (Option.some Jvm.ClassFile.FieldType.boolean)).before args0 about1 = true := code_word (m := ⟨2, 1⟩) (meth := k2m1) (c := k2c1) (by decide +kernel) rfl rfl rfl (by decide +kernel)
set_option maxRecDepth 65536 in
theorem w_c4 : (Jvm.Cond.code ({ cls := "com/example/moving_tokens/movingtokens/DualSimplex", name := "leavingRow", desc := "(Z)I" } : Jvm.MethodName) prog_14_method_5_code (5 : Nat) (Option.some Jvm.ClassFile.FieldType.int)).before args0 about1 = true := code_word (m := ⟨2, 3⟩) (meth := k2m3) (c := k2c3) (by decide +kernel) rfl rfl rfl (by decide +kernel)
set_option maxRecDepth 65536 in
theorem w_c5 : (Jvm.Cond.code ({ cls := "com/example/moving_tokens/movingtokens/DualSimplex", name := "tightRows", desc := "()[Z" } : Jvm.MethodName) prog_14_method_4_code (6 : Nat) (Option.some (Jvm.ClassFile.FieldType.array Jvm.ClassFile.FieldType.boolean))).before args0 about1 = true := code_word (m := ⟨2, 2⟩) (meth := k2m2) (c := k2c2) (by decide +kernel) rfl rfl rfl (by decide +kernel)
set_option maxRecDepth 65536 in
theorem w_c6 : (Jvm.Cond.code ({ cls := "com/example/moving_tokens/movingtokens/DualSimplex", name := "enteringColumn", desc := "(IZ)I" } : Jvm.MethodName) prog_14_method_6_code (12 : Nat) (Option.some Jvm.ClassFile.FieldType.int)).before args0 about1 = true := code_word (m := ⟨2, 4⟩) (meth := k2m4) (c := k2c4) (by decide +kernel) rfl rfl rfl (by decide +kernel)
set_option maxRecDepth 65536 in
theorem w_c7 : (Jvm.Cond.code ({ cls := "com/example/moving_tokens/movingtokens/DualSimplex", name := "pivot", desc := "(II)J" } : Jvm.MethodName) prog_14_method_7_code (13 : Nat) (Option.some Jvm.ClassFile.FieldType.long)).before args0 about1 = true := code_word (m := ⟨2, 5⟩) (meth := k2m5) (c := k2c5) (by decide +kernel) rfl rfl rfl (by decide +kernel)
def codes1 : List Jvm.Cond := [Jvm.Cond.code x code maxLocals ret, Jvm.Cond.code ({ cls := "com/example/moving_tokens/movingtokens/DualSimplex", name := "<init>", desc := "([D[D[D)V" } : Jvm.MethodName) prog_14_method_1_code (5 : Nat) (Option.none : Option Jvm.ClassFile.FieldType), Jvm.Cond.code ({ cls := "java/lang/Object", name := "<init>", desc := "()V" } : Jvm.MethodName) object_method_1_code (1 : Nat) (Option.none : Option Jvm.ClassFile.FieldType), Jvm.Cond.code ({ cls := "com/example/moving_tokens/movingtokens/DualSimplex", name := "solve", desc := "(J)Z" } : Jvm.MethodName) prog_14_method_2_code (8 : Nat) (Option.some Jvm.ClassFile.FieldType.boolean), Jvm.Cond.code ({ cls := "com/example/moving_tokens/movingtokens/DualSimplex", name := "leavingRow", desc := "(Z)I" } : Jvm.MethodName) prog_14_method_5_code (5 : Nat) (Option.some Jvm.ClassFile.FieldType.int), Jvm.Cond.code ({ cls := "com/example/moving_tokens/movingtokens/DualSimplex", name := "tightRows", desc := "()[Z" } : Jvm.MethodName) prog_14_method_4_code (6 : Nat) (Option.some (Jvm.ClassFile.FieldType.array Jvm.ClassFile.FieldType.boolean)), Jvm.Cond.code ({ cls := "com/example/moving_tokens/movingtokens/DualSimplex", name := "enteringColumn", desc := "(IZ)I" } : Jvm.MethodName) prog_14_method_6_code (12 : Nat) (Option.some Jvm.ClassFile.FieldType.int), Jvm.Cond.code ({ cls := "com/example/moving_tokens/movingtokens/DualSimplex", name := "pivot", desc := "(II)J" } : Jvm.MethodName) prog_14_method_7_code (13 : Nat) (Option.some Jvm.ClassFile.FieldType.long)]
set_option maxRecDepth 65536 in
theorem codes_eq : words1.filter isCode = codes1 := rfl
theorem w_codes : ∀ c ∈ words1.filter isCode, c.before args0 about1 = true := by
  rw [codes_eq]
  intro c hc
  simp only [codes1, List.mem_cons, List.not_mem_nil, or_false] at hc
  rcases hc with rfl | rfl | rfl | rfl | rfl | rfl | rfl | rfl
  · exact w_c0
  · exact w_c1
  · exact w_c2
  · exact w_c3
  · exact w_c4
  · exact w_c5
  · exact w_c6
  · exact w_c7
set_option maxRecDepth 65536 in
theorem w_t1 : (words1.take 24).all (fun c => isCode c || c.before args0 about1) = true := by decide +kernel
set_option maxRecDepth 65536 in
theorem w_t2 : ((words1.drop 24).take 24).all (fun c => isCode c || c.before args0 about1) = true := by decide +kernel
set_option maxRecDepth 65536 in
theorem w_t3 : ((words1.drop 24).drop 24).all (fun c => isCode c || c.before args0 about1) = true := by decide +kernel
theorem w_tables : (allAtoms (Jvm.Cond.code x code maxLocals ret :: tables_1)).before args0 about1 = true := by
  rw [allAtoms_all]
  show words1.all (fun c => c.before args0 about1) = true
  refine all_split ?_ w_codes
  rw [← List.take_append_drop 24 words1, List.all_append, w_t1, ← List.take_append_drop 24 (words1.drop 24), List.all_append, w_t2, w_t3]
  rfl
set_option maxRecDepth 65536 in
theorem w_case : (Jvm.Cond.and given_1 narrow_1).before args0 about1 = true := by decide +kernel
theorem w_applies : (headSpec (Jvm.Cond.code x code maxLocals ret :: tables_1) room_1).applies x e0.platform about1 = true :=
  (Spec.applies_iff w_frames).mpr ⟨w_running, w_runnable, w_alone, w_named, w_hears, w_ripe, w_room, w_tables⟩
theorem atStart : AtStart classFile x code maxLocals ret World_1 tables_1 room_1 Calls_1 rest_1 Pre_1 launch0 p0 e0 about1 theMethod args0 below0 :=
  ⟨lists_1, trivial, launch0.admits_env _ _ _, launch0.least_env, fairChoices_fair.cas, fairChoices_fair.clock, w_frames, w_args, w_heap, w_applies, trivial, trivial, w_case⟩
end start1
theorem witness_1 : WitnessClaimed_1 := ⟨start1.p0, start1.e0, start1.about1, start1.theMethod, start1.args0, start1.below0, start1.atStart⟩
end Jvm.Pilot.@@N@@
